import JvmDerived
import JvmDerived.Pilot.@@N@@Statement
import JvmDerived.Pilot.@@N@@Code
set_option linter.unusedVariables false
set_option linter.unusedSimpArgs false
namespace Jvm.RoadKit
open Sem ClassFile Op Lib Jvm.Stand Jvm.Free Jvm.LawKit
section New
variable {p : Program} {l : Launch} {e : Env} {R : Room} {s : State} {m : MethodId} {args : Array Value} {below : List Frame} {meth : Method} {c : Code} {T : State} {locs : List Loc} {cells slots : Nat}
theorem retI (X : Stand p l e R s m args below meth c T locs cells slots) (hx : p.tables.exec = Jvm.exec) {pc : Nat} {Ls : Array Slot} {z : Int32} {rest : List Value} (hret : meth.sig.returnType = some .int) (hd : decode c.code pc = .ok (.ireturn, 1)) {fs : List Frame}
    (hl : ∀ (f : JFrame) (acts : List Action), f.method = m → f.locked = none → f.entered = [] → (doReturn e (T.setTop f) acts (some (.int z))).1 = T.setFrames fs) : Steps p.tables e below (T.setTop (mkF m pc Ls (.int z :: rest))) (T.setFrames fs) := by
  have hm' : T.vm.method? m = some meth := X.method'
  have hn : narrow .int (.int z) = .int z := rfl
  show Steps p.tables e below (T.setTop { method := m, pc := pc, locals := Ls, stack := _ :: rest, locked := none }) _
  jvm_step X.here [X.here.top, hx, hd, hm', hret, hn]
  first | (intro acts; rw [hl _ acts rfl rfl rfl]) | rw [hl _ _ rfl rfl rfl]
  exact Steps.refl _
theorem own_lremM {g : JFrame} {target : State} (X : Stand p l e R s m args below meth c T locs cells slots) (hx : p.tables.exec = Jvm.exec) (hg : g.method = m) {x y : Int64} {rest : List Value} (hd : decode c.code g.pc = .ok (.lrem, 1)) (hs : g.stack = .long y :: .long x :: rest) (hy : y ≠ 0)
    (hr : Steps p.tables e below (T.setTop { g with pc := g.pc + 1, stack := .long (x % y) :: rest }) target) : Steps p.tables e below (T.setTop g) target := by
  have q : x - x / y * y = x % y := lrem_mod x y
  exact XS.lrem X.here hx hg hd hs hy (by rw [q]; exact hr)
end New
end Jvm.RoadKit
namespace Jvm.RoadKit
open Sem ClassFile Op Lib Jvm.Stand Jvm.Free Jvm.LawKit
section OwnArr
variable {p : Program} {l : Launch} {e : Env} {R : Room} {s : State} {m : MethodId} {args : Array Value} {below : List Frame} {meth : Method} {c : Code} {T : State} {locs : List Loc} {cells slots : Nat} {Z : State} {a0 : Array Value} {h h' : Heap} {a b : Addr} {ty : FieldType} {n : Nat} {f f' : Nat → Value} {ws : List Addr} {sl : Nat} {v : Value} {j : Int32} {k : Nat}
def OwnAV (Z : State) (h : Heap) (a : Addr) (ty : FieldType) (n : Nat) (f : Nat → Value) : Prop := ∃ c : Cell, Arr Z h a c ty ∧ c.slots.size = n ∧ n < 2147483648 ∧ ∀ j, j < n → c.slots[j]? = some (f j)
theorem OwnAV.lt (F : OwnAV Z h a ty n f) : a < h.size := by obtain ⟨c, A, -⟩ := F; exact A.lt
theorem OwnAV.ext (F : OwnAV Z h a ty n f) (E : Ext h h') : OwnAV Z h' a ty n f := by obtain ⟨c, A, r⟩ := F; exact ⟨c, A.ext E, r⟩
theorem OwnAV.other (F : OwnAV Z h b ty n f) (W : Wr h h' a sl v) (q : b ≠ a) : OwnAV Z h' b ty n f := by obtain ⟨c, A, r⟩ := F; exact ⟨c, A.other W q, r⟩
theorem OwnAV.keep (F : OwnAV Z h a ty n f) (K : Keep h h' ws) (q : a ∉ ws) : OwnAV Z h' a ty n f := by obtain ⟨c, A, r⟩ := F; exact ⟨c, ⟨K.2.1 a c A.1 q, A.2⟩, r⟩
theorem OwnAV.congr (F : OwnAV Z h a ty n f) (q : ∀ j, j < n → f j = f' j) : OwnAV Z h a ty n f' := by obtain ⟨c, A, S, N, H⟩ := F; exact ⟨c, A, S, N, fun j hj => by rw [← q j hj]; exact H j hj⟩
theorem OwnAV.new {cA : ClassId} {z : Int32} (A : Arr Z h a (newA cA ty z) ty) (hz : z.toNatClampNeg = n) (hn : n < 2147483648) : OwnAV Z h a ty n (fun _ => defaultValue ty) := ⟨_, A, by rw [sz_new, hz], hn, fun j hj => by
  subst hz; simp [newA, hj]⟩
theorem OwnAV.store (F : OwnAV Z h a ty n f) (W : Wr h h' a k v) : OwnAV Z h' a ty n (fun i => if i = k then v else f i) := by
  obtain ⟨c, A, S, N, H⟩ := F
  refine ⟨c.setSlot k v, A.same W, by rw [sz_set, S], N, fun j hj => ?_⟩
  by_cases q : j = k
  · subst q
    simp [Cell.setSlot, Array.getElem?_setIfInBounds, S, hj]
  · simp [Cell.setSlot, Array.getElem?_setIfInBounds, q, Ne.symm q, H j hj]
def own_upd {α : Type} (F : Nat → α) (k : Nat) (x : α) : Nat → α := fun i => if i = k then x else F i
theorem own_upd_at {α : Type} (F : Nat → α) (k : Nat) (x : α) : own_upd F k x k = x := if_pos rfl
theorem own_upd_ne {α : Type} (F : Nat → α) {k i : Nat} (x : α) (q : i ≠ k) : own_upd F k x i = F i := if_neg q
theorem OwnAV.storeI {F : Nat → Int32} {x : Int32} (V : OwnAV Z h a ty n (fun i => .int (F i))) (W : Wr h h' a k (.int x)) : OwnAV Z h' a ty n (fun i => .int (own_upd F k x i)) :=
  (V.store W).congr fun i _ => by by_cases q : i = k <;> simp [own_upd, q]
theorem OwnAV.storeJ {F : Nat → Int64} {x : Int64} (V : OwnAV Z h a ty n (fun i => .long (F i))) (W : Wr h h' a k (.long x)) : OwnAV Z h' a ty n (fun i => .long (own_upd F k x i)) :=
  (V.store W).congr fun i _ => by by_cases q : i = k <;> simp [own_upd, q]
def OwnIdx (j : Int32) (k n : Nat) : Prop := ¬ j < 0 ∧ j.toNatClampNeg = k ∧ k < n
theorem own_idx {j : Int32} {n : Nat} (h0 : 0 ≤ j.toInt) (h1 : j.toInt < n) : OwnIdx j j.toInt.toNat n := by
  refine ⟨fun q => ?_, rfl, by omega⟩
  rw [Int32.lt_iff_toInt_lt, Int32.toInt_zero] at q
  omega
theorem own_idxN {i n : Nat} (h : i < n) (hn : n < 2147483648) : OwnIdx (Int32.ofNat i) i n := by
  have q : (Int32.ofNat i).toInt = i := Int32.toInt_ofNat_of_lt (by omega)
  refine ⟨fun r => ?_, ?_, h⟩
  · rw [Int32.lt_iff_toInt_lt, Int32.toInt_zero, q] at r; omega
  · rw [Int32.toNatClampNeg, q]; rfl
theorem OwnAV.inb {c : Cell} (S : c.slots.size = n) (I : OwnIdx j k n) : ¬ (j < 0 ∨ c.slots.size ≤ j.toNatClampNeg) := by
  rintro (q | q)
  · exact I.1 q
  · rw [S, I.2.1] at q; exact absurd I.2.2 (by omega)
theorem own_len (X : Stand p l e R s m args below meth c T locs cells slots) (hx : p.tables.exec = Jvm.exec) (hZ : Z.Warmed39 s.vm) (eT : T.heap = h) (V : OwnAV Z h a ty n f) {g : JFrame} (hg : g.method = m) {rest : List Value} (hs : g.stack = .ref a :: rest) (hd : decode c.code g.pc = .ok (.arraylength, 1)) (target : State)
    (hr : Steps p.tables e below (T.setTop { g with pc := g.pc + 1, stack := .int (Int32.ofNat n) :: rest }) target) : Steps p.tables e below (T.setTop g) target := by
  obtain ⟨cl, A, S, -, -⟩ := V
  refine X.arraylength hx (by rw [eT]; exact A.1) (State.isArrayOf_alike hZ.alike A.2.1) hg hs hd _ ?_
  rw [S]; exact hr
theorem own_iald (X : Stand p l e R s m args below meth c T locs cells slots) (hx : p.tables.exec = Jvm.exec) (hZ : Z.Warmed39 s.vm) (eT : T.heap = h) (V : OwnAV Z h a .int n f) (I : OwnIdx j k n) (hv : f k = v) {g : JFrame} (hg : g.method = m) {rest : List Value} (hs : g.stack = .int j :: .ref a :: rest) (hd : decode c.code g.pc = .ok (.iaload, 1)) (target : State)
    (hr : Steps p.tables e below (T.setTop { g with pc := g.pc + 1, stack := v :: rest }) target) : Steps p.tables e below (T.setTop g) target := by
  obtain ⟨cl, A, S, -, H⟩ := V
  exact X.iaload hx (by rw [eT]; exact A.1) (State.isArrayOf_alike hZ.alike A.2.1) A.2.2 (OwnAV.inb S I) (by rw [I.2.1, H k I.2.2, hv]) hg hs hd _ hr
theorem own_lald (X : Stand p l e R s m args below meth c T locs cells slots) (hx : p.tables.exec = Jvm.exec) (hZ : Z.Warmed39 s.vm) (eT : T.heap = h) (V : OwnAV Z h a .long n f) (I : OwnIdx j k n) (hv : f k = v) {g : JFrame} (hg : g.method = m) {rest : List Value} (hs : g.stack = .int j :: .ref a :: rest) (hd : decode c.code g.pc = .ok (.laload, 1)) (target : State)
    (hr : Steps p.tables e below (T.setTop { g with pc := g.pc + 1, stack := v :: rest }) target) : Steps p.tables e below (T.setTop g) target := by
  obtain ⟨cl, A, S, -, H⟩ := V
  exact X.laload hx (by rw [eT]; exact A.1) (State.isArrayOf_alike hZ.alike A.2.1) A.2.2 (OwnAV.inb S I) (by rw [I.2.1, H k I.2.2, hv]) hg hs hd _ hr
theorem own_bald (X : Stand p l e R s m args below meth c T locs cells slots) (hx : p.tables.exec = Jvm.exec) (hZ : Z.Warmed39 s.vm) (eT : T.heap = h) (V : OwnAV Z h a .byte n f) (I : OwnIdx j k n) (hv : f k = v) {g : JFrame} (hg : g.method = m) {rest : List Value} (hs : g.stack = .int j :: .ref a :: rest) (hd : decode c.code g.pc = .ok (.baload, 1)) (target : State)
    (hr : Steps p.tables e below (T.setTop { g with pc := g.pc + 1, stack := v :: rest }) target) : Steps p.tables e below (T.setTop g) target := by
  obtain ⟨cl, A, S, -, H⟩ := V
  exact X.baloadBytes hx (by rw [eT]; exact A.1) (State.isArrayOf_alike hZ.alike A.2.1) A.2.2 (OwnAV.inb S I) (by rw [I.2.1, H k I.2.2, hv]) hg hs hd _ hr
theorem own_iast (X : Stand p l e R s m args below meth c T locs cells slots) (hx : p.tables.exec = Jvm.exec) (hZ : Z.Warmed39 s.vm) (eT : T.heap = h) (V : OwnAV Z h a .int n f) (I : OwnIdx j k n) {x : Int32} {g : JFrame} (hg : g.method = m) {rest : List Value} (hs : g.stack = .int x :: .int j :: .ref a :: rest) (hd : decode c.code g.pc = .ok (.iastore, 1)) :
    ∃ T' h', Stand p l e R s m args below meth c T' (locs ++ [⟨a, k⟩]) cells slots ∧ T'.heap = h' ∧ Wr h h' a k (.int x) ∧ ∀ target, Steps p.tables e below (T'.setTop { g with pc := g.pc + 1, stack := rest }) target → Steps p.tables e below (T.setTop g) target := by
  obtain ⟨cl, A, S, -, -⟩ := V
  have q := stI X hx hZ eT A (OwnAV.inb S I) hg hs hd
  rw [I.2.1] at q; exact q
theorem own_last (X : Stand p l e R s m args below meth c T locs cells slots) (hx : p.tables.exec = Jvm.exec) (hZ : Z.Warmed39 s.vm) (eT : T.heap = h) (V : OwnAV Z h a .long n f) (I : OwnIdx j k n) {x : Int64} {g : JFrame} (hg : g.method = m) {rest : List Value} (hs : g.stack = .long x :: .int j :: .ref a :: rest) (hd : decode c.code g.pc = .ok (.lastore, 1)) :
    ∃ T' h', Stand p l e R s m args below meth c T' (locs ++ [⟨a, k⟩]) cells slots ∧ T'.heap = h' ∧ Wr h h' a k (.long x) ∧ ∀ target, Steps p.tables e below (T'.setTop { g with pc := g.pc + 1, stack := rest }) target → Steps p.tables e below (T.setTop g) target := by
  obtain ⟨cl, A, S, -, -⟩ := V
  have q := stJ X hx hZ eT A (OwnAV.inb S I) hg hs hd
  rw [I.2.1] at q; exact q
theorem own_bast (X : Stand p l e R s m args below meth c T locs cells slots) (hx : p.tables.exec = Jvm.exec) (hZ : Z.Warmed39 s.vm) (eT : T.heap = h) (V : OwnAV Z h a .byte n f) (I : OwnIdx j k n) {x : Int32} {g : JFrame} (hg : g.method = m) {rest : List Value} (hs : g.stack = .int x :: .int j :: .ref a :: rest) (hd : decode c.code g.pc = .ok (.bastore, 1)) :
    ∃ T' h', Stand p l e R s m args below meth c T' (locs ++ [⟨a, k⟩]) cells slots ∧ T'.heap = h' ∧ Wr h h' a k (.int (nar .byte x)) ∧ ∀ target, Steps p.tables e below (T'.setTop { g with pc := g.pc + 1, stack := rest }) target → Steps p.tables e below (T.setTop g) target := by
  obtain ⟨cl, A, S, -, -⟩ := V
  have q := stB X hx hZ eT A (OwnAV.inb S I) hg hs hd
  rw [I.2.1] at q; exact q
end OwnArr
end Jvm.RoadKit
namespace Jvm.RoadKit
open Sem ClassFile Op Lib Jvm.Stand Jvm.Free Jvm.LawKit
section OwnBun
variable {p : Program} {l : Launch} {e : Env} {R : Room} {s : State} {m : MethodId} {args : Array Value} {below : List Frame} {meth : Method} {c : Code} {T : State} {locs : List Loc} {cells slots : Nat} {Z : State} {a0 : Array Value} {h h' : Heap} {a b : Addr} {ws : List Addr} {sl : Nat} {v : Value} {j : Int32} {k : Nat}
def own_l2 {α : Type} (x y : α) : Nat → α
  | 0 => x
  | _ => y
def OwnOA (Z : State) (h : Heap) (a : Addr) : Prop := ∃ c : Cell, Arr Z h a c (.object "java/lang/Object") ∧ c.slots.size = 256 ∧ Ovr Z c.cls "java/lang/Object"
theorem OwnOA.lt (F : OwnOA Z h a) : a < h.size := by obtain ⟨c, A, -⟩ := F; exact A.lt
theorem OwnOA.ext (F : OwnOA Z h a) (E : Ext h h') : OwnOA Z h' a := by obtain ⟨c, A, r⟩ := F; exact ⟨c, A.ext E, r⟩
theorem OwnOA.other (F : OwnOA Z h b) (W : Wr h h' a sl v) (q : b ≠ a) : OwnOA Z h' b := by obtain ⟨c, A, r⟩ := F; exact ⟨c, A.other W q, r⟩
theorem OwnOA.keep (F : OwnOA Z h a) (K : Keep h h' ws) (q : a ∉ ws) : OwnOA Z h' a := by obtain ⟨c, A, r⟩ := F; exact ⟨c, ⟨K.2.1 a c A.1 q, A.2⟩, r⟩
theorem OwnOA.same (F : OwnOA Z h a) (W : Wr h h' a sl v) : OwnOA Z h' a := by obtain ⟨c, A, S, O⟩ := F; exact ⟨c.setSlot sl v, A.same W, by rw [sz_set, S], O⟩
theorem OwnOA.new {cA : ClassId} (A : Arr Z h a (newA cA (.object "java/lang/Object") 256) (.object "java/lang/Object")) (O : Ovr Z cA "java/lang/Object") : OwnOA Z h a := ⟨_, A, by rw [sz_new]; rfl, O⟩
theorem own_olen (X : Stand p l e R s m args below meth c T locs cells slots) (hx : p.tables.exec = Jvm.exec) (hZ : Z.Warmed39 s.vm) (eT : T.heap = h) (V : OwnOA Z h a) {g : JFrame} (hg : g.method = m) {rest : List Value} (hs : g.stack = .ref a :: rest) (hd : decode c.code g.pc = .ok (.arraylength, 1)) (target : State)
    (hr : Steps p.tables e below (T.setTop { g with pc := g.pc + 1, stack := .int (Int32.ofNat 256) :: rest }) target) : Steps p.tables e below (T.setTop g) target := by
  obtain ⟨cl, A, S, -⟩ := V
  refine X.arraylength hx (by rw [eT]; exact A.1) (State.isArrayOf_alike hZ.alike A.2.1) hg hs hd _ ?_
  rw [S]; exact hr
theorem own_oast (X : Stand p l e R s m args below meth c T locs cells slots) (hx : p.tables.exec = Jvm.exec) (hZ : Z.Warmed39 s.vm) (eT : T.heap = h) (V : OwnOA Z h a) (I : OwnIdx j k 256) {y : Addr} (Iy : Ins Z h y "java/lang/Object" true) {g : JFrame} (hg : g.method = m) {rest : List Value} (hs : g.stack = .ref y :: .int j :: .ref a :: rest) (hd : decode c.code g.pc = .ok (.aastore, 1)) :
    ∃ T' h', Stand p l e R s m args below meth c T' (locs ++ [⟨a, k⟩]) cells slots ∧ T'.heap = h' ∧ Wr h h' a k (.ref y) ∧ ∀ target, Steps p.tables e below (T'.setTop { g with pc := g.pc + 1, stack := rest }) target → Steps p.tables e below (T.setTop g) target := by
  obtain ⟨cl, A, S, O⟩ := V
  have q := stR X hx hZ eT A (OwnAV.inb S I) rfl (Sto.of A O Iy) hg hs hd
  rw [I.2.1] at q; exact q
theorem own_selp {s : State} {args : Array Value} {y : MethodName} {n : Nat} (hins : (Cond.instantiable y.cls n).before args s = true) (hpriv : s.PrivateAt y) (hinst : (Cond.instanceMethod y).before args s = true) (hy : y.cls ≠ "java/lang/invoke/MethodHandle" ∧ y.cls ≠ "java/lang/invoke/VarHandle") : (Cond.selects y.cls y y).before args s = true := by
  obtain ⟨c, k, hc, hk, -, hniab, -, -⟩ := Cond.instantiable_spec hins
  exact selects_self_of_private hc hk (Bool.or_eq_false_iff.mp hniab).1 hpriv hinst hy
end OwnBun
end Jvm.RoadKit
namespace Jvm.Pilot.@@N@@
open Jvm Jvm.ClassFile Sem Op Lib Jvm.Free Jvm.Stand Jvm.LawKit Jvm.RoadKit Bundle Jvm.Pilot.@@N@@.Jvm.D

theorem own_nar {r : Int32} (h : r = 0 ∨ r = 1) : nar .boolean r = r := by rcases h with rfl | rfl <;> rfl
theorem pd_1 : parseMethodDescriptor "(Ljava/lang/Object;IJ)V" = some ⟨[(.object "java/lang/Object"), .int, .long], none⟩ := by decide +kernel
theorem pd_2 : parseMethodDescriptor "()J" = some ⟨[], some .long⟩ := by decide +kernel
theorem pd_3 : parseMethodDescriptor "([II)V" = some ⟨[(.array .int), .int], none⟩ := by decide +kernel
theorem pd_4 : parseMethodDescriptor "(I)I" = some ⟨[.int], some .int⟩ := by decide +kernel
theorem pd_5 : parseMethodDescriptor "(I)[J" = some ⟨[.int], some (.array .long)⟩ := by decide +kernel
theorem pd_6 : parseMethodDescriptor "([JI)V" = some ⟨[(.array .long), .int], none⟩ := by decide +kernel
theorem pd_7 : parseMethodDescriptor "(I)V" = some ⟨[.int], none⟩ := by decide +kernel
theorem pd_8 : parseMethodDescriptor "()V" = some ⟨[], none⟩ := by decide +kernel
theorem pd_9 : parseMethodDescriptor "(Lcom/example/faultline/faultline/engine/Trail;I)V" = some ⟨[(.object "com/example/faultline/faultline/engine/Trail"), .int], none⟩ := by decide +kernel
theorem pd_10 : parseMethodDescriptor "([J)V" = some ⟨[(.array .long)], none⟩ := by decide +kernel
theorem pd_11 : parseMethodDescriptor "([J)I" = some ⟨[(.array .long)], some .int⟩ := by decide +kernel
def OwnTr (Z : State) (h : Heap) (tr ow ix sv : Addr) (t : Int32) : Prop := Exa Z h tr "com/example/faultline/faultline/engine/Trail" ∧ Fld Z h tr "com/example/faultline/faultline/engine/Trail" "owners" "[Ljava/lang/Object;" (.ref ow) ∧ Fld Z h tr "com/example/faultline/faultline/engine/Trail" "indexes" "[I" (.ref ix) ∧ Fld Z h tr "com/example/faultline/faultline/engine/Trail" "saved" "[J" (.ref sv) ∧ Fld Z h tr "com/example/faultline/faultline/engine/Trail" "top" "I" (.int t) ∧ Fld Z h tr "com/example/faultline/faultline/engine/Trail" "world" "J" (.long (0 : Int64)) ∧ OwnOA Z h ow ∧ (∃ f : Nat → Int32, OwnAV Z h ix .int 256 (fun i => .int (f i))) ∧ (∃ f : Nat → Int64, OwnAV Z h sv .long 256 (fun i => .long (f i)))
def OwnSet (Z : State) (h : Heap) (st tr lim wo sa nz ma : Addr) (ls : Int64) : Prop := Exa Z h st "com/example/faultline/faultline/engine/ReversibleBitSet" ∧ Fld Z h st "com/example/faultline/faultline/engine/ReversibleBitSet" "trail" "Lcom/example/faultline/faultline/engine/Trail;" (.ref tr) ∧ Fld Z h st "com/example/faultline/faultline/engine/ReversibleBitSet" "limit" "[I" (.ref lim) ∧ Fld Z h st "com/example/faultline/faultline/engine/ReversibleBitSet" "words" "[J" (.ref wo) ∧ Fld Z h st "com/example/faultline/faultline/engine/ReversibleBitSet" "savedIn" "[J" (.ref sa) ∧ Fld Z h st "com/example/faultline/faultline/engine/ReversibleBitSet" "nonZero" "[I" (.ref nz) ∧ Fld Z h st "com/example/faultline/faultline/engine/ReversibleBitSet" "mask" "[J" (.ref ma) ∧ Fld Z h st "com/example/faultline/faultline/engine/ReversibleBitSet" "limitSavedIn" "J" (.long ls)
def OwnApart (tr ow ix sv : Addr) : Prop := tr ≠ ow ∧ tr ≠ ix ∧ tr ≠ sv ∧ ow ≠ ix ∧ ow ≠ sv ∧ ix ≠ sv
def OwnNew (n0 : Nat) (tr ow ix sv : Addr) : Prop := n0 ≤ tr ∧ n0 ≤ ow ∧ n0 ≤ ix ∧ n0 ≤ sv
theorem own_zand (q : Int64) : ((0 : Int64) &&& q) = (0 : Int64) := by rw [Int64.zero_and]
theorem own_tick (t t1 : Int32) (h : t1 = t + (1 : Int32)) (h0 : 0 ≤ t.toInt) (h1 : t.toInt < 1000) : 0 ≤ t1.toInt ∧ t1.toInt = t.toInt + 1 := by
  have b1 := c_iadd t 1
  have b2 := rng32 t1
  have z1 : (1 : Int32).toInt = 1 := by decide
  rw [← h, z1] at b1
  omega
theorem d1_0 : decode prog_49_method_1_code 0 = .ok (.aload_n 0, 1) := by decide +kernel
theorem d1_1 : decode prog_49_method_1_code 1 = .ok (.invokespecial 1, 3) := by decide +kernel
theorem d1_4 : decode prog_49_method_1_code 4 = .ok (.aload_n 0, 1) := by decide +kernel
theorem d1_5 : decode prog_49_method_1_code 5 = .ok (.sipush 256, 3) := by decide +kernel
theorem d1_8 : decode prog_49_method_1_code 8 = .ok (.anewarray 2, 3) := by decide +kernel
theorem d1_11 : decode prog_49_method_1_code 11 = .ok (.putfield 7, 3) := by decide +kernel
theorem d1_14 : decode prog_49_method_1_code 14 = .ok (.aload_n 0, 1) := by decide +kernel
theorem d1_15 : decode prog_49_method_1_code 15 = .ok (.sipush 256, 3) := by decide +kernel
theorem d1_18 : decode prog_49_method_1_code 18 = .ok (.newarray .int, 2) := by decide +kernel
theorem d1_20 : decode prog_49_method_1_code 20 = .ok (.putfield 13, 3) := by decide +kernel
theorem d1_23 : decode prog_49_method_1_code 23 = .ok (.aload_n 0, 1) := by decide +kernel
theorem d1_24 : decode prog_49_method_1_code 24 = .ok (.sipush 256, 3) := by decide +kernel
theorem d1_27 : decode prog_49_method_1_code 27 = .ok (.newarray .long, 2) := by decide +kernel
theorem d1_29 : decode prog_49_method_1_code 29 = .ok (.putfield 17, 3) := by decide +kernel
theorem d1_32 : decode prog_49_method_1_code 32 = .ok (.aload_n 0, 1) := by decide +kernel
theorem d1_33 : decode prog_49_method_1_code 33 = .ok (.bipush 16, 2) := by decide +kernel
theorem d1_35 : decode prog_49_method_1_code 35 = .ok (.newarray .int, 2) := by decide +kernel
theorem d1_37 : decode prog_49_method_1_code 37 = .ok (.putfield 21, 3) := by decide +kernel
theorem d1_40 : decode prog_49_method_1_code 40 = .ok (.aload_n 0, 1) := by decide +kernel
theorem d1_41 : decode prog_49_method_1_code 41 = .ok (.bipush 16, 2) := by decide +kernel
theorem d1_43 : decode prog_49_method_1_code 43 = .ok (.newarray .long, 2) := by decide +kernel
theorem d1_45 : decode prog_49_method_1_code 45 = .ok (.putfield 24, 3) := by decide +kernel
theorem d1_48 : decode prog_49_method_1_code 48 = .ok (.return_, 1) := by decide +kernel
theorem pn_1 : plainName "com/example/faultline/faultline/engine/Trail" = true := by first | (simp [plainName, overriddenIn]; done) | decide +kernel
theorem ef_1 (m : MethodId) (tr : Addr) : entryFrame m #[(.ref tr)] 1 = (mkF m 0 #[.val (.ref tr)] []) := by first | (simp [entryFrame, mkF, argsToLocals, Value.category]; done) | rfl
def Q1 (Z : State) (tr : Addr) (h0 : Heap) (n0 : Nat) (v : Option Value) (h : Heap) (L : List Loc) : Prop := v = none ∧ Fr n0 L ∧ Keep h0 h [tr] ∧ ∃ ow ix sv : Addr, h0.size ≤ ow ∧ @LT.lt Nat instLTNat ow ix ∧ @LT.lt Nat instLTNat ix sv ∧ OwnTr Z h tr ow ix sv (0 : Int32)
set_option maxRecDepth 65536 in
set_option maxHeartbeats 40000000 in
theorem rm1 (l : Launch) (Z : State) (a0 : Array Value) (hw : ∀ d ∈ tables_1, d.before a0 Z = true) (ws : List Jvm.Cond) (tr : Addr) (h0 : Heap) (n0 : Nat) (Z0 : n0 ≤ h0.size) (Ex : Exa Z h0 tr "com/example/faultline/faultline/engine/Trail") (ga : n0 ≤ tr) (Fo : Fld Z h0 tr "com/example/faultline/faultline/engine/Trail" "owners" "[Ljava/lang/Object;" .null) (Fi : Fld Z h0 tr "com/example/faultline/faultline/engine/Trail" "indexes" "[I" .null) (Fs : Fld Z h0 tr "com/example/faultline/faultline/engine/Trail" "saved" "[J" .null) (Fm : Fld Z h0 tr "com/example/faultline/faultline/engine/Trail" "marks" "[I" .null) (Fw : Fld Z h0 tr "com/example/faultline/faultline/engine/Trail" "outerWorlds" "[J" .null) (Ft : Fld Z h0 tr "com/example/faultline/faultline/engine/Trail" "top" "I" (.int (0 : Int32))) (Fv : Fld Z h0 tr "com/example/faultline/faultline/engine/Trail" "world" "J" (.long (0 : Int64))) :
    MetFree l (⟨"com/example/faultline/faultline/engine/Trail", "<init>", "()V"⟩ : MethodName) (head1 (Jvm.Cond.code (⟨"com/example/faultline/faultline/engine/Trail", "<init>", "()V"⟩ : MethodName) prog_49_method_1_code 1 none :: ws) ({ frames := 1, cells := 5, slots := 800, locals := 14 } : Room)) (fun a U => a = #[(.ref tr)] ∧ Z.Warmed39 U.vm ∧ U.heap = h0) (fun _ _ _ _ _ => True) (fun _ U o U' => ∃ v L, o = .returned v ∧ Q1 Z tr h0 n0 v U'.heap L ∧ FrameEnd U o U' L ({ frames := 1, cells := 5, slots := 800, locals := 14 } : Room).cells ({ frames := 1, cells := 5, slots := 800, locals := 14 } : Room).slots) := by
  refine MetFree.of_bodySF (plainFor_of_name pn_1) hisR ?_
  intro p e s m args below meth c s₁ Bd hml0 hP hK
  obtain ⟨rfl, hZ, hh⟩ := hP
  have hx := Bd.exec
  have hby := Bd.bytes
  have hml : c.maxLocals = 1 := hml0
  have hown : s.vm.findClass "com/example/faultline/faultline/engine/Trail" = some m.cls := findClass_of_methodNamed Bd.named
  have hnm := (name_of_methodNamed Bd.named Bd.method).1
  have X0 : Stand p l e ({ frames := 1, cells := 5, slots := 800, locals := 14 } : Room) s m #[(.ref tr)] below meth c s₁ [] 0 0 := Stand.of_body Bd
  have e0 : s₁.heap = h0 := by rw [← hh, Bd.state]; rfl
  have N0 := Fr.nil n0
  have pre0 : ∀ t, Steps p.tables e below (s₁.setTop (mkF m 0 #[.val (.ref tr)] [])) t → Steps p.tables e below (s₁.setTop (entryFrame m #[(.ref tr)] 1)) t := fun t k => castTop (ef_1 m tr) k
  obtain ⟨T39, X39, e39, st39⟩ := initO X0 hx hZ hown (hw _ (List.mem_of_getElem? (i := 6) rfl)) (hw _ (List.mem_of_getElem? (i := 7) rfl)) (hw _ (List.mem_of_getElem? (i := 8) rfl)) e0 (g := (mkF m 1 #[.val (.ref tr)] [(.ref tr)])) rfl (by rw [hml]; rfl) rfl (hb hby d1_1) (by decide) (W := 0) (by show 2 * 0 + _ ≤ _; exact Nat.le_of_eq rfl) (by decide)
  obtain ⟨T40, h40, k40, X40, e40, E40, A40, O40, st40⟩ := newR X39 hx hZ hown (hw _ (List.mem_of_getElem? (i := 9) rfl)) (hw _ (List.mem_of_getElem? (i := 10) rfl)) e39 (g := (mkF m 8 #[.val (.ref tr)] [(.int (256 : Int32)), (.ref tr)])) rfl (hb hby d1_8) rfl (by decide) (cap := 256) (by decide) (by decide) (by decide) (by decide)
  obtain ⟨b40, g40⟩ : ∃ z, z = h0.size := ⟨_, rfl⟩
  have ne41 : tr ≠ b40 := fun q => absurd Ex.lt (by rw [q, g40]; exact Nat.lt_irrefl _)
  have g42 : n0 ≤ b40 := g40 ▸ Z0
  have s43 : h0.size ≤ b40 := g40 ▸ (Keep.refl h0 [tr]).1
  rw [← g40] at A40 st40
  have F44 := Fo.ext E40
  have F45 := Fi.ext E40
  have F46 := Fs.ext E40
  have F47 := Fm.ext E40
  have F48 := Fw.ext E40
  have F49 := Ft.ext E40
  have F50 := Fv.ext E40
  have E51 := Ex.ext E40
  have K52 := (Keep.refl h0 [tr]).ext E40
  have Z53 : n0 ≤ h40.size := Nat.le_trans Z0 E40.1
  have A54 : OwnOA Z h40 b40 := OwnOA.new A40 O40
  obtain ⟨T55, h55, X55, e55, W55, st55⟩ := putF X40 hx hZ hown (host := "") (Or.inl (hw _ (List.mem_of_getElem? (i := 11) rfl))) Via.refl e40 F44 E51 (Or.inl (hw _ (List.mem_of_getElem? (i := 12) rfl))) (hw _ (List.mem_of_getElem? (i := 1) rfl)) (ty := (.array (.object "java/lang/Object"))) (by decide) rfl rfl (g := (mkF m 11 #[.val (.ref tr)] [(.ref b40), (.ref tr)])) rfl rfl (hb hby d1_11)
  have F56 := F44.same W55
  have F57 := F45.other W55 (Or.inr (slot_ne (Or.inl (hw _ (List.mem_of_getElem? (i := 15) rfl))) (Or.inl (hw _ (List.mem_of_getElem? (i := 12) rfl))) (by decide) (by decide : parseFieldDescriptor "[I" = some (.array .int)) (by decide : parseFieldDescriptor "[Ljava/lang/Object;" = some (.array (.object "java/lang/Object")))))
  have F58 := F46.other W55 (Or.inr (slot_ne (Or.inl (hw _ (List.mem_of_getElem? (i := 18) rfl))) (Or.inl (hw _ (List.mem_of_getElem? (i := 12) rfl))) (by decide) (by decide : parseFieldDescriptor "[J" = some (.array .long)) (by decide : parseFieldDescriptor "[Ljava/lang/Object;" = some (.array (.object "java/lang/Object")))))
  have F59 := F47.other W55 (Or.inr (slot_ne (Or.inl (hw _ (List.mem_of_getElem? (i := 20) rfl))) (Or.inl (hw _ (List.mem_of_getElem? (i := 12) rfl))) (by decide) (by decide : parseFieldDescriptor "[I" = some (.array .int)) (by decide : parseFieldDescriptor "[Ljava/lang/Object;" = some (.array (.object "java/lang/Object")))))
  have F60 := F48.other W55 (Or.inr (slot_ne (Or.inl (hw _ (List.mem_of_getElem? (i := 22) rfl))) (Or.inl (hw _ (List.mem_of_getElem? (i := 12) rfl))) (by decide) (by decide : parseFieldDescriptor "[J" = some (.array .long)) (by decide : parseFieldDescriptor "[Ljava/lang/Object;" = some (.array (.object "java/lang/Object")))))
  have F61 := F49.other W55 (Or.inr (slot_ne (Or.inl (hw _ (List.mem_of_getElem? (i := 86) rfl))) (Or.inl (hw _ (List.mem_of_getElem? (i := 12) rfl))) (by decide) (by decide : parseFieldDescriptor "I" = some .int) (by decide : parseFieldDescriptor "[Ljava/lang/Object;" = some (.array (.object "java/lang/Object")))))
  have F62 := F50.other W55 (Or.inr (slot_ne (Or.inl (hw _ (List.mem_of_getElem? (i := 75) rfl))) (Or.inl (hw _ (List.mem_of_getElem? (i := 12) rfl))) (by decide) (by decide : parseFieldDescriptor "J" = some .long) (by decide : parseFieldDescriptor "[Ljava/lang/Object;" = some (.array (.object "java/lang/Object")))))
  have E63 := E51.wr W55
  have A64 := A54.other W55 (Ne.symm ne41)
  have K65 := K52.wr W55 (Or.inl (List.mem_of_getElem? (i := 0) rfl))
  have Z66 : n0 ≤ h55.size := W55.size ▸ Z53
  have N67 := Fr.snoc X55 N0 ga
  obtain ⟨T68, h68, k68, X68, e68, E68, A68, Y68, st68⟩ := newPE X55 hx hZ (hw _ (List.mem_of_getElem? (i := 13) rfl)) e55 (g := (mkF m 18 #[.val (.ref tr)] [(.int (256 : Int32)), (.ref tr)])) rfl (hb hby d1_18) rfl (by decide) (cap := 256) (by decide) (by decide) (by decide) (by decide) (ad := "[I") (by decide)
  obtain ⟨b68, g68⟩ : ∃ z, z = h55.size := ⟨_, rfl⟩
  have ne69 : tr ≠ b68 := fun q => absurd E63.lt (by rw [q, g68]; exact Nat.lt_irrefl _)
  have ne70 : b40 ≠ b68 := fun q => absurd A64.lt (by rw [q, g68]; exact Nat.lt_irrefl _)
  have lt_b40_b68 : @LT.lt Nat instLTNat b40 b68 := Nat.lt_of_lt_of_eq A64.lt g68.symm
  have g71 : n0 ≤ b68 := g68 ▸ Z66
  have s72 : h0.size ≤ b68 := g68 ▸ K65.1
  rw [← g68] at A68 Y68 st68
  have F73 := F56.ext E68
  have F74 := F57.ext E68
  have F75 := F58.ext E68
  have F76 := F59.ext E68
  have F77 := F60.ext E68
  have F78 := F61.ext E68
  have F79 := F62.ext E68
  have E80 := E63.ext E68
  have A81 := A64.ext E68
  have K82 := K65.ext E68
  have Z83 : n0 ≤ h68.size := Nat.le_trans Z66 E68.1
  have A84 : OwnAV Z h68 b68 .int 256 (fun i => (.int ((fun _ => (0 : Int32)) i))) := OwnAV.new A68 rfl (by decide)
  obtain ⟨T85, h85, X85, e85, W85, st85⟩ := putF X68 hx hZ hown (host := "") (Or.inl (hw _ (List.mem_of_getElem? (i := 14) rfl))) Via.refl e68 F74 E80 (Or.inl (hw _ (List.mem_of_getElem? (i := 15) rfl))) (hw _ (List.mem_of_getElem? (i := 1) rfl)) (ty := (.array .int)) (by decide) rfl rfl (g := (mkF m 20 #[.val (.ref tr)] [(.ref b68), (.ref tr)])) rfl rfl (hb hby d1_20)
  have F86 := F73.other W85 (Or.inr (slot_ne (Or.inl (hw _ (List.mem_of_getElem? (i := 12) rfl))) (Or.inl (hw _ (List.mem_of_getElem? (i := 15) rfl))) (by decide) (by decide : parseFieldDescriptor "[Ljava/lang/Object;" = some (.array (.object "java/lang/Object"))) (by decide : parseFieldDescriptor "[I" = some (.array .int))))
  have F87 := F74.same W85
  have F88 := F75.other W85 (Or.inr (slot_ne (Or.inl (hw _ (List.mem_of_getElem? (i := 18) rfl))) (Or.inl (hw _ (List.mem_of_getElem? (i := 15) rfl))) (by decide) (by decide : parseFieldDescriptor "[J" = some (.array .long)) (by decide : parseFieldDescriptor "[I" = some (.array .int))))
  have F89 := F76.other W85 (Or.inr (slot_ne (Or.inl (hw _ (List.mem_of_getElem? (i := 20) rfl))) (Or.inl (hw _ (List.mem_of_getElem? (i := 15) rfl))) (by decide) (by decide : parseFieldDescriptor "[I" = some (.array .int)) (by decide : parseFieldDescriptor "[I" = some (.array .int))))
  have F90 := F77.other W85 (Or.inr (slot_ne (Or.inl (hw _ (List.mem_of_getElem? (i := 22) rfl))) (Or.inl (hw _ (List.mem_of_getElem? (i := 15) rfl))) (by decide) (by decide : parseFieldDescriptor "[J" = some (.array .long)) (by decide : parseFieldDescriptor "[I" = some (.array .int))))
  have F91 := F78.other W85 (Or.inr (slot_ne (Or.inl (hw _ (List.mem_of_getElem? (i := 86) rfl))) (Or.inl (hw _ (List.mem_of_getElem? (i := 15) rfl))) (by decide) (by decide : parseFieldDescriptor "I" = some .int) (by decide : parseFieldDescriptor "[I" = some (.array .int))))
  have F92 := F79.other W85 (Or.inr (slot_ne (Or.inl (hw _ (List.mem_of_getElem? (i := 75) rfl))) (Or.inl (hw _ (List.mem_of_getElem? (i := 15) rfl))) (by decide) (by decide : parseFieldDescriptor "J" = some .long) (by decide : parseFieldDescriptor "[I" = some (.array .int))))
  have E93 := E80.wr W85
  have E94 := Y68.wr W85
  have A95 := A81.other W85 (Ne.symm ne41)
  have A96 := A84.other W85 (Ne.symm ne69)
  have K97 := K82.wr W85 (Or.inl (List.mem_of_getElem? (i := 0) rfl))
  have Z98 : n0 ≤ h85.size := W85.size ▸ Z83
  have N99 := Fr.snoc X85 N67 ga
  obtain ⟨T100, h100, k100, X100, e100, E100, A100, Y100, st100⟩ := newPE X85 hx hZ (hw _ (List.mem_of_getElem? (i := 16) rfl)) e85 (g := (mkF m 27 #[.val (.ref tr)] [(.int (256 : Int32)), (.ref tr)])) rfl (hb hby d1_27) rfl (by decide) (cap := 256) (by decide) (by decide) (by decide) (by decide) (ad := "[J") (by decide)
  obtain ⟨b100, g100⟩ : ∃ z, z = h85.size := ⟨_, rfl⟩
  have ne101 : tr ≠ b100 := fun q => absurd E93.lt (by rw [q, g100]; exact Nat.lt_irrefl _)
  have ne102 : b68 ≠ b100 := fun q => absurd E94.lt (by rw [q, g100]; exact Nat.lt_irrefl _)
  have lt_b68_b100 : @LT.lt Nat instLTNat b68 b100 := Nat.lt_of_lt_of_eq E94.lt g100.symm
  have ne103 : b40 ≠ b100 := fun q => absurd A95.lt (by rw [q, g100]; exact Nat.lt_irrefl _)
  have g104 : n0 ≤ b100 := g100 ▸ Z98
  have s105 : h0.size ≤ b100 := g100 ▸ K97.1
  rw [← g100] at A100 Y100 st100
  have F106 := F86.ext E100
  have F107 := F87.ext E100
  have F108 := F88.ext E100
  have F109 := F89.ext E100
  have F110 := F90.ext E100
  have F111 := F91.ext E100
  have F112 := F92.ext E100
  have E113 := E93.ext E100
  have E114 := E94.ext E100
  have A115 := A95.ext E100
  have A116 := A96.ext E100
  have K117 := K97.ext E100
  have Z118 : n0 ≤ h100.size := Nat.le_trans Z98 E100.1
  have A119 : OwnAV Z h100 b100 .long 256 (fun i => (.long ((fun _ => (0 : Int64)) i))) := OwnAV.new A100 rfl (by decide)
  obtain ⟨T120, h120, X120, e120, W120, st120⟩ := putF X100 hx hZ hown (host := "") (Or.inl (hw _ (List.mem_of_getElem? (i := 17) rfl))) Via.refl e100 F108 E113 (Or.inl (hw _ (List.mem_of_getElem? (i := 18) rfl))) (hw _ (List.mem_of_getElem? (i := 1) rfl)) (ty := (.array .long)) (by decide) rfl rfl (g := (mkF m 29 #[.val (.ref tr)] [(.ref b100), (.ref tr)])) rfl rfl (hb hby d1_29)
  have F121 := F106.other W120 (Or.inr (slot_ne (Or.inl (hw _ (List.mem_of_getElem? (i := 12) rfl))) (Or.inl (hw _ (List.mem_of_getElem? (i := 18) rfl))) (by decide) (by decide : parseFieldDescriptor "[Ljava/lang/Object;" = some (.array (.object "java/lang/Object"))) (by decide : parseFieldDescriptor "[J" = some (.array .long))))
  have F122 := F107.other W120 (Or.inr (slot_ne (Or.inl (hw _ (List.mem_of_getElem? (i := 15) rfl))) (Or.inl (hw _ (List.mem_of_getElem? (i := 18) rfl))) (by decide) (by decide : parseFieldDescriptor "[I" = some (.array .int)) (by decide : parseFieldDescriptor "[J" = some (.array .long))))
  have F123 := F108.same W120
  have F124 := F109.other W120 (Or.inr (slot_ne (Or.inl (hw _ (List.mem_of_getElem? (i := 20) rfl))) (Or.inl (hw _ (List.mem_of_getElem? (i := 18) rfl))) (by decide) (by decide : parseFieldDescriptor "[I" = some (.array .int)) (by decide : parseFieldDescriptor "[J" = some (.array .long))))
  have F125 := F110.other W120 (Or.inr (slot_ne (Or.inl (hw _ (List.mem_of_getElem? (i := 22) rfl))) (Or.inl (hw _ (List.mem_of_getElem? (i := 18) rfl))) (by decide) (by decide : parseFieldDescriptor "[J" = some (.array .long)) (by decide : parseFieldDescriptor "[J" = some (.array .long))))
  have F126 := F111.other W120 (Or.inr (slot_ne (Or.inl (hw _ (List.mem_of_getElem? (i := 86) rfl))) (Or.inl (hw _ (List.mem_of_getElem? (i := 18) rfl))) (by decide) (by decide : parseFieldDescriptor "I" = some .int) (by decide : parseFieldDescriptor "[J" = some (.array .long))))
  have F127 := F112.other W120 (Or.inr (slot_ne (Or.inl (hw _ (List.mem_of_getElem? (i := 75) rfl))) (Or.inl (hw _ (List.mem_of_getElem? (i := 18) rfl))) (by decide) (by decide : parseFieldDescriptor "J" = some .long) (by decide : parseFieldDescriptor "[J" = some (.array .long))))
  have E128 := E113.wr W120
  have E129 := E114.wr W120
  have E130 := Y100.wr W120
  have A131 := A115.other W120 (Ne.symm ne41)
  have A132 := A116.other W120 (Ne.symm ne69)
  have A133 := A119.other W120 (Ne.symm ne101)
  have K134 := K117.wr W120 (Or.inl (List.mem_of_getElem? (i := 0) rfl))
  have Z135 : n0 ≤ h120.size := W120.size ▸ Z118
  have N136 := Fr.snoc X120 N99 ga
  obtain ⟨T137, h137, k137, X137, e137, E137, A137, Y137, st137⟩ := newPE X120 hx hZ (hw _ (List.mem_of_getElem? (i := 13) rfl)) e120 (g := (mkF m 35 #[.val (.ref tr)] [(.int (16 : Int32)), (.ref tr)])) rfl (hb hby d1_35) rfl (by decide) (cap := 16) (by decide) (by decide) (by decide) (by decide) (ad := "[I") (by decide)
  obtain ⟨b137, g137⟩ : ∃ z, z = h120.size := ⟨_, rfl⟩
  have ne138 : tr ≠ b137 := fun q => absurd E128.lt (by rw [q, g137]; exact Nat.lt_irrefl _)
  have ne139 : b68 ≠ b137 := fun q => absurd E129.lt (by rw [q, g137]; exact Nat.lt_irrefl _)
  have ne140 : b100 ≠ b137 := fun q => absurd E130.lt (by rw [q, g137]; exact Nat.lt_irrefl _)
  have ne141 : b40 ≠ b137 := fun q => absurd A131.lt (by rw [q, g137]; exact Nat.lt_irrefl _)
  have g142 : n0 ≤ b137 := g137 ▸ Z135
  have s143 : h0.size ≤ b137 := g137 ▸ K134.1
  rw [← g137] at A137 Y137 st137
  have F144 := F121.ext E137
  have F145 := F122.ext E137
  have F146 := F123.ext E137
  have F147 := F124.ext E137
  have F148 := F125.ext E137
  have F149 := F126.ext E137
  have F150 := F127.ext E137
  have E151 := E128.ext E137
  have E152 := E129.ext E137
  have E153 := E130.ext E137
  have A154 := A131.ext E137
  have A155 := A132.ext E137
  have A156 := A133.ext E137
  have K157 := K134.ext E137
  have Z158 : n0 ≤ h137.size := Nat.le_trans Z135 E137.1
  have A159 : OwnAV Z h137 b137 .int 16 (fun i => (.int ((fun _ => (0 : Int32)) i))) := OwnAV.new A137 rfl (by decide)
  obtain ⟨T160, h160, X160, e160, W160, st160⟩ := putF X137 hx hZ hown (host := "") (Or.inl (hw _ (List.mem_of_getElem? (i := 19) rfl))) Via.refl e137 F147 E151 (Or.inl (hw _ (List.mem_of_getElem? (i := 20) rfl))) (hw _ (List.mem_of_getElem? (i := 1) rfl)) (ty := (.array .int)) (by decide) rfl rfl (g := (mkF m 37 #[.val (.ref tr)] [(.ref b137), (.ref tr)])) rfl rfl (hb hby d1_37)
  have F161 := F144.other W160 (Or.inr (slot_ne (Or.inl (hw _ (List.mem_of_getElem? (i := 12) rfl))) (Or.inl (hw _ (List.mem_of_getElem? (i := 20) rfl))) (by decide) (by decide : parseFieldDescriptor "[Ljava/lang/Object;" = some (.array (.object "java/lang/Object"))) (by decide : parseFieldDescriptor "[I" = some (.array .int))))
  have F162 := F145.other W160 (Or.inr (slot_ne (Or.inl (hw _ (List.mem_of_getElem? (i := 15) rfl))) (Or.inl (hw _ (List.mem_of_getElem? (i := 20) rfl))) (by decide) (by decide : parseFieldDescriptor "[I" = some (.array .int)) (by decide : parseFieldDescriptor "[I" = some (.array .int))))
  have F163 := F146.other W160 (Or.inr (slot_ne (Or.inl (hw _ (List.mem_of_getElem? (i := 18) rfl))) (Or.inl (hw _ (List.mem_of_getElem? (i := 20) rfl))) (by decide) (by decide : parseFieldDescriptor "[J" = some (.array .long)) (by decide : parseFieldDescriptor "[I" = some (.array .int))))
  have F164 := F147.same W160
  have F165 := F148.other W160 (Or.inr (slot_ne (Or.inl (hw _ (List.mem_of_getElem? (i := 22) rfl))) (Or.inl (hw _ (List.mem_of_getElem? (i := 20) rfl))) (by decide) (by decide : parseFieldDescriptor "[J" = some (.array .long)) (by decide : parseFieldDescriptor "[I" = some (.array .int))))
  have F166 := F149.other W160 (Or.inr (slot_ne (Or.inl (hw _ (List.mem_of_getElem? (i := 86) rfl))) (Or.inl (hw _ (List.mem_of_getElem? (i := 20) rfl))) (by decide) (by decide : parseFieldDescriptor "I" = some .int) (by decide : parseFieldDescriptor "[I" = some (.array .int))))
  have F167 := F150.other W160 (Or.inr (slot_ne (Or.inl (hw _ (List.mem_of_getElem? (i := 75) rfl))) (Or.inl (hw _ (List.mem_of_getElem? (i := 20) rfl))) (by decide) (by decide : parseFieldDescriptor "J" = some .long) (by decide : parseFieldDescriptor "[I" = some (.array .int))))
  have E168 := E151.wr W160
  have E169 := E152.wr W160
  have E170 := E153.wr W160
  have E171 := Y137.wr W160
  have A172 := A154.other W160 (Ne.symm ne41)
  have A173 := A155.other W160 (Ne.symm ne69)
  have A174 := A156.other W160 (Ne.symm ne101)
  have A175 := A159.other W160 (Ne.symm ne138)
  have K176 := K157.wr W160 (Or.inl (List.mem_of_getElem? (i := 0) rfl))
  have Z177 : n0 ≤ h160.size := W160.size ▸ Z158
  have N178 := Fr.snoc X160 N136 ga
  obtain ⟨T179, h179, k179, X179, e179, E179, A179, Y179, st179⟩ := newPE X160 hx hZ (hw _ (List.mem_of_getElem? (i := 16) rfl)) e160 (g := (mkF m 43 #[.val (.ref tr)] [(.int (16 : Int32)), (.ref tr)])) rfl (hb hby d1_43) rfl (by decide) (cap := 16) (by decide) (by decide) (by decide) (by decide) (ad := "[J") (by decide)
  obtain ⟨b179, g179⟩ : ∃ z, z = h160.size := ⟨_, rfl⟩
  have ne180 : tr ≠ b179 := fun q => absurd E168.lt (by rw [q, g179]; exact Nat.lt_irrefl _)
  have ne181 : b68 ≠ b179 := fun q => absurd E169.lt (by rw [q, g179]; exact Nat.lt_irrefl _)
  have ne182 : b100 ≠ b179 := fun q => absurd E170.lt (by rw [q, g179]; exact Nat.lt_irrefl _)
  have ne183 : b137 ≠ b179 := fun q => absurd E171.lt (by rw [q, g179]; exact Nat.lt_irrefl _)
  have ne184 : b40 ≠ b179 := fun q => absurd A172.lt (by rw [q, g179]; exact Nat.lt_irrefl _)
  have g185 : n0 ≤ b179 := g179 ▸ Z177
  have s186 : h0.size ≤ b179 := g179 ▸ K176.1
  rw [← g179] at A179 Y179 st179
  have F187 := F161.ext E179
  have F188 := F162.ext E179
  have F189 := F163.ext E179
  have F190 := F164.ext E179
  have F191 := F165.ext E179
  have F192 := F166.ext E179
  have F193 := F167.ext E179
  have E194 := E168.ext E179
  have E195 := E169.ext E179
  have E196 := E170.ext E179
  have E197 := E171.ext E179
  have A198 := A172.ext E179
  have A199 := A173.ext E179
  have A200 := A174.ext E179
  have A201 := A175.ext E179
  have K202 := K176.ext E179
  have Z203 : n0 ≤ h179.size := Nat.le_trans Z177 E179.1
  have A204 : OwnAV Z h179 b179 .long 16 (fun i => (.long ((fun _ => (0 : Int64)) i))) := OwnAV.new A179 rfl (by decide)
  obtain ⟨T205, h205, X205, e205, W205, st205⟩ := putF X179 hx hZ hown (host := "") (Or.inl (hw _ (List.mem_of_getElem? (i := 21) rfl))) Via.refl e179 F191 E194 (Or.inl (hw _ (List.mem_of_getElem? (i := 22) rfl))) (hw _ (List.mem_of_getElem? (i := 1) rfl)) (ty := (.array .long)) (by decide) rfl rfl (g := (mkF m 45 #[.val (.ref tr)] [(.ref b179), (.ref tr)])) rfl rfl (hb hby d1_45)
  have F206 := F187.other W205 (Or.inr (slot_ne (Or.inl (hw _ (List.mem_of_getElem? (i := 12) rfl))) (Or.inl (hw _ (List.mem_of_getElem? (i := 22) rfl))) (by decide) (by decide : parseFieldDescriptor "[Ljava/lang/Object;" = some (.array (.object "java/lang/Object"))) (by decide : parseFieldDescriptor "[J" = some (.array .long))))
  have F207 := F188.other W205 (Or.inr (slot_ne (Or.inl (hw _ (List.mem_of_getElem? (i := 15) rfl))) (Or.inl (hw _ (List.mem_of_getElem? (i := 22) rfl))) (by decide) (by decide : parseFieldDescriptor "[I" = some (.array .int)) (by decide : parseFieldDescriptor "[J" = some (.array .long))))
  have F208 := F189.other W205 (Or.inr (slot_ne (Or.inl (hw _ (List.mem_of_getElem? (i := 18) rfl))) (Or.inl (hw _ (List.mem_of_getElem? (i := 22) rfl))) (by decide) (by decide : parseFieldDescriptor "[J" = some (.array .long)) (by decide : parseFieldDescriptor "[J" = some (.array .long))))
  have F209 := F190.other W205 (Or.inr (slot_ne (Or.inl (hw _ (List.mem_of_getElem? (i := 20) rfl))) (Or.inl (hw _ (List.mem_of_getElem? (i := 22) rfl))) (by decide) (by decide : parseFieldDescriptor "[I" = some (.array .int)) (by decide : parseFieldDescriptor "[J" = some (.array .long))))
  have F210 := F191.same W205
  have F211 := F192.other W205 (Or.inr (slot_ne (Or.inl (hw _ (List.mem_of_getElem? (i := 86) rfl))) (Or.inl (hw _ (List.mem_of_getElem? (i := 22) rfl))) (by decide) (by decide : parseFieldDescriptor "I" = some .int) (by decide : parseFieldDescriptor "[J" = some (.array .long))))
  have F212 := F193.other W205 (Or.inr (slot_ne (Or.inl (hw _ (List.mem_of_getElem? (i := 75) rfl))) (Or.inl (hw _ (List.mem_of_getElem? (i := 22) rfl))) (by decide) (by decide : parseFieldDescriptor "J" = some .long) (by decide : parseFieldDescriptor "[J" = some (.array .long))))
  have E213 := E194.wr W205
  have E214 := E195.wr W205
  have E215 := E196.wr W205
  have E216 := E197.wr W205
  have E217 := Y179.wr W205
  have A218 := A198.other W205 (Ne.symm ne41)
  have A219 := A199.other W205 (Ne.symm ne69)
  have A220 := A200.other W205 (Ne.symm ne101)
  have A221 := A201.other W205 (Ne.symm ne138)
  have A222 := A204.other W205 (Ne.symm ne180)
  have K223 := K202.wr W205 (Or.inl (List.mem_of_getElem? (i := 0) rfl))
  have Z224 : n0 ≤ h205.size := W205.size ▸ Z203
  have N225 := Fr.snoc X205 N178 ga
  have k226 : ∀ t, Steps p.tables e below (T205.setTop (mkF m 48 #[.val (.ref tr)] [])) t → Steps p.tables e below (s₁.setTop (entryFrame m #[(.ref tr)] 1)) t := fun t hk => pre0 t (by
    show Steps p.tables e below (s₁.setTop (mkF m 0 #[.val (.ref tr)] [])) _
    refine XS.aloadN X0.here hx rfl (hb hby d1_0) rfl rfl ?_
    refine st39 _ ?_
    refine XS.aloadN X39.here hx rfl (hb hby d1_4) rfl rfl ?_
    refine XS.sipush X39.here hx rfl (hb hby d1_5) ?_
    show Steps p.tables e below (T39.setTop (mkF m 8 #[.val (.ref tr)] [(.int (256 : Int32)), (.ref tr)])) _
    refine st40 _ ?_
    refine st55 _ ?_
    refine XS.aloadN X55.here hx rfl (hb hby d1_14) rfl rfl ?_
    refine XS.sipush X55.here hx rfl (hb hby d1_15) ?_
    show Steps p.tables e below (T55.setTop (mkF m 18 #[.val (.ref tr)] [(.int (256 : Int32)), (.ref tr)])) _
    refine st68 _ ?_
    refine st85 _ ?_
    refine XS.aloadN X85.here hx rfl (hb hby d1_23) rfl rfl ?_
    refine XS.sipush X85.here hx rfl (hb hby d1_24) ?_
    show Steps p.tables e below (T85.setTop (mkF m 27 #[.val (.ref tr)] [(.int (256 : Int32)), (.ref tr)])) _
    refine st100 _ ?_
    refine st120 _ ?_
    refine XS.aloadN X120.here hx rfl (hb hby d1_32) rfl rfl ?_
    refine XS.bipush X120.here hx rfl (hb hby d1_33) ?_
    show Steps p.tables e below (T120.setTop (mkF m 35 #[.val (.ref tr)] [(.int (16 : Int32)), (.ref tr)])) _
    refine st137 _ ?_
    refine st160 _ ?_
    refine XS.aloadN X160.here hx rfl (hb hby d1_40) rfl rfl ?_
    refine XS.bipush X160.here hx rfl (hb hby d1_41) ?_
    show Steps p.tables e below (T160.setTop (mkF m 43 #[.val (.ref tr)] [(.int (16 : Int32)), (.ref tr)])) _
    refine st179 _ ?_
    refine st205 _ ?_
    exact hk)
  obtain ⟨fs, hr, hrun, hended, hW, hsame⟩ := X205.leave (v := none) (fun _ => rfl)
  refine ⟨_, _, k226 _ ?_, hrun, hended, _, _, rfl, ?_, ⟨_, rfl⟩, hW, hsame.mono (by decide) (by decide)⟩
  · show Steps p.tables e below (T205.setTop (mkF m 48 #[.val (.ref tr)] [])) _
    exact X205.returnOut hx Bd.returns (hb hby d1_48) hr
  · show Q1 Z tr h0 n0 _ T205.heap _
    rw [e205]
    exact ⟨rfl, N225, K223, b40, b68, b100, s43, lt_b40_b68, lt_b68_b100, ⟨E213, F206, F207, F208, F211, F212, A218, ⟨_, A219⟩, ⟨_, A220⟩⟩⟩
theorem d10_0 : decode prog_49_method_8_code 0 = .ok (.aload_n 0, 1) := by decide +kernel
theorem d10_1 : decode prog_49_method_8_code 1 = .ok (.getfield 53, 3) := by decide +kernel
theorem d10_4 : decode prog_49_method_8_code 4 = .ok (.lreturn, 1) := by decide +kernel
theorem pn_10 : plainName "com/example/faultline/faultline/engine/Trail" = true := by first | (simp [plainName, overriddenIn]; done) | decide +kernel
theorem ef_10 (m : MethodId) (tr : Addr) : entryFrame m #[(.ref tr)] 1 = (mkF m 0 #[.val (.ref tr)] []) := by first | (simp [entryFrame, mkF, argsToLocals, Value.category]; done) | rfl
def Q10 (Z : State) (tr : Addr) (w1 : Int64) (h0 : Heap) (n0 : Nat) (v : Option Value) (h : Heap) (L : List Loc) : Prop := v = some (.long w1) ∧ Fr n0 L ∧ h = h0
set_option maxRecDepth 65536 in
set_option maxHeartbeats 40000000 in
theorem rm10 (l : Launch) (Z : State) (a0 : Array Value) (hw : ∀ d ∈ tables_1, d.before a0 Z = true) (ws : List Jvm.Cond) (tr : Addr) (w1 : Int64) (h0 : Heap) (n0 : Nat) (Z0 : n0 ≤ h0.size) (Fv : Fld Z h0 tr "com/example/faultline/faultline/engine/Trail" "world" "J" (.long w1)) :
    MetFree l (⟨"com/example/faultline/faultline/engine/Trail", "world", "()J"⟩ : MethodName) (head1 (Jvm.Cond.code (⟨"com/example/faultline/faultline/engine/Trail", "world", "()J"⟩ : MethodName) prog_49_method_8_code 1 (some .long) :: ws) ({ frames := 0, cells := 0, slots := 0, locals := 0 } : Room)) (fun a U => a = #[(.ref tr)] ∧ Z.Warmed39 U.vm ∧ U.heap = h0) (fun _ _ _ _ _ => True) (fun _ U o U' => ∃ v L, o = .returned v ∧ Q10 Z tr w1 h0 n0 v U'.heap L ∧ FrameEnd U o U' L ({ frames := 0, cells := 0, slots := 0, locals := 0 } : Room).cells ({ frames := 0, cells := 0, slots := 0, locals := 0 } : Room).slots) := by
  refine MetFree.of_bodySF (plainFor_of_name pn_10) hisR ?_
  intro p e s m args below meth c s₁ Bd hml0 hP hK
  obtain ⟨rfl, hZ, hh⟩ := hP
  have hx := Bd.exec
  have hby := Bd.bytes
  have hml : c.maxLocals = 1 := hml0
  have hown : s.vm.findClass "com/example/faultline/faultline/engine/Trail" = some m.cls := findClass_of_methodNamed Bd.named
  have hnm := (name_of_methodNamed Bd.named Bd.method).1
  have X0 : Stand p l e ({ frames := 0, cells := 0, slots := 0, locals := 0 } : Room) s m #[(.ref tr)] below meth c s₁ [] 0 0 := Stand.of_body Bd
  have e0 : s₁.heap = h0 := by rw [← hh, Bd.state]; rfl
  have N0 := Fr.nil n0
  have pre0 : ∀ t, Steps p.tables e below (s₁.setTop (mkF m 0 #[.val (.ref tr)] [])) t → Steps p.tables e below (s₁.setTop (entryFrame m #[(.ref tr)] 1)) t := fun t k => castTop (ef_10 m tr) k
  obtain ⟨T227, X227, e227, st227⟩ := getF X0 hx hZ hown (host := "") (Or.inl (hw _ (List.mem_of_getElem? (i := 74) rfl))) Via.refl e0 Fv (g := (mkF m 1 #[.val (.ref tr)] [(.ref tr)])) rfl rfl (hb hby d10_1)
  have k228 : ∀ t, Steps p.tables e below (T227.setTop (mkF m 4 #[.val (.ref tr)] [(.long w1)])) t → Steps p.tables e below (s₁.setTop (entryFrame m #[(.ref tr)] 1)) t := fun t hk => pre0 t (by
    show Steps p.tables e below (s₁.setTop (mkF m 0 #[.val (.ref tr)] [])) _
    refine XS.aloadN X0.here hx rfl (hb hby d10_0) rfl rfl ?_
    refine st227 _ ?_
    exact hk)
  obtain ⟨fs, hr, hrun, hended, hW, hsame⟩ := X227.leave (v := some (.long w1)) (fun h => by rw [Bd.returns] at h; cases h)
  refine ⟨_, _, k228 _ ?_, hrun, hended, _, _, rfl, ?_, ⟨_, rfl⟩, hW, hsame.mono (by decide) (by decide)⟩
  · show Steps p.tables e below (T227.setTop (mkF m 4 #[.val (.ref tr)] [(.long w1)])) _
    exact retOut X227 hx Bd.returns rfl (Or.inr (Or.inl ⟨rfl, rfl, _, rfl⟩)) (hb hby d10_4) hr
  · show Q10 Z tr w1 h0 n0 _ T227.heap _
    rw [e227]
    exact ⟨rfl, N0, rfl⟩
theorem d12_0 : decode prog_49_method_9_code 0 = .ok (.aload_n 0, 1) := by decide +kernel
theorem d12_1 : decode prog_49_method_9_code 1 = .ok (.getfield 50, 3) := by decide +kernel
theorem d12_4 : decode prog_49_method_9_code 4 = .ok (.aload_n 0, 1) := by decide +kernel
theorem d12_5 : decode prog_49_method_9_code 5 = .ok (.getfield 7, 3) := by decide +kernel
theorem d12_8 : decode prog_49_method_9_code 8 = .ok (.arraylength, 1) := by decide +kernel
theorem d12_9 : decode prog_49_method_9_code 9 = .ok (.if_icmp .ne 54, 3) := by decide +kernel
theorem d12_12 : decode prog_49_method_9_code 12 = .ok (.aload_n 0, 1) := by decide +kernel
theorem d12_13 : decode prog_49_method_9_code 13 = .ok (.aload_n 0, 1) := by decide +kernel
theorem d12_14 : decode prog_49_method_9_code 14 = .ok (.getfield 7, 3) := by decide +kernel
theorem d12_17 : decode prog_49_method_9_code 17 = .ok (.aload_n 0, 1) := by decide +kernel
theorem d12_18 : decode prog_49_method_9_code 18 = .ok (.getfield 50, 3) := by decide +kernel
theorem d12_21 : decode prog_49_method_9_code 21 = .ok (.iconst 2, 1) := by decide +kernel
theorem d12_22 : decode prog_49_method_9_code 22 = .ok (.imul, 1) := by decide +kernel
theorem d12_23 : decode prog_49_method_9_code 23 = .ok (.invokestatic 79, 3) := by decide +kernel
theorem d12_26 : decode prog_49_method_9_code 26 = .ok (.putfield 7, 3) := by decide +kernel
theorem d12_29 : decode prog_49_method_9_code 29 = .ok (.aload_n 0, 1) := by decide +kernel
theorem d12_30 : decode prog_49_method_9_code 30 = .ok (.aload_n 0, 1) := by decide +kernel
theorem d12_31 : decode prog_49_method_9_code 31 = .ok (.getfield 13, 3) := by decide +kernel
theorem d12_34 : decode prog_49_method_9_code 34 = .ok (.aload_n 0, 1) := by decide +kernel
theorem d12_35 : decode prog_49_method_9_code 35 = .ok (.getfield 50, 3) := by decide +kernel
theorem d12_38 : decode prog_49_method_9_code 38 = .ok (.iconst 2, 1) := by decide +kernel
theorem d12_39 : decode prog_49_method_9_code 39 = .ok (.imul, 1) := by decide +kernel
theorem d12_40 : decode prog_49_method_9_code 40 = .ok (.invokestatic 41, 3) := by decide +kernel
theorem d12_43 : decode prog_49_method_9_code 43 = .ok (.putfield 13, 3) := by decide +kernel
theorem d12_46 : decode prog_49_method_9_code 46 = .ok (.aload_n 0, 1) := by decide +kernel
theorem d12_47 : decode prog_49_method_9_code 47 = .ok (.aload_n 0, 1) := by decide +kernel
theorem d12_48 : decode prog_49_method_9_code 48 = .ok (.getfield 17, 3) := by decide +kernel
theorem d12_51 : decode prog_49_method_9_code 51 = .ok (.aload_n 0, 1) := by decide +kernel
theorem d12_52 : decode prog_49_method_9_code 52 = .ok (.getfield 50, 3) := by decide +kernel
theorem d12_55 : decode prog_49_method_9_code 55 = .ok (.iconst 2, 1) := by decide +kernel
theorem d12_56 : decode prog_49_method_9_code 56 = .ok (.imul, 1) := by decide +kernel
theorem d12_57 : decode prog_49_method_9_code 57 = .ok (.invokestatic 47, 3) := by decide +kernel
theorem d12_60 : decode prog_49_method_9_code 60 = .ok (.putfield 17, 3) := by decide +kernel
theorem d12_63 : decode prog_49_method_9_code 63 = .ok (.aload_n 0, 1) := by decide +kernel
theorem d12_64 : decode prog_49_method_9_code 64 = .ok (.getfield 7, 3) := by decide +kernel
theorem d12_67 : decode prog_49_method_9_code 67 = .ok (.aload_n 0, 1) := by decide +kernel
theorem d12_68 : decode prog_49_method_9_code 68 = .ok (.getfield 50, 3) := by decide +kernel
theorem d12_71 : decode prog_49_method_9_code 71 = .ok (.aload_n 1, 1) := by decide +kernel
theorem d12_72 : decode prog_49_method_9_code 72 = .ok (.aastore, 1) := by decide +kernel
theorem d12_73 : decode prog_49_method_9_code 73 = .ok (.aload_n 0, 1) := by decide +kernel
theorem d12_74 : decode prog_49_method_9_code 74 = .ok (.getfield 13, 3) := by decide +kernel
theorem d12_77 : decode prog_49_method_9_code 77 = .ok (.aload_n 0, 1) := by decide +kernel
theorem d12_78 : decode prog_49_method_9_code 78 = .ok (.getfield 50, 3) := by decide +kernel
theorem d12_81 : decode prog_49_method_9_code 81 = .ok (.iload_n 2, 1) := by decide +kernel
theorem d12_82 : decode prog_49_method_9_code 82 = .ok (.iastore, 1) := by decide +kernel
theorem d12_83 : decode prog_49_method_9_code 83 = .ok (.aload_n 0, 1) := by decide +kernel
theorem d12_84 : decode prog_49_method_9_code 84 = .ok (.getfield 17, 3) := by decide +kernel
theorem d12_87 : decode prog_49_method_9_code 87 = .ok (.aload_n 0, 1) := by decide +kernel
theorem d12_88 : decode prog_49_method_9_code 88 = .ok (.getfield 50, 3) := by decide +kernel
theorem d12_91 : decode prog_49_method_9_code 91 = .ok (.lload_n 3, 1) := by decide +kernel
theorem d12_92 : decode prog_49_method_9_code 92 = .ok (.lastore, 1) := by decide +kernel
theorem d12_93 : decode prog_49_method_9_code 93 = .ok (.aload_n 0, 1) := by decide +kernel
theorem d12_94 : decode prog_49_method_9_code 94 = .ok (.dup, 1) := by decide +kernel
theorem d12_95 : decode prog_49_method_9_code 95 = .ok (.getfield 50, 3) := by decide +kernel
theorem d12_98 : decode prog_49_method_9_code 98 = .ok (.iconst 1, 1) := by decide +kernel
theorem d12_99 : decode prog_49_method_9_code 99 = .ok (.iadd, 1) := by decide +kernel
theorem d12_100 : decode prog_49_method_9_code 100 = .ok (.putfield 50, 3) := by decide +kernel
theorem d12_103 : decode prog_49_method_9_code 103 = .ok (.return_, 1) := by decide +kernel
theorem pn_12 : plainName "com/example/faultline/faultline/engine/Trail" = true := by first | (simp [plainName, overriddenIn]; done) | decide +kernel
theorem ef_12 (m : MethodId) (tr : Addr) (yy : Addr) (ii : Int32) (vv : Int64) : entryFrame m #[(.ref tr), (.ref yy), (.int ii), (.long vv)] 5 = (mkF m 0 #[.val (.ref tr), .val (.ref yy), .val (.int ii), .val (.long vv), .second] []) := by first | (simp [entryFrame, mkF, argsToLocals, Value.category]; done) | rfl
def Q12 (Z : State) (tr : Addr) (yy : Addr) (ii : Int32) (vv : Int64) (ow : Addr) (ix : Addr) (sv : Addr) (tp : Int32) (h0 : Heap) (n0 : Nat) (v : Option Value) (h : Heap) (L : List Loc) : Prop := v = none ∧ Fr n0 L ∧ Keep h0 h [tr, ow, ix, sv] ∧ OwnTr Z h tr ow ix sv (tp + (1 : Int32))
set_option maxRecDepth 65536 in
set_option maxHeartbeats 40000000 in
theorem rm12 (l : Launch) (Z : State) (a0 : Array Value) (hw : ∀ d ∈ tables_1, d.before a0 Z = true) (ws : List Jvm.Cond) (tr : Addr) (yy : Addr) (ii : Int32) (vv : Int64) (ow : Addr) (ix : Addr) (sv : Addr) (tp : Int32) (h0 : Heap) (n0 : Nat) (Z0 : n0 ≤ h0.size) (hT : OwnTr Z h0 tr ow ix sv tp) (hap : OwnApart tr ow ix sv) (hnew : OwnNew n0 tr ow ix sv) (ht0 : 0 ≤ tp.toInt) (ht1 : tp.toInt < 256) (Iy : Ins Z h0 yy "java/lang/Object" true) :
    MetFree l (⟨"com/example/faultline/faultline/engine/Trail", "record", "(Ljava/lang/Object;IJ)V"⟩ : MethodName) (head1 (Jvm.Cond.code (⟨"com/example/faultline/faultline/engine/Trail", "record", "(Ljava/lang/Object;IJ)V"⟩ : MethodName) prog_49_method_9_code 5 none :: ws) ({ frames := 0, cells := 0, slots := 0, locals := 0 } : Room)) (fun a U => a = #[(.ref tr), (.ref yy), (.int ii), (.long vv)] ∧ Z.Warmed39 U.vm ∧ U.heap = h0) (fun _ _ _ _ _ => True) (fun _ U o U' => ∃ v L, o = .returned v ∧ Q12 Z tr yy ii vv ow ix sv tp h0 n0 v U'.heap L ∧ FrameEnd U o U' L ({ frames := 0, cells := 0, slots := 0, locals := 0 } : Room).cells ({ frames := 0, cells := 0, slots := 0, locals := 0 } : Room).slots) := by
  refine MetFree.of_bodySF (plainFor_of_name pn_12) hisR ?_
  intro p e s m args below meth c s₁ Bd hml0 hP hK
  obtain ⟨rfl, hZ, hh⟩ := hP
  have hx := Bd.exec
  have hby := Bd.bytes
  have hml : c.maxLocals = 5 := hml0
  have hown : s.vm.findClass "com/example/faultline/faultline/engine/Trail" = some m.cls := findClass_of_methodNamed Bd.named
  have hnm := (name_of_methodNamed Bd.named Bd.method).1
  have X0 : Stand p l e ({ frames := 0, cells := 0, slots := 0, locals := 0 } : Room) s m #[(.ref tr), (.ref yy), (.int ii), (.long vv)] below meth c s₁ [] 0 0 := Stand.of_body Bd
  have e0 : s₁.heap = h0 := by rw [← hh, Bd.state]; rfl
  have N0 := Fr.nil n0
  have pre0 : ∀ t, Steps p.tables e below (s₁.setTop (mkF m 0 #[.val (.ref tr), .val (.ref yy), .val (.int ii), .val (.long vv), .second] [])) t → Steps p.tables e below (s₁.setTop (entryFrame m #[(.ref tr), (.ref yy), (.int ii), (.long vv)] 5)) t := fun t k => castTop (ef_12 m tr yy ii vv) k
  obtain ⟨u229E, u229a, u229b, u229c, u229d, u229e, u229o, ⟨u229fi, u229x⟩, ⟨u229fs, u229s⟩⟩ := hT
  have hne : ¬ tp = (256 : Int32) := fun q => by
    rw [q] at ht1; exact absurd ht1 (by decide)
  obtain ⟨T230, X230, e230, st230⟩ := getF X0 hx hZ hown (host := "") (Or.inl (hw _ (List.mem_of_getElem? (i := 85) rfl))) Via.refl e0 u229d (g := (mkF m 1 #[.val (.ref tr), .val (.ref yy), .val (.int ii), .val (.long vv), .second] [(.ref tr)])) rfl rfl (hb hby d12_1)
  obtain ⟨T231, X231, e231, st231⟩ := getF X230 hx hZ hown (host := "") (Or.inl (hw _ (List.mem_of_getElem? (i := 11) rfl))) Via.refl e230 u229a (g := (mkF m 5 #[.val (.ref tr), .val (.ref yy), .val (.int ii), .val (.long vv), .second] [(.ref tr), (.int tp)])) rfl rfl (hb hby d12_5)
  obtain ⟨T232, X232, e232, st232⟩ := getF X231 hx hZ hown (host := "") (Or.inl (hw _ (List.mem_of_getElem? (i := 11) rfl))) Via.refl e231 u229a (g := (mkF m 64 #[.val (.ref tr), .val (.ref yy), .val (.int ii), .val (.long vv), .second] [(.ref tr)])) rfl rfl (hb hby d12_64)
  obtain ⟨T233, X233, e233, st233⟩ := getF X232 hx hZ hown (host := "") (Or.inl (hw _ (List.mem_of_getElem? (i := 85) rfl))) Via.refl e232 u229d (g := (mkF m 68 #[.val (.ref tr), .val (.ref yy), .val (.int ii), .val (.long vv), .second] [(.ref tr), (.ref ow)])) rfl rfl (hb hby d12_68)
  obtain ⟨T234, h234, X234, e234, W234, st234⟩ := own_oast X233 hx hZ e233 u229o (k := tp.toInt.toNat) (own_idx ht0 ht1) Iy (g := (mkF m 72 #[.val (.ref tr), .val (.ref yy), .val (.int ii), .val (.long vv), .second] [(.ref yy), (.int tp), (.ref ow)])) rfl rfl (hb hby d12_72)
  have A235 := u229o.same W234
  have F236 := u229a.other W234 (Or.inl hap.1)
  have F237 := u229b.other W234 (Or.inl hap.1)
  have F238 := u229c.other W234 (Or.inl hap.1)
  have F239 := u229d.other W234 (Or.inl hap.1)
  have F240 := u229e.other W234 (Or.inl hap.1)
  have E241 := u229E.wr W234
  have A242 := u229x.other W234 (Ne.symm hap.2.2.2.1)
  have A243 := u229s.other W234 (Ne.symm hap.2.2.2.2.1)
  have K244 := (Keep.refl h0 [tr, ow, ix, sv]).wr W234 (Or.inl (List.mem_of_getElem? (i := 1) rfl))
  have Z245 : n0 ≤ h234.size := W234.size ▸ Z0
  have N246 := Fr.snoc X234 N0 hnew.2.1
  obtain ⟨T247, X247, e247, st247⟩ := getF X234 hx hZ hown (host := "") (Or.inl (hw _ (List.mem_of_getElem? (i := 14) rfl))) Via.refl e234 F237 (g := (mkF m 74 #[.val (.ref tr), .val (.ref yy), .val (.int ii), .val (.long vv), .second] [(.ref tr)])) rfl rfl (hb hby d12_74)
  obtain ⟨T248, X248, e248, st248⟩ := getF X247 hx hZ hown (host := "") (Or.inl (hw _ (List.mem_of_getElem? (i := 85) rfl))) Via.refl e247 F239 (g := (mkF m 78 #[.val (.ref tr), .val (.ref yy), .val (.int ii), .val (.long vv), .second] [(.ref tr), (.ref ix)])) rfl rfl (hb hby d12_78)
  obtain ⟨T249, h249, X249, e249, W249, st249⟩ := own_iast X248 hx hZ e248 A242 (k := tp.toInt.toNat) (own_idx ht0 ht1) (g := (mkF m 82 #[.val (.ref tr), .val (.ref yy), .val (.int ii), .val (.long vv), .second] [(.int ii), (.int tp), (.ref ix)])) rfl rfl (hb hby d12_82)
  have A250 := A242.storeI W249
  have F251 := F236.other W249 (Or.inl hap.2.1)
  have F252 := F237.other W249 (Or.inl hap.2.1)
  have F253 := F238.other W249 (Or.inl hap.2.1)
  have F254 := F239.other W249 (Or.inl hap.2.1)
  have F255 := F240.other W249 (Or.inl hap.2.1)
  have E256 := E241.wr W249
  have A257 := A235.other W249 hap.2.2.2.1
  have A258 := A243.other W249 (Ne.symm hap.2.2.2.2.2)
  have K259 := K244.wr W249 (Or.inl (List.mem_of_getElem? (i := 2) rfl))
  have Z260 : n0 ≤ h249.size := W249.size ▸ Z245
  have N261 := Fr.snoc X249 N246 hnew.2.2.1
  obtain ⟨T262, X262, e262, st262⟩ := getF X249 hx hZ hown (host := "") (Or.inl (hw _ (List.mem_of_getElem? (i := 17) rfl))) Via.refl e249 F253 (g := (mkF m 84 #[.val (.ref tr), .val (.ref yy), .val (.int ii), .val (.long vv), .second] [(.ref tr)])) rfl rfl (hb hby d12_84)
  obtain ⟨T263, X263, e263, st263⟩ := getF X262 hx hZ hown (host := "") (Or.inl (hw _ (List.mem_of_getElem? (i := 85) rfl))) Via.refl e262 F254 (g := (mkF m 88 #[.val (.ref tr), .val (.ref yy), .val (.int ii), .val (.long vv), .second] [(.ref tr), (.ref sv)])) rfl rfl (hb hby d12_88)
  obtain ⟨T264, h264, X264, e264, W264, st264⟩ := own_last X263 hx hZ e263 A258 (k := tp.toInt.toNat) (own_idx ht0 ht1) (g := (mkF m 92 #[.val (.ref tr), .val (.ref yy), .val (.int ii), .val (.long vv), .second] [(.long vv), (.int tp), (.ref sv)])) rfl rfl (hb hby d12_92)
  have A265 := A258.storeJ W264
  have F266 := F251.other W264 (Or.inl hap.2.2.1)
  have F267 := F252.other W264 (Or.inl hap.2.2.1)
  have F268 := F253.other W264 (Or.inl hap.2.2.1)
  have F269 := F254.other W264 (Or.inl hap.2.2.1)
  have F270 := F255.other W264 (Or.inl hap.2.2.1)
  have E271 := E256.wr W264
  have A272 := A257.other W264 hap.2.2.2.2.1
  have A273 := A250.other W264 hap.2.2.2.2.2
  have K274 := K259.wr W264 (Or.inl (List.mem_of_getElem? (i := 3) rfl))
  have Z275 : n0 ≤ h264.size := W264.size ▸ Z260
  have N276 := Fr.snoc X264 N261 hnew.2.2.2
  obtain ⟨T277, X277, e277, st277⟩ := getF X264 hx hZ hown (host := "") (Or.inl (hw _ (List.mem_of_getElem? (i := 85) rfl))) Via.refl e264 F269 (g := (mkF m 95 #[.val (.ref tr), .val (.ref yy), .val (.int ii), .val (.long vv), .second] [(.ref tr), (.ref tr)])) rfl rfl (hb hby d12_95)
  obtain ⟨T278, h278, X278, e278, W278, st278⟩ := putF X277 hx hZ hown (host := "") (Or.inl (hw _ (List.mem_of_getElem? (i := 85) rfl))) Via.refl e277 F269 E271 (Or.inl (hw _ (List.mem_of_getElem? (i := 86) rfl))) (hw _ (List.mem_of_getElem? (i := 1) rfl)) (ty := .int) (by decide) rfl rfl (g := (mkF m 100 #[.val (.ref tr), .val (.ref yy), .val (.int ii), .val (.long vv), .second] [(.int (tp + (1 : Int32))), (.ref tr)])) rfl rfl (hb hby d12_100)
  have F279 := F266.other W278 (Or.inr (slot_ne (Or.inl (hw _ (List.mem_of_getElem? (i := 12) rfl))) (Or.inl (hw _ (List.mem_of_getElem? (i := 86) rfl))) (by decide) (by decide : parseFieldDescriptor "[Ljava/lang/Object;" = some (.array (.object "java/lang/Object"))) (by decide : parseFieldDescriptor "I" = some .int)))
  have F280 := F267.other W278 (Or.inr (slot_ne (Or.inl (hw _ (List.mem_of_getElem? (i := 15) rfl))) (Or.inl (hw _ (List.mem_of_getElem? (i := 86) rfl))) (by decide) (by decide : parseFieldDescriptor "[I" = some (.array .int)) (by decide : parseFieldDescriptor "I" = some .int)))
  have F281 := F268.other W278 (Or.inr (slot_ne (Or.inl (hw _ (List.mem_of_getElem? (i := 18) rfl))) (Or.inl (hw _ (List.mem_of_getElem? (i := 86) rfl))) (by decide) (by decide : parseFieldDescriptor "[J" = some (.array .long)) (by decide : parseFieldDescriptor "I" = some .int)))
  have F282 := F269.same W278
  have F283 := F270.other W278 (Or.inr (slot_ne (Or.inl (hw _ (List.mem_of_getElem? (i := 75) rfl))) (Or.inl (hw _ (List.mem_of_getElem? (i := 86) rfl))) (by decide) (by decide : parseFieldDescriptor "J" = some .long) (by decide : parseFieldDescriptor "I" = some .int)))
  have E284 := E271.wr W278
  have A285 := A272.other W278 (Ne.symm hap.1)
  have A286 := A273.other W278 (Ne.symm hap.2.1)
  have A287 := A265.other W278 (Ne.symm hap.2.2.1)
  have K288 := K274.wr W278 (Or.inl (List.mem_of_getElem? (i := 0) rfl))
  have Z289 : n0 ≤ h278.size := W278.size ▸ Z275
  have N290 := Fr.snoc X278 N276 hnew.1
  have k291 : ∀ t, Steps p.tables e below (T278.setTop (mkF m 103 #[.val (.ref tr), .val (.ref yy), .val (.int ii), .val (.long vv), .second] [])) t → Steps p.tables e below (s₁.setTop (entryFrame m #[(.ref tr), (.ref yy), (.int ii), (.long vv)] 5)) t := fun t hk => pre0 t (by
    show Steps p.tables e below (s₁.setTop (mkF m 0 #[.val (.ref tr), .val (.ref yy), .val (.int ii), .val (.long vv), .second] [])) _
    refine XS.aloadN X0.here hx rfl (hb hby d12_0) rfl rfl ?_
    refine st230 _ ?_
    refine XS.aloadN X230.here hx rfl (hb hby d12_4) rfl rfl ?_
    refine st231 _ ?_
    show Steps p.tables e below (T231.setTop (mkF m 8 #[.val (.ref tr), .val (.ref yy), .val (.int ii), .val (.long vv), .second] [(.ref ow), (.int tp)])) _
    refine own_olen X231 hx hZ e231 u229o (g := (mkF m 8 #[.val (.ref tr), .val (.ref yy), .val (.int ii), .val (.long vv), .second] [(.ref ow), (.int tp)])) rfl rfl (hb hby d12_8) _ ?_
    refine XS.icmpYes X231.here hx rfl (pc0 := 9) (pc' := 63) rfl (hb hby d12_9) rfl (feq hne).2 (by decide) (by decide) ?_
    refine XS.aloadN X231.here hx rfl (hb hby d12_63) rfl rfl ?_
    refine st232 _ ?_
    show Steps p.tables e below (T232.setTop (mkF m 67 #[.val (.ref tr), .val (.ref yy), .val (.int ii), .val (.long vv), .second] [(.ref ow)])) _
    refine XS.aloadN X232.here hx rfl (hb hby d12_67) rfl rfl ?_
    refine st233 _ ?_
    refine XS.aloadN X233.here hx rfl (hb hby d12_71) rfl rfl ?_
    refine st234 _ ?_
    show Steps p.tables e below (T234.setTop (mkF m 73 #[.val (.ref tr), .val (.ref yy), .val (.int ii), .val (.long vv), .second] [])) _
    refine XS.aloadN X234.here hx rfl (hb hby d12_73) rfl rfl ?_
    refine st247 _ ?_
    refine XS.aloadN X247.here hx rfl (hb hby d12_77) rfl rfl ?_
    refine st248 _ ?_
    show Steps p.tables e below (T248.setTop (mkF m 81 #[.val (.ref tr), .val (.ref yy), .val (.int ii), .val (.long vv), .second] [(.int tp), (.ref ix)])) _
    refine XS.iloadN X248.here hx rfl (hb hby d12_81) rfl ?_
    refine st249 _ ?_
    refine XS.aloadN X249.here hx rfl (hb hby d12_83) rfl rfl ?_
    refine st262 _ ?_
    show Steps p.tables e below (T262.setTop (mkF m 87 #[.val (.ref tr), .val (.ref yy), .val (.int ii), .val (.long vv), .second] [(.ref sv)])) _
    refine XS.aloadN X262.here hx rfl (hb hby d12_87) rfl rfl ?_
    refine st263 _ ?_
    refine XS.lloadN X263.here hx rfl (hb hby d12_91) rfl ?_
    refine st264 _ ?_
    show Steps p.tables e below (T264.setTop (mkF m 93 #[.val (.ref tr), .val (.ref yy), .val (.int ii), .val (.long vv), .second] [])) _
    refine XS.aloadN X264.here hx rfl (hb hby d12_93) rfl rfl ?_
    refine XS.dup X264.here hx rfl (hb hby d12_94) rfl rfl ?_
    refine st277 _ ?_
    refine XS.iconst X277.here hx rfl (hb hby d12_98) ?_
    show Steps p.tables e below (T277.setTop (mkF m 99 #[.val (.ref tr), .val (.ref yy), .val (.int ii), .val (.long vv), .second] [(.int (1 : Int32)), (.int tp), (.ref tr)])) _
    refine XS.iadd X277.here hx rfl (hb hby d12_99) rfl ?_
    refine st278 _ ?_
    exact hk)
  obtain ⟨fs, hr, hrun, hended, hW, hsame⟩ := X278.leave (v := none) (fun _ => rfl)
  refine ⟨_, _, k291 _ ?_, hrun, hended, _, _, rfl, ?_, ⟨_, rfl⟩, hW, hsame.mono (by decide) (by decide)⟩
  · show Steps p.tables e below (T278.setTop (mkF m 103 #[.val (.ref tr), .val (.ref yy), .val (.int ii), .val (.long vv), .second] [])) _
    exact X278.returnOut hx Bd.returns (hb hby d12_103) hr
  · show Q12 Z tr yy ii vv ow ix sv tp h0 n0 _ T278.heap _
    rw [e278]
    exact ⟨rfl, N290, K288, ⟨E284, F279, F280, F281, F282, F283, A285, ⟨_, A286⟩, ⟨_, A287⟩⟩⟩
theorem d11_0 : decode prog_49_method_3_code 0 = .ok (.aload_n 0, 1) := by decide +kernel
theorem d11_1 : decode prog_49_method_3_code 1 = .ok (.aload_n 1, 1) := by decide +kernel
theorem d11_2 : decode prog_49_method_3_code 2 = .ok (.iload_n 2, 1) := by decide +kernel
theorem d11_3 : decode prog_49_method_3_code 3 = .ok (.aload_n 1, 1) := by decide +kernel
theorem d11_4 : decode prog_49_method_3_code 4 = .ok (.iload_n 2, 1) := by decide +kernel
theorem d11_5 : decode prog_49_method_3_code 5 = .ok (.laload, 1) := by decide +kernel
theorem d11_6 : decode prog_49_method_3_code 6 = .ok (.invokevirtual 27, 3) := by decide +kernel
theorem d11_9 : decode prog_49_method_3_code 9 = .ok (.return_, 1) := by decide +kernel
theorem pn_11 : plainName "com/example/faultline/faultline/engine/Trail" = true := by first | (simp [plainName, overriddenIn]; done) | decide +kernel
theorem ef_11 (m : MethodId) (tr : Addr) (ar : Addr) (ii : Int32) : entryFrame m #[(.ref tr), (.ref ar), (.int ii)] 3 = (mkF m 0 #[.val (.ref tr), .val (.ref ar), .val (.int ii)] []) := by first | (simp [entryFrame, mkF, argsToLocals, Value.category]; done) | rfl
def Q11 (Z : State) (tr : Addr) (ar : Addr) (ii : Int32) (ow : Addr) (ix : Addr) (sv : Addr) (tp : Int32) (nn : Nat) (kk : Nat) (fa : Nat → Int64) (h0 : Heap) (n0 : Nat) (v : Option Value) (h : Heap) (L : List Loc) : Prop := v = none ∧ Fr n0 L ∧ Keep h0 h [tr, ow, ix, sv] ∧ OwnTr Z h tr ow ix sv (tp + (1 : Int32))
set_option maxRecDepth 65536 in
set_option maxHeartbeats 40000000 in
theorem rm11 (l : Launch) (Z : State) (a0 : Array Value) (hw : ∀ d ∈ tables_1, d.before a0 Z = true) (ws : List Jvm.Cond) (tr : Addr) (ar : Addr) (ii : Int32) (ow : Addr) (ix : Addr) (sv : Addr) (tp : Int32) (nn : Nat) (kk : Nat) (fa : Nat → Int64) (h0 : Heap) (n0 : Nat) (Z0 : n0 ≤ h0.size) (hT : OwnTr Z h0 tr ow ix sv tp) (hap : OwnApart tr ow ix sv) (hnew : OwnNew n0 tr ow ix sv) (ht0 : 0 ≤ tp.toInt) (ht1 : tp.toInt < 256) (Ea : Exa Z h0 ar "[J") (Va : OwnAV Z h0 ar .long nn (fun i => (.long (fa i)))) (Ia : OwnIdx ii kk nn) :
    MetFree l (⟨"com/example/faultline/faultline/engine/Trail", "save", "([JI)V"⟩ : MethodName) (head1 (Jvm.Cond.code (⟨"com/example/faultline/faultline/engine/Trail", "save", "([JI)V"⟩ : MethodName) prog_49_method_3_code 3 none :: ws) ({ frames := 1, cells := 0, slots := 0, locals := 16 } : Room)) (fun a U => a = #[(.ref tr), (.ref ar), (.int ii)] ∧ Z.Warmed39 U.vm ∧ U.heap = h0) (fun _ _ _ _ _ => True) (fun _ U o U' => ∃ v L, o = .returned v ∧ Q11 Z tr ar ii ow ix sv tp nn kk fa h0 n0 v U'.heap L ∧ FrameEnd U o U' L ({ frames := 1, cells := 0, slots := 0, locals := 16 } : Room).cells ({ frames := 1, cells := 0, slots := 0, locals := 16 } : Room).slots) := by
  refine MetFree.of_bodySF (plainFor_of_name pn_11) hisR ?_
  intro p e s m args below meth c s₁ Bd hml0 hP hK
  obtain ⟨rfl, hZ, hh⟩ := hP
  have hx := Bd.exec
  have hby := Bd.bytes
  have hml : c.maxLocals = 3 := hml0
  have hown : s.vm.findClass "com/example/faultline/faultline/engine/Trail" = some m.cls := findClass_of_methodNamed Bd.named
  have hnm := (name_of_methodNamed Bd.named Bd.method).1
  have X0 : Stand p l e ({ frames := 1, cells := 0, slots := 0, locals := 16 } : Room) s m #[(.ref tr), (.ref ar), (.int ii)] below meth c s₁ [] 0 0 := Stand.of_body Bd
  have e0 : s₁.heap = h0 := by rw [← hh, Bd.state]; rfl
  have N0 := Fr.nil n0
  have pre0 : ∀ t, Steps p.tables e below (s₁.setTop (mkF m 0 #[.val (.ref tr), .val (.ref ar), .val (.int ii)] [])) t → Steps p.tables e below (s₁.setTop (entryFrame m #[(.ref tr), (.ref ar), (.int ii)] 3)) t := fun t k => castTop (ef_11 m tr ar ii) k
  have hE : Exa Z h0 tr "com/example/faultline/faultline/engine/Trail" := hT.1
  obtain ⟨cq292, q292, q292'⟩ := hE.cell
  obtain ⟨_, _, ⟨T292, L292, k292, n292⟩, -, X292, ⟨Lc292, hQ292, l292, y292, z292⟩, st292⟩ := X0.privateBack hx (y := (⟨"com/example/faultline/faultline/engine/Trail", "record", "(Ljava/lang/Object;IJ)V"⟩ : MethodName)) hown (mvT hZ (hw _ (List.mem_of_getElem? (i := 81) rfl))) (mvT hZ (hw _ (List.mem_of_getElem? (i := 82) rfl))) (own_selp (mvT hZ (hw _ (List.mem_of_getElem? (i := 1) rfl))) (Cond.privateMethod_at (mvP hZ (hw _ (List.mem_of_getElem? (i := 83) rfl)) (args := #[]))) (mvT hZ (hw _ (List.mem_of_getElem? (i := 82) rfl))) (by decide)) (Cond.privateMethod_at (mvP hZ (hw _ (List.mem_of_getElem? (i := 83) rfl)) (args := #[]))) (mvT hZ (hw _ (List.mem_of_getElem? (i := 84) rfl))) (by decide) (backOf (W := 0) (rm12 l Z a0 hw [] tr ar ii (fa kk) ow ix sv tp h0 n0 Z0 hT hap hnew ht0 ht1 (Ins.of_exa Ea (hw _ (List.mem_of_getElem? (i := 87) rfl)))) hZ (hw _ (List.mem_of_getElem? (i := 84) rfl)) (hw _ (List.mem_of_getElem? (i := 2) rfl)) (by decide) (by decide)) (g := (mkF m 6 #[.val (.ref tr), .val (.ref ar), .val (.int ii)] [(.long (fa kk)), (.int ii), (.ref ar), (.ref tr)])) rfl (by rw [hml]; rfl) (Steps.refl _) (a := tr) (by rw [e0]; exact q292) q292' (argsL := [(.ref ar), (.int ii), (.long (fa kk))]) (rest := []) (lenOf pd_1 rfl) rfl (by show 2 * 0 + _ ≤ _; exact Nat.le_of_eq rfl) (hb hby d11_6) (fun _ _ => ⟨rfl, e0, (by decide : 0 + 0 ≤ _), (by decide : 0 + 0 ≤ _)⟩)
  dsimp only [Pt.U, Pt.locs, Pt.cells, Pt.slots] at X292 l292 y292 z292 st292 hQ292
  subst l292 y292 z292
  obtain ⟨rfl, N292q, K292, hT292⟩ := hQ292
  have N292 := Fr.app N0 N292q
  have k293 : ∀ t, Steps p.tables e below (T292.setTop (mkF m 9 #[.val (.ref tr), .val (.ref ar), .val (.int ii)] [])) t → Steps p.tables e below (s₁.setTop (entryFrame m #[(.ref tr), (.ref ar), (.int ii)] 3)) t := fun t hk => pre0 t (by
    show Steps p.tables e below (s₁.setTop (mkF m 0 #[.val (.ref tr), .val (.ref ar), .val (.int ii)] [])) _
    refine XS.aloadN X0.here hx rfl (hb hby d11_0) rfl rfl ?_
    refine XS.aloadN X0.here hx rfl (hb hby d11_1) rfl rfl ?_
    refine XS.iloadN X0.here hx rfl (hb hby d11_2) rfl ?_
    refine XS.aloadN X0.here hx rfl (hb hby d11_3) rfl rfl ?_
    show Steps p.tables e below (s₁.setTop (mkF m 4 #[.val (.ref tr), .val (.ref ar), .val (.int ii)] [(.ref ar), (.int ii), (.ref ar), (.ref tr)])) _
    refine XS.iloadN X0.here hx rfl (hb hby d11_4) rfl ?_
    refine own_lald X0 hx hZ e0 Va (k := kk) Ia rfl (g := (mkF m 5 #[.val (.ref tr), .val (.ref ar), .val (.int ii)] [(.int ii), (.ref ar), (.int ii), (.ref ar), (.ref tr)])) rfl rfl (hb hby d11_5) _ ?_
    refine st292.trans ?_
    exact hk)
  obtain ⟨fs, hr, hrun, hended, hW, hsame⟩ := X292.leave (v := none) (fun _ => rfl)
  refine ⟨_, _, k293 _ ?_, hrun, hended, _, _, rfl, ?_, ⟨_, rfl⟩, hW, hsame.mono (by decide) (by decide)⟩
  · show Steps p.tables e below (T292.setTop (mkF m 9 #[.val (.ref tr), .val (.ref ar), .val (.int ii)] [])) _
    exact X292.returnOut hx Bd.returns (hb hby d11_9) hr
  · show Q11 Z tr ar ii ow ix sv tp nn kk fa h0 n0 _ T292.heap _
    exact ⟨rfl, N292, K292, hT292⟩
theorem d14_0 : decode prog_49_method_2_code 0 = .ok (.aload_n 0, 1) := by decide +kernel
theorem d14_1 : decode prog_49_method_2_code 1 = .ok (.aload_n 1, 1) := by decide +kernel
theorem d14_2 : decode prog_49_method_2_code 2 = .ok (.iload_n 2, 1) := by decide +kernel
theorem d14_3 : decode prog_49_method_2_code 3 = .ok (.aload_n 1, 1) := by decide +kernel
theorem d14_4 : decode prog_49_method_2_code 4 = .ok (.iload_n 2, 1) := by decide +kernel
theorem d14_5 : decode prog_49_method_2_code 5 = .ok (.iaload, 1) := by decide +kernel
theorem d14_6 : decode prog_49_method_2_code 6 = .ok (.i2l, 1) := by decide +kernel
theorem d14_7 : decode prog_49_method_2_code 7 = .ok (.invokevirtual 27, 3) := by decide +kernel
theorem d14_10 : decode prog_49_method_2_code 10 = .ok (.return_, 1) := by decide +kernel
theorem pn_14 : plainName "com/example/faultline/faultline/engine/Trail" = true := by first | (simp [plainName, overriddenIn]; done) | decide +kernel
theorem ef_14 (m : MethodId) (tr : Addr) (ar : Addr) (ii : Int32) : entryFrame m #[(.ref tr), (.ref ar), (.int ii)] 3 = (mkF m 0 #[.val (.ref tr), .val (.ref ar), .val (.int ii)] []) := by first | (simp [entryFrame, mkF, argsToLocals, Value.category]; done) | rfl
def Q14 (Z : State) (tr : Addr) (ar : Addr) (ii : Int32) (ow : Addr) (ix : Addr) (sv : Addr) (tp : Int32) (nn : Nat) (kk : Nat) (fa : Nat → Int32) (h0 : Heap) (n0 : Nat) (v : Option Value) (h : Heap) (L : List Loc) : Prop := v = none ∧ Fr n0 L ∧ Keep h0 h [tr, ow, ix, sv] ∧ OwnTr Z h tr ow ix sv (tp + (1 : Int32))
set_option maxRecDepth 65536 in
set_option maxHeartbeats 40000000 in
theorem rm14 (l : Launch) (Z : State) (a0 : Array Value) (hw : ∀ d ∈ tables_1, d.before a0 Z = true) (ws : List Jvm.Cond) (tr : Addr) (ar : Addr) (ii : Int32) (ow : Addr) (ix : Addr) (sv : Addr) (tp : Int32) (nn : Nat) (kk : Nat) (fa : Nat → Int32) (h0 : Heap) (n0 : Nat) (Z0 : n0 ≤ h0.size) (hT : OwnTr Z h0 tr ow ix sv tp) (hap : OwnApart tr ow ix sv) (hnew : OwnNew n0 tr ow ix sv) (ht0 : 0 ≤ tp.toInt) (ht1 : tp.toInt < 256) (Ea : Exa Z h0 ar "[I") (Va : OwnAV Z h0 ar .int nn (fun i => (.int (fa i)))) (Ia : OwnIdx ii kk nn) :
    MetFree l (⟨"com/example/faultline/faultline/engine/Trail", "save", "([II)V"⟩ : MethodName) (head1 (Jvm.Cond.code (⟨"com/example/faultline/faultline/engine/Trail", "save", "([II)V"⟩ : MethodName) prog_49_method_2_code 3 none :: ws) ({ frames := 1, cells := 0, slots := 0, locals := 16 } : Room)) (fun a U => a = #[(.ref tr), (.ref ar), (.int ii)] ∧ Z.Warmed39 U.vm ∧ U.heap = h0) (fun _ _ _ _ _ => True) (fun _ U o U' => ∃ v L, o = .returned v ∧ Q14 Z tr ar ii ow ix sv tp nn kk fa h0 n0 v U'.heap L ∧ FrameEnd U o U' L ({ frames := 1, cells := 0, slots := 0, locals := 16 } : Room).cells ({ frames := 1, cells := 0, slots := 0, locals := 16 } : Room).slots) := by
  refine MetFree.of_bodySF (plainFor_of_name pn_14) hisR ?_
  intro p e s m args below meth c s₁ Bd hml0 hP hK
  obtain ⟨rfl, hZ, hh⟩ := hP
  have hx := Bd.exec
  have hby := Bd.bytes
  have hml : c.maxLocals = 3 := hml0
  have hown : s.vm.findClass "com/example/faultline/faultline/engine/Trail" = some m.cls := findClass_of_methodNamed Bd.named
  have hnm := (name_of_methodNamed Bd.named Bd.method).1
  have X0 : Stand p l e ({ frames := 1, cells := 0, slots := 0, locals := 16 } : Room) s m #[(.ref tr), (.ref ar), (.int ii)] below meth c s₁ [] 0 0 := Stand.of_body Bd
  have e0 : s₁.heap = h0 := by rw [← hh, Bd.state]; rfl
  have N0 := Fr.nil n0
  have pre0 : ∀ t, Steps p.tables e below (s₁.setTop (mkF m 0 #[.val (.ref tr), .val (.ref ar), .val (.int ii)] [])) t → Steps p.tables e below (s₁.setTop (entryFrame m #[(.ref tr), (.ref ar), (.int ii)] 3)) t := fun t k => castTop (ef_14 m tr ar ii) k
  have hE : Exa Z h0 tr "com/example/faultline/faultline/engine/Trail" := hT.1
  obtain ⟨cq294, q294, q294'⟩ := hE.cell
  obtain ⟨_, _, ⟨T294, L294, k294, n294⟩, -, X294, ⟨Lc294, hQ294, l294, y294, z294⟩, st294⟩ := X0.privateBack hx (y := (⟨"com/example/faultline/faultline/engine/Trail", "record", "(Ljava/lang/Object;IJ)V"⟩ : MethodName)) hown (mvT hZ (hw _ (List.mem_of_getElem? (i := 81) rfl))) (mvT hZ (hw _ (List.mem_of_getElem? (i := 82) rfl))) (own_selp (mvT hZ (hw _ (List.mem_of_getElem? (i := 1) rfl))) (Cond.privateMethod_at (mvP hZ (hw _ (List.mem_of_getElem? (i := 83) rfl)) (args := #[]))) (mvT hZ (hw _ (List.mem_of_getElem? (i := 82) rfl))) (by decide)) (Cond.privateMethod_at (mvP hZ (hw _ (List.mem_of_getElem? (i := 83) rfl)) (args := #[]))) (mvT hZ (hw _ (List.mem_of_getElem? (i := 84) rfl))) (by decide) (backOf (W := 0) (rm12 l Z a0 hw [] tr ar ii (((fa kk)).toInt64) ow ix sv tp h0 n0 Z0 hT hap hnew ht0 ht1 (Ins.of_exa Ea (hw _ (List.mem_of_getElem? (i := 97) rfl)))) hZ (hw _ (List.mem_of_getElem? (i := 84) rfl)) (hw _ (List.mem_of_getElem? (i := 2) rfl)) (by decide) (by decide)) (g := (mkF m 7 #[.val (.ref tr), .val (.ref ar), .val (.int ii)] [(.long (((fa kk)).toInt64)), (.int ii), (.ref ar), (.ref tr)])) rfl (by rw [hml]; rfl) (Steps.refl _) (a := tr) (by rw [e0]; exact q294) q294' (argsL := [(.ref ar), (.int ii), (.long (((fa kk)).toInt64))]) (rest := []) (lenOf pd_1 rfl) rfl (by show 2 * 0 + _ ≤ _; exact Nat.le_of_eq rfl) (hb hby d14_7) (fun _ _ => ⟨rfl, e0, (by decide : 0 + 0 ≤ _), (by decide : 0 + 0 ≤ _)⟩)
  dsimp only [Pt.U, Pt.locs, Pt.cells, Pt.slots] at X294 l294 y294 z294 st294 hQ294
  subst l294 y294 z294
  obtain ⟨rfl, N294q, K294, hT294⟩ := hQ294
  have N294 := Fr.app N0 N294q
  have k295 : ∀ t, Steps p.tables e below (T294.setTop (mkF m 10 #[.val (.ref tr), .val (.ref ar), .val (.int ii)] [])) t → Steps p.tables e below (s₁.setTop (entryFrame m #[(.ref tr), (.ref ar), (.int ii)] 3)) t := fun t hk => pre0 t (by
    show Steps p.tables e below (s₁.setTop (mkF m 0 #[.val (.ref tr), .val (.ref ar), .val (.int ii)] [])) _
    refine XS.aloadN X0.here hx rfl (hb hby d14_0) rfl rfl ?_
    refine XS.aloadN X0.here hx rfl (hb hby d14_1) rfl rfl ?_
    refine XS.iloadN X0.here hx rfl (hb hby d14_2) rfl ?_
    refine XS.aloadN X0.here hx rfl (hb hby d14_3) rfl rfl ?_
    show Steps p.tables e below (s₁.setTop (mkF m 4 #[.val (.ref tr), .val (.ref ar), .val (.int ii)] [(.ref ar), (.int ii), (.ref ar), (.ref tr)])) _
    refine XS.iloadN X0.here hx rfl (hb hby d14_4) rfl ?_
    refine own_iald X0 hx hZ e0 Va (k := kk) Ia rfl (g := (mkF m 5 #[.val (.ref tr), .val (.ref ar), .val (.int ii)] [(.int ii), (.ref ar), (.int ii), (.ref ar), (.ref tr)])) rfl rfl (hb hby d14_5) _ ?_
    refine XS.i2l X0.here hx rfl (hb hby d14_6) rfl ?_
    refine st294.trans ?_
    exact hk)
  obtain ⟨fs, hr, hrun, hended, hW, hsame⟩ := X294.leave (v := none) (fun _ => rfl)
  refine ⟨_, _, k295 _ ?_, hrun, hended, _, _, rfl, ?_, ⟨_, rfl⟩, hW, hsame.mono (by decide) (by decide)⟩
  · show Steps p.tables e below (T294.setTop (mkF m 10 #[.val (.ref tr), .val (.ref ar), .val (.int ii)] [])) _
    exact X294.returnOut hx Bd.returns (hb hby d14_10) hr
  · show Q14 Z tr ar ii ow ix sv tp nn kk fa h0 n0 _ T294.heap _
    exact ⟨rfl, N294, K294, hT294⟩
theorem d13_0 : decode prog_44_method_18_code 0 = .ok (.aload_n 0, 1) := by decide +kernel
theorem d13_1 : decode prog_44_method_18_code 1 = .ok (.getfield 15, 3) := by decide +kernel
theorem d13_4 : decode prog_44_method_18_code 4 = .ok (.aload_n 0, 1) := by decide +kernel
theorem d13_5 : decode prog_44_method_18_code 5 = .ok (.getfield 19, 3) := by decide +kernel
theorem d13_8 : decode prog_44_method_18_code 8 = .ok (.invokevirtual 52, 3) := by decide +kernel
theorem d13_11 : decode prog_44_method_18_code 11 = .ok (.lcmp, 1) := by decide +kernel
theorem d13_12 : decode prog_44_method_18_code 12 = .ok (.ifCond .eq 26, 3) := by decide +kernel
theorem d13_15 : decode prog_44_method_18_code 15 = .ok (.aload_n 0, 1) := by decide +kernel
theorem d13_16 : decode prog_44_method_18_code 16 = .ok (.getfield 19, 3) := by decide +kernel
theorem d13_19 : decode prog_44_method_18_code 19 = .ok (.aload_n 0, 1) := by decide +kernel
theorem d13_20 : decode prog_44_method_18_code 20 = .ok (.getfield 7, 3) := by decide +kernel
theorem d13_23 : decode prog_44_method_18_code 23 = .ok (.iconst 0, 1) := by decide +kernel
theorem d13_24 : decode prog_44_method_18_code 24 = .ok (.invokevirtual 88, 3) := by decide +kernel
theorem d13_27 : decode prog_44_method_18_code 27 = .ok (.aload_n 0, 1) := by decide +kernel
theorem d13_28 : decode prog_44_method_18_code 28 = .ok (.aload_n 0, 1) := by decide +kernel
theorem d13_29 : decode prog_44_method_18_code 29 = .ok (.getfield 19, 3) := by decide +kernel
theorem d13_32 : decode prog_44_method_18_code 32 = .ok (.invokevirtual 52, 3) := by decide +kernel
theorem d13_35 : decode prog_44_method_18_code 35 = .ok (.putfield 15, 3) := by decide +kernel
theorem d13_38 : decode prog_44_method_18_code 38 = .ok (.aload_n 0, 1) := by decide +kernel
theorem d13_39 : decode prog_44_method_18_code 39 = .ok (.getfield 7, 3) := by decide +kernel
theorem d13_42 : decode prog_44_method_18_code 42 = .ok (.iconst 0, 1) := by decide +kernel
theorem d13_43 : decode prog_44_method_18_code 43 = .ok (.iaload, 1) := by decide +kernel
theorem d13_44 : decode prog_44_method_18_code 44 = .ok (.iconst 1, 1) := by decide +kernel
theorem d13_45 : decode prog_44_method_18_code 45 = .ok (.isub, 1) := by decide +kernel
theorem d13_46 : decode prog_44_method_18_code 46 = .ok (.istore_n 2, 1) := by decide +kernel
theorem d13_47 : decode prog_44_method_18_code 47 = .ok (.aload_n 0, 1) := by decide +kernel
theorem d13_48 : decode prog_44_method_18_code 48 = .ok (.getfield 34, 3) := by decide +kernel
theorem d13_51 : decode prog_44_method_18_code 51 = .ok (.iload_n 1, 1) := by decide +kernel
theorem d13_52 : decode prog_44_method_18_code 52 = .ok (.iaload, 1) := by decide +kernel
theorem d13_53 : decode prog_44_method_18_code 53 = .ok (.istore_n 3, 1) := by decide +kernel
theorem d13_54 : decode prog_44_method_18_code 54 = .ok (.aload_n 0, 1) := by decide +kernel
theorem d13_55 : decode prog_44_method_18_code 55 = .ok (.getfield 34, 3) := by decide +kernel
theorem d13_58 : decode prog_44_method_18_code 58 = .ok (.iload_n 1, 1) := by decide +kernel
theorem d13_59 : decode prog_44_method_18_code 59 = .ok (.aload_n 0, 1) := by decide +kernel
theorem d13_60 : decode prog_44_method_18_code 60 = .ok (.getfield 34, 3) := by decide +kernel
theorem d13_63 : decode prog_44_method_18_code 63 = .ok (.iload_n 2, 1) := by decide +kernel
theorem d13_64 : decode prog_44_method_18_code 64 = .ok (.iaload, 1) := by decide +kernel
theorem d13_65 : decode prog_44_method_18_code 65 = .ok (.iastore, 1) := by decide +kernel
theorem d13_66 : decode prog_44_method_18_code 66 = .ok (.aload_n 0, 1) := by decide +kernel
theorem d13_67 : decode prog_44_method_18_code 67 = .ok (.getfield 34, 3) := by decide +kernel
theorem d13_70 : decode prog_44_method_18_code 70 = .ok (.iload_n 2, 1) := by decide +kernel
theorem d13_71 : decode prog_44_method_18_code 71 = .ok (.iload_n 3, 1) := by decide +kernel
theorem d13_72 : decode prog_44_method_18_code 72 = .ok (.iastore, 1) := by decide +kernel
theorem d13_73 : decode prog_44_method_18_code 73 = .ok (.aload_n 0, 1) := by decide +kernel
theorem d13_74 : decode prog_44_method_18_code 74 = .ok (.getfield 7, 3) := by decide +kernel
theorem d13_77 : decode prog_44_method_18_code 77 = .ok (.iconst 0, 1) := by decide +kernel
theorem d13_78 : decode prog_44_method_18_code 78 = .ok (.iload_n 2, 1) := by decide +kernel
theorem d13_79 : decode prog_44_method_18_code 79 = .ok (.iastore, 1) := by decide +kernel
theorem d13_80 : decode prog_44_method_18_code 80 = .ok (.return_, 1) := by decide +kernel
theorem pn_13 : plainName "com/example/faultline/faultline/engine/ReversibleBitSet" = true := by first | (simp [plainName, overriddenIn]; done) | decide +kernel
theorem ef_13 (m : MethodId) (st : Addr) (ii : Int32) : entryFrame m #[(.ref st), (.int ii)] 4 = (mkF m 0 #[.val (.ref st), .val (.int ii), .unset, .unset] []) := by first | (simp [entryFrame, mkF, argsToLocals, Value.category]; done) | rfl
def Q13 (Z : State) (st : Addr) (ii : Int32) (tr : Addr) (ow : Addr) (ix : Addr) (sv : Addr) (lim : Addr) (wo : Addr) (sa : Addr) (nz : Addr) (ma : Addr) (ls : Int64) (tp : Int32) (lm : Int32) (nn : Nat) (ki : Nat) (kl : Nat) (fz : Nat → Int32) (h0 : Heap) (n0 : Nat) (v : Option Value) (h : Heap) (L : List Loc) : Prop := v = none ∧ Fr n0 L ∧ Keep h0 h [st, tr, ow, ix, sv, nz, lim] ∧ OwnSet Z h st tr lim wo sa nz ma (0 : Int64) ∧ (∃ t1 : Int32, 0 ≤ t1.toInt ∧ t1.toInt ≤ tp.toInt + 1 ∧ OwnTr Z h tr ow ix sv t1) ∧ OwnAV Z h nz .int nn (fun i => .int (own_upd (own_upd fz ki (fz kl)) kl (fz ki) i)) ∧ OwnAV Z h lim .int 1 (fun i => .int (own_l2 (lm - (1 : Int32)) (0 : Int32) i)) ∧ Exa Z h lim "[I"
set_option maxRecDepth 65536 in
set_option maxHeartbeats 40000000 in
theorem rm13 (l : Launch) (Z : State) (a0 : Array Value) (hw : ∀ d ∈ tables_1, d.before a0 Z = true) (ws : List Jvm.Cond) (st : Addr) (ii : Int32) (tr : Addr) (ow : Addr) (ix : Addr) (sv : Addr) (lim : Addr) (wo : Addr) (sa : Addr) (nz : Addr) (ma : Addr) (ls : Int64) (tp : Int32) (lm : Int32) (nn : Nat) (ki : Nat) (kl : Nat) (fz : Nat → Int32) (h0 : Heap) (n0 : Nat) (Z0 : n0 ≤ h0.size) (hT : OwnTr Z h0 tr ow ix sv tp) (hap : OwnApart tr ow ix sv) (hnew : OwnNew n0 tr ow ix sv) (ht0 : 0 ≤ tp.toInt) (ht1 : tp.toInt < 250) (hS : OwnSet Z h0 st tr lim wo sa nz ma ls) (hsn : n0 ≤ st ∧ n0 ≤ nz ∧ n0 ≤ lim) (hnes : st ≠ tr ∧ st ≠ ow ∧ st ≠ ix ∧ st ≠ sv ∧ st ≠ lim ∧ st ≠ nz ∧ tr ≠ lim ∧ tr ≠ nz ∧ ow ≠ lim ∧ ow ≠ nz ∧ ix ≠ lim ∧ ix ≠ nz ∧ sv ≠ lim ∧ sv ≠ nz ∧ lim ≠ nz) (El : Exa Z h0 lim "[I") (Vl : OwnAV Z h0 lim .int 1 (fun i => .int (own_l2 lm (0 : Int32) i))) (Vn : OwnAV Z h0 nz .int nn (fun i => .int (fz i))) (Ii : OwnIdx ii ki nn) (Il : OwnIdx (lm - (1 : Int32)) kl nn) :
    MetFree l (⟨"com/example/faultline/faultline/engine/ReversibleBitSet", "removeNonZero", "(I)V"⟩ : MethodName) (head1 (Jvm.Cond.code (⟨"com/example/faultline/faultline/engine/ReversibleBitSet", "removeNonZero", "(I)V"⟩ : MethodName) prog_44_method_18_code 4 none :: ws) ({ frames := 2, cells := 0, slots := 0, locals := 34 } : Room)) (fun a U => a = #[(.ref st), (.int ii)] ∧ Z.Warmed39 U.vm ∧ U.heap = h0) (fun _ _ _ _ _ => True) (fun _ U o U' => ∃ v L, o = .returned v ∧ Q13 Z st ii tr ow ix sv lim wo sa nz ma ls tp lm nn ki kl fz h0 n0 v U'.heap L ∧ FrameEnd U o U' L ({ frames := 2, cells := 0, slots := 0, locals := 34 } : Room).cells ({ frames := 2, cells := 0, slots := 0, locals := 34 } : Room).slots) := by
  refine MetFree.of_bodySF (plainFor_of_name pn_13) hisR ?_
  intro p e s m args below meth c s₁ Bd hml0 hP hK
  obtain ⟨rfl, hZ, hh⟩ := hP
  have hx := Bd.exec
  have hby := Bd.bytes
  have hml : c.maxLocals = 4 := hml0
  have hown : s.vm.findClass "com/example/faultline/faultline/engine/ReversibleBitSet" = some m.cls := findClass_of_methodNamed Bd.named
  have hnm := (name_of_methodNamed Bd.named Bd.method).1
  have X0 : Stand p l e ({ frames := 2, cells := 0, slots := 0, locals := 34 } : Room) s m #[(.ref st), (.int ii)] below meth c s₁ [] 0 0 := Stand.of_body Bd
  have e0 : s₁.heap = h0 := by rw [← hh, Bd.state]; rfl
  have N0 := Fr.nil n0
  have pre0 : ∀ t, Steps p.tables e below (s₁.setTop (mkF m 0 #[.val (.ref st), .val (.int ii), .unset, .unset] [])) t → Steps p.tables e below (s₁.setTop (entryFrame m #[(.ref st), (.int ii)] 4)) t := fun t k => castTop (ef_13 m st ii) k
  obtain ⟨u296E, u296a, u296b, u296c, u296d, u296e, u296o, ⟨u296fi, u296x⟩, ⟨u296fs, u296s⟩⟩ := hT
  obtain ⟨u297E, u297a, u297b, u297c, u297d, u297e, u297f, u297g⟩ := hS
  obtain ⟨T298, X298, e298, st298⟩ := getF X0 hx hZ hown (host := "") (Or.inl (hw _ (List.mem_of_getElem? (i := 33) rfl))) Via.refl e0 u297g (g := (mkF m 1 #[.val (.ref st), .val (.int ii), .unset, .unset] [(.ref st)])) rfl rfl (hb hby d13_1)
  obtain ⟨T299, X299, e299, st299⟩ := getF X298 hx hZ hown (host := "") (Or.inl (hw _ (List.mem_of_getElem? (i := 35) rfl))) Via.refl e298 u297a (g := (mkF m 5 #[.val (.ref st), .val (.int ii), .unset, .unset] [(.ref st), (.long ls)])) rfl rfl (hb hby d13_5)
  obtain ⟨cq300, kq300, q300a, q300b, q300c⟩ := isOf hZ e299 u296E
  obtain ⟨_, _, ⟨T300, L300, k300, n300⟩, -, X300, ⟨Lc300, hQ300, l300, y300, z300⟩, st300⟩ := X299.virtualBack hx (y := (⟨"com/example/faultline/faultline/engine/Trail", "world", "()J"⟩ : MethodName)) (z := (⟨"com/example/faultline/faultline/engine/Trail", "world", "()J"⟩ : MethodName)) hown (mvT hZ (hw _ (List.mem_of_getElem? (i := 69) rfl))) (mvT hZ (hw _ (List.mem_of_getElem? (i := 70) rfl))) (notFace_of_selects (args := #[]) (mvT hZ (hw _ (List.mem_of_getElem? (i := 72) rfl)))) (mvT hZ (hw _ (List.mem_of_getElem? (i := 72) rfl))) (mvT hZ (hw _ (List.mem_of_getElem? (i := 71) rfl))) (by decide) (backOf (W := 2) (rm10 l Z a0 hw [] tr (0 : Int64) h0 n0 Z0 u296e) hZ (hw _ (List.mem_of_getElem? (i := 73) rfl)) (hw _ (List.mem_of_getElem? (i := 2) rfl)) (by decide) (by decide)) q300a q300c (g := (mkF m 8 #[.val (.ref st), .val (.int ii), .unset, .unset] [(.ref tr), (.long ls)])) rfl (by rw [hml]; rfl) (Steps.refl _) (argsL := []) (rest := [(.long ls)]) (lenOf pd_2 rfl) rfl (by show 2 * 0 + _ ≤ _; exact Nat.le_of_eq rfl) (hb hby d13_8) (fun _ _ => ⟨rfl, e299, (by decide : 0 + 0 ≤ _), (by decide : 0 + 0 ≤ _)⟩)
  dsimp only [Pt.U, Pt.locs, Pt.cells, Pt.slots] at X300 l300 y300 z300 st300 hQ300
  subst l300 y300 z300
  obtain ⟨rfl, N300q, e300⟩ := hQ300
  have N300 := Fr.app N0 N300q
  have k301 : ∀ t, Steps p.tables e below (T300.setTop (mkF m 12 #[.val (.ref st), .val (.int ii), .unset, .unset] [(.int (lcmpW ls (0 : Int64)))])) t → Steps p.tables e below (s₁.setTop (entryFrame m #[(.ref st), (.int ii)] 4)) t := fun t hk => pre0 t (by
    show Steps p.tables e below (s₁.setTop (mkF m 0 #[.val (.ref st), .val (.int ii), .unset, .unset] [])) _
    refine XS.aloadN X0.here hx rfl (hb hby d13_0) rfl rfl ?_
    refine st298 _ ?_
    refine XS.aloadN X298.here hx rfl (hb hby d13_4) rfl rfl ?_
    refine st299 _ ?_
    show Steps p.tables e below (T299.setTop (mkF m 8 #[.val (.ref st), .val (.int ii), .unset, .unset] [(.ref tr), (.long ls)])) _
    refine st300.trans ?_
    refine XS.lcmp X300.here hx rfl (hb hby d13_11) rfl ?_
    exact hk)
  by_cases hc12 : ls = (0 : Int64)
  ·
    obtain ⟨T302, X302, e302, st302⟩ := getF X300 hx hZ hown (host := "") (Or.inl (hw _ (List.mem_of_getElem? (i := 30) rfl))) Via.refl e300 u297b (g := (mkF m 39 #[.val (.ref st), .val (.int ii), .unset, .unset] [(.ref st)])) rfl rfl (hb hby d13_39)
    obtain ⟨T303, X303, e303, st303⟩ := getF X302 hx hZ hown (host := "") (Or.inl (hw _ (List.mem_of_getElem? (i := 50) rfl))) Via.refl e302 u297e (g := (mkF m 48 #[.val (.ref st), .val (.int ii), .val (.int (lm - (1 : Int32))), .unset] [(.ref st)])) rfl rfl (hb hby d13_48)
    obtain ⟨T304, X304, e304, st304⟩ := getF X303 hx hZ hown (host := "") (Or.inl (hw _ (List.mem_of_getElem? (i := 50) rfl))) Via.refl e303 u297e (g := (mkF m 55 #[.val (.ref st), .val (.int ii), .val (.int (lm - (1 : Int32))), .val (.int (fz ki))] [(.ref st)])) rfl rfl (hb hby d13_55)
    obtain ⟨T305, X305, e305, st305⟩ := getF X304 hx hZ hown (host := "") (Or.inl (hw _ (List.mem_of_getElem? (i := 50) rfl))) Via.refl e304 u297e (g := (mkF m 60 #[.val (.ref st), .val (.int ii), .val (.int (lm - (1 : Int32))), .val (.int (fz ki))] [(.ref st), (.int ii), (.ref nz)])) rfl rfl (hb hby d13_60)
    obtain ⟨T306, h306, X306, e306, W306, st306⟩ := own_iast X305 hx hZ e305 Vn (k := ki) Ii (g := (mkF m 65 #[.val (.ref st), .val (.int ii), .val (.int (lm - (1 : Int32))), .val (.int (fz ki))] [(.int (fz kl)), (.int ii), (.ref nz)])) rfl rfl (hb hby d13_65)
    have A307 := Vn.storeI W306
    have F308 := u296a.other W306 (Or.inl hnes.2.2.2.2.2.2.2.1)
    have F309 := u296b.other W306 (Or.inl hnes.2.2.2.2.2.2.2.1)
    have F310 := u296c.other W306 (Or.inl hnes.2.2.2.2.2.2.2.1)
    have F311 := u296d.other W306 (Or.inl hnes.2.2.2.2.2.2.2.1)
    have F312 := u296e.other W306 (Or.inl hnes.2.2.2.2.2.2.2.1)
    have F313 := u297a.other W306 (Or.inl hnes.2.2.2.2.2.1)
    have F314 := u297b.other W306 (Or.inl hnes.2.2.2.2.2.1)
    have F315 := u297c.other W306 (Or.inl hnes.2.2.2.2.2.1)
    have F316 := u297d.other W306 (Or.inl hnes.2.2.2.2.2.1)
    have F317 := u297e.other W306 (Or.inl hnes.2.2.2.2.2.1)
    have F318 := u297f.other W306 (Or.inl hnes.2.2.2.2.2.1)
    have F319 := u297g.other W306 (Or.inl hnes.2.2.2.2.2.1)
    have E320 := u296E.wr W306
    have E321 := u297E.wr W306
    have E322 := El.wr W306
    have A323 := u296o.other W306 hnes.2.2.2.2.2.2.2.2.2.1
    have A324 := u296x.other W306 hnes.2.2.2.2.2.2.2.2.2.2.2.1
    have A325 := u296s.other W306 hnes.2.2.2.2.2.2.2.2.2.2.2.2.2.1
    have A326 := Vl.other W306 hnes.2.2.2.2.2.2.2.2.2.2.2.2.2.2
    have K327 := (Keep.refl h0 [st, tr, ow, ix, sv, nz, lim]).wr W306 (Or.inl (List.mem_of_getElem? (i := 5) rfl))
    have Z328 : n0 ≤ h306.size := W306.size ▸ Z0
    have N329 := Fr.snoc X306 N300 hsn.2.1
    obtain ⟨T330, X330, e330, st330⟩ := getF X306 hx hZ hown (host := "") (Or.inl (hw _ (List.mem_of_getElem? (i := 50) rfl))) Via.refl e306 F317 (g := (mkF m 67 #[.val (.ref st), .val (.int ii), .val (.int (lm - (1 : Int32))), .val (.int (fz ki))] [(.ref st)])) rfl rfl (hb hby d13_67)
    obtain ⟨T331, h331, X331, e331, W331, st331⟩ := own_iast X330 hx hZ e330 A307 (k := kl) Il (g := (mkF m 72 #[.val (.ref st), .val (.int ii), .val (.int (lm - (1 : Int32))), .val (.int (fz ki))] [(.int (fz ki)), (.int (lm - (1 : Int32))), (.ref nz)])) rfl rfl (hb hby d13_72)
    have A332 := A307.storeI W331
    have F333 := F308.other W331 (Or.inl hnes.2.2.2.2.2.2.2.1)
    have F334 := F309.other W331 (Or.inl hnes.2.2.2.2.2.2.2.1)
    have F335 := F310.other W331 (Or.inl hnes.2.2.2.2.2.2.2.1)
    have F336 := F311.other W331 (Or.inl hnes.2.2.2.2.2.2.2.1)
    have F337 := F312.other W331 (Or.inl hnes.2.2.2.2.2.2.2.1)
    have F338 := F313.other W331 (Or.inl hnes.2.2.2.2.2.1)
    have F339 := F314.other W331 (Or.inl hnes.2.2.2.2.2.1)
    have F340 := F315.other W331 (Or.inl hnes.2.2.2.2.2.1)
    have F341 := F316.other W331 (Or.inl hnes.2.2.2.2.2.1)
    have F342 := F317.other W331 (Or.inl hnes.2.2.2.2.2.1)
    have F343 := F318.other W331 (Or.inl hnes.2.2.2.2.2.1)
    have F344 := F319.other W331 (Or.inl hnes.2.2.2.2.2.1)
    have E345 := E320.wr W331
    have E346 := E321.wr W331
    have E347 := E322.wr W331
    have A348 := A323.other W331 hnes.2.2.2.2.2.2.2.2.2.1
    have A349 := A324.other W331 hnes.2.2.2.2.2.2.2.2.2.2.2.1
    have A350 := A325.other W331 hnes.2.2.2.2.2.2.2.2.2.2.2.2.2.1
    have A351 := A326.other W331 hnes.2.2.2.2.2.2.2.2.2.2.2.2.2.2
    have K352 := K327.wr W331 (Or.inl (List.mem_of_getElem? (i := 5) rfl))
    have Z353 : n0 ≤ h331.size := W331.size ▸ Z328
    have N354 := Fr.snoc X331 N329 hsn.2.1
    obtain ⟨T355, X355, e355, st355⟩ := getF X331 hx hZ hown (host := "") (Or.inl (hw _ (List.mem_of_getElem? (i := 30) rfl))) Via.refl e331 F339 (g := (mkF m 74 #[.val (.ref st), .val (.int ii), .val (.int (lm - (1 : Int32))), .val (.int (fz ki))] [(.ref st)])) rfl rfl (hb hby d13_74)
    obtain ⟨T356, h356, X356, e356, W356, st356⟩ := own_iast X355 hx hZ e355 A351 (k := 0) ⟨by decide, rfl, by decide⟩ (g := (mkF m 79 #[.val (.ref st), .val (.int ii), .val (.int (lm - (1 : Int32))), .val (.int (fz ki))] [(.int (lm - (1 : Int32))), (.int (0 : Int32)), (.ref lim)])) rfl rfl (hb hby d13_79)
    have A357 : OwnAV Z h356 lim .int 1 (fun i => (.int ((own_l2 (lm - (1 : Int32)) (0 : Int32)) i))) := (A351.storeI W356).congr (fun j hj => by
        have q : j = 0 ∨ j = 1 := by omega
        rcases q with rfl | rfl <;> rfl)
    have F358 := F333.other W356 (Or.inl hnes.2.2.2.2.2.2.1)
    have F359 := F334.other W356 (Or.inl hnes.2.2.2.2.2.2.1)
    have F360 := F335.other W356 (Or.inl hnes.2.2.2.2.2.2.1)
    have F361 := F336.other W356 (Or.inl hnes.2.2.2.2.2.2.1)
    have F362 := F337.other W356 (Or.inl hnes.2.2.2.2.2.2.1)
    have F363 := F338.other W356 (Or.inl hnes.2.2.2.2.1)
    have F364 := F339.other W356 (Or.inl hnes.2.2.2.2.1)
    have F365 := F340.other W356 (Or.inl hnes.2.2.2.2.1)
    have F366 := F341.other W356 (Or.inl hnes.2.2.2.2.1)
    have F367 := F342.other W356 (Or.inl hnes.2.2.2.2.1)
    have F368 := F343.other W356 (Or.inl hnes.2.2.2.2.1)
    have F369 := F344.other W356 (Or.inl hnes.2.2.2.2.1)
    have E370 := E345.wr W356
    have E371 := E346.wr W356
    have E372 := E347.wr W356
    have A373 := A348.other W356 hnes.2.2.2.2.2.2.2.2.1
    have A374 := A349.other W356 hnes.2.2.2.2.2.2.2.2.2.2.1
    have A375 := A350.other W356 hnes.2.2.2.2.2.2.2.2.2.2.2.2.1
    have A376 := A332.other W356 (Ne.symm hnes.2.2.2.2.2.2.2.2.2.2.2.2.2.2)
    have K377 := K352.wr W356 (Or.inl (List.mem_of_getElem? (i := 6) rfl))
    have Z378 : n0 ≤ h356.size := W356.size ▸ Z353
    have N379 := Fr.snoc X356 N354 hsn.2.2
    have k380 : ∀ t, Steps p.tables e below (T356.setTop (mkF m 80 #[.val (.ref st), .val (.int ii), .val (.int (lm - (1 : Int32))), .val (.int (fz ki))] [])) t → Steps p.tables e below (s₁.setTop (entryFrame m #[(.ref st), (.int ii)] 4)) t := fun t hk => k301 t (by
      show Steps p.tables e below (T300.setTop (mkF m 12 #[.val (.ref st), .val (.int ii), .unset, .unset] [(.int (lcmpW ls (0 : Int64)))])) _
      refine XS.ifYes X300.here hx rfl (pc0 := 12) (pc' := 38) rfl (hb hby d13_12) rfl ((if0 _ _).trans (teq ((lw_eq _ _).mpr hc12)).1) (by decide) (by decide) ?_
      refine XS.aloadN X300.here hx rfl (hb hby d13_38) rfl rfl ?_
      refine st302 _ ?_
      refine XS.iconst X302.here hx rfl (hb hby d13_42) ?_
      show Steps p.tables e below (T302.setTop (mkF m 43 #[.val (.ref st), .val (.int ii), .unset, .unset] [(.int (0 : Int32)), (.ref lim)])) _
      refine own_iald X302 hx hZ e302 Vl (k := 0) ⟨by decide, rfl, by decide⟩ rfl (g := (mkF m 43 #[.val (.ref st), .val (.int ii), .unset, .unset] [(.int (0 : Int32)), (.ref lim)])) rfl rfl (hb hby d13_43) _ ?_
      refine XS.iconst X302.here hx rfl (hb hby d13_44) ?_
      refine XS.isub X302.here hx rfl (hb hby d13_45) rfl ?_
      refine XS.istoreN X302.here hx rfl (hb hby d13_46) rfl (l' := #[.val (.ref st), .val (.int ii), .val (.int (lm - (1 : Int32))), .unset]) rfl ?_
      show Steps p.tables e below (T302.setTop (mkF m 47 #[.val (.ref st), .val (.int ii), .val (.int (lm - (1 : Int32))), .unset] [])) _
      refine XS.aloadN X302.here hx rfl (hb hby d13_47) rfl rfl ?_
      refine st303 _ ?_
      refine XS.iloadN X303.here hx rfl (hb hby d13_51) rfl ?_
      refine own_iald X303 hx hZ e303 Vn (k := ki) Ii rfl (g := (mkF m 52 #[.val (.ref st), .val (.int ii), .val (.int (lm - (1 : Int32))), .unset] [(.int ii), (.ref nz)])) rfl rfl (hb hby d13_52) _ ?_
      show Steps p.tables e below (T303.setTop (mkF m 53 #[.val (.ref st), .val (.int ii), .val (.int (lm - (1 : Int32))), .unset] [(.int (fz ki))])) _
      refine XS.istoreN X303.here hx rfl (hb hby d13_53) rfl (l' := #[.val (.ref st), .val (.int ii), .val (.int (lm - (1 : Int32))), .val (.int (fz ki))]) rfl ?_
      refine XS.aloadN X303.here hx rfl (hb hby d13_54) rfl rfl ?_
      refine st304 _ ?_
      refine XS.iloadN X304.here hx rfl (hb hby d13_58) rfl ?_
      show Steps p.tables e below (T304.setTop (mkF m 59 #[.val (.ref st), .val (.int ii), .val (.int (lm - (1 : Int32))), .val (.int (fz ki))] [(.int ii), (.ref nz)])) _
      refine XS.aloadN X304.here hx rfl (hb hby d13_59) rfl rfl ?_
      refine st305 _ ?_
      refine XS.iloadN X305.here hx rfl (hb hby d13_63) rfl ?_
      refine own_iald X305 hx hZ e305 Vn (k := kl) Il rfl (g := (mkF m 64 #[.val (.ref st), .val (.int ii), .val (.int (lm - (1 : Int32))), .val (.int (fz ki))] [(.int (lm - (1 : Int32))), (.ref nz), (.int ii), (.ref nz)])) rfl rfl (hb hby d13_64) _ ?_
      show Steps p.tables e below (T305.setTop (mkF m 65 #[.val (.ref st), .val (.int ii), .val (.int (lm - (1 : Int32))), .val (.int (fz ki))] [(.int (fz kl)), (.int ii), (.ref nz)])) _
      refine st306 _ ?_
      refine XS.aloadN X306.here hx rfl (hb hby d13_66) rfl rfl ?_
      refine st330 _ ?_
      refine XS.iloadN X330.here hx rfl (hb hby d13_70) rfl ?_
      show Steps p.tables e below (T330.setTop (mkF m 71 #[.val (.ref st), .val (.int ii), .val (.int (lm - (1 : Int32))), .val (.int (fz ki))] [(.int (lm - (1 : Int32))), (.ref nz)])) _
      refine XS.iloadN X330.here hx rfl (hb hby d13_71) rfl ?_
      refine st331 _ ?_
      refine XS.aloadN X331.here hx rfl (hb hby d13_73) rfl rfl ?_
      refine st355 _ ?_
      show Steps p.tables e below (T355.setTop (mkF m 77 #[.val (.ref st), .val (.int ii), .val (.int (lm - (1 : Int32))), .val (.int (fz ki))] [(.ref lim)])) _
      refine XS.iconst X355.here hx rfl (hb hby d13_77) ?_
      refine XS.iloadN X355.here hx rfl (hb hby d13_78) rfl ?_
      refine st356 _ ?_
      exact hk)
    subst hc12
    obtain ⟨fs, hr, hrun, hended, hW, hsame⟩ := X356.leave (v := none) (fun _ => rfl)
    refine ⟨_, _, k380 _ ?_, hrun, hended, _, _, rfl, ?_, ⟨_, rfl⟩, hW, hsame.mono (by decide) (by decide)⟩
    · show Steps p.tables e below (T356.setTop (mkF m 80 #[.val (.ref st), .val (.int ii), .val (.int (lm - (1 : Int32))), .val (.int (fz ki))] [])) _
      exact X356.returnOut hx Bd.returns (hb hby d13_80) hr
    · show Q13 Z st ii tr ow ix sv lim wo sa nz ma (0 : Int64) tp lm nn ki kl fz h0 n0 _ T356.heap _
      rw [e356]
      exact ⟨rfl, N379, K377, ⟨E371, F363, F364, F365, F366, F367, F368, F369⟩, ⟨tp, ht0, (by omega), ⟨E370, F358, F359, F360, F361, F362, A373, ⟨_, A374⟩, ⟨_, A375⟩⟩⟩, A376, A357, E372⟩
  ·
    obtain ⟨T381, X381, e381, st381⟩ := getF X300 hx hZ hown (host := "") (Or.inl (hw _ (List.mem_of_getElem? (i := 35) rfl))) Via.refl e300 u297a (g := (mkF m 16 #[.val (.ref st), .val (.int ii), .unset, .unset] [(.ref st)])) rfl rfl (hb hby d13_16)
    obtain ⟨T382, X382, e382, st382⟩ := getF X381 hx hZ hown (host := "") (Or.inl (hw _ (List.mem_of_getElem? (i := 30) rfl))) Via.refl e381 u297b (g := (mkF m 20 #[.val (.ref st), .val (.int ii), .unset, .unset] [(.ref st), (.ref tr)])) rfl rfl (hb hby d13_20)
    obtain ⟨cq383, kq383, q383a, q383b, q383c⟩ := isOf hZ e382 u296E
    obtain ⟨_, _, ⟨T383, L383, k383, n383⟩, -, X383, ⟨Lc383, hQ383, l383, y383, z383⟩, st383⟩ := X382.virtualBack hx (y := (⟨"com/example/faultline/faultline/engine/Trail", "save", "([II)V"⟩ : MethodName)) (z := (⟨"com/example/faultline/faultline/engine/Trail", "save", "([II)V"⟩ : MethodName)) hown (mvT hZ (hw _ (List.mem_of_getElem? (i := 92) rfl))) (mvT hZ (hw _ (List.mem_of_getElem? (i := 93) rfl))) (notFace_of_selects (args := #[]) (mvT hZ (hw _ (List.mem_of_getElem? (i := 95) rfl)))) (mvT hZ (hw _ (List.mem_of_getElem? (i := 95) rfl))) (mvT hZ (hw _ (List.mem_of_getElem? (i := 94) rfl))) (by decide) (backOf (W := 0) (rm14 l Z a0 hw [] tr lim (0 : Int32) ow ix sv tp 1 0 (own_l2 lm (0 : Int32)) h0 n0 Z0 ⟨u296E, u296a, u296b, u296c, u296d, u296e, u296o, ⟨_, u296x⟩, ⟨_, u296s⟩⟩ hap hnew ht0 (by omega) El Vl ⟨by decide, rfl, by decide⟩) hZ (hw _ (List.mem_of_getElem? (i := 96) rfl)) (hw _ (List.mem_of_getElem? (i := 2) rfl)) (by decide) (by decide)) q383a q383c (g := (mkF m 24 #[.val (.ref st), .val (.int ii), .unset, .unset] [(.int (0 : Int32)), (.ref lim), (.ref tr)])) rfl (by rw [hml]; rfl) (Steps.refl _) (argsL := [(.ref lim), (.int (0 : Int32))]) (rest := []) (lenOf pd_3 rfl) rfl (by show 2 * 0 + _ ≤ _; exact Nat.le_of_eq rfl) (hb hby d13_24) (fun _ _ => ⟨rfl, e382, (by decide : 0 + 0 ≤ _), (by decide : 0 + 0 ≤ _)⟩)
    dsimp only [Pt.U, Pt.locs, Pt.cells, Pt.slots] at X383 l383 y383 z383 st383 hQ383
    subst l383 y383 z383
    obtain ⟨rfl, N383q, K383, hT383⟩ := hQ383
    have N383 := Fr.app N300 N383q
    have F384 := u297a.keep K383 (ninS hnes.1 (ninS hnes.2.1 (ninS hnes.2.2.1 (ninS hnes.2.2.2.1 nin0))))
    have F385 := u297b.keep K383 (ninS hnes.1 (ninS hnes.2.1 (ninS hnes.2.2.1 (ninS hnes.2.2.2.1 nin0))))
    have F386 := u297c.keep K383 (ninS hnes.1 (ninS hnes.2.1 (ninS hnes.2.2.1 (ninS hnes.2.2.2.1 nin0))))
    have F387 := u297d.keep K383 (ninS hnes.1 (ninS hnes.2.1 (ninS hnes.2.2.1 (ninS hnes.2.2.2.1 nin0))))
    have F388 := u297e.keep K383 (ninS hnes.1 (ninS hnes.2.1 (ninS hnes.2.2.1 (ninS hnes.2.2.2.1 nin0))))
    have F389 := u297f.keep K383 (ninS hnes.1 (ninS hnes.2.1 (ninS hnes.2.2.1 (ninS hnes.2.2.2.1 nin0))))
    have F390 := u297g.keep K383 (ninS hnes.1 (ninS hnes.2.1 (ninS hnes.2.2.1 (ninS hnes.2.2.2.1 nin0))))
    have E391 := u296E.keep K383
    have E392 := u297E.keep K383
    have E393 := El.keep K383
    have A394 := Vl.keep K383 (ninS (Ne.symm hnes.2.2.2.2.2.2.1) (ninS (Ne.symm hnes.2.2.2.2.2.2.2.2.1) (ninS (Ne.symm hnes.2.2.2.2.2.2.2.2.2.2.1) (ninS (Ne.symm hnes.2.2.2.2.2.2.2.2.2.2.2.2.1) nin0))))
    have A395 := Vn.keep K383 (ninS (Ne.symm hnes.2.2.2.2.2.2.2.1) (ninS (Ne.symm hnes.2.2.2.2.2.2.2.2.2.1) (ninS (Ne.symm hnes.2.2.2.2.2.2.2.2.2.2.2.1) (ninS (Ne.symm hnes.2.2.2.2.2.2.2.2.2.2.2.2.2.1) nin0))))
    have K396 := (Keep.refl h0 [st, tr, ow, ix, sv, nz, lim]).trans K383 (allS (Or.inl (List.mem_of_getElem? (i := 1) rfl)) (allS (Or.inl (List.mem_of_getElem? (i := 2) rfl)) (allS (Or.inl (List.mem_of_getElem? (i := 3) rfl)) (allS (Or.inl (List.mem_of_getElem? (i := 4) rfl)) all0))))
    have Z397 : n0 ≤ T383.heap.size := Nat.le_trans Z0 K383.1
    obtain ⟨t398, qt398⟩ : ∃ z : Int32, z = tp + (1 : Int32) := ⟨_, rfl⟩
    rw [← qt398] at hT383
    obtain ⟨pt398, rt398⟩ := own_tick tp t398 qt398 ht0 (by omega)
    obtain ⟨u399E, u399a, u399b, u399c, u399d, u399e, u399o, ⟨u399fi, u399x⟩, ⟨u399fs, u399s⟩⟩ := hT383
    obtain ⟨T400, X400, e400, st400⟩ := getF X383 hx hZ hown (host := "") (Or.inl (hw _ (List.mem_of_getElem? (i := 35) rfl))) Via.refl rfl F384 (g := (mkF m 29 #[.val (.ref st), .val (.int ii), .unset, .unset] [(.ref st), (.ref st)])) rfl rfl (hb hby d13_29)
    obtain ⟨cq401, kq401, q401a, q401b, q401c⟩ := isOf hZ e400 u399E
    obtain ⟨_, _, ⟨T401, L401, k401, n401⟩, -, X401, ⟨Lc401, hQ401, l401, y401, z401⟩, st401⟩ := X400.virtualBack hx (y := (⟨"com/example/faultline/faultline/engine/Trail", "world", "()J"⟩ : MethodName)) (z := (⟨"com/example/faultline/faultline/engine/Trail", "world", "()J"⟩ : MethodName)) hown (mvT hZ (hw _ (List.mem_of_getElem? (i := 69) rfl))) (mvT hZ (hw _ (List.mem_of_getElem? (i := 70) rfl))) (notFace_of_selects (args := #[]) (mvT hZ (hw _ (List.mem_of_getElem? (i := 72) rfl)))) (mvT hZ (hw _ (List.mem_of_getElem? (i := 72) rfl))) (mvT hZ (hw _ (List.mem_of_getElem? (i := 71) rfl))) (by decide) (backOf (W := 1) (rm10 l Z a0 hw [] tr (0 : Int64) T383.heap n0 Z397 u399e) hZ (hw _ (List.mem_of_getElem? (i := 73) rfl)) (hw _ (List.mem_of_getElem? (i := 2) rfl)) (by decide) (by decide)) q401a q401c (g := (mkF m 32 #[.val (.ref st), .val (.int ii), .unset, .unset] [(.ref tr), (.ref st)])) rfl (by rw [hml]; rfl) (Steps.refl _) (argsL := []) (rest := [(.ref st)]) (lenOf pd_2 rfl) rfl (by show 2 * 0 + _ ≤ _; exact Nat.le_of_eq rfl) (hb hby d13_32) (fun _ _ => ⟨rfl, e400, (by decide : 0 + 0 ≤ _), (by decide : 0 + 0 ≤ _)⟩)
    dsimp only [Pt.U, Pt.locs, Pt.cells, Pt.slots] at X401 l401 y401 z401 st401 hQ401
    subst l401 y401 z401
    obtain ⟨rfl, N401q, e401⟩ := hQ401
    have N401 := Fr.app N383 N401q
    obtain ⟨T402, h402, X402, e402, W402, st402⟩ := putF X401 hx hZ hown (host := "") (Or.inl (hw _ (List.mem_of_getElem? (i := 33) rfl))) Via.refl e401 F390 E392 (Or.inl (hw _ (List.mem_of_getElem? (i := 34) rfl))) (hw _ (List.mem_of_getElem? (i := 24) rfl)) (ty := .long) (by decide) rfl rfl (g := (mkF m 35 #[.val (.ref st), .val (.int ii), .unset, .unset] [(.long (0 : Int64)), (.ref st)])) rfl rfl (hb hby d13_35)
    have F403 := F384.other W402 (Or.inr (slot_ne (Or.inr (hw _ (List.mem_of_getElem? (i := 36) rfl))) (Or.inl (hw _ (List.mem_of_getElem? (i := 34) rfl))) (by decide) (by decide : parseFieldDescriptor "Lcom/example/faultline/faultline/engine/Trail;" = some (.object "com/example/faultline/faultline/engine/Trail")) (by decide : parseFieldDescriptor "J" = some .long)))
    have F404 := F385.other W402 (Or.inr (slot_ne (Or.inr (hw _ (List.mem_of_getElem? (i := 31) rfl))) (Or.inl (hw _ (List.mem_of_getElem? (i := 34) rfl))) (by decide) (by decide : parseFieldDescriptor "[I" = some (.array .int)) (by decide : parseFieldDescriptor "J" = some .long)))
    have F405 := F386.other W402 (Or.inr (slot_ne (Or.inr (hw _ (List.mem_of_getElem? (i := 47) rfl))) (Or.inl (hw _ (List.mem_of_getElem? (i := 34) rfl))) (by decide) (by decide : parseFieldDescriptor "[J" = some (.array .long)) (by decide : parseFieldDescriptor "J" = some .long)))
    have F406 := F387.other W402 (Or.inr (slot_ne (Or.inr (hw _ (List.mem_of_getElem? (i := 49) rfl))) (Or.inl (hw _ (List.mem_of_getElem? (i := 34) rfl))) (by decide) (by decide : parseFieldDescriptor "[J" = some (.array .long)) (by decide : parseFieldDescriptor "J" = some .long)))
    have F407 := F388.other W402 (Or.inr (slot_ne (Or.inr (hw _ (List.mem_of_getElem? (i := 51) rfl))) (Or.inl (hw _ (List.mem_of_getElem? (i := 34) rfl))) (by decide) (by decide : parseFieldDescriptor "[I" = some (.array .int)) (by decide : parseFieldDescriptor "J" = some .long)))
    have F408 := F389.other W402 (Or.inr (slot_ne (Or.inr (hw _ (List.mem_of_getElem? (i := 53) rfl))) (Or.inl (hw _ (List.mem_of_getElem? (i := 34) rfl))) (by decide) (by decide : parseFieldDescriptor "[J" = some (.array .long)) (by decide : parseFieldDescriptor "J" = some .long)))
    have F409 := F390.same W402
    have F410 := u399a.other W402 (Or.inl (Ne.symm hnes.1))
    have F411 := u399b.other W402 (Or.inl (Ne.symm hnes.1))
    have F412 := u399c.other W402 (Or.inl (Ne.symm hnes.1))
    have F413 := u399d.other W402 (Or.inl (Ne.symm hnes.1))
    have F414 := u399e.other W402 (Or.inl (Ne.symm hnes.1))
    have E415 := u399E.wr W402
    have E416 := E392.wr W402
    have E417 := E393.wr W402
    have A418 := A394.other W402 (Ne.symm hnes.2.2.2.2.1)
    have A419 := A395.other W402 (Ne.symm hnes.2.2.2.2.2.1)
    have A420 := u399o.other W402 (Ne.symm hnes.2.1)
    have A421 := u399x.other W402 (Ne.symm hnes.2.2.1)
    have A422 := u399s.other W402 (Ne.symm hnes.2.2.2.1)
    have K423 := K396.wr W402 (Or.inl (List.mem_of_getElem? (i := 0) rfl))
    have Z424 : n0 ≤ h402.size := W402.size ▸ Z397
    have N425 := Fr.snoc X402 N401 hsn.1
    obtain ⟨T426, X426, e426, st426⟩ := getF X402 hx hZ hown (host := "") (Or.inl (hw _ (List.mem_of_getElem? (i := 30) rfl))) Via.refl e402 F404 (g := (mkF m 39 #[.val (.ref st), .val (.int ii), .unset, .unset] [(.ref st)])) rfl rfl (hb hby d13_39)
    obtain ⟨T427, X427, e427, st427⟩ := getF X426 hx hZ hown (host := "") (Or.inl (hw _ (List.mem_of_getElem? (i := 50) rfl))) Via.refl e426 F407 (g := (mkF m 48 #[.val (.ref st), .val (.int ii), .val (.int (lm - (1 : Int32))), .unset] [(.ref st)])) rfl rfl (hb hby d13_48)
    obtain ⟨T428, X428, e428, st428⟩ := getF X427 hx hZ hown (host := "") (Or.inl (hw _ (List.mem_of_getElem? (i := 50) rfl))) Via.refl e427 F407 (g := (mkF m 55 #[.val (.ref st), .val (.int ii), .val (.int (lm - (1 : Int32))), .val (.int (fz ki))] [(.ref st)])) rfl rfl (hb hby d13_55)
    obtain ⟨T429, X429, e429, st429⟩ := getF X428 hx hZ hown (host := "") (Or.inl (hw _ (List.mem_of_getElem? (i := 50) rfl))) Via.refl e428 F407 (g := (mkF m 60 #[.val (.ref st), .val (.int ii), .val (.int (lm - (1 : Int32))), .val (.int (fz ki))] [(.ref st), (.int ii), (.ref nz)])) rfl rfl (hb hby d13_60)
    obtain ⟨T430, h430, X430, e430, W430, st430⟩ := own_iast X429 hx hZ e429 A419 (k := ki) Ii (g := (mkF m 65 #[.val (.ref st), .val (.int ii), .val (.int (lm - (1 : Int32))), .val (.int (fz ki))] [(.int (fz kl)), (.int ii), (.ref nz)])) rfl rfl (hb hby d13_65)
    have A431 := A419.storeI W430
    have F432 := F403.other W430 (Or.inl hnes.2.2.2.2.2.1)
    have F433 := F404.other W430 (Or.inl hnes.2.2.2.2.2.1)
    have F434 := F405.other W430 (Or.inl hnes.2.2.2.2.2.1)
    have F435 := F406.other W430 (Or.inl hnes.2.2.2.2.2.1)
    have F436 := F407.other W430 (Or.inl hnes.2.2.2.2.2.1)
    have F437 := F408.other W430 (Or.inl hnes.2.2.2.2.2.1)
    have F438 := F409.other W430 (Or.inl hnes.2.2.2.2.2.1)
    have F439 := F410.other W430 (Or.inl hnes.2.2.2.2.2.2.2.1)
    have F440 := F411.other W430 (Or.inl hnes.2.2.2.2.2.2.2.1)
    have F441 := F412.other W430 (Or.inl hnes.2.2.2.2.2.2.2.1)
    have F442 := F413.other W430 (Or.inl hnes.2.2.2.2.2.2.2.1)
    have F443 := F414.other W430 (Or.inl hnes.2.2.2.2.2.2.2.1)
    have E444 := E415.wr W430
    have E445 := E416.wr W430
    have E446 := E417.wr W430
    have A447 := A418.other W430 hnes.2.2.2.2.2.2.2.2.2.2.2.2.2.2
    have A448 := A420.other W430 hnes.2.2.2.2.2.2.2.2.2.1
    have A449 := A421.other W430 hnes.2.2.2.2.2.2.2.2.2.2.2.1
    have A450 := A422.other W430 hnes.2.2.2.2.2.2.2.2.2.2.2.2.2.1
    have K451 := K423.wr W430 (Or.inl (List.mem_of_getElem? (i := 5) rfl))
    have Z452 : n0 ≤ h430.size := W430.size ▸ Z424
    have N453 := Fr.snoc X430 N425 hsn.2.1
    obtain ⟨T454, X454, e454, st454⟩ := getF X430 hx hZ hown (host := "") (Or.inl (hw _ (List.mem_of_getElem? (i := 50) rfl))) Via.refl e430 F436 (g := (mkF m 67 #[.val (.ref st), .val (.int ii), .val (.int (lm - (1 : Int32))), .val (.int (fz ki))] [(.ref st)])) rfl rfl (hb hby d13_67)
    obtain ⟨T455, h455, X455, e455, W455, st455⟩ := own_iast X454 hx hZ e454 A431 (k := kl) Il (g := (mkF m 72 #[.val (.ref st), .val (.int ii), .val (.int (lm - (1 : Int32))), .val (.int (fz ki))] [(.int (fz ki)), (.int (lm - (1 : Int32))), (.ref nz)])) rfl rfl (hb hby d13_72)
    have A456 := A431.storeI W455
    have F457 := F432.other W455 (Or.inl hnes.2.2.2.2.2.1)
    have F458 := F433.other W455 (Or.inl hnes.2.2.2.2.2.1)
    have F459 := F434.other W455 (Or.inl hnes.2.2.2.2.2.1)
    have F460 := F435.other W455 (Or.inl hnes.2.2.2.2.2.1)
    have F461 := F436.other W455 (Or.inl hnes.2.2.2.2.2.1)
    have F462 := F437.other W455 (Or.inl hnes.2.2.2.2.2.1)
    have F463 := F438.other W455 (Or.inl hnes.2.2.2.2.2.1)
    have F464 := F439.other W455 (Or.inl hnes.2.2.2.2.2.2.2.1)
    have F465 := F440.other W455 (Or.inl hnes.2.2.2.2.2.2.2.1)
    have F466 := F441.other W455 (Or.inl hnes.2.2.2.2.2.2.2.1)
    have F467 := F442.other W455 (Or.inl hnes.2.2.2.2.2.2.2.1)
    have F468 := F443.other W455 (Or.inl hnes.2.2.2.2.2.2.2.1)
    have E469 := E444.wr W455
    have E470 := E445.wr W455
    have E471 := E446.wr W455
    have A472 := A447.other W455 hnes.2.2.2.2.2.2.2.2.2.2.2.2.2.2
    have A473 := A448.other W455 hnes.2.2.2.2.2.2.2.2.2.1
    have A474 := A449.other W455 hnes.2.2.2.2.2.2.2.2.2.2.2.1
    have A475 := A450.other W455 hnes.2.2.2.2.2.2.2.2.2.2.2.2.2.1
    have K476 := K451.wr W455 (Or.inl (List.mem_of_getElem? (i := 5) rfl))
    have Z477 : n0 ≤ h455.size := W455.size ▸ Z452
    have N478 := Fr.snoc X455 N453 hsn.2.1
    obtain ⟨T479, X479, e479, st479⟩ := getF X455 hx hZ hown (host := "") (Or.inl (hw _ (List.mem_of_getElem? (i := 30) rfl))) Via.refl e455 F458 (g := (mkF m 74 #[.val (.ref st), .val (.int ii), .val (.int (lm - (1 : Int32))), .val (.int (fz ki))] [(.ref st)])) rfl rfl (hb hby d13_74)
    obtain ⟨T480, h480, X480, e480, W480, st480⟩ := own_iast X479 hx hZ e479 A472 (k := 0) ⟨by decide, rfl, by decide⟩ (g := (mkF m 79 #[.val (.ref st), .val (.int ii), .val (.int (lm - (1 : Int32))), .val (.int (fz ki))] [(.int (lm - (1 : Int32))), (.int (0 : Int32)), (.ref lim)])) rfl rfl (hb hby d13_79)
    have A481 : OwnAV Z h480 lim .int 1 (fun i => (.int ((own_l2 (lm - (1 : Int32)) (0 : Int32)) i))) := (A472.storeI W480).congr (fun j hj => by
        have q : j = 0 ∨ j = 1 := by omega
        rcases q with rfl | rfl <;> rfl)
    have F482 := F457.other W480 (Or.inl hnes.2.2.2.2.1)
    have F483 := F458.other W480 (Or.inl hnes.2.2.2.2.1)
    have F484 := F459.other W480 (Or.inl hnes.2.2.2.2.1)
    have F485 := F460.other W480 (Or.inl hnes.2.2.2.2.1)
    have F486 := F461.other W480 (Or.inl hnes.2.2.2.2.1)
    have F487 := F462.other W480 (Or.inl hnes.2.2.2.2.1)
    have F488 := F463.other W480 (Or.inl hnes.2.2.2.2.1)
    have F489 := F464.other W480 (Or.inl hnes.2.2.2.2.2.2.1)
    have F490 := F465.other W480 (Or.inl hnes.2.2.2.2.2.2.1)
    have F491 := F466.other W480 (Or.inl hnes.2.2.2.2.2.2.1)
    have F492 := F467.other W480 (Or.inl hnes.2.2.2.2.2.2.1)
    have F493 := F468.other W480 (Or.inl hnes.2.2.2.2.2.2.1)
    have E494 := E469.wr W480
    have E495 := E470.wr W480
    have E496 := E471.wr W480
    have A497 := A456.other W480 (Ne.symm hnes.2.2.2.2.2.2.2.2.2.2.2.2.2.2)
    have A498 := A473.other W480 hnes.2.2.2.2.2.2.2.2.1
    have A499 := A474.other W480 hnes.2.2.2.2.2.2.2.2.2.2.1
    have A500 := A475.other W480 hnes.2.2.2.2.2.2.2.2.2.2.2.2.1
    have K501 := K476.wr W480 (Or.inl (List.mem_of_getElem? (i := 6) rfl))
    have Z502 : n0 ≤ h480.size := W480.size ▸ Z477
    have N503 := Fr.snoc X480 N478 hsn.2.2
    have k504 : ∀ t, Steps p.tables e below (T480.setTop (mkF m 80 #[.val (.ref st), .val (.int ii), .val (.int (lm - (1 : Int32))), .val (.int (fz ki))] [])) t → Steps p.tables e below (s₁.setTop (entryFrame m #[(.ref st), (.int ii)] 4)) t := fun t hk => k301 t (by
      show Steps p.tables e below (T300.setTop (mkF m 12 #[.val (.ref st), .val (.int ii), .unset, .unset] [(.int (lcmpW ls (0 : Int64)))])) _
      refine XS.ifNo X300.here hx rfl (hb hby d13_12) rfl ((if0 _ _).trans (feq (fun q => hc12 ((lw_eq _ _).mp q))).1) ?_
      refine XS.aloadN X300.here hx rfl (hb hby d13_15) rfl rfl ?_
      refine st381 _ ?_
      refine XS.aloadN X381.here hx rfl (hb hby d13_19) rfl rfl ?_
      show Steps p.tables e below (T381.setTop (mkF m 20 #[.val (.ref st), .val (.int ii), .unset, .unset] [(.ref st), (.ref tr)])) _
      refine st382 _ ?_
      refine XS.iconst X382.here hx rfl (hb hby d13_23) ?_
      refine st383.trans ?_
      refine XS.aloadN X383.here hx rfl (hb hby d13_27) rfl rfl ?_
      show Steps p.tables e below (T383.setTop (mkF m 28 #[.val (.ref st), .val (.int ii), .unset, .unset] [(.ref st)])) _
      refine XS.aloadN X383.here hx rfl (hb hby d13_28) rfl rfl ?_
      refine st400 _ ?_
      refine st401.trans ?_
      refine st402 _ ?_
      show Steps p.tables e below (T402.setTop (mkF m 38 #[.val (.ref st), .val (.int ii), .unset, .unset] [])) _
      refine XS.aloadN X402.here hx rfl (hb hby d13_38) rfl rfl ?_
      refine st426 _ ?_
      refine XS.iconst X426.here hx rfl (hb hby d13_42) ?_
      refine own_iald X426 hx hZ e426 A418 (k := 0) ⟨by decide, rfl, by decide⟩ rfl (g := (mkF m 43 #[.val (.ref st), .val (.int ii), .unset, .unset] [(.int (0 : Int32)), (.ref lim)])) rfl rfl (hb hby d13_43) _ ?_
      show Steps p.tables e below (T426.setTop (mkF m 44 #[.val (.ref st), .val (.int ii), .unset, .unset] [(.int lm)])) _
      refine XS.iconst X426.here hx rfl (hb hby d13_44) ?_
      refine XS.isub X426.here hx rfl (hb hby d13_45) rfl ?_
      refine XS.istoreN X426.here hx rfl (hb hby d13_46) rfl (l' := #[.val (.ref st), .val (.int ii), .val (.int (lm - (1 : Int32))), .unset]) rfl ?_
      refine XS.aloadN X426.here hx rfl (hb hby d13_47) rfl rfl ?_
      show Steps p.tables e below (T426.setTop (mkF m 48 #[.val (.ref st), .val (.int ii), .val (.int (lm - (1 : Int32))), .unset] [(.ref st)])) _
      refine st427 _ ?_
      refine XS.iloadN X427.here hx rfl (hb hby d13_51) rfl ?_
      refine own_iald X427 hx hZ e427 A419 (k := ki) Ii rfl (g := (mkF m 52 #[.val (.ref st), .val (.int ii), .val (.int (lm - (1 : Int32))), .unset] [(.int ii), (.ref nz)])) rfl rfl (hb hby d13_52) _ ?_
      refine XS.istoreN X427.here hx rfl (hb hby d13_53) rfl (l' := #[.val (.ref st), .val (.int ii), .val (.int (lm - (1 : Int32))), .val (.int (fz ki))]) rfl ?_
      show Steps p.tables e below (T427.setTop (mkF m 54 #[.val (.ref st), .val (.int ii), .val (.int (lm - (1 : Int32))), .val (.int (fz ki))] [])) _
      refine XS.aloadN X427.here hx rfl (hb hby d13_54) rfl rfl ?_
      refine st428 _ ?_
      refine XS.iloadN X428.here hx rfl (hb hby d13_58) rfl ?_
      refine XS.aloadN X428.here hx rfl (hb hby d13_59) rfl rfl ?_
      show Steps p.tables e below (T428.setTop (mkF m 60 #[.val (.ref st), .val (.int ii), .val (.int (lm - (1 : Int32))), .val (.int (fz ki))] [(.ref st), (.int ii), (.ref nz)])) _
      refine st429 _ ?_
      refine XS.iloadN X429.here hx rfl (hb hby d13_63) rfl ?_
      refine own_iald X429 hx hZ e429 A419 (k := kl) Il rfl (g := (mkF m 64 #[.val (.ref st), .val (.int ii), .val (.int (lm - (1 : Int32))), .val (.int (fz ki))] [(.int (lm - (1 : Int32))), (.ref nz), (.int ii), (.ref nz)])) rfl rfl (hb hby d13_64) _ ?_
      refine st430 _ ?_
      show Steps p.tables e below (T430.setTop (mkF m 66 #[.val (.ref st), .val (.int ii), .val (.int (lm - (1 : Int32))), .val (.int (fz ki))] [])) _
      refine XS.aloadN X430.here hx rfl (hb hby d13_66) rfl rfl ?_
      refine st454 _ ?_
      refine XS.iloadN X454.here hx rfl (hb hby d13_70) rfl ?_
      refine XS.iloadN X454.here hx rfl (hb hby d13_71) rfl ?_
      show Steps p.tables e below (T454.setTop (mkF m 72 #[.val (.ref st), .val (.int ii), .val (.int (lm - (1 : Int32))), .val (.int (fz ki))] [(.int (fz ki)), (.int (lm - (1 : Int32))), (.ref nz)])) _
      refine st455 _ ?_
      refine XS.aloadN X455.here hx rfl (hb hby d13_73) rfl rfl ?_
      refine st479 _ ?_
      refine XS.iconst X479.here hx rfl (hb hby d13_77) ?_
      show Steps p.tables e below (T479.setTop (mkF m 78 #[.val (.ref st), .val (.int ii), .val (.int (lm - (1 : Int32))), .val (.int (fz ki))] [(.int (0 : Int32)), (.ref lim)])) _
      refine XS.iloadN X479.here hx rfl (hb hby d13_78) rfl ?_
      refine st480 _ ?_
      exact hk)
    obtain ⟨fs, hr, hrun, hended, hW, hsame⟩ := X480.leave (v := none) (fun _ => rfl)
    refine ⟨_, _, k504 _ ?_, hrun, hended, _, _, rfl, ?_, ⟨_, rfl⟩, hW, hsame.mono (by decide) (by decide)⟩
    · show Steps p.tables e below (T480.setTop (mkF m 80 #[.val (.ref st), .val (.int ii), .val (.int (lm - (1 : Int32))), .val (.int (fz ki))] [])) _
      exact X480.returnOut hx Bd.returns (hb hby d13_80) hr
    · show Q13 Z st ii tr ow ix sv lim wo sa nz ma ls tp lm nn ki kl fz h0 n0 _ T480.heap _
      rw [e480]
      exact ⟨rfl, N503, K501, ⟨E495, F482, F483, F484, F485, F486, F487, F488⟩, ⟨t398, pt398, (by omega), ⟨E494, F489, F490, F491, F492, F493, A498, ⟨_, A499⟩, ⟨_, A500⟩⟩⟩, A497, A481, E496⟩
theorem d6_0 : decode prog_44_method_4_code 0 = .ok (.iload_n 0, 1) := by decide +kernel
theorem d6_1 : decode prog_44_method_4_code 1 = .ok (.bipush 64, 2) := by decide +kernel
theorem d6_3 : decode prog_44_method_4_code 3 = .ok (.iadd, 1) := by decide +kernel
theorem d6_4 : decode prog_44_method_4_code 4 = .ok (.iconst 1, 1) := by decide +kernel
theorem d6_5 : decode prog_44_method_4_code 5 = .ok (.isub, 1) := by decide +kernel
theorem d6_6 : decode prog_44_method_4_code 6 = .ok (.bipush 64, 2) := by decide +kernel
theorem d6_8 : decode prog_44_method_4_code 8 = .ok (.idiv, 1) := by decide +kernel
theorem d6_9 : decode prog_44_method_4_code 9 = .ok (.ireturn, 1) := by decide +kernel
theorem pn_6 : plainName "com/example/faultline/faultline/engine/ReversibleBitSet" = true := by first | (simp [plainName, overriddenIn]; done) | decide +kernel
theorem ef_6 (m : MethodId) (bits : Int32) : entryFrame m #[(.int bits)] 1 = (mkF m 0 #[.val (.int bits)] []) := by first | (simp [entryFrame, mkF, argsToLocals, Value.category]; done) | rfl
def Qc0 (Z : State) (bits : Int32) (h0 : Heap) (n0 : Nat) (v : Option Value) (h : Heap) (L : List Loc) : Prop := v = some (.int (0 : Int32)) ∧ Fr n0 L ∧ h = h0
set_option maxRecDepth 65536 in
set_option maxHeartbeats 40000000 in
theorem rmc0 (l : Launch) (Z : State) (a0 : Array Value) (hw : ∀ d ∈ tables_1, d.before a0 Z = true) (ws : List Jvm.Cond) (bits : Int32) (h0 : Heap) (n0 : Nat) (Z0 : n0 ≤ h0.size) (hwc : (((bits + (64 : Int32)) - (1 : Int32)) / (64 : Int32)) = (0 : Int32)) :
    MetFree l (⟨"com/example/faultline/faultline/engine/ReversibleBitSet", "wordCount", "(I)I"⟩ : MethodName) (head1 (Jvm.Cond.code (⟨"com/example/faultline/faultline/engine/ReversibleBitSet", "wordCount", "(I)I"⟩ : MethodName) prog_44_method_4_code 1 (some .int) :: ws) ({ frames := 0, cells := 0, slots := 0, locals := 0 } : Room)) (fun a U => a = #[(.int bits)] ∧ Z.Warmed39 U.vm ∧ U.heap = h0) (fun _ _ _ _ _ => True) (fun _ U o U' => ∃ v L, o = .returned v ∧ Qc0 Z bits h0 n0 v U'.heap L ∧ FrameEnd U o U' L ({ frames := 0, cells := 0, slots := 0, locals := 0 } : Room).cells ({ frames := 0, cells := 0, slots := 0, locals := 0 } : Room).slots) := by
  refine MetFree.of_bodySF (plainFor_of_name pn_6) hisR ?_
  intro p e s m args below meth c s₁ Bd hml0 hP hK
  obtain ⟨rfl, hZ, hh⟩ := hP
  have hx := Bd.exec
  have hby := Bd.bytes
  have hml : c.maxLocals = 1 := hml0
  have hown : s.vm.findClass "com/example/faultline/faultline/engine/ReversibleBitSet" = some m.cls := findClass_of_methodNamed Bd.named
  have hnm := (name_of_methodNamed Bd.named Bd.method).1
  have X0 : Stand p l e ({ frames := 0, cells := 0, slots := 0, locals := 0 } : Room) s m #[(.int bits)] below meth c s₁ [] 0 0 := Stand.of_body Bd
  have e0 : s₁.heap = h0 := by rw [← hh, Bd.state]; rfl
  have N0 := Fr.nil n0
  have pre0 : ∀ t, Steps p.tables e below (s₁.setTop (mkF m 0 #[.val (.int bits)] [])) t → Steps p.tables e below (s₁.setTop (entryFrame m #[(.int bits)] 1)) t := fun t k => castTop (ef_6 m bits) k
  have k505 : ∀ t, Steps p.tables e below (s₁.setTop (mkF m 9 #[.val (.int bits)] [(.int (((bits + (64 : Int32)) - (1 : Int32)) / (64 : Int32)))])) t → Steps p.tables e below (s₁.setTop (entryFrame m #[(.int bits)] 1)) t := fun t hk => pre0 t (by
    show Steps p.tables e below (s₁.setTop (mkF m 0 #[.val (.int bits)] [])) _
    refine XS.iloadN X0.here hx rfl (hb hby d6_0) rfl ?_
    refine XS.bipush X0.here hx rfl (hb hby d6_1) ?_
    refine XS.iadd X0.here hx rfl (hb hby d6_3) rfl ?_
    refine XS.iconst X0.here hx rfl (hb hby d6_4) ?_
    show Steps p.tables e below (s₁.setTop (mkF m 5 #[.val (.int bits)] [(.int (1 : Int32)), (.int (bits + (64 : Int32)))])) _
    refine XS.isub X0.here hx rfl (hb hby d6_5) rfl ?_
    refine XS.bipush X0.here hx rfl (hb hby d6_6) ?_
    refine XS.idiv X0.here hx rfl (hb hby d6_8) rfl (by decide) ?_
    exact hk)
  obtain ⟨fs, hr, hrun, hended, hW, hsame⟩ := X0.leave (v := some (.int (((bits + (64 : Int32)) - (1 : Int32)) / (64 : Int32)))) (fun h => by rw [Bd.returns] at h; cases h)
  refine ⟨_, _, k505 _ ?_, hrun, hended, _, _, rfl, ?_, ⟨_, rfl⟩, hW, hsame.mono (by decide) (by decide)⟩
  · show Steps p.tables e below (s₁.setTop (mkF m 9 #[.val (.int bits)] [(.int (((bits + (64 : Int32)) - (1 : Int32)) / (64 : Int32)))])) _
    exact retI X0 hx Bd.returns (hb hby d6_9) hr
  · show Qc0 Z bits h0 n0 _ s₁.heap _
    rw [e0]
    exact ⟨by rw [hwc], N0, rfl⟩
theorem d5_0 : decode prog_44_method_2_code 0 = .ok (.iload_n 0, 1) := by decide +kernel
theorem d5_1 : decode prog_44_method_2_code 1 = .ok (.invokestatic 40, 3) := by decide +kernel
theorem d5_4 : decode prog_44_method_2_code 4 = .ok (.newarray .long, 2) := by decide +kernel
theorem d5_6 : decode prog_44_method_2_code 6 = .ok (.areturn, 1) := by decide +kernel
theorem pn_5 : plainName "com/example/faultline/faultline/engine/ReversibleBitSet" = true := by first | (simp [plainName, overriddenIn]; done) | decide +kernel
theorem ef_5 (m : MethodId) (bits : Int32) : entryFrame m #[(.int bits)] 1 = (mkF m 0 #[.val (.int bits)] []) := by first | (simp [entryFrame, mkF, argsToLocals, Value.category]; done) | rfl
def Qw0 (Z : State) (bits : Int32) (h0 : Heap) (n0 : Nat) (v : Option Value) (h : Heap) (L : List Loc) : Prop := ∃ wo : Addr, v = some (.ref wo) ∧ h0.size ≤ wo ∧ Fr n0 L ∧ Keep h0 h [] ∧ OwnAV Z h wo .long 0 (fun i => (.long (own_l2 (0 : Int64) (0 : Int64) i))) ∧ Exa Z h wo "[J"
set_option maxRecDepth 65536 in
set_option maxHeartbeats 40000000 in
theorem rmw0 (l : Launch) (Z : State) (a0 : Array Value) (hw : ∀ d ∈ tables_1, d.before a0 Z = true) (ws : List Jvm.Cond) (bits : Int32) (h0 : Heap) (n0 : Nat) (Z0 : n0 ≤ h0.size) (hwc : (((bits + (64 : Int32)) - (1 : Int32)) / (64 : Int32)) = (0 : Int32)) :
    MetFree l (⟨"com/example/faultline/faultline/engine/ReversibleBitSet", "words", "(I)[J"⟩ : MethodName) (head1 (Jvm.Cond.code (⟨"com/example/faultline/faultline/engine/ReversibleBitSet", "words", "(I)[J"⟩ : MethodName) prog_44_method_2_code 1 (some (.array .long)) :: ws) ({ frames := 1, cells := 1, slots := 0, locals := 12 } : Room)) (fun a U => a = #[(.int bits)] ∧ Z.Warmed39 U.vm ∧ U.heap = h0) (fun _ _ _ _ _ => True) (fun _ U o U' => ∃ v L, o = .returned v ∧ Qw0 Z bits h0 n0 v U'.heap L ∧ FrameEnd U o U' L ({ frames := 1, cells := 1, slots := 0, locals := 12 } : Room).cells ({ frames := 1, cells := 1, slots := 0, locals := 12 } : Room).slots) := by
  refine MetFree.of_bodySF (plainFor_of_name pn_5) hisR ?_
  intro p e s m args below meth c s₁ Bd hml0 hP hK
  obtain ⟨rfl, hZ, hh⟩ := hP
  have hx := Bd.exec
  have hby := Bd.bytes
  have hml : c.maxLocals = 1 := hml0
  have hown : s.vm.findClass "com/example/faultline/faultline/engine/ReversibleBitSet" = some m.cls := findClass_of_methodNamed Bd.named
  have hnm := (name_of_methodNamed Bd.named Bd.method).1
  have X0 : Stand p l e ({ frames := 1, cells := 1, slots := 0, locals := 12 } : Room) s m #[(.int bits)] below meth c s₁ [] 0 0 := Stand.of_body Bd
  have e0 : s₁.heap = h0 := by rw [← hh, Bd.state]; rfl
  have N0 := Fr.nil n0
  have pre0 : ∀ t, Steps p.tables e below (s₁.setTop (mkF m 0 #[.val (.int bits)] [])) t → Steps p.tables e below (s₁.setTop (entryFrame m #[(.int bits)] 1)) t := fun t k => castTop (ef_5 m bits) k
  obtain ⟨_, _, ⟨T506, L506, k506, n506⟩, -, X506, ⟨Lc506, hQ506, l506, y506, z506⟩, st506⟩ := Jvm.LawKit.callS X0 hx (y := (⟨"com/example/faultline/faultline/engine/ReversibleBitSet", "wordCount", "(I)I"⟩ : MethodName)) hown (mvT hZ (hw _ (List.mem_of_getElem? (i := 43) rfl))) (mvT hZ (hw _ (List.mem_of_getElem? (i := 44) rfl))) (mvT hZ (hw _ (List.mem_of_getElem? (i := 25) rfl))) (mvT hZ (hw _ (List.mem_of_getElem? (i := 45) rfl))) (by decide) (backOf (W := 0) (rmc0 l Z a0 hw [] bits  h0 n0 Z0 hwc) hZ (hw _ (List.mem_of_getElem? (i := 45) rfl)) (hw _ (List.mem_of_getElem? (i := 25) rfl)) (by decide) (by decide)) (g := (mkF m 1 #[.val (.int bits)] [(.int bits)])) rfl (by rw [hml]; rfl) (argsL := [(.int bits)]) (rest := []) (lenOf pd_4 rfl) rfl (by show 2 * 0 + _ ≤ _; exact Nat.le_of_eq rfl) (hb hby d5_1) (fun _ _ => ⟨rfl, e0, (by decide : 0 + 0 ≤ _), (by decide : 0 + 0 ≤ _)⟩)
  dsimp only [Pt.U, Pt.locs, Pt.cells, Pt.slots] at X506 l506 y506 z506 st506 hQ506
  subst l506 y506 z506
  obtain ⟨rfl, N506q, e506⟩ := hQ506
  have N506 := Fr.app N0 N506q
  obtain ⟨T507, h507, k507, X507, e507, E507, A507, Y507, st507⟩ := newPE X506 hx hZ (hw _ (List.mem_of_getElem? (i := 16) rfl)) e506 (g := (mkF m 4 #[.val (.int bits)] [(.int (0 : Int32))])) rfl (hb hby d5_4) rfl (by decide) (cap := 0) (by decide) (by decide) (by decide) (by decide) (ad := "[J") (by decide)
  obtain ⟨b507, g507⟩ : ∃ z, z = h0.size := ⟨_, rfl⟩
  have g508 : n0 ≤ b507 := g507 ▸ Z0
  have s509 : h0.size ≤ b507 := g507 ▸ (Keep.refl h0 []).1
  rw [← g507] at A507 Y507 st507
  have K510 := (Keep.refl h0 []).ext E507
  have Z511 : n0 ≤ h507.size := Nat.le_trans Z0 E507.1
  have A512 : OwnAV Z h507 b507 .long 0 (fun i => (.long ((fun _ => (0 : Int64)) i))) := OwnAV.new A507 rfl (by decide)
  have A513 : OwnAV Z h507 b507 .long 0 (fun i => (.long ((own_l2 (0 : Int64) (0 : Int64)) i))) := A512.congr (fun j hj => by
      have q : j = 0 ∨ j = 1 := by omega
      rcases q with rfl | rfl <;> rfl)
  have k514 : ∀ t, Steps p.tables e below (T507.setTop (mkF m 6 #[.val (.int bits)] [(.ref b507)])) t → Steps p.tables e below (s₁.setTop (entryFrame m #[(.int bits)] 1)) t := fun t hk => pre0 t (by
    show Steps p.tables e below (s₁.setTop (mkF m 0 #[.val (.int bits)] [])) _
    refine XS.iloadN X0.here hx rfl (hb hby d5_0) rfl ?_
    refine st506 _ ?_
    refine st507 _ ?_
    exact hk)
  obtain ⟨fs, hr, hrun, hended, hW, hsame⟩ := X507.leave (v := some (.ref b507)) (fun h => by rw [Bd.returns] at h; cases h)
  refine ⟨_, _, k514 _ ?_, hrun, hended, _, _, rfl, ?_, ⟨_, rfl⟩, hW, hsame.mono (by decide) (by decide)⟩
  · show Steps p.tables e below (T507.setTop (mkF m 6 #[.val (.int bits)] [(.ref b507)])) _
    exact retOut X507 hx Bd.returns rfl (Or.inr (Or.inr (Or.inr (Or.inr ⟨rfl, rfl, rfl⟩)))) (hb hby d5_6) hr
  · show Qw0 Z bits h0 n0 _ T507.heap _
    rw [e507]
    exact ⟨_, rfl, s509, N506, K510, A513, Y507⟩
theorem d4_0 : decode prog_44_method_3_code 0 = .ok (.iload_n 0, 1) := by decide +kernel
theorem d4_1 : decode prog_44_method_3_code 1 = .ok (.invokestatic 44, 3) := by decide +kernel
theorem d4_4 : decode prog_44_method_3_code 4 = .ok (.astore_n 1, 1) := by decide +kernel
theorem d4_5 : decode prog_44_method_3_code 5 = .ok (.iconst 0, 1) := by decide +kernel
theorem d4_6 : decode prog_44_method_3_code 6 = .ok (.istore_n 2, 1) := by decide +kernel
theorem d4_7 : decode prog_44_method_3_code 7 = .ok (.iload_n 2, 1) := by decide +kernel
theorem d4_8 : decode prog_44_method_3_code 8 = .ok (.aload_n 1, 1) := by decide +kernel
theorem d4_9 : decode prog_44_method_3_code 9 = .ok (.arraylength, 1) := by decide +kernel
theorem d4_10 : decode prog_44_method_3_code 10 = .ok (.if_icmp .ge 36, 3) := by decide +kernel
theorem d4_13 : decode prog_44_method_3_code 13 = .ok (.iload_n 0, 1) := by decide +kernel
theorem d4_14 : decode prog_44_method_3_code 14 = .ok (.iload_n 2, 1) := by decide +kernel
theorem d4_15 : decode prog_44_method_3_code 15 = .ok (.bipush 64, 2) := by decide +kernel
theorem d4_17 : decode prog_44_method_3_code 17 = .ok (.imul, 1) := by decide +kernel
theorem d4_18 : decode prog_44_method_3_code 18 = .ok (.isub, 1) := by decide +kernel
theorem d4_19 : decode prog_44_method_3_code 19 = .ok (.istore_n 3, 1) := by decide +kernel
theorem d4_20 : decode prog_44_method_3_code 20 = .ok (.aload_n 1, 1) := by decide +kernel
theorem d4_21 : decode prog_44_method_3_code 21 = .ok (.iload_n 2, 1) := by decide +kernel
theorem d4_22 : decode prog_44_method_3_code 22 = .ok (.iload_n 3, 1) := by decide +kernel
theorem d4_23 : decode prog_44_method_3_code 23 = .ok (.bipush 64, 2) := by decide +kernel
theorem d4_25 : decode prog_44_method_3_code 25 = .ok (.if_icmp .lt 9, 3) := by decide +kernel
theorem d4_28 : decode prog_44_method_3_code 28 = .ok (.ldc2_w 13, 3) := by decide +kernel
theorem d4_31 : decode prog_44_method_3_code 31 = .ok (.goto 8, 3) := by decide +kernel
theorem d4_34 : decode prog_44_method_3_code 34 = .ok (.lconst 1, 1) := by decide +kernel
theorem d4_35 : decode prog_44_method_3_code 35 = .ok (.iload_n 3, 1) := by decide +kernel
theorem d4_36 : decode prog_44_method_3_code 36 = .ok (.lshl, 1) := by decide +kernel
theorem d4_37 : decode prog_44_method_3_code 37 = .ok (.lconst 1, 1) := by decide +kernel
theorem d4_38 : decode prog_44_method_3_code 38 = .ok (.lsub, 1) := by decide +kernel
theorem d4_39 : decode prog_44_method_3_code 39 = .ok (.lastore, 1) := by decide +kernel
theorem d4_40 : decode prog_44_method_3_code 40 = .ok (.iinc 2 1, 3) := by decide +kernel
theorem d4_43 : decode prog_44_method_3_code 43 = .ok (.goto (-36), 3) := by decide +kernel
theorem d4_46 : decode prog_44_method_3_code 46 = .ok (.aload_n 1, 1) := by decide +kernel
theorem d4_47 : decode prog_44_method_3_code 47 = .ok (.areturn, 1) := by decide +kernel
theorem pn_4 : plainName "com/example/faultline/faultline/engine/ReversibleBitSet" = true := by first | (simp [plainName, overriddenIn]; done) | decide +kernel
theorem ef_4 (m : MethodId) (bits : Int32) : entryFrame m #[(.int bits)] 4 = (mkF m 0 #[.val (.int bits), .unset, .unset, .unset] []) := by first | (simp [entryFrame, mkF, argsToLocals, Value.category]; done) | rfl
def Qa0 (Z : State) (bits : Int32) (h0 : Heap) (n0 : Nat) (v : Option Value) (h : Heap) (L : List Loc) : Prop := ∃ (wo : Addr) (x0 x1 : Int64), v = some (.ref wo) ∧ h0.size ≤ wo ∧ Fr n0 L ∧ Keep h0 h [] ∧ OwnAV Z h wo .long 0 (fun i => (.long (own_l2 x0 x1 i))) ∧ Exa Z h wo "[J"
set_option maxRecDepth 65536 in
set_option maxHeartbeats 40000000 in
theorem rma0 (l : Launch) (Z : State) (a0 : Array Value) (hw : ∀ d ∈ tables_1, d.before a0 Z = true) (ws : List Jvm.Cond) (bits : Int32) (h0 : Heap) (n0 : Nat) (Z0 : n0 ≤ h0.size) (hwc : (((bits + (64 : Int32)) - (1 : Int32)) / (64 : Int32)) = (0 : Int32)) :
    MetFree l (⟨"com/example/faultline/faultline/engine/ReversibleBitSet", "allSet", "(I)[J"⟩ : MethodName) (head1 (Jvm.Cond.code (⟨"com/example/faultline/faultline/engine/ReversibleBitSet", "allSet", "(I)[J"⟩ : MethodName) prog_44_method_3_code 4 (some (.array .long)) :: ws) ({ frames := 2, cells := 1, slots := 0, locals := 24 } : Room)) (fun a U => a = #[(.int bits)] ∧ Z.Warmed39 U.vm ∧ U.heap = h0) (fun _ _ _ _ _ => True) (fun _ U o U' => ∃ v L, o = .returned v ∧ Qa0 Z bits h0 n0 v U'.heap L ∧ FrameEnd U o U' L ({ frames := 2, cells := 1, slots := 0, locals := 24 } : Room).cells ({ frames := 2, cells := 1, slots := 0, locals := 24 } : Room).slots) := by
  refine MetFree.of_bodySF (plainFor_of_name pn_4) hisR ?_
  intro p e s m args below meth c s₁ Bd hml0 hP hK
  obtain ⟨rfl, hZ, hh⟩ := hP
  have hx := Bd.exec
  have hby := Bd.bytes
  have hml : c.maxLocals = 4 := hml0
  have hown : s.vm.findClass "com/example/faultline/faultline/engine/ReversibleBitSet" = some m.cls := findClass_of_methodNamed Bd.named
  have hnm := (name_of_methodNamed Bd.named Bd.method).1
  have X0 : Stand p l e ({ frames := 2, cells := 1, slots := 0, locals := 24 } : Room) s m #[(.int bits)] below meth c s₁ [] 0 0 := Stand.of_body Bd
  have e0 : s₁.heap = h0 := by rw [← hh, Bd.state]; rfl
  have N0 := Fr.nil n0
  have pre0 : ∀ t, Steps p.tables e below (s₁.setTop (mkF m 0 #[.val (.int bits), .unset, .unset, .unset] [])) t → Steps p.tables e below (s₁.setTop (entryFrame m #[(.int bits)] 4)) t := fun t k => castTop (ef_4 m bits) k
  obtain ⟨_, _, ⟨T515, L515, k515, n515⟩, -, X515, ⟨Lc515, hQ515, l515, y515, z515⟩, st515⟩ := Jvm.LawKit.callS X0 hx (y := (⟨"com/example/faultline/faultline/engine/ReversibleBitSet", "words", "(I)[J"⟩ : MethodName)) hown (mvT hZ (hw _ (List.mem_of_getElem? (i := 40) rfl))) (mvT hZ (hw _ (List.mem_of_getElem? (i := 41) rfl))) (mvT hZ (hw _ (List.mem_of_getElem? (i := 25) rfl))) (mvT hZ (hw _ (List.mem_of_getElem? (i := 42) rfl))) (by decide) (backOf (W := 0) (rmw0 l Z a0 hw [] bits  h0 n0 Z0 hwc) hZ (hw _ (List.mem_of_getElem? (i := 42) rfl)) (hw _ (List.mem_of_getElem? (i := 25) rfl)) (by decide) (by decide)) (g := (mkF m 1 #[.val (.int bits), .unset, .unset, .unset] [(.int bits)])) rfl (by rw [hml]; rfl) (argsL := [(.int bits)]) (rest := []) (lenOf pd_5 rfl) rfl (by show 2 * 0 + _ ≤ _; exact Nat.le_of_eq rfl) (hb hby d4_1) (fun _ _ => ⟨rfl, e0, (by decide : 0 + 1 ≤ _), (by decide : 0 + 0 ≤ _)⟩)
  dsimp only [Pt.U, Pt.locs, Pt.cells, Pt.slots] at X515 l515 y515 z515 st515 hQ515
  subst l515 y515 z515
  obtain ⟨wo, rfl, so, N515q, K515, Vo, Eo⟩ := hQ515
  have N515 := Fr.app N0 N515q
  have K516 := (Keep.refl h0 []).trans K515 all0
  have Z517 : n0 ≤ T515.heap.size := Nat.le_trans Z0 K515.1
  have go : n0 ≤ wo := Nat.le_trans Z0 so
  have k518 : ∀ t, Steps p.tables e below (T515.setTop (mkF m 47 #[.val (.int bits), .val (.ref wo), .val (.int (0 : Int32)), .unset] [(.ref wo)])) t → Steps p.tables e below (s₁.setTop (entryFrame m #[(.int bits)] 4)) t := fun t hk => pre0 t (by
    show Steps p.tables e below (s₁.setTop (mkF m 0 #[.val (.int bits), .unset, .unset, .unset] [])) _
    refine XS.iloadN X0.here hx rfl (hb hby d4_0) rfl ?_
    refine st515 _ ?_
    refine XS.astoreN X515.here hx rfl (hb hby d4_4) rfl rfl (l' := #[.val (.int bits), .val (.ref wo), .unset, .unset]) rfl ?_
    refine XS.iconst X515.here hx rfl (hb hby d4_5) ?_
    show Steps p.tables e below (T515.setTop (mkF m 6 #[.val (.int bits), .val (.ref wo), .unset, .unset] [(.int (0 : Int32))])) _
    refine XS.istoreN X515.here hx rfl (hb hby d4_6) rfl (l' := #[.val (.int bits), .val (.ref wo), .val (.int (0 : Int32)), .unset]) rfl ?_
    refine XS.iloadN X515.here hx rfl (hb hby d4_7) rfl ?_
    refine XS.aloadN X515.here hx rfl (hb hby d4_8) rfl rfl ?_
    refine own_len X515 hx hZ rfl Vo (g := (mkF m 9 #[.val (.int bits), .val (.ref wo), .val (.int (0 : Int32)), .unset] [(.ref wo), (.int (0 : Int32))])) rfl rfl (hb hby d4_9) _ ?_
    show Steps p.tables e below (T515.setTop (mkF m 10 #[.val (.int bits), .val (.ref wo), .val (.int (0 : Int32)), .unset] [(.int (0 : Int32)), (.int (0 : Int32))])) _
    refine XS.icmpYes X515.here hx rfl (pc0 := 10) (pc' := 46) rfl (hb hby d4_10) rfl (flt (by decide : ¬ ((0 : Int32) < (0 : Int32)))).2.1 (by decide) (by decide) ?_
    refine XS.aloadN X515.here hx rfl (hb hby d4_46) rfl rfl ?_
    exact hk)
  obtain ⟨fs, hr, hrun, hended, hW, hsame⟩ := X515.leave (v := some (.ref wo)) (fun h => by rw [Bd.returns] at h; cases h)
  refine ⟨_, _, k518 _ ?_, hrun, hended, _, _, rfl, ?_, ⟨_, rfl⟩, hW, hsame.mono (by decide) (by decide)⟩
  · show Steps p.tables e below (T515.setTop (mkF m 47 #[.val (.int bits), .val (.ref wo), .val (.int (0 : Int32)), .unset] [(.ref wo)])) _
    exact retOut X515 hx Bd.returns rfl (Or.inr (Or.inr (Or.inr (Or.inr ⟨rfl, rfl, rfl⟩)))) (hb hby d4_47) hr
  · show Qa0 Z bits h0 n0 _ T515.heap _
    exact ⟨wo, (0 : Int64), (0 : Int64), rfl, so, N515, K516, Vo, Eo⟩
theorem d3_0 : decode prog_44_method_1_code 0 = .ok (.aload_n 0, 1) := by decide +kernel
theorem d3_1 : decode prog_44_method_1_code 1 = .ok (.invokespecial 1, 3) := by decide +kernel
theorem d3_4 : decode prog_44_method_1_code 4 = .ok (.aload_n 0, 1) := by decide +kernel
theorem d3_5 : decode prog_44_method_1_code 5 = .ok (.iconst 1, 1) := by decide +kernel
theorem d3_6 : decode prog_44_method_1_code 6 = .ok (.newarray .int, 2) := by decide +kernel
theorem d3_8 : decode prog_44_method_1_code 8 = .ok (.putfield 7, 3) := by decide +kernel
theorem d3_11 : decode prog_44_method_1_code 11 = .ok (.aload_n 0, 1) := by decide +kernel
theorem d3_12 : decode prog_44_method_1_code 12 = .ok (.ldc2_w 13, 3) := by decide +kernel
theorem d3_15 : decode prog_44_method_1_code 15 = .ok (.putfield 15, 3) := by decide +kernel
theorem d3_18 : decode prog_44_method_1_code 18 = .ok (.aload_n 0, 1) := by decide +kernel
theorem d3_19 : decode prog_44_method_1_code 19 = .ok (.aload_n 1, 1) := by decide +kernel
theorem d3_20 : decode prog_44_method_1_code 20 = .ok (.putfield 19, 3) := by decide +kernel
theorem d3_23 : decode prog_44_method_1_code 23 = .ok (.aload_n 0, 1) := by decide +kernel
theorem d3_24 : decode prog_44_method_1_code 24 = .ok (.iload_n 2, 1) := by decide +kernel
theorem d3_25 : decode prog_44_method_1_code 25 = .ok (.invokestatic 23, 3) := by decide +kernel
theorem d3_28 : decode prog_44_method_1_code 28 = .ok (.putfield 27, 3) := by decide +kernel
theorem d3_31 : decode prog_44_method_1_code 31 = .ok (.aload_n 0, 1) := by decide +kernel
theorem d3_32 : decode prog_44_method_1_code 32 = .ok (.aload_n 0, 1) := by decide +kernel
theorem d3_33 : decode prog_44_method_1_code 33 = .ok (.getfield 27, 3) := by decide +kernel
theorem d3_36 : decode prog_44_method_1_code 36 = .ok (.arraylength, 1) := by decide +kernel
theorem d3_37 : decode prog_44_method_1_code 37 = .ok (.newarray .long, 2) := by decide +kernel
theorem d3_39 : decode prog_44_method_1_code 39 = .ok (.putfield 31, 3) := by decide +kernel
theorem d3_42 : decode prog_44_method_1_code 42 = .ok (.aload_n 0, 1) := by decide +kernel
theorem d3_43 : decode prog_44_method_1_code 43 = .ok (.aload_n 0, 1) := by decide +kernel
theorem d3_44 : decode prog_44_method_1_code 44 = .ok (.getfield 27, 3) := by decide +kernel
theorem d3_47 : decode prog_44_method_1_code 47 = .ok (.arraylength, 1) := by decide +kernel
theorem d3_48 : decode prog_44_method_1_code 48 = .ok (.newarray .int, 2) := by decide +kernel
theorem d3_50 : decode prog_44_method_1_code 50 = .ok (.putfield 34, 3) := by decide +kernel
theorem d3_53 : decode prog_44_method_1_code 53 = .ok (.aload_n 0, 1) := by decide +kernel
theorem d3_54 : decode prog_44_method_1_code 54 = .ok (.aload_n 0, 1) := by decide +kernel
theorem d3_55 : decode prog_44_method_1_code 55 = .ok (.getfield 27, 3) := by decide +kernel
theorem d3_58 : decode prog_44_method_1_code 58 = .ok (.arraylength, 1) := by decide +kernel
theorem d3_59 : decode prog_44_method_1_code 59 = .ok (.newarray .long, 2) := by decide +kernel
theorem d3_61 : decode prog_44_method_1_code 61 = .ok (.putfield 37, 3) := by decide +kernel
theorem d3_64 : decode prog_44_method_1_code 64 = .ok (.iconst 0, 1) := by decide +kernel
theorem d3_65 : decode prog_44_method_1_code 65 = .ok (.istore_n 3, 1) := by decide +kernel
theorem d3_66 : decode prog_44_method_1_code 66 = .ok (.iload_n 3, 1) := by decide +kernel
theorem d3_67 : decode prog_44_method_1_code 67 = .ok (.aload_n 0, 1) := by decide +kernel
theorem d3_68 : decode prog_44_method_1_code 68 = .ok (.getfield 27, 3) := by decide +kernel
theorem d3_71 : decode prog_44_method_1_code 71 = .ok (.arraylength, 1) := by decide +kernel
theorem d3_72 : decode prog_44_method_1_code 72 = .ok (.if_icmp .ge 25, 3) := by decide +kernel
theorem d3_75 : decode prog_44_method_1_code 75 = .ok (.aload_n 0, 1) := by decide +kernel
theorem d3_76 : decode prog_44_method_1_code 76 = .ok (.getfield 31, 3) := by decide +kernel
theorem d3_79 : decode prog_44_method_1_code 79 = .ok (.iload_n 3, 1) := by decide +kernel
theorem d3_80 : decode prog_44_method_1_code 80 = .ok (.ldc2_w 13, 3) := by decide +kernel
theorem d3_83 : decode prog_44_method_1_code 83 = .ok (.lastore, 1) := by decide +kernel
theorem d3_84 : decode prog_44_method_1_code 84 = .ok (.aload_n 0, 1) := by decide +kernel
theorem d3_85 : decode prog_44_method_1_code 85 = .ok (.getfield 34, 3) := by decide +kernel
theorem d3_88 : decode prog_44_method_1_code 88 = .ok (.iload_n 3, 1) := by decide +kernel
theorem d3_89 : decode prog_44_method_1_code 89 = .ok (.iload_n 3, 1) := by decide +kernel
theorem d3_90 : decode prog_44_method_1_code 90 = .ok (.iastore, 1) := by decide +kernel
theorem d3_91 : decode prog_44_method_1_code 91 = .ok (.iinc 3 1, 3) := by decide +kernel
theorem d3_94 : decode prog_44_method_1_code 94 = .ok (.goto (-28), 3) := by decide +kernel
theorem d3_97 : decode prog_44_method_1_code 97 = .ok (.aload_n 0, 1) := by decide +kernel
theorem d3_98 : decode prog_44_method_1_code 98 = .ok (.getfield 7, 3) := by decide +kernel
theorem d3_101 : decode prog_44_method_1_code 101 = .ok (.iconst 0, 1) := by decide +kernel
theorem d3_102 : decode prog_44_method_1_code 102 = .ok (.aload_n 0, 1) := by decide +kernel
theorem d3_103 : decode prog_44_method_1_code 103 = .ok (.getfield 27, 3) := by decide +kernel
theorem d3_106 : decode prog_44_method_1_code 106 = .ok (.arraylength, 1) := by decide +kernel
theorem d3_107 : decode prog_44_method_1_code 107 = .ok (.iastore, 1) := by decide +kernel
theorem d3_108 : decode prog_44_method_1_code 108 = .ok (.return_, 1) := by decide +kernel
theorem pn_3 : plainName "com/example/faultline/faultline/engine/ReversibleBitSet" = true := by first | (simp [plainName, overriddenIn]; done) | decide +kernel
theorem ef_3 (m : MethodId) (st : Addr) (tr : Addr) (bits : Int32) : entryFrame m #[(.ref st), (.ref tr), (.int bits)] 4 = (mkF m 0 #[.val (.ref st), .val (.ref tr), .val (.int bits), .unset] []) := by first | (simp [entryFrame, mkF, argsToLocals, Value.category]; done) | rfl
def Qi0 (Z : State) (st : Addr) (tr : Addr) (bits : Int32) (h0 : Heap) (n0 : Nat) (v : Option Value) (h : Heap) (L : List Loc) : Prop := v = none ∧ Fr n0 L ∧ Keep h0 h [st] ∧ ∃ (lim wo sa nz ma : Addr) (x0 x1 y0 y1 : Int64), h0.size ≤ lim ∧ @LT.lt Nat instLTNat lim wo ∧ @LT.lt Nat instLTNat wo sa ∧ @LT.lt Nat instLTNat sa nz ∧ @LT.lt Nat instLTNat nz ma ∧ OwnSet Z h st tr lim wo sa nz ma (-1 : Int64) ∧ OwnAV Z h lim .int 1 (fun i => (.int (own_l2 (0 : Int32) (0 : Int32) i))) ∧ OwnAV Z h wo .long 0 (fun i => (.long (own_l2 x0 x1 i))) ∧ OwnAV Z h sa .long 0 (fun i => (.long (own_l2 y0 y1 i))) ∧ OwnAV Z h nz .int 0 (fun i => (.int (own_l2 (0 : Int32) (0 : Int32) i))) ∧ OwnAV Z h ma .long 0 (fun i => (.long (own_l2 (0 : Int64) (0 : Int64) i))) ∧ Exa Z h lim "[I" ∧ Exa Z h wo "[J"
set_option maxRecDepth 65536 in
set_option maxHeartbeats 40000000 in
theorem rmi0 (l : Launch) (Z : State) (a0 : Array Value) (hw : ∀ d ∈ tables_1, d.before a0 Z = true) (ws : List Jvm.Cond) (st : Addr) (tr : Addr) (bits : Int32) (h0 : Heap) (n0 : Nat) (Z0 : n0 ≤ h0.size) (hwc : (((bits + (64 : Int32)) - (1 : Int32)) / (64 : Int32)) = (0 : Int32)) (Ex : Exa Z h0 st "com/example/faultline/faultline/engine/ReversibleBitSet") (ga : n0 ≤ st) (F0 : Fld Z h0 st "com/example/faultline/faultline/engine/ReversibleBitSet" "trail" "Lcom/example/faultline/faultline/engine/Trail;" .null) (F1 : Fld Z h0 st "com/example/faultline/faultline/engine/ReversibleBitSet" "limit" "[I" .null) (F2 : Fld Z h0 st "com/example/faultline/faultline/engine/ReversibleBitSet" "words" "[J" .null) (F3 : Fld Z h0 st "com/example/faultline/faultline/engine/ReversibleBitSet" "savedIn" "[J" .null) (F4 : Fld Z h0 st "com/example/faultline/faultline/engine/ReversibleBitSet" "nonZero" "[I" .null) (F5 : Fld Z h0 st "com/example/faultline/faultline/engine/ReversibleBitSet" "mask" "[J" .null) (F6 : Fld Z h0 st "com/example/faultline/faultline/engine/ReversibleBitSet" "limitSavedIn" "J" (.long (0 : Int64))) :
    MetFree l (⟨"com/example/faultline/faultline/engine/ReversibleBitSet", "<init>", "(Lcom/example/faultline/faultline/engine/Trail;I)V"⟩ : MethodName) (head1 (Jvm.Cond.code (⟨"com/example/faultline/faultline/engine/ReversibleBitSet", "<init>", "(Lcom/example/faultline/faultline/engine/Trail;I)V"⟩ : MethodName) prog_44_method_1_code 4 none :: ws) ({ frames := 3, cells := 5, slots := 1, locals := 40 } : Room)) (fun a U => a = #[(.ref st), (.ref tr), (.int bits)] ∧ Z.Warmed39 U.vm ∧ U.heap = h0) (fun _ _ _ _ _ => True) (fun _ U o U' => ∃ v L, o = .returned v ∧ Qi0 Z st tr bits h0 n0 v U'.heap L ∧ FrameEnd U o U' L ({ frames := 3, cells := 5, slots := 1, locals := 40 } : Room).cells ({ frames := 3, cells := 5, slots := 1, locals := 40 } : Room).slots) := by
  refine MetFree.of_bodySF (plainFor_of_name pn_3) hisR ?_
  intro p e s m args below meth c s₁ Bd hml0 hP hK
  obtain ⟨rfl, hZ, hh⟩ := hP
  have hx := Bd.exec
  have hby := Bd.bytes
  have hml : c.maxLocals = 4 := hml0
  have hown : s.vm.findClass "com/example/faultline/faultline/engine/ReversibleBitSet" = some m.cls := findClass_of_methodNamed Bd.named
  have hnm := (name_of_methodNamed Bd.named Bd.method).1
  have X0 : Stand p l e ({ frames := 3, cells := 5, slots := 1, locals := 40 } : Room) s m #[(.ref st), (.ref tr), (.int bits)] below meth c s₁ [] 0 0 := Stand.of_body Bd
  have e0 : s₁.heap = h0 := by rw [← hh, Bd.state]; rfl
  have N0 := Fr.nil n0
  have pre0 : ∀ t, Steps p.tables e below (s₁.setTop (mkF m 0 #[.val (.ref st), .val (.ref tr), .val (.int bits), .unset] [])) t → Steps p.tables e below (s₁.setTop (entryFrame m #[(.ref st), (.ref tr), (.int bits)] 4)) t := fun t k => castTop (ef_3 m st tr bits) k
  obtain ⟨T519, X519, e519, st519⟩ := initO X0 hx hZ hown (hw _ (List.mem_of_getElem? (i := 29) rfl)) (hw _ (List.mem_of_getElem? (i := 7) rfl)) (hw _ (List.mem_of_getElem? (i := 8) rfl)) e0 (g := (mkF m 1 #[.val (.ref st), .val (.ref tr), .val (.int bits), .unset] [(.ref st)])) rfl (by rw [hml]; rfl) rfl (hb hby d3_1) (by decide) (W := 0) (by show 2 * 0 + _ ≤ _; exact Nat.le_of_eq rfl) (by decide)
  obtain ⟨T520, h520, k520, X520, e520, E520, A520, Y520, st520⟩ := newPE X519 hx hZ (hw _ (List.mem_of_getElem? (i := 13) rfl)) e519 (g := (mkF m 6 #[.val (.ref st), .val (.ref tr), .val (.int bits), .unset] [(.int (1 : Int32)), (.ref st)])) rfl (hb hby d3_6) rfl (by decide) (cap := 1) (by decide) (by decide) (by decide) (by decide) (ad := "[I") (by decide)
  obtain ⟨b520, g520⟩ : ∃ z, z = h0.size := ⟨_, rfl⟩
  have ne521 : st ≠ b520 := fun q => absurd Ex.lt (by rw [q, g520]; exact Nat.lt_irrefl _)
  have g522 : n0 ≤ b520 := g520 ▸ Z0
  have s523 : h0.size ≤ b520 := g520 ▸ (Keep.refl h0 [st]).1
  rw [← g520] at A520 Y520 st520
  have F524 := F0.ext E520
  have F525 := F1.ext E520
  have F526 := F2.ext E520
  have F527 := F3.ext E520
  have F528 := F4.ext E520
  have F529 := F5.ext E520
  have F530 := F6.ext E520
  have E531 := Ex.ext E520
  have K532 := (Keep.refl h0 [st]).ext E520
  have Z533 : n0 ≤ h520.size := Nat.le_trans Z0 E520.1
  have A534 : OwnAV Z h520 b520 .int 1 (fun i => (.int ((fun _ => (0 : Int32)) i))) := OwnAV.new A520 rfl (by decide)
  have A535 : OwnAV Z h520 b520 .int 1 (fun i => (.int ((own_l2 (0 : Int32) (0 : Int32)) i))) := A534.congr (fun j hj => by
      have q : j = 0 ∨ j = 1 := by omega
      rcases q with rfl | rfl <;> rfl)
  obtain ⟨T536, h536, X536, e536, W536, st536⟩ := putF X520 hx hZ hown (host := "") (Or.inl (hw _ (List.mem_of_getElem? (i := 30) rfl))) Via.refl e520 F525 E531 (Or.inr ⟨(hw _ (List.mem_of_getElem? (i := 31) rfl)), rfl, hnm⟩) (hw _ (List.mem_of_getElem? (i := 24) rfl)) (ty := (.array .int)) (by decide) rfl rfl (g := (mkF m 8 #[.val (.ref st), .val (.ref tr), .val (.int bits), .unset] [(.ref b520), (.ref st)])) rfl rfl (hb hby d3_8)
  have F537 := F524.other W536 (Or.inr (slot_ne (Or.inr (hw _ (List.mem_of_getElem? (i := 36) rfl))) (Or.inr (hw _ (List.mem_of_getElem? (i := 31) rfl))) (by decide) (by decide : parseFieldDescriptor "Lcom/example/faultline/faultline/engine/Trail;" = some (.object "com/example/faultline/faultline/engine/Trail")) (by decide : parseFieldDescriptor "[I" = some (.array .int))))
  have F538 := F525.same W536
  have F539 := F526.other W536 (Or.inr (slot_ne (Or.inr (hw _ (List.mem_of_getElem? (i := 47) rfl))) (Or.inr (hw _ (List.mem_of_getElem? (i := 31) rfl))) (by decide) (by decide : parseFieldDescriptor "[J" = some (.array .long)) (by decide : parseFieldDescriptor "[I" = some (.array .int))))
  have F540 := F527.other W536 (Or.inr (slot_ne (Or.inr (hw _ (List.mem_of_getElem? (i := 49) rfl))) (Or.inr (hw _ (List.mem_of_getElem? (i := 31) rfl))) (by decide) (by decide : parseFieldDescriptor "[J" = some (.array .long)) (by decide : parseFieldDescriptor "[I" = some (.array .int))))
  have F541 := F528.other W536 (Or.inr (slot_ne (Or.inr (hw _ (List.mem_of_getElem? (i := 51) rfl))) (Or.inr (hw _ (List.mem_of_getElem? (i := 31) rfl))) (by decide) (by decide : parseFieldDescriptor "[I" = some (.array .int)) (by decide : parseFieldDescriptor "[I" = some (.array .int))))
  have F542 := F529.other W536 (Or.inr (slot_ne (Or.inr (hw _ (List.mem_of_getElem? (i := 53) rfl))) (Or.inr (hw _ (List.mem_of_getElem? (i := 31) rfl))) (by decide) (by decide : parseFieldDescriptor "[J" = some (.array .long)) (by decide : parseFieldDescriptor "[I" = some (.array .int))))
  have F543 := F530.other W536 (Or.inr (slot_ne (Or.inl (hw _ (List.mem_of_getElem? (i := 34) rfl))) (Or.inr (hw _ (List.mem_of_getElem? (i := 31) rfl))) (by decide) (by decide : parseFieldDescriptor "J" = some .long) (by decide : parseFieldDescriptor "[I" = some (.array .int))))
  have E544 := E531.wr W536
  have E545 := Y520.wr W536
  have A546 := A535.other W536 (Ne.symm ne521)
  have K547 := K532.wr W536 (Or.inl (List.mem_of_getElem? (i := 0) rfl))
  have Z548 : n0 ≤ h536.size := W536.size ▸ Z533
  have N549 := Fr.snoc X536 N0 ga
  obtain ⟨T550, h550, X550, e550, W550, st550⟩ := putF X536 hx hZ hown (host := "") (Or.inl (hw _ (List.mem_of_getElem? (i := 33) rfl))) Via.refl e536 F543 E544 (Or.inl (hw _ (List.mem_of_getElem? (i := 34) rfl))) (hw _ (List.mem_of_getElem? (i := 24) rfl)) (ty := .long) (by decide) rfl rfl (g := (mkF m 15 #[.val (.ref st), .val (.ref tr), .val (.int bits), .unset] [(.long (-1 : Int64)), (.ref st)])) rfl rfl (hb hby d3_15)
  have F551 := F537.other W550 (Or.inr (slot_ne (Or.inr (hw _ (List.mem_of_getElem? (i := 36) rfl))) (Or.inl (hw _ (List.mem_of_getElem? (i := 34) rfl))) (by decide) (by decide : parseFieldDescriptor "Lcom/example/faultline/faultline/engine/Trail;" = some (.object "com/example/faultline/faultline/engine/Trail")) (by decide : parseFieldDescriptor "J" = some .long)))
  have F552 := F538.other W550 (Or.inr (slot_ne (Or.inr (hw _ (List.mem_of_getElem? (i := 31) rfl))) (Or.inl (hw _ (List.mem_of_getElem? (i := 34) rfl))) (by decide) (by decide : parseFieldDescriptor "[I" = some (.array .int)) (by decide : parseFieldDescriptor "J" = some .long)))
  have F553 := F539.other W550 (Or.inr (slot_ne (Or.inr (hw _ (List.mem_of_getElem? (i := 47) rfl))) (Or.inl (hw _ (List.mem_of_getElem? (i := 34) rfl))) (by decide) (by decide : parseFieldDescriptor "[J" = some (.array .long)) (by decide : parseFieldDescriptor "J" = some .long)))
  have F554 := F540.other W550 (Or.inr (slot_ne (Or.inr (hw _ (List.mem_of_getElem? (i := 49) rfl))) (Or.inl (hw _ (List.mem_of_getElem? (i := 34) rfl))) (by decide) (by decide : parseFieldDescriptor "[J" = some (.array .long)) (by decide : parseFieldDescriptor "J" = some .long)))
  have F555 := F541.other W550 (Or.inr (slot_ne (Or.inr (hw _ (List.mem_of_getElem? (i := 51) rfl))) (Or.inl (hw _ (List.mem_of_getElem? (i := 34) rfl))) (by decide) (by decide : parseFieldDescriptor "[I" = some (.array .int)) (by decide : parseFieldDescriptor "J" = some .long)))
  have F556 := F542.other W550 (Or.inr (slot_ne (Or.inr (hw _ (List.mem_of_getElem? (i := 53) rfl))) (Or.inl (hw _ (List.mem_of_getElem? (i := 34) rfl))) (by decide) (by decide : parseFieldDescriptor "[J" = some (.array .long)) (by decide : parseFieldDescriptor "J" = some .long)))
  have F557 := F543.same W550
  have E558 := E544.wr W550
  have E559 := E545.wr W550
  have A560 := A546.other W550 (Ne.symm ne521)
  have K561 := K547.wr W550 (Or.inl (List.mem_of_getElem? (i := 0) rfl))
  have Z562 : n0 ≤ h550.size := W550.size ▸ Z548
  have N563 := Fr.snoc X550 N549 ga
  obtain ⟨T564, h564, X564, e564, W564, st564⟩ := putF X550 hx hZ hown (host := "") (Or.inl (hw _ (List.mem_of_getElem? (i := 35) rfl))) Via.refl e550 F551 E558 (Or.inr ⟨(hw _ (List.mem_of_getElem? (i := 36) rfl)), rfl, hnm⟩) (hw _ (List.mem_of_getElem? (i := 24) rfl)) (ty := (.object "com/example/faultline/faultline/engine/Trail")) (by decide) rfl rfl (g := (mkF m 20 #[.val (.ref st), .val (.ref tr), .val (.int bits), .unset] [(.ref tr), (.ref st)])) rfl rfl (hb hby d3_20)
  have F565 := F551.same W564
  have F566 := F552.other W564 (Or.inr (slot_ne (Or.inr (hw _ (List.mem_of_getElem? (i := 31) rfl))) (Or.inr (hw _ (List.mem_of_getElem? (i := 36) rfl))) (by decide) (by decide : parseFieldDescriptor "[I" = some (.array .int)) (by decide : parseFieldDescriptor "Lcom/example/faultline/faultline/engine/Trail;" = some (.object "com/example/faultline/faultline/engine/Trail"))))
  have F567 := F553.other W564 (Or.inr (slot_ne (Or.inr (hw _ (List.mem_of_getElem? (i := 47) rfl))) (Or.inr (hw _ (List.mem_of_getElem? (i := 36) rfl))) (by decide) (by decide : parseFieldDescriptor "[J" = some (.array .long)) (by decide : parseFieldDescriptor "Lcom/example/faultline/faultline/engine/Trail;" = some (.object "com/example/faultline/faultline/engine/Trail"))))
  have F568 := F554.other W564 (Or.inr (slot_ne (Or.inr (hw _ (List.mem_of_getElem? (i := 49) rfl))) (Or.inr (hw _ (List.mem_of_getElem? (i := 36) rfl))) (by decide) (by decide : parseFieldDescriptor "[J" = some (.array .long)) (by decide : parseFieldDescriptor "Lcom/example/faultline/faultline/engine/Trail;" = some (.object "com/example/faultline/faultline/engine/Trail"))))
  have F569 := F555.other W564 (Or.inr (slot_ne (Or.inr (hw _ (List.mem_of_getElem? (i := 51) rfl))) (Or.inr (hw _ (List.mem_of_getElem? (i := 36) rfl))) (by decide) (by decide : parseFieldDescriptor "[I" = some (.array .int)) (by decide : parseFieldDescriptor "Lcom/example/faultline/faultline/engine/Trail;" = some (.object "com/example/faultline/faultline/engine/Trail"))))
  have F570 := F556.other W564 (Or.inr (slot_ne (Or.inr (hw _ (List.mem_of_getElem? (i := 53) rfl))) (Or.inr (hw _ (List.mem_of_getElem? (i := 36) rfl))) (by decide) (by decide : parseFieldDescriptor "[J" = some (.array .long)) (by decide : parseFieldDescriptor "Lcom/example/faultline/faultline/engine/Trail;" = some (.object "com/example/faultline/faultline/engine/Trail"))))
  have F571 := F557.other W564 (Or.inr (slot_ne (Or.inl (hw _ (List.mem_of_getElem? (i := 34) rfl))) (Or.inr (hw _ (List.mem_of_getElem? (i := 36) rfl))) (by decide) (by decide : parseFieldDescriptor "J" = some .long) (by decide : parseFieldDescriptor "Lcom/example/faultline/faultline/engine/Trail;" = some (.object "com/example/faultline/faultline/engine/Trail"))))
  have E572 := E558.wr W564
  have E573 := E559.wr W564
  have A574 := A560.other W564 (Ne.symm ne521)
  have K575 := K561.wr W564 (Or.inl (List.mem_of_getElem? (i := 0) rfl))
  have Z576 : n0 ≤ h564.size := W564.size ▸ Z562
  have N577 := Fr.snoc X564 N563 ga
  obtain ⟨_, _, ⟨T578, L578, k578, n578⟩, -, X578, ⟨Lc578, hQ578, l578, y578, z578⟩, st578⟩ := Jvm.LawKit.callS X564 hx (y := (⟨"com/example/faultline/faultline/engine/ReversibleBitSet", "allSet", "(I)[J"⟩ : MethodName)) hown (mvT hZ (hw _ (List.mem_of_getElem? (i := 37) rfl))) (mvT hZ (hw _ (List.mem_of_getElem? (i := 38) rfl))) (mvT hZ (hw _ (List.mem_of_getElem? (i := 25) rfl))) (mvT hZ (hw _ (List.mem_of_getElem? (i := 39) rfl))) (by decide) (backOf (W := 1) (rma0 l Z a0 hw [] bits  h564 n0 Z576 hwc) hZ (hw _ (List.mem_of_getElem? (i := 39) rfl)) (hw _ (List.mem_of_getElem? (i := 25) rfl)) (by decide) (by decide)) (g := (mkF m 25 #[.val (.ref st), .val (.ref tr), .val (.int bits), .unset] [(.int bits), (.ref st)])) rfl (by rw [hml]; rfl) (argsL := [(.int bits)]) (rest := [(.ref st)]) (lenOf pd_5 rfl) rfl (by show 2 * 0 + _ ≤ _; exact Nat.le_of_eq rfl) (hb hby d3_25) (fun _ _ => ⟨rfl, e564, (by decide : 1 + 1 ≤ _), (by decide : 1 + 0 ≤ _)⟩)
  dsimp only [Pt.U, Pt.locs, Pt.cells, Pt.slots] at X578 l578 y578 z578 st578 hQ578
  subst l578 y578 z578
  obtain ⟨wo, x0, x1, rfl, so, N578q, K578, Vo, Eo⟩ := hQ578
  have N578 := Fr.app N577 N578q
  have ne579 : st ≠ wo := Nat.ne_of_lt (Nat.lt_of_lt_of_le E572.lt so)
  have ne580 : b520 ≠ wo := Nat.ne_of_lt (Nat.lt_of_lt_of_le E573.lt so)
  have lt_b520_wo : @LT.lt Nat instLTNat b520 wo := Nat.lt_of_lt_of_le E573.lt so
  have go : n0 ≤ wo := Nat.le_trans Z576 so
  have szo : h0.size ≤ wo := Nat.le_trans K575.1 so
  have F581 := F565.keep K578 nin0
  have F582 := F566.keep K578 nin0
  have F583 := F567.keep K578 nin0
  have F584 := F568.keep K578 nin0
  have F585 := F569.keep K578 nin0
  have F586 := F570.keep K578 nin0
  have F587 := F571.keep K578 nin0
  have E588 := E572.keep K578
  have E589 := E573.keep K578
  have A590 := A574.keep K578 nin0
  have K591 := K575.trans K578 all0
  have Z592 : n0 ≤ T578.heap.size := Nat.le_trans Z576 K578.1
  obtain ⟨T593, h593, X593, e593, W593, st593⟩ := putF X578 hx hZ hown (host := "") (Or.inl (hw _ (List.mem_of_getElem? (i := 46) rfl))) Via.refl rfl F583 E588 (Or.inr ⟨(hw _ (List.mem_of_getElem? (i := 47) rfl)), rfl, hnm⟩) (hw _ (List.mem_of_getElem? (i := 24) rfl)) (ty := (.array .long)) (by decide) rfl rfl (g := (mkF m 28 #[.val (.ref st), .val (.ref tr), .val (.int bits), .unset] [(.ref wo), (.ref st)])) rfl rfl (hb hby d3_28)
  have F594 := F581.other W593 (Or.inr (slot_ne (Or.inr (hw _ (List.mem_of_getElem? (i := 36) rfl))) (Or.inr (hw _ (List.mem_of_getElem? (i := 47) rfl))) (by decide) (by decide : parseFieldDescriptor "Lcom/example/faultline/faultline/engine/Trail;" = some (.object "com/example/faultline/faultline/engine/Trail")) (by decide : parseFieldDescriptor "[J" = some (.array .long))))
  have F595 := F582.other W593 (Or.inr (slot_ne (Or.inr (hw _ (List.mem_of_getElem? (i := 31) rfl))) (Or.inr (hw _ (List.mem_of_getElem? (i := 47) rfl))) (by decide) (by decide : parseFieldDescriptor "[I" = some (.array .int)) (by decide : parseFieldDescriptor "[J" = some (.array .long))))
  have F596 := F583.same W593
  have F597 := F584.other W593 (Or.inr (slot_ne (Or.inr (hw _ (List.mem_of_getElem? (i := 49) rfl))) (Or.inr (hw _ (List.mem_of_getElem? (i := 47) rfl))) (by decide) (by decide : parseFieldDescriptor "[J" = some (.array .long)) (by decide : parseFieldDescriptor "[J" = some (.array .long))))
  have F598 := F585.other W593 (Or.inr (slot_ne (Or.inr (hw _ (List.mem_of_getElem? (i := 51) rfl))) (Or.inr (hw _ (List.mem_of_getElem? (i := 47) rfl))) (by decide) (by decide : parseFieldDescriptor "[I" = some (.array .int)) (by decide : parseFieldDescriptor "[J" = some (.array .long))))
  have F599 := F586.other W593 (Or.inr (slot_ne (Or.inr (hw _ (List.mem_of_getElem? (i := 53) rfl))) (Or.inr (hw _ (List.mem_of_getElem? (i := 47) rfl))) (by decide) (by decide : parseFieldDescriptor "[J" = some (.array .long)) (by decide : parseFieldDescriptor "[J" = some (.array .long))))
  have F600 := F587.other W593 (Or.inr (slot_ne (Or.inl (hw _ (List.mem_of_getElem? (i := 34) rfl))) (Or.inr (hw _ (List.mem_of_getElem? (i := 47) rfl))) (by decide) (by decide : parseFieldDescriptor "J" = some .long) (by decide : parseFieldDescriptor "[J" = some (.array .long))))
  have E601 := E588.wr W593
  have E602 := E589.wr W593
  have E603 := Eo.wr W593
  have A604 := A590.other W593 (Ne.symm ne521)
  have A605 := Vo.other W593 (Ne.symm ne579)
  have K606 := K591.wr W593 (Or.inl (List.mem_of_getElem? (i := 0) rfl))
  have Z607 : n0 ≤ h593.size := W593.size ▸ Z592
  have N608 := Fr.snoc X593 N578 ga
  obtain ⟨T609, X609, e609, st609⟩ := getF X593 hx hZ hown (host := "") (Or.inl (hw _ (List.mem_of_getElem? (i := 46) rfl))) Via.refl e593 F596 (g := (mkF m 33 #[.val (.ref st), .val (.ref tr), .val (.int bits), .unset] [(.ref st), (.ref st)])) rfl rfl (hb hby d3_33)
  obtain ⟨T610, h610, k610, X610, e610, E610, A610, Y610, st610⟩ := newPE X609 hx hZ (hw _ (List.mem_of_getElem? (i := 16) rfl)) e609 (g := (mkF m 37 #[.val (.ref st), .val (.ref tr), .val (.int bits), .unset] [(.int (0 : Int32)), (.ref st)])) rfl (hb hby d3_37) rfl (by decide) (cap := 0) (by decide) (by decide) (by decide) (by decide) (ad := "[J") (by decide)
  obtain ⟨b610, g610⟩ : ∃ z, z = h593.size := ⟨_, rfl⟩
  have ne611 : st ≠ b610 := fun q => absurd E601.lt (by rw [q, g610]; exact Nat.lt_irrefl _)
  have ne612 : b520 ≠ b610 := fun q => absurd E602.lt (by rw [q, g610]; exact Nat.lt_irrefl _)
  have ne613 : wo ≠ b610 := fun q => absurd E603.lt (by rw [q, g610]; exact Nat.lt_irrefl _)
  have lt_wo_b610 : @LT.lt Nat instLTNat wo b610 := Nat.lt_of_lt_of_eq E603.lt g610.symm
  have g614 : n0 ≤ b610 := g610 ▸ Z607
  have s615 : h0.size ≤ b610 := g610 ▸ K606.1
  rw [← g610] at A610 Y610 st610
  have F616 := F594.ext E610
  have F617 := F595.ext E610
  have F618 := F596.ext E610
  have F619 := F597.ext E610
  have F620 := F598.ext E610
  have F621 := F599.ext E610
  have F622 := F600.ext E610
  have E623 := E601.ext E610
  have E624 := E602.ext E610
  have E625 := E603.ext E610
  have A626 := A604.ext E610
  have A627 := A605.ext E610
  have K628 := K606.ext E610
  have Z629 : n0 ≤ h610.size := Nat.le_trans Z607 E610.1
  have A630 : OwnAV Z h610 b610 .long 0 (fun i => (.long ((fun _ => (0 : Int64)) i))) := OwnAV.new A610 rfl (by decide)
  have A631 : OwnAV Z h610 b610 .long 0 (fun i => (.long ((own_l2 (0 : Int64) (0 : Int64)) i))) := A630.congr (fun j hj => by
      have q : j = 0 ∨ j = 1 := by omega
      rcases q with rfl | rfl <;> rfl)
  obtain ⟨T632, h632, X632, e632, W632, st632⟩ := putF X610 hx hZ hown (host := "") (Or.inl (hw _ (List.mem_of_getElem? (i := 48) rfl))) Via.refl e610 F619 E623 (Or.inr ⟨(hw _ (List.mem_of_getElem? (i := 49) rfl)), rfl, hnm⟩) (hw _ (List.mem_of_getElem? (i := 24) rfl)) (ty := (.array .long)) (by decide) rfl rfl (g := (mkF m 39 #[.val (.ref st), .val (.ref tr), .val (.int bits), .unset] [(.ref b610), (.ref st)])) rfl rfl (hb hby d3_39)
  have F633 := F616.other W632 (Or.inr (slot_ne (Or.inr (hw _ (List.mem_of_getElem? (i := 36) rfl))) (Or.inr (hw _ (List.mem_of_getElem? (i := 49) rfl))) (by decide) (by decide : parseFieldDescriptor "Lcom/example/faultline/faultline/engine/Trail;" = some (.object "com/example/faultline/faultline/engine/Trail")) (by decide : parseFieldDescriptor "[J" = some (.array .long))))
  have F634 := F617.other W632 (Or.inr (slot_ne (Or.inr (hw _ (List.mem_of_getElem? (i := 31) rfl))) (Or.inr (hw _ (List.mem_of_getElem? (i := 49) rfl))) (by decide) (by decide : parseFieldDescriptor "[I" = some (.array .int)) (by decide : parseFieldDescriptor "[J" = some (.array .long))))
  have F635 := F618.other W632 (Or.inr (slot_ne (Or.inr (hw _ (List.mem_of_getElem? (i := 47) rfl))) (Or.inr (hw _ (List.mem_of_getElem? (i := 49) rfl))) (by decide) (by decide : parseFieldDescriptor "[J" = some (.array .long)) (by decide : parseFieldDescriptor "[J" = some (.array .long))))
  have F636 := F619.same W632
  have F637 := F620.other W632 (Or.inr (slot_ne (Or.inr (hw _ (List.mem_of_getElem? (i := 51) rfl))) (Or.inr (hw _ (List.mem_of_getElem? (i := 49) rfl))) (by decide) (by decide : parseFieldDescriptor "[I" = some (.array .int)) (by decide : parseFieldDescriptor "[J" = some (.array .long))))
  have F638 := F621.other W632 (Or.inr (slot_ne (Or.inr (hw _ (List.mem_of_getElem? (i := 53) rfl))) (Or.inr (hw _ (List.mem_of_getElem? (i := 49) rfl))) (by decide) (by decide : parseFieldDescriptor "[J" = some (.array .long)) (by decide : parseFieldDescriptor "[J" = some (.array .long))))
  have F639 := F622.other W632 (Or.inr (slot_ne (Or.inl (hw _ (List.mem_of_getElem? (i := 34) rfl))) (Or.inr (hw _ (List.mem_of_getElem? (i := 49) rfl))) (by decide) (by decide : parseFieldDescriptor "J" = some .long) (by decide : parseFieldDescriptor "[J" = some (.array .long))))
  have E640 := E623.wr W632
  have E641 := E624.wr W632
  have E642 := E625.wr W632
  have E643 := Y610.wr W632
  have A644 := A626.other W632 (Ne.symm ne521)
  have A645 := A627.other W632 (Ne.symm ne579)
  have A646 := A631.other W632 (Ne.symm ne611)
  have K647 := K628.wr W632 (Or.inl (List.mem_of_getElem? (i := 0) rfl))
  have Z648 : n0 ≤ h632.size := W632.size ▸ Z629
  have N649 := Fr.snoc X632 N608 ga
  obtain ⟨T650, X650, e650, st650⟩ := getF X632 hx hZ hown (host := "") (Or.inl (hw _ (List.mem_of_getElem? (i := 46) rfl))) Via.refl e632 F635 (g := (mkF m 44 #[.val (.ref st), .val (.ref tr), .val (.int bits), .unset] [(.ref st), (.ref st)])) rfl rfl (hb hby d3_44)
  obtain ⟨T651, h651, k651, X651, e651, E651, A651, Y651, st651⟩ := newPE X650 hx hZ (hw _ (List.mem_of_getElem? (i := 13) rfl)) e650 (g := (mkF m 48 #[.val (.ref st), .val (.ref tr), .val (.int bits), .unset] [(.int (0 : Int32)), (.ref st)])) rfl (hb hby d3_48) rfl (by decide) (cap := 0) (by decide) (by decide) (by decide) (by decide) (ad := "[I") (by decide)
  obtain ⟨b651, g651⟩ : ∃ z, z = h632.size := ⟨_, rfl⟩
  have ne652 : st ≠ b651 := fun q => absurd E640.lt (by rw [q, g651]; exact Nat.lt_irrefl _)
  have ne653 : b520 ≠ b651 := fun q => absurd E641.lt (by rw [q, g651]; exact Nat.lt_irrefl _)
  have ne654 : wo ≠ b651 := fun q => absurd E642.lt (by rw [q, g651]; exact Nat.lt_irrefl _)
  have ne655 : b610 ≠ b651 := fun q => absurd E643.lt (by rw [q, g651]; exact Nat.lt_irrefl _)
  have lt_b610_b651 : @LT.lt Nat instLTNat b610 b651 := Nat.lt_of_lt_of_eq E643.lt g651.symm
  have g656 : n0 ≤ b651 := g651 ▸ Z648
  have s657 : h0.size ≤ b651 := g651 ▸ K647.1
  rw [← g651] at A651 Y651 st651
  have F658 := F633.ext E651
  have F659 := F634.ext E651
  have F660 := F635.ext E651
  have F661 := F636.ext E651
  have F662 := F637.ext E651
  have F663 := F638.ext E651
  have F664 := F639.ext E651
  have E665 := E640.ext E651
  have E666 := E641.ext E651
  have E667 := E642.ext E651
  have E668 := E643.ext E651
  have A669 := A644.ext E651
  have A670 := A645.ext E651
  have A671 := A646.ext E651
  have K672 := K647.ext E651
  have Z673 : n0 ≤ h651.size := Nat.le_trans Z648 E651.1
  have A674 : OwnAV Z h651 b651 .int 0 (fun i => (.int ((fun _ => (0 : Int32)) i))) := OwnAV.new A651 rfl (by decide)
  have A675 : OwnAV Z h651 b651 .int 0 (fun i => (.int ((own_l2 (0 : Int32) (0 : Int32)) i))) := A674.congr (fun j hj => by
      have q : j = 0 ∨ j = 1 := by omega
      rcases q with rfl | rfl <;> rfl)
  obtain ⟨T676, h676, X676, e676, W676, st676⟩ := putF X651 hx hZ hown (host := "") (Or.inl (hw _ (List.mem_of_getElem? (i := 50) rfl))) Via.refl e651 F662 E665 (Or.inr ⟨(hw _ (List.mem_of_getElem? (i := 51) rfl)), rfl, hnm⟩) (hw _ (List.mem_of_getElem? (i := 24) rfl)) (ty := (.array .int)) (by decide) rfl rfl (g := (mkF m 50 #[.val (.ref st), .val (.ref tr), .val (.int bits), .unset] [(.ref b651), (.ref st)])) rfl rfl (hb hby d3_50)
  have F677 := F658.other W676 (Or.inr (slot_ne (Or.inr (hw _ (List.mem_of_getElem? (i := 36) rfl))) (Or.inr (hw _ (List.mem_of_getElem? (i := 51) rfl))) (by decide) (by decide : parseFieldDescriptor "Lcom/example/faultline/faultline/engine/Trail;" = some (.object "com/example/faultline/faultline/engine/Trail")) (by decide : parseFieldDescriptor "[I" = some (.array .int))))
  have F678 := F659.other W676 (Or.inr (slot_ne (Or.inr (hw _ (List.mem_of_getElem? (i := 31) rfl))) (Or.inr (hw _ (List.mem_of_getElem? (i := 51) rfl))) (by decide) (by decide : parseFieldDescriptor "[I" = some (.array .int)) (by decide : parseFieldDescriptor "[I" = some (.array .int))))
  have F679 := F660.other W676 (Or.inr (slot_ne (Or.inr (hw _ (List.mem_of_getElem? (i := 47) rfl))) (Or.inr (hw _ (List.mem_of_getElem? (i := 51) rfl))) (by decide) (by decide : parseFieldDescriptor "[J" = some (.array .long)) (by decide : parseFieldDescriptor "[I" = some (.array .int))))
  have F680 := F661.other W676 (Or.inr (slot_ne (Or.inr (hw _ (List.mem_of_getElem? (i := 49) rfl))) (Or.inr (hw _ (List.mem_of_getElem? (i := 51) rfl))) (by decide) (by decide : parseFieldDescriptor "[J" = some (.array .long)) (by decide : parseFieldDescriptor "[I" = some (.array .int))))
  have F681 := F662.same W676
  have F682 := F663.other W676 (Or.inr (slot_ne (Or.inr (hw _ (List.mem_of_getElem? (i := 53) rfl))) (Or.inr (hw _ (List.mem_of_getElem? (i := 51) rfl))) (by decide) (by decide : parseFieldDescriptor "[J" = some (.array .long)) (by decide : parseFieldDescriptor "[I" = some (.array .int))))
  have F683 := F664.other W676 (Or.inr (slot_ne (Or.inl (hw _ (List.mem_of_getElem? (i := 34) rfl))) (Or.inr (hw _ (List.mem_of_getElem? (i := 51) rfl))) (by decide) (by decide : parseFieldDescriptor "J" = some .long) (by decide : parseFieldDescriptor "[I" = some (.array .int))))
  have E684 := E665.wr W676
  have E685 := E666.wr W676
  have E686 := E667.wr W676
  have E687 := E668.wr W676
  have E688 := Y651.wr W676
  have A689 := A669.other W676 (Ne.symm ne521)
  have A690 := A670.other W676 (Ne.symm ne579)
  have A691 := A671.other W676 (Ne.symm ne611)
  have A692 := A675.other W676 (Ne.symm ne652)
  have K693 := K672.wr W676 (Or.inl (List.mem_of_getElem? (i := 0) rfl))
  have Z694 : n0 ≤ h676.size := W676.size ▸ Z673
  have N695 := Fr.snoc X676 N649 ga
  obtain ⟨T696, X696, e696, st696⟩ := getF X676 hx hZ hown (host := "") (Or.inl (hw _ (List.mem_of_getElem? (i := 46) rfl))) Via.refl e676 F679 (g := (mkF m 55 #[.val (.ref st), .val (.ref tr), .val (.int bits), .unset] [(.ref st), (.ref st)])) rfl rfl (hb hby d3_55)
  obtain ⟨T697, h697, k697, X697, e697, E697, A697, Y697, st697⟩ := newPE X696 hx hZ (hw _ (List.mem_of_getElem? (i := 16) rfl)) e696 (g := (mkF m 59 #[.val (.ref st), .val (.ref tr), .val (.int bits), .unset] [(.int (0 : Int32)), (.ref st)])) rfl (hb hby d3_59) rfl (by decide) (cap := 0) (by decide) (by decide) (by decide) (by decide) (ad := "[J") (by decide)
  obtain ⟨b697, g697⟩ : ∃ z, z = h676.size := ⟨_, rfl⟩
  have ne698 : st ≠ b697 := fun q => absurd E684.lt (by rw [q, g697]; exact Nat.lt_irrefl _)
  have ne699 : b520 ≠ b697 := fun q => absurd E685.lt (by rw [q, g697]; exact Nat.lt_irrefl _)
  have ne700 : wo ≠ b697 := fun q => absurd E686.lt (by rw [q, g697]; exact Nat.lt_irrefl _)
  have ne701 : b610 ≠ b697 := fun q => absurd E687.lt (by rw [q, g697]; exact Nat.lt_irrefl _)
  have ne702 : b651 ≠ b697 := fun q => absurd E688.lt (by rw [q, g697]; exact Nat.lt_irrefl _)
  have lt_b651_b697 : @LT.lt Nat instLTNat b651 b697 := Nat.lt_of_lt_of_eq E688.lt g697.symm
  have g703 : n0 ≤ b697 := g697 ▸ Z694
  have s704 : h0.size ≤ b697 := g697 ▸ K693.1
  rw [← g697] at A697 Y697 st697
  have F705 := F677.ext E697
  have F706 := F678.ext E697
  have F707 := F679.ext E697
  have F708 := F680.ext E697
  have F709 := F681.ext E697
  have F710 := F682.ext E697
  have F711 := F683.ext E697
  have E712 := E684.ext E697
  have E713 := E685.ext E697
  have E714 := E686.ext E697
  have E715 := E687.ext E697
  have E716 := E688.ext E697
  have A717 := A689.ext E697
  have A718 := A690.ext E697
  have A719 := A691.ext E697
  have A720 := A692.ext E697
  have K721 := K693.ext E697
  have Z722 : n0 ≤ h697.size := Nat.le_trans Z694 E697.1
  have A723 : OwnAV Z h697 b697 .long 0 (fun i => (.long ((fun _ => (0 : Int64)) i))) := OwnAV.new A697 rfl (by decide)
  have A724 : OwnAV Z h697 b697 .long 0 (fun i => (.long ((own_l2 (0 : Int64) (0 : Int64)) i))) := A723.congr (fun j hj => by
      have q : j = 0 ∨ j = 1 := by omega
      rcases q with rfl | rfl <;> rfl)
  obtain ⟨T725, h725, X725, e725, W725, st725⟩ := putF X697 hx hZ hown (host := "") (Or.inl (hw _ (List.mem_of_getElem? (i := 52) rfl))) Via.refl e697 F710 E712 (Or.inr ⟨(hw _ (List.mem_of_getElem? (i := 53) rfl)), rfl, hnm⟩) (hw _ (List.mem_of_getElem? (i := 24) rfl)) (ty := (.array .long)) (by decide) rfl rfl (g := (mkF m 61 #[.val (.ref st), .val (.ref tr), .val (.int bits), .unset] [(.ref b697), (.ref st)])) rfl rfl (hb hby d3_61)
  have F726 := F705.other W725 (Or.inr (slot_ne (Or.inr (hw _ (List.mem_of_getElem? (i := 36) rfl))) (Or.inr (hw _ (List.mem_of_getElem? (i := 53) rfl))) (by decide) (by decide : parseFieldDescriptor "Lcom/example/faultline/faultline/engine/Trail;" = some (.object "com/example/faultline/faultline/engine/Trail")) (by decide : parseFieldDescriptor "[J" = some (.array .long))))
  have F727 := F706.other W725 (Or.inr (slot_ne (Or.inr (hw _ (List.mem_of_getElem? (i := 31) rfl))) (Or.inr (hw _ (List.mem_of_getElem? (i := 53) rfl))) (by decide) (by decide : parseFieldDescriptor "[I" = some (.array .int)) (by decide : parseFieldDescriptor "[J" = some (.array .long))))
  have F728 := F707.other W725 (Or.inr (slot_ne (Or.inr (hw _ (List.mem_of_getElem? (i := 47) rfl))) (Or.inr (hw _ (List.mem_of_getElem? (i := 53) rfl))) (by decide) (by decide : parseFieldDescriptor "[J" = some (.array .long)) (by decide : parseFieldDescriptor "[J" = some (.array .long))))
  have F729 := F708.other W725 (Or.inr (slot_ne (Or.inr (hw _ (List.mem_of_getElem? (i := 49) rfl))) (Or.inr (hw _ (List.mem_of_getElem? (i := 53) rfl))) (by decide) (by decide : parseFieldDescriptor "[J" = some (.array .long)) (by decide : parseFieldDescriptor "[J" = some (.array .long))))
  have F730 := F709.other W725 (Or.inr (slot_ne (Or.inr (hw _ (List.mem_of_getElem? (i := 51) rfl))) (Or.inr (hw _ (List.mem_of_getElem? (i := 53) rfl))) (by decide) (by decide : parseFieldDescriptor "[I" = some (.array .int)) (by decide : parseFieldDescriptor "[J" = some (.array .long))))
  have F731 := F710.same W725
  have F732 := F711.other W725 (Or.inr (slot_ne (Or.inl (hw _ (List.mem_of_getElem? (i := 34) rfl))) (Or.inr (hw _ (List.mem_of_getElem? (i := 53) rfl))) (by decide) (by decide : parseFieldDescriptor "J" = some .long) (by decide : parseFieldDescriptor "[J" = some (.array .long))))
  have E733 := E712.wr W725
  have E734 := E713.wr W725
  have E735 := E714.wr W725
  have E736 := E715.wr W725
  have E737 := E716.wr W725
  have E738 := Y697.wr W725
  have A739 := A717.other W725 (Ne.symm ne521)
  have A740 := A718.other W725 (Ne.symm ne579)
  have A741 := A719.other W725 (Ne.symm ne611)
  have A742 := A720.other W725 (Ne.symm ne652)
  have A743 := A724.other W725 (Ne.symm ne698)
  have K744 := K721.wr W725 (Or.inl (List.mem_of_getElem? (i := 0) rfl))
  have Z745 : n0 ≤ h725.size := W725.size ▸ Z722
  have N746 := Fr.snoc X725 N695 ga
  obtain ⟨T747, X747, e747, st747⟩ := getF X725 hx hZ hown (host := "") (Or.inl (hw _ (List.mem_of_getElem? (i := 46) rfl))) Via.refl e725 F728 (g := (mkF m 68 #[.val (.ref st), .val (.ref tr), .val (.int bits), .val (.int (0 : Int32))] [(.ref st), (.int (0 : Int32))])) rfl rfl (hb hby d3_68)
  obtain ⟨T748, X748, e748, st748⟩ := getF X747 hx hZ hown (host := "") (Or.inl (hw _ (List.mem_of_getElem? (i := 30) rfl))) Via.refl e747 F727 (g := (mkF m 98 #[.val (.ref st), .val (.ref tr), .val (.int bits), .val (.int (0 : Int32))] [(.ref st)])) rfl rfl (hb hby d3_98)
  obtain ⟨T749, X749, e749, st749⟩ := getF X748 hx hZ hown (host := "") (Or.inl (hw _ (List.mem_of_getElem? (i := 46) rfl))) Via.refl e748 F728 (g := (mkF m 103 #[.val (.ref st), .val (.ref tr), .val (.int bits), .val (.int (0 : Int32))] [(.ref st), (.int (0 : Int32)), (.ref b520)])) rfl rfl (hb hby d3_103)
  obtain ⟨T750, h750, X750, e750, W750, st750⟩ := own_iast X749 hx hZ e749 A739 (k := 0) ⟨by decide, rfl, by decide⟩ (g := (mkF m 107 #[.val (.ref st), .val (.ref tr), .val (.int bits), .val (.int (0 : Int32))] [(.int (0 : Int32)), (.int (0 : Int32)), (.ref b520)])) rfl rfl (hb hby d3_107)
  have A751 : OwnAV Z h750 b520 .int 1 (fun i => (.int ((own_l2 (0 : Int32) (0 : Int32)) i))) := (A739.storeI W750).congr (fun j hj => by
      have q : j = 0 ∨ j = 1 := by omega
      rcases q with rfl | rfl <;> rfl)
  have F752 := F726.other W750 (Or.inl ne521)
  have F753 := F727.other W750 (Or.inl ne521)
  have F754 := F728.other W750 (Or.inl ne521)
  have F755 := F729.other W750 (Or.inl ne521)
  have F756 := F730.other W750 (Or.inl ne521)
  have F757 := F731.other W750 (Or.inl ne521)
  have F758 := F732.other W750 (Or.inl ne521)
  have E759 := E733.wr W750
  have E760 := E734.wr W750
  have E761 := E735.wr W750
  have E762 := E736.wr W750
  have E763 := E737.wr W750
  have E764 := E738.wr W750
  have A765 := A740.other W750 (Ne.symm ne580)
  have A766 := A741.other W750 (Ne.symm ne612)
  have A767 := A742.other W750 (Ne.symm ne653)
  have A768 := A743.other W750 (Ne.symm ne699)
  have K769 := K744.wr W750 (Or.inr s523)
  have Z770 : n0 ≤ h750.size := W750.size ▸ Z745
  have N771 := Fr.snoc X750 N746 g522
  have k772 : ∀ t, Steps p.tables e below (T750.setTop (mkF m 108 #[.val (.ref st), .val (.ref tr), .val (.int bits), .val (.int (0 : Int32))] [])) t → Steps p.tables e below (s₁.setTop (entryFrame m #[(.ref st), (.ref tr), (.int bits)] 4)) t := fun t hk => pre0 t (by
    show Steps p.tables e below (s₁.setTop (mkF m 0 #[.val (.ref st), .val (.ref tr), .val (.int bits), .unset] [])) _
    refine XS.aloadN X0.here hx rfl (hb hby d3_0) rfl rfl ?_
    refine st519 _ ?_
    refine XS.aloadN X519.here hx rfl (hb hby d3_4) rfl rfl ?_
    refine XS.iconst X519.here hx rfl (hb hby d3_5) ?_
    show Steps p.tables e below (T519.setTop (mkF m 6 #[.val (.ref st), .val (.ref tr), .val (.int bits), .unset] [(.int (1 : Int32)), (.ref st)])) _
    refine st520 _ ?_
    refine st536 _ ?_
    refine XS.aloadN X536.here hx rfl (hb hby d3_11) rfl rfl ?_
    refine X536.ldc2Long hx hown (mvT hZ (hw _ (List.mem_of_getElem? (i := 32) rfl))) (g := (mkF m 12 #[.val (.ref st), .val (.ref tr), .val (.int bits), .unset] [(.ref st)])) rfl (hb hby d3_12) _ ?_
    show Steps p.tables e below (T536.setTop (mkF m 15 #[.val (.ref st), .val (.ref tr), .val (.int bits), .unset] [(.long (-1 : Int64)), (.ref st)])) _
    refine st550 _ ?_
    refine XS.aloadN X550.here hx rfl (hb hby d3_18) rfl rfl ?_
    refine XS.aloadN X550.here hx rfl (hb hby d3_19) rfl rfl ?_
    refine st564 _ ?_
    show Steps p.tables e below (T564.setTop (mkF m 23 #[.val (.ref st), .val (.ref tr), .val (.int bits), .unset] [])) _
    refine XS.aloadN X564.here hx rfl (hb hby d3_23) rfl rfl ?_
    refine XS.iloadN X564.here hx rfl (hb hby d3_24) rfl ?_
    refine st578 _ ?_
    refine st593 _ ?_
    show Steps p.tables e below (T593.setTop (mkF m 31 #[.val (.ref st), .val (.ref tr), .val (.int bits), .unset] [])) _
    refine XS.aloadN X593.here hx rfl (hb hby d3_31) rfl rfl ?_
    refine XS.aloadN X593.here hx rfl (hb hby d3_32) rfl rfl ?_
    refine st609 _ ?_
    refine own_len X609 hx hZ e609 A605 (g := (mkF m 36 #[.val (.ref st), .val (.ref tr), .val (.int bits), .unset] [(.ref wo), (.ref st)])) rfl rfl (hb hby d3_36) _ ?_
    show Steps p.tables e below (T609.setTop (mkF m 37 #[.val (.ref st), .val (.ref tr), .val (.int bits), .unset] [(.int (0 : Int32)), (.ref st)])) _
    refine st610 _ ?_
    refine st632 _ ?_
    refine XS.aloadN X632.here hx rfl (hb hby d3_42) rfl rfl ?_
    refine XS.aloadN X632.here hx rfl (hb hby d3_43) rfl rfl ?_
    show Steps p.tables e below (T632.setTop (mkF m 44 #[.val (.ref st), .val (.ref tr), .val (.int bits), .unset] [(.ref st), (.ref st)])) _
    refine st650 _ ?_
    refine own_len X650 hx hZ e650 A645 (g := (mkF m 47 #[.val (.ref st), .val (.ref tr), .val (.int bits), .unset] [(.ref wo), (.ref st)])) rfl rfl (hb hby d3_47) _ ?_
    refine st651 _ ?_
    refine st676 _ ?_
    show Steps p.tables e below (T676.setTop (mkF m 53 #[.val (.ref st), .val (.ref tr), .val (.int bits), .unset] [])) _
    refine XS.aloadN X676.here hx rfl (hb hby d3_53) rfl rfl ?_
    refine XS.aloadN X676.here hx rfl (hb hby d3_54) rfl rfl ?_
    refine st696 _ ?_
    refine own_len X696 hx hZ e696 A690 (g := (mkF m 58 #[.val (.ref st), .val (.ref tr), .val (.int bits), .unset] [(.ref wo), (.ref st)])) rfl rfl (hb hby d3_58) _ ?_
    show Steps p.tables e below (T696.setTop (mkF m 59 #[.val (.ref st), .val (.ref tr), .val (.int bits), .unset] [(.int (0 : Int32)), (.ref st)])) _
    refine st697 _ ?_
    refine st725 _ ?_
    refine XS.iconst X725.here hx rfl (hb hby d3_64) ?_
    refine XS.istoreN X725.here hx rfl (hb hby d3_65) rfl (l' := #[.val (.ref st), .val (.ref tr), .val (.int bits), .val (.int (0 : Int32))]) rfl ?_
    show Steps p.tables e below (T725.setTop (mkF m 66 #[.val (.ref st), .val (.ref tr), .val (.int bits), .val (.int (0 : Int32))] [])) _
    refine XS.iloadN X725.here hx rfl (hb hby d3_66) rfl ?_
    refine XS.aloadN X725.here hx rfl (hb hby d3_67) rfl rfl ?_
    refine st747 _ ?_
    refine own_len X747 hx hZ e747 A740 (g := (mkF m 71 #[.val (.ref st), .val (.ref tr), .val (.int bits), .val (.int (0 : Int32))] [(.ref wo), (.int (0 : Int32))])) rfl rfl (hb hby d3_71) _ ?_
    show Steps p.tables e below (T747.setTop (mkF m 72 #[.val (.ref st), .val (.ref tr), .val (.int bits), .val (.int (0 : Int32))] [(.int (0 : Int32)), (.int (0 : Int32))])) _
    refine XS.icmpYes X747.here hx rfl (pc0 := 72) (pc' := 97) rfl (hb hby d3_72) rfl (flt (by decide : ¬ ((0 : Int32) < (0 : Int32)))).2.1 (by decide) (by decide) ?_
    refine XS.aloadN X747.here hx rfl (hb hby d3_97) rfl rfl ?_
    refine st748 _ ?_
    refine XS.iconst X748.here hx rfl (hb hby d3_101) ?_
    show Steps p.tables e below (T748.setTop (mkF m 102 #[.val (.ref st), .val (.ref tr), .val (.int bits), .val (.int (0 : Int32))] [(.int (0 : Int32)), (.ref b520)])) _
    refine XS.aloadN X748.here hx rfl (hb hby d3_102) rfl rfl ?_
    refine st749 _ ?_
    refine own_len X749 hx hZ e749 A740 (g := (mkF m 106 #[.val (.ref st), .val (.ref tr), .val (.int bits), .val (.int (0 : Int32))] [(.ref wo), (.int (0 : Int32)), (.ref b520)])) rfl rfl (hb hby d3_106) _ ?_
    refine st750 _ ?_
    exact hk)
  obtain ⟨fs, hr, hrun, hended, hW, hsame⟩ := X750.leave (v := none) (fun _ => rfl)
  refine ⟨_, _, k772 _ ?_, hrun, hended, _, _, rfl, ?_, ⟨_, rfl⟩, hW, hsame.mono (by decide) (by decide)⟩
  · show Steps p.tables e below (T750.setTop (mkF m 108 #[.val (.ref st), .val (.ref tr), .val (.int bits), .val (.int (0 : Int32))] [])) _
    exact X750.returnOut hx Bd.returns (hb hby d3_108) hr
  · show Qi0 Z st tr bits h0 n0 _ T750.heap _
    rw [e750]
    exact ⟨rfl, N771, K769, b520, wo, b610, b651, b697, x0, x1, (0 : Int64), (0 : Int64), s523, lt_b520_wo, lt_wo_b610, lt_b610_b651, lt_b651_b697, ⟨E759, F752, F753, F754, F755, F756, F757, F758⟩, A751, A765, A766, A767, A768, E760, E761⟩
theorem d7_0 : decode prog_44_method_9_code 0 = .ok (.iconst 0, 1) := by decide +kernel
theorem d7_1 : decode prog_44_method_9_code 1 = .ok (.istore_n 2, 1) := by decide +kernel
theorem d7_2 : decode prog_44_method_9_code 2 = .ok (.iload_n 2, 1) := by decide +kernel
theorem d7_3 : decode prog_44_method_9_code 3 = .ok (.aload_n 0, 1) := by decide +kernel
theorem d7_4 : decode prog_44_method_9_code 4 = .ok (.getfield 7, 3) := by decide +kernel
theorem d7_7 : decode prog_44_method_9_code 7 = .ok (.iconst 0, 1) := by decide +kernel
theorem d7_8 : decode prog_44_method_9_code 8 = .ok (.iaload, 1) := by decide +kernel
theorem d7_9 : decode prog_44_method_9_code 9 = .ok (.if_icmp .ge 28, 3) := by decide +kernel
theorem d7_12 : decode prog_44_method_9_code 12 = .ok (.aload_n 0, 1) := by decide +kernel
theorem d7_13 : decode prog_44_method_9_code 13 = .ok (.getfield 34, 3) := by decide +kernel
theorem d7_16 : decode prog_44_method_9_code 16 = .ok (.iload_n 2, 1) := by decide +kernel
theorem d7_17 : decode prog_44_method_9_code 17 = .ok (.iaload, 1) := by decide +kernel
theorem d7_18 : decode prog_44_method_9_code 18 = .ok (.istore_n 3, 1) := by decide +kernel
theorem d7_19 : decode prog_44_method_9_code 19 = .ok (.aload_n 0, 1) := by decide +kernel
theorem d7_20 : decode prog_44_method_9_code 20 = .ok (.getfield 37, 3) := by decide +kernel
theorem d7_23 : decode prog_44_method_9_code 23 = .ok (.iload_n 3, 1) := by decide +kernel
theorem d7_24 : decode prog_44_method_9_code 24 = .ok (.dup2, 1) := by decide +kernel
theorem d7_25 : decode prog_44_method_9_code 25 = .ok (.laload, 1) := by decide +kernel
theorem d7_26 : decode prog_44_method_9_code 26 = .ok (.aload_n 1, 1) := by decide +kernel
theorem d7_27 : decode prog_44_method_9_code 27 = .ok (.iload_n 3, 1) := by decide +kernel
theorem d7_28 : decode prog_44_method_9_code 28 = .ok (.laload, 1) := by decide +kernel
theorem d7_29 : decode prog_44_method_9_code 29 = .ok (.lor, 1) := by decide +kernel
theorem d7_30 : decode prog_44_method_9_code 30 = .ok (.lastore, 1) := by decide +kernel
theorem d7_31 : decode prog_44_method_9_code 31 = .ok (.iinc 2 1, 3) := by decide +kernel
theorem d7_34 : decode prog_44_method_9_code 34 = .ok (.goto (-32), 3) := by decide +kernel
theorem d7_37 : decode prog_44_method_9_code 37 = .ok (.return_, 1) := by decide +kernel
theorem pn_7 : plainName "com/example/faultline/faultline/engine/ReversibleBitSet" = true := by first | (simp [plainName, overriddenIn]; done) | decide +kernel
theorem ef_7 (m : MethodId) (st : Addr) (mk : Addr) : entryFrame m #[(.ref st), (.ref mk)] 4 = (mkF m 0 #[.val (.ref st), .val (.ref mk), .unset, .unset] []) := by first | (simp [entryFrame, mkF, argsToLocals, Value.category]; done) | rfl
def Qm0 (Z : State) (st : Addr) (mk : Addr) (tr : Addr) (lim : Addr) (wo : Addr) (sa : Addr) (nz : Addr) (ma : Addr) (ls : Int64) (m0 : Int64) (m1 : Int64) (q0 : Int64) (q1 : Int64) (h0 : Heap) (n0 : Nat) (v : Option Value) (h : Heap) (L : List Loc) : Prop := v = none ∧ Fr n0 L ∧ Keep h0 h [ma] ∧ OwnAV Z h ma .long 0 (fun i => (.long (own_l2 m0 m1 i)))
set_option maxRecDepth 65536 in
set_option maxHeartbeats 40000000 in
theorem rmm0 (l : Launch) (Z : State) (a0 : Array Value) (hw : ∀ d ∈ tables_1, d.before a0 Z = true) (ws : List Jvm.Cond) (st : Addr) (mk : Addr) (tr : Addr) (lim : Addr) (wo : Addr) (sa : Addr) (nz : Addr) (ma : Addr) (ls : Int64) (m0 : Int64) (m1 : Int64) (q0 : Int64) (q1 : Int64) (h0 : Heap) (n0 : Nat) (Z0 : n0 ≤ h0.size) (hS : OwnSet Z h0 st tr lim wo sa nz ma ls) (gm : n0 ≤ ma) (hnes : st ≠ ma ∧ lim ≠ ma ∧ nz ≠ ma ∧ mk ≠ ma) (Vl : OwnAV Z h0 lim .int 1 (fun i => (.int (own_l2 (0 : Int32) (0 : Int32) i)))) (Vn : OwnAV Z h0 nz .int 0 (fun i => (.int (own_l2 (0 : Int32) (0 : Int32) i)))) (Vm : OwnAV Z h0 ma .long 0 (fun i => (.long (own_l2 m0 m1 i)))) (Vk : OwnAV Z h0 mk .long 2 (fun i => (.long (own_l2 q0 q1 i)))) :
    MetFree l (⟨"com/example/faultline/faultline/engine/ReversibleBitSet", "addToMask", "([J)V"⟩ : MethodName) (head1 (Jvm.Cond.code (⟨"com/example/faultline/faultline/engine/ReversibleBitSet", "addToMask", "([J)V"⟩ : MethodName) prog_44_method_9_code 4 none :: ws) ({ frames := 0, cells := 0, slots := 0, locals := 0 } : Room)) (fun a U => a = #[(.ref st), (.ref mk)] ∧ Z.Warmed39 U.vm ∧ U.heap = h0) (fun _ _ _ _ _ => True) (fun _ U o U' => ∃ v L, o = .returned v ∧ Qm0 Z st mk tr lim wo sa nz ma ls m0 m1 q0 q1 h0 n0 v U'.heap L ∧ FrameEnd U o U' L ({ frames := 0, cells := 0, slots := 0, locals := 0 } : Room).cells ({ frames := 0, cells := 0, slots := 0, locals := 0 } : Room).slots) := by
  refine MetFree.of_bodySF (plainFor_of_name pn_7) hisR ?_
  intro p e s m args below meth c s₁ Bd hml0 hP hK
  obtain ⟨rfl, hZ, hh⟩ := hP
  have hx := Bd.exec
  have hby := Bd.bytes
  have hml : c.maxLocals = 4 := hml0
  have hown : s.vm.findClass "com/example/faultline/faultline/engine/ReversibleBitSet" = some m.cls := findClass_of_methodNamed Bd.named
  have hnm := (name_of_methodNamed Bd.named Bd.method).1
  have X0 : Stand p l e ({ frames := 0, cells := 0, slots := 0, locals := 0 } : Room) s m #[(.ref st), (.ref mk)] below meth c s₁ [] 0 0 := Stand.of_body Bd
  have e0 : s₁.heap = h0 := by rw [← hh, Bd.state]; rfl
  have N0 := Fr.nil n0
  have pre0 : ∀ t, Steps p.tables e below (s₁.setTop (mkF m 0 #[.val (.ref st), .val (.ref mk), .unset, .unset] [])) t → Steps p.tables e below (s₁.setTop (entryFrame m #[(.ref st), (.ref mk)] 4)) t := fun t k => castTop (ef_7 m st mk) k
  obtain ⟨u773E, u773a, u773b, u773c, u773d, u773e, u773f, u773g⟩ := hS
  obtain ⟨T774, X774, e774, st774⟩ := getF X0 hx hZ hown (host := "") (Or.inl (hw _ (List.mem_of_getElem? (i := 30) rfl))) Via.refl e0 u773b (g := (mkF m 4 #[.val (.ref st), .val (.ref mk), .val (.int (0 : Int32)), .unset] [(.ref st), (.int (0 : Int32))])) rfl rfl (hb hby d7_4)
  have k775 : ∀ t, Steps p.tables e below (T774.setTop (mkF m 37 #[.val (.ref st), .val (.ref mk), .val (.int (0 : Int32)), .unset] [])) t → Steps p.tables e below (s₁.setTop (entryFrame m #[(.ref st), (.ref mk)] 4)) t := fun t hk => pre0 t (by
    show Steps p.tables e below (s₁.setTop (mkF m 0 #[.val (.ref st), .val (.ref mk), .unset, .unset] [])) _
    refine XS.iconst X0.here hx rfl (hb hby d7_0) ?_
    refine XS.istoreN X0.here hx rfl (hb hby d7_1) rfl (l' := #[.val (.ref st), .val (.ref mk), .val (.int (0 : Int32)), .unset]) rfl ?_
    refine XS.iloadN X0.here hx rfl (hb hby d7_2) rfl ?_
    refine XS.aloadN X0.here hx rfl (hb hby d7_3) rfl rfl ?_
    show Steps p.tables e below (s₁.setTop (mkF m 4 #[.val (.ref st), .val (.ref mk), .val (.int (0 : Int32)), .unset] [(.ref st), (.int (0 : Int32))])) _
    refine st774 _ ?_
    refine XS.iconst X774.here hx rfl (hb hby d7_7) ?_
    refine own_iald X774 hx hZ e774 Vl (k := 0) ⟨by decide, rfl, by decide⟩ rfl (g := (mkF m 8 #[.val (.ref st), .val (.ref mk), .val (.int (0 : Int32)), .unset] [(.int (0 : Int32)), (.ref lim), (.int (0 : Int32))])) rfl rfl (hb hby d7_8) _ ?_
    refine XS.icmpYes X774.here hx rfl (pc0 := 9) (pc' := 37) rfl (hb hby d7_9) rfl (flt (by decide : ¬ ((0 : Int32) < (0 : Int32)))).2.1 (by decide) (by decide) ?_
    exact hk)
  obtain ⟨fs, hr, hrun, hended, hW, hsame⟩ := X774.leave (v := none) (fun _ => rfl)
  refine ⟨_, _, k775 _ ?_, hrun, hended, _, _, rfl, ?_, ⟨_, rfl⟩, hW, hsame.mono (by decide) (by decide)⟩
  · show Steps p.tables e below (T774.setTop (mkF m 37 #[.val (.ref st), .val (.ref mk), .val (.int (0 : Int32)), .unset] [])) _
    exact X774.returnOut hx Bd.returns (hb hby d7_37) hr
  · show Qm0 Z st mk tr lim wo sa nz ma ls m0 m1 q0 q1 h0 n0 _ T774.heap _
    rw [e774]
    exact ⟨rfl, N0, (Keep.refl h0 [ma]), Vm⟩
theorem d8_0 : decode prog_44_method_11_code 0 = .ok (.aload_n 0, 1) := by decide +kernel
theorem d8_1 : decode prog_44_method_11_code 1 = .ok (.getfield 7, 3) := by decide +kernel
theorem d8_4 : decode prog_44_method_11_code 4 = .ok (.iconst 0, 1) := by decide +kernel
theorem d8_5 : decode prog_44_method_11_code 5 = .ok (.iaload, 1) := by decide +kernel
theorem d8_6 : decode prog_44_method_11_code 6 = .ok (.iconst 1, 1) := by decide +kernel
theorem d8_7 : decode prog_44_method_11_code 7 = .ok (.isub, 1) := by decide +kernel
theorem d8_8 : decode prog_44_method_11_code 8 = .ok (.istore_n 1, 1) := by decide +kernel
theorem d8_9 : decode prog_44_method_11_code 9 = .ok (.iload_n 1, 1) := by decide +kernel
theorem d8_10 : decode prog_44_method_11_code 10 = .ok (.ifCond .lt 101, 3) := by decide +kernel
theorem d8_13 : decode prog_44_method_11_code 13 = .ok (.aload_n 0, 1) := by decide +kernel
theorem d8_14 : decode prog_44_method_11_code 14 = .ok (.getfield 34, 3) := by decide +kernel
theorem d8_17 : decode prog_44_method_11_code 17 = .ok (.iload_n 1, 1) := by decide +kernel
theorem d8_18 : decode prog_44_method_11_code 18 = .ok (.iaload, 1) := by decide +kernel
theorem d8_19 : decode prog_44_method_11_code 19 = .ok (.istore_n 2, 1) := by decide +kernel
theorem d8_20 : decode prog_44_method_11_code 20 = .ok (.aload_n 0, 1) := by decide +kernel
theorem d8_21 : decode prog_44_method_11_code 21 = .ok (.getfield 27, 3) := by decide +kernel
theorem d8_24 : decode prog_44_method_11_code 24 = .ok (.iload_n 2, 1) := by decide +kernel
theorem d8_25 : decode prog_44_method_11_code 25 = .ok (.laload, 1) := by decide +kernel
theorem d8_26 : decode prog_44_method_11_code 26 = .ok (.aload_n 0, 1) := by decide +kernel
theorem d8_27 : decode prog_44_method_11_code 27 = .ok (.getfield 37, 3) := by decide +kernel
theorem d8_30 : decode prog_44_method_11_code 30 = .ok (.iload_n 2, 1) := by decide +kernel
theorem d8_31 : decode prog_44_method_11_code 31 = .ok (.laload, 1) := by decide +kernel
theorem d8_32 : decode prog_44_method_11_code 32 = .ok (.land, 1) := by decide +kernel
theorem d8_33 : decode prog_44_method_11_code 33 = .ok (.lstore_n 3, 1) := by decide +kernel
theorem d8_34 : decode prog_44_method_11_code 34 = .ok (.lload_n 3, 1) := by decide +kernel
theorem d8_35 : decode prog_44_method_11_code 35 = .ok (.aload_n 0, 1) := by decide +kernel
theorem d8_36 : decode prog_44_method_11_code 36 = .ok (.getfield 27, 3) := by decide +kernel
theorem d8_39 : decode prog_44_method_11_code 39 = .ok (.iload_n 2, 1) := by decide +kernel
theorem d8_40 : decode prog_44_method_11_code 40 = .ok (.laload, 1) := by decide +kernel
theorem d8_41 : decode prog_44_method_11_code 41 = .ok (.lcmp, 1) := by decide +kernel
theorem d8_42 : decode prog_44_method_11_code 42 = .ok (.ifCond .eq 63, 3) := by decide +kernel
theorem d8_45 : decode prog_44_method_11_code 45 = .ok (.aload_n 0, 1) := by decide +kernel
theorem d8_46 : decode prog_44_method_11_code 46 = .ok (.getfield 31, 3) := by decide +kernel
theorem d8_49 : decode prog_44_method_11_code 49 = .ok (.iload_n 2, 1) := by decide +kernel
theorem d8_50 : decode prog_44_method_11_code 50 = .ok (.laload, 1) := by decide +kernel
theorem d8_51 : decode prog_44_method_11_code 51 = .ok (.aload_n 0, 1) := by decide +kernel
theorem d8_52 : decode prog_44_method_11_code 52 = .ok (.getfield 19, 3) := by decide +kernel
theorem d8_55 : decode prog_44_method_11_code 55 = .ok (.invokevirtual 52, 3) := by decide +kernel
theorem d8_58 : decode prog_44_method_11_code 58 = .ok (.lcmp, 1) := by decide +kernel
theorem d8_59 : decode prog_44_method_11_code 59 = .ok (.ifCond .eq 28, 3) := by decide +kernel
theorem d8_62 : decode prog_44_method_11_code 62 = .ok (.aload_n 0, 1) := by decide +kernel
theorem d8_63 : decode prog_44_method_11_code 63 = .ok (.getfield 19, 3) := by decide +kernel
theorem d8_66 : decode prog_44_method_11_code 66 = .ok (.aload_n 0, 1) := by decide +kernel
theorem d8_67 : decode prog_44_method_11_code 67 = .ok (.getfield 27, 3) := by decide +kernel
theorem d8_70 : decode prog_44_method_11_code 70 = .ok (.iload_n 2, 1) := by decide +kernel
theorem d8_71 : decode prog_44_method_11_code 71 = .ok (.invokevirtual 58, 3) := by decide +kernel
theorem d8_74 : decode prog_44_method_11_code 74 = .ok (.aload_n 0, 1) := by decide +kernel
theorem d8_75 : decode prog_44_method_11_code 75 = .ok (.getfield 31, 3) := by decide +kernel
theorem d8_78 : decode prog_44_method_11_code 78 = .ok (.iload_n 2, 1) := by decide +kernel
theorem d8_79 : decode prog_44_method_11_code 79 = .ok (.aload_n 0, 1) := by decide +kernel
theorem d8_80 : decode prog_44_method_11_code 80 = .ok (.getfield 19, 3) := by decide +kernel
theorem d8_83 : decode prog_44_method_11_code 83 = .ok (.invokevirtual 52, 3) := by decide +kernel
theorem d8_86 : decode prog_44_method_11_code 86 = .ok (.lastore, 1) := by decide +kernel
theorem d8_87 : decode prog_44_method_11_code 87 = .ok (.aload_n 0, 1) := by decide +kernel
theorem d8_88 : decode prog_44_method_11_code 88 = .ok (.getfield 27, 3) := by decide +kernel
theorem d8_91 : decode prog_44_method_11_code 91 = .ok (.iload_n 2, 1) := by decide +kernel
theorem d8_92 : decode prog_44_method_11_code 92 = .ok (.lload_n 3, 1) := by decide +kernel
theorem d8_93 : decode prog_44_method_11_code 93 = .ok (.lastore, 1) := by decide +kernel
theorem d8_94 : decode prog_44_method_11_code 94 = .ok (.lload_n 3, 1) := by decide +kernel
theorem d8_95 : decode prog_44_method_11_code 95 = .ok (.lconst 0, 1) := by decide +kernel
theorem d8_96 : decode prog_44_method_11_code 96 = .ok (.lcmp, 1) := by decide +kernel
theorem d8_97 : decode prog_44_method_11_code 97 = .ok (.ifCond .ne 8, 3) := by decide +kernel
theorem d8_100 : decode prog_44_method_11_code 100 = .ok (.aload_n 0, 1) := by decide +kernel
theorem d8_101 : decode prog_44_method_11_code 101 = .ok (.iload_n 1, 1) := by decide +kernel
theorem d8_102 : decode prog_44_method_11_code 102 = .ok (.invokevirtual 62, 3) := by decide +kernel
theorem d8_105 : decode prog_44_method_11_code 105 = .ok (.iinc 1 (-1), 3) := by decide +kernel
theorem d8_108 : decode prog_44_method_11_code 108 = .ok (.goto (-99), 3) := by decide +kernel
theorem d8_111 : decode prog_44_method_11_code 111 = .ok (.return_, 1) := by decide +kernel
theorem pn_8 : plainName "com/example/faultline/faultline/engine/ReversibleBitSet" = true := by first | (simp [plainName, overriddenIn]; done) | decide +kernel
theorem ef_8 (m : MethodId) (st : Addr) : entryFrame m #[(.ref st)] 5 = (mkF m 0 #[.val (.ref st), .unset, .unset, .unset, .unset] []) := by first | (simp [entryFrame, mkF, argsToLocals, Value.category]; done) | rfl
def Qx0 (Z : State) (st : Addr) (tr : Addr) (ow : Addr) (ix : Addr) (sv : Addr) (lim : Addr) (wo : Addr) (sa : Addr) (nz : Addr) (ma : Addr) (x0 : Int64) (x1 : Int64) (y0 : Int64) (y1 : Int64) (m0 : Int64) (m1 : Int64) (h0 : Heap) (n0 : Nat) (v : Option Value) (h : Heap) (L : List Loc) : Prop := v = none ∧ Fr n0 L ∧ Keep h0 h [st, tr, ow, ix, sv, wo, sa, nz, lim] ∧ ∃ (ls1 : Int64) (lm z0 z1 : Int32), OwnSet Z h st tr lim wo sa nz ma ls1 ∧ OwnAV Z h wo .long 0 (fun i => (.long (own_l2 x0 x1 i))) ∧ OwnAV Z h nz .int 0 (fun i => (.int (own_l2 z0 z1 i))) ∧ OwnAV Z h lim .int 1 (fun i => (.int (own_l2 lm (0 : Int32) i))) ∧ lm = (0 : Int32)
set_option maxRecDepth 65536 in
set_option maxHeartbeats 40000000 in
theorem rmx0 (l : Launch) (Z : State) (a0 : Array Value) (hw : ∀ d ∈ tables_1, d.before a0 Z = true) (ws : List Jvm.Cond) (st : Addr) (tr : Addr) (ow : Addr) (ix : Addr) (sv : Addr) (lim : Addr) (wo : Addr) (sa : Addr) (nz : Addr) (ma : Addr) (x0 : Int64) (x1 : Int64) (y0 : Int64) (y1 : Int64) (m0 : Int64) (m1 : Int64) (h0 : Heap) (n0 : Nat) (Z0 : n0 ≤ h0.size) (hT : OwnTr Z h0 tr ow ix sv (0 : Int32)) (hap : OwnApart tr ow ix sv) (hnew : OwnNew n0 tr ow ix sv) (hS : OwnSet Z h0 st tr lim wo sa nz ma (-1 : Int64)) (hsn : n0 ≤ st ∧ n0 ≤ nz ∧ n0 ≤ lim) (gwo : n0 ≤ wo) (gsa : n0 ≤ sa) (hnes : st ≠ tr ∧ st ≠ ow ∧ st ≠ ix ∧ st ≠ sv ∧ st ≠ lim ∧ st ≠ wo ∧ st ≠ sa ∧ st ≠ nz ∧ st ≠ ma ∧ tr ≠ lim ∧ tr ≠ wo ∧ tr ≠ sa ∧ tr ≠ nz ∧ tr ≠ ma ∧ ow ≠ lim ∧ ow ≠ wo ∧ ow ≠ sa ∧ ow ≠ nz ∧ ow ≠ ma ∧ ix ≠ lim ∧ ix ≠ wo ∧ ix ≠ sa ∧ ix ≠ nz ∧ ix ≠ ma ∧ sv ≠ lim ∧ sv ≠ wo ∧ sv ≠ sa ∧ sv ≠ nz ∧ sv ≠ ma ∧ lim ≠ wo ∧ lim ≠ sa ∧ lim ≠ nz ∧ lim ≠ ma ∧ wo ≠ sa ∧ wo ≠ nz ∧ wo ≠ ma ∧ sa ≠ nz ∧ sa ≠ ma ∧ nz ≠ ma) (Vl : OwnAV Z h0 lim .int 1 (fun i => (.int (own_l2 (0 : Int32) (0 : Int32) i)))) (Vo : OwnAV Z h0 wo .long 0 (fun i => (.long (own_l2 x0 x1 i)))) (Vs : OwnAV Z h0 sa .long 0 (fun i => (.long (own_l2 y0 y1 i)))) (Vn : OwnAV Z h0 nz .int 0 (fun i => (.int (own_l2 (0 : Int32) (0 : Int32) i)))) (Vm : OwnAV Z h0 ma .long 0 (fun i => (.long (own_l2 m0 m1 i)))) (El : Exa Z h0 lim "[I") (Eo : Exa Z h0 wo "[J") :
    MetFree l (⟨"com/example/faultline/faultline/engine/ReversibleBitSet", "intersectWithMask", "()V"⟩ : MethodName) (head1 (Jvm.Cond.code (⟨"com/example/faultline/faultline/engine/ReversibleBitSet", "intersectWithMask", "()V"⟩ : MethodName) prog_44_method_11_code 5 none :: ws) ({ frames := 3, cells := 0, slots := 0, locals := 52 } : Room)) (fun a U => a = #[(.ref st)] ∧ Z.Warmed39 U.vm ∧ U.heap = h0) (fun _ _ _ _ _ => True) (fun _ U o U' => ∃ v L, o = .returned v ∧ Qx0 Z st tr ow ix sv lim wo sa nz ma x0 x1 y0 y1 m0 m1 h0 n0 v U'.heap L ∧ FrameEnd U o U' L ({ frames := 3, cells := 0, slots := 0, locals := 52 } : Room).cells ({ frames := 3, cells := 0, slots := 0, locals := 52 } : Room).slots) := by
  refine MetFree.of_bodySF (plainFor_of_name pn_8) hisR ?_
  intro p e s m args below meth c s₁ Bd hml0 hP hK
  obtain ⟨rfl, hZ, hh⟩ := hP
  have hx := Bd.exec
  have hby := Bd.bytes
  have hml : c.maxLocals = 5 := hml0
  have hown : s.vm.findClass "com/example/faultline/faultline/engine/ReversibleBitSet" = some m.cls := findClass_of_methodNamed Bd.named
  have hnm := (name_of_methodNamed Bd.named Bd.method).1
  have X0 : Stand p l e ({ frames := 3, cells := 0, slots := 0, locals := 52 } : Room) s m #[(.ref st)] below meth c s₁ [] 0 0 := Stand.of_body Bd
  have e0 : s₁.heap = h0 := by rw [← hh, Bd.state]; rfl
  have N0 := Fr.nil n0
  have pre0 : ∀ t, Steps p.tables e below (s₁.setTop (mkF m 0 #[.val (.ref st), .unset, .unset, .unset, .unset] [])) t → Steps p.tables e below (s₁.setTop (entryFrame m #[(.ref st)] 5)) t := fun t k => castTop (ef_8 m st) k
  obtain ⟨u776E, u776a, u776b, u776c, u776d, u776e, u776o, ⟨u776fi, u776x⟩, ⟨u776fs, u776s⟩⟩ := hT
  obtain ⟨u777E, u777a, u777b, u777c, u777d, u777e, u777f, u777g⟩ := hS
  have z00 : (0 : Int32).toInt = 0 := by decide
  obtain ⟨T778, X778, e778, st778⟩ := getF X0 hx hZ hown (host := "") (Or.inl (hw _ (List.mem_of_getElem? (i := 30) rfl))) Via.refl e0 u777b (g := (mkF m 1 #[.val (.ref st), .unset, .unset, .unset, .unset] [(.ref st)])) rfl rfl (hb hby d8_1)
  have k779 : ∀ t, Steps p.tables e below (T778.setTop (mkF m 111 #[.val (.ref st), .val (.int (-1 : Int32)), .unset, .unset, .unset] [])) t → Steps p.tables e below (s₁.setTop (entryFrame m #[(.ref st)] 5)) t := fun t hk => pre0 t (by
    show Steps p.tables e below (s₁.setTop (mkF m 0 #[.val (.ref st), .unset, .unset, .unset, .unset] [])) _
    refine XS.aloadN X0.here hx rfl (hb hby d8_0) rfl rfl ?_
    refine st778 _ ?_
    refine XS.iconst X778.here hx rfl (hb hby d8_4) ?_
    refine own_iald X778 hx hZ e778 Vl (k := 0) ⟨by decide, rfl, by decide⟩ rfl (g := (mkF m 5 #[.val (.ref st), .unset, .unset, .unset, .unset] [(.int (0 : Int32)), (.ref lim)])) rfl rfl (hb hby d8_5) _ ?_
    show Steps p.tables e below (T778.setTop (mkF m 6 #[.val (.ref st), .unset, .unset, .unset, .unset] [(.int (0 : Int32))])) _
    refine XS.iconst X778.here hx rfl (hb hby d8_6) ?_
    refine XS.isub X778.here hx rfl (hb hby d8_7) rfl ?_
    refine XS.istoreN X778.here hx rfl (hb hby d8_8) rfl (l' := #[.val (.ref st), .val (.int (-1 : Int32)), .unset, .unset, .unset]) rfl ?_
    refine XS.iloadN X778.here hx rfl (hb hby d8_9) rfl ?_
    show Steps p.tables e below (T778.setTop (mkF m 10 #[.val (.ref st), .val (.int (-1 : Int32)), .unset, .unset, .unset] [(.int (-1 : Int32))])) _
    refine XS.ifYes X778.here hx rfl (pc0 := 10) (pc' := 111) rfl (hb hby d8_10) rfl ((if0 _ _).trans (tlt (by decide : (-1 : Int32) < (0 : Int32))).1) (by decide) (by decide) ?_
    exact hk)
  obtain ⟨fs, hr, hrun, hended, hW, hsame⟩ := X778.leave (v := none) (fun _ => rfl)
  refine ⟨_, _, k779 _ ?_, hrun, hended, _, _, rfl, ?_, ⟨_, rfl⟩, hW, hsame.mono (by decide) (by decide)⟩
  · show Steps p.tables e below (T778.setTop (mkF m 111 #[.val (.ref st), .val (.int (-1 : Int32)), .unset, .unset, .unset] [])) _
    exact X778.returnOut hx Bd.returns (hb hby d8_111) hr
  · show Qx0 Z st tr ow ix sv lim wo sa nz ma x0 x1 y0 y1 m0 m1 h0 n0 _ T778.heap _
    rw [e778]
    exact ⟨rfl, N0, (Keep.refl h0 [st, tr, ow, ix, sv, wo, sa, nz, lim]), _, (0 : Int32), (0 : Int32), (0 : Int32), ⟨u777E, u777a, u777b, u777c, u777d, u777e, u777f, u777g⟩, Vo, Vn, Vl, rfl⟩
theorem d9_0 : decode prog_44_method_13_code 0 = .ok (.iconst 0, 1) := by decide +kernel
theorem d9_1 : decode prog_44_method_13_code 1 = .ok (.istore_n 2, 1) := by decide +kernel
theorem d9_2 : decode prog_44_method_13_code 2 = .ok (.iload_n 2, 1) := by decide +kernel
theorem d9_3 : decode prog_44_method_13_code 3 = .ok (.aload_n 0, 1) := by decide +kernel
theorem d9_4 : decode prog_44_method_13_code 4 = .ok (.getfield 7, 3) := by decide +kernel
theorem d9_7 : decode prog_44_method_13_code 7 = .ok (.iconst 0, 1) := by decide +kernel
theorem d9_8 : decode prog_44_method_13_code 8 = .ok (.iaload, 1) := by decide +kernel
theorem d9_9 : decode prog_44_method_13_code 9 = .ok (.if_icmp .ge 33, 3) := by decide +kernel
theorem d9_12 : decode prog_44_method_13_code 12 = .ok (.aload_n 0, 1) := by decide +kernel
theorem d9_13 : decode prog_44_method_13_code 13 = .ok (.getfield 34, 3) := by decide +kernel
theorem d9_16 : decode prog_44_method_13_code 16 = .ok (.iload_n 2, 1) := by decide +kernel
theorem d9_17 : decode prog_44_method_13_code 17 = .ok (.iaload, 1) := by decide +kernel
theorem d9_18 : decode prog_44_method_13_code 18 = .ok (.istore_n 3, 1) := by decide +kernel
theorem d9_19 : decode prog_44_method_13_code 19 = .ok (.aload_n 0, 1) := by decide +kernel
theorem d9_20 : decode prog_44_method_13_code 20 = .ok (.getfield 27, 3) := by decide +kernel
theorem d9_23 : decode prog_44_method_13_code 23 = .ok (.iload_n 3, 1) := by decide +kernel
theorem d9_24 : decode prog_44_method_13_code 24 = .ok (.laload, 1) := by decide +kernel
theorem d9_25 : decode prog_44_method_13_code 25 = .ok (.aload_n 1, 1) := by decide +kernel
theorem d9_26 : decode prog_44_method_13_code 26 = .ok (.iload_n 3, 1) := by decide +kernel
theorem d9_27 : decode prog_44_method_13_code 27 = .ok (.laload, 1) := by decide +kernel
theorem d9_28 : decode prog_44_method_13_code 28 = .ok (.land, 1) := by decide +kernel
theorem d9_29 : decode prog_44_method_13_code 29 = .ok (.lconst 0, 1) := by decide +kernel
theorem d9_30 : decode prog_44_method_13_code 30 = .ok (.lcmp, 1) := by decide +kernel
theorem d9_31 : decode prog_44_method_13_code 31 = .ok (.ifCond .eq 5, 3) := by decide +kernel
theorem d9_34 : decode prog_44_method_13_code 34 = .ok (.iload_n 3, 1) := by decide +kernel
theorem d9_35 : decode prog_44_method_13_code 35 = .ok (.ireturn, 1) := by decide +kernel
theorem d9_36 : decode prog_44_method_13_code 36 = .ok (.iinc 2 1, 3) := by decide +kernel
theorem d9_39 : decode prog_44_method_13_code 39 = .ok (.goto (-37), 3) := by decide +kernel
theorem d9_42 : decode prog_44_method_13_code 42 = .ok (.iconst (-1), 1) := by decide +kernel
theorem d9_43 : decode prog_44_method_13_code 43 = .ok (.ireturn, 1) := by decide +kernel
theorem pn_9 : plainName "com/example/faultline/faultline/engine/ReversibleBitSet" = true := by first | (simp [plainName, overriddenIn]; done) | decide +kernel
theorem ef_9 (m : MethodId) (st : Addr) (qu : Addr) : entryFrame m #[(.ref st), (.ref qu)] 4 = (mkF m 0 #[.val (.ref st), .val (.ref qu), .unset, .unset] []) := by first | (simp [entryFrame, mkF, argsToLocals, Value.category]; done) | rfl
def Qy0 (Z : State) (st : Addr) (qu : Addr) (tr : Addr) (lim : Addr) (wo : Addr) (sa : Addr) (nz : Addr) (ma : Addr) (ls : Int64) (x0 : Int64) (x1 : Int64) (q0 : Int64) (q1 : Int64) (lm : Int32) (z0 : Int32) (z1 : Int32) (h0 : Heap) (n0 : Nat) (v : Option Value) (h : Heap) (L : List Loc) : Prop := ∃ rr : Int32, v = some (.int rr) ∧ (((rr = (-1 : Int32)))) ∧ Fr n0 L ∧ h = h0
set_option maxRecDepth 65536 in
set_option maxHeartbeats 40000000 in
theorem rmy0 (l : Launch) (Z : State) (a0 : Array Value) (hw : ∀ d ∈ tables_1, d.before a0 Z = true) (ws : List Jvm.Cond) (st : Addr) (qu : Addr) (tr : Addr) (lim : Addr) (wo : Addr) (sa : Addr) (nz : Addr) (ma : Addr) (ls : Int64) (x0 : Int64) (x1 : Int64) (q0 : Int64) (q1 : Int64) (lm : Int32) (z0 : Int32) (z1 : Int32) (h0 : Heap) (n0 : Nat) (Z0 : n0 ≤ h0.size) (hS : OwnSet Z h0 st tr lim wo sa nz ma ls) (Vl : OwnAV Z h0 lim .int 1 (fun i => (.int (own_l2 lm (0 : Int32) i)))) (Vo : OwnAV Z h0 wo .long 0 (fun i => (.long (own_l2 x0 x1 i)))) (Vn : OwnAV Z h0 nz .int 0 (fun i => (.int (own_l2 z0 z1 i)))) (Vq : OwnAV Z h0 qu .long 2 (fun i => (.long (own_l2 q0 q1 i)))) (hpr : lm = (0 : Int32)) :
    MetFree l (⟨"com/example/faultline/faultline/engine/ReversibleBitSet", "intersectIndex", "([J)I"⟩ : MethodName) (head1 (Jvm.Cond.code (⟨"com/example/faultline/faultline/engine/ReversibleBitSet", "intersectIndex", "([J)I"⟩ : MethodName) prog_44_method_13_code 4 (some .int) :: ws) ({ frames := 0, cells := 0, slots := 0, locals := 0 } : Room)) (fun a U => a = #[(.ref st), (.ref qu)] ∧ Z.Warmed39 U.vm ∧ U.heap = h0) (fun _ _ _ _ _ => True) (fun _ U o U' => ∃ v L, o = .returned v ∧ Qy0 Z st qu tr lim wo sa nz ma ls x0 x1 q0 q1 lm z0 z1 h0 n0 v U'.heap L ∧ FrameEnd U o U' L ({ frames := 0, cells := 0, slots := 0, locals := 0 } : Room).cells ({ frames := 0, cells := 0, slots := 0, locals := 0 } : Room).slots) := by
  refine MetFree.of_bodySF (plainFor_of_name pn_9) hisR ?_
  intro p e s m args below meth c s₁ Bd hml0 hP hK
  obtain ⟨rfl, hZ, hh⟩ := hP
  have hx := Bd.exec
  have hby := Bd.bytes
  have hml : c.maxLocals = 4 := hml0
  have hown : s.vm.findClass "com/example/faultline/faultline/engine/ReversibleBitSet" = some m.cls := findClass_of_methodNamed Bd.named
  have hnm := (name_of_methodNamed Bd.named Bd.method).1
  have X0 : Stand p l e ({ frames := 0, cells := 0, slots := 0, locals := 0 } : Room) s m #[(.ref st), (.ref qu)] below meth c s₁ [] 0 0 := Stand.of_body Bd
  have e0 : s₁.heap = h0 := by rw [← hh, Bd.state]; rfl
  have N0 := Fr.nil n0
  have pre0 : ∀ t, Steps p.tables e below (s₁.setTop (mkF m 0 #[.val (.ref st), .val (.ref qu), .unset, .unset] [])) t → Steps p.tables e below (s₁.setTop (entryFrame m #[(.ref st), (.ref qu)] 4)) t := fun t k => castTop (ef_9 m st qu) k
  subst hpr
  obtain ⟨u780E, u780a, u780b, u780c, u780d, u780e, u780f, u780g⟩ := hS
  obtain ⟨T781, X781, e781, st781⟩ := getF X0 hx hZ hown (host := "") (Or.inl (hw _ (List.mem_of_getElem? (i := 30) rfl))) Via.refl e0 u780b (g := (mkF m 4 #[.val (.ref st), .val (.ref qu), .val (.int (0 : Int32)), .unset] [(.ref st), (.int (0 : Int32))])) rfl rfl (hb hby d9_4)
  have k782 : ∀ t, Steps p.tables e below (T781.setTop (mkF m 43 #[.val (.ref st), .val (.ref qu), .val (.int (0 : Int32)), .unset] [(.int (-1 : Int32))])) t → Steps p.tables e below (s₁.setTop (entryFrame m #[(.ref st), (.ref qu)] 4)) t := fun t hk => pre0 t (by
    show Steps p.tables e below (s₁.setTop (mkF m 0 #[.val (.ref st), .val (.ref qu), .unset, .unset] [])) _
    refine XS.iconst X0.here hx rfl (hb hby d9_0) ?_
    refine XS.istoreN X0.here hx rfl (hb hby d9_1) rfl (l' := #[.val (.ref st), .val (.ref qu), .val (.int (0 : Int32)), .unset]) rfl ?_
    refine XS.iloadN X0.here hx rfl (hb hby d9_2) rfl ?_
    refine XS.aloadN X0.here hx rfl (hb hby d9_3) rfl rfl ?_
    show Steps p.tables e below (s₁.setTop (mkF m 4 #[.val (.ref st), .val (.ref qu), .val (.int (0 : Int32)), .unset] [(.ref st), (.int (0 : Int32))])) _
    refine st781 _ ?_
    refine XS.iconst X781.here hx rfl (hb hby d9_7) ?_
    refine own_iald X781 hx hZ e781 Vl (k := 0) ⟨by decide, rfl, by decide⟩ rfl (g := (mkF m 8 #[.val (.ref st), .val (.ref qu), .val (.int (0 : Int32)), .unset] [(.int (0 : Int32)), (.ref lim), (.int (0 : Int32))])) rfl rfl (hb hby d9_8) _ ?_
    refine XS.icmpYes X781.here hx rfl (pc0 := 9) (pc' := 42) rfl (hb hby d9_9) rfl (flt (by decide : ¬ ((0 : Int32) < (0 : Int32)))).2.1 (by decide) (by decide) ?_
    show Steps p.tables e below (T781.setTop (mkF m 42 #[.val (.ref st), .val (.ref qu), .val (.int (0 : Int32)), .unset] [])) _
    refine XS.iconst X781.here hx rfl (hb hby d9_42) ?_
    exact hk)
  obtain ⟨fs, hr, hrun, hended, hW, hsame⟩ := X781.leave (v := some (.int (-1 : Int32))) (fun h => by rw [Bd.returns] at h; cases h)
  refine ⟨_, _, k782 _ ?_, hrun, hended, _, _, rfl, ?_, ⟨_, rfl⟩, hW, hsame.mono (by decide) (by decide)⟩
  · show Steps p.tables e below (T781.setTop (mkF m 43 #[.val (.ref st), .val (.ref qu), .val (.int (0 : Int32)), .unset] [(.int (-1 : Int32))])) _
    exact retI X781 hx Bd.returns (hb hby d9_43) hr
  · show Qy0 Z st qu tr lim wo sa nz ma ls x0 x1 q0 q1 (0 : Int32) z0 z1 h0 n0 _ T781.heap _
    rw [e781]
    exact ⟨_, rfl, rfl, N0, rfl⟩
def Qc1 (Z : State) (bits : Int32) (h0 : Heap) (n0 : Nat) (v : Option Value) (h : Heap) (L : List Loc) : Prop := v = some (.int (1 : Int32)) ∧ Fr n0 L ∧ h = h0
set_option maxRecDepth 65536 in
set_option maxHeartbeats 40000000 in
theorem rmc1 (l : Launch) (Z : State) (a0 : Array Value) (hw : ∀ d ∈ tables_1, d.before a0 Z = true) (ws : List Jvm.Cond) (bits : Int32) (h0 : Heap) (n0 : Nat) (Z0 : n0 ≤ h0.size) (hwc : (((bits + (64 : Int32)) - (1 : Int32)) / (64 : Int32)) = (1 : Int32)) :
    MetFree l (⟨"com/example/faultline/faultline/engine/ReversibleBitSet", "wordCount", "(I)I"⟩ : MethodName) (head1 (Jvm.Cond.code (⟨"com/example/faultline/faultline/engine/ReversibleBitSet", "wordCount", "(I)I"⟩ : MethodName) prog_44_method_4_code 1 (some .int) :: ws) ({ frames := 0, cells := 0, slots := 0, locals := 0 } : Room)) (fun a U => a = #[(.int bits)] ∧ Z.Warmed39 U.vm ∧ U.heap = h0) (fun _ _ _ _ _ => True) (fun _ U o U' => ∃ v L, o = .returned v ∧ Qc1 Z bits h0 n0 v U'.heap L ∧ FrameEnd U o U' L ({ frames := 0, cells := 0, slots := 0, locals := 0 } : Room).cells ({ frames := 0, cells := 0, slots := 0, locals := 0 } : Room).slots) := by
  refine MetFree.of_bodySF (plainFor_of_name pn_6) hisR ?_
  intro p e s m args below meth c s₁ Bd hml0 hP hK
  obtain ⟨rfl, hZ, hh⟩ := hP
  have hx := Bd.exec
  have hby := Bd.bytes
  have hml : c.maxLocals = 1 := hml0
  have hown : s.vm.findClass "com/example/faultline/faultline/engine/ReversibleBitSet" = some m.cls := findClass_of_methodNamed Bd.named
  have hnm := (name_of_methodNamed Bd.named Bd.method).1
  have X0 : Stand p l e ({ frames := 0, cells := 0, slots := 0, locals := 0 } : Room) s m #[(.int bits)] below meth c s₁ [] 0 0 := Stand.of_body Bd
  have e0 : s₁.heap = h0 := by rw [← hh, Bd.state]; rfl
  have N0 := Fr.nil n0
  have pre0 : ∀ t, Steps p.tables e below (s₁.setTop (mkF m 0 #[.val (.int bits)] [])) t → Steps p.tables e below (s₁.setTop (entryFrame m #[(.int bits)] 1)) t := fun t k => castTop (ef_6 m bits) k
  have k783 : ∀ t, Steps p.tables e below (s₁.setTop (mkF m 9 #[.val (.int bits)] [(.int (((bits + (64 : Int32)) - (1 : Int32)) / (64 : Int32)))])) t → Steps p.tables e below (s₁.setTop (entryFrame m #[(.int bits)] 1)) t := fun t hk => pre0 t (by
    show Steps p.tables e below (s₁.setTop (mkF m 0 #[.val (.int bits)] [])) _
    refine XS.iloadN X0.here hx rfl (hb hby d6_0) rfl ?_
    refine XS.bipush X0.here hx rfl (hb hby d6_1) ?_
    refine XS.iadd X0.here hx rfl (hb hby d6_3) rfl ?_
    refine XS.iconst X0.here hx rfl (hb hby d6_4) ?_
    show Steps p.tables e below (s₁.setTop (mkF m 5 #[.val (.int bits)] [(.int (1 : Int32)), (.int (bits + (64 : Int32)))])) _
    refine XS.isub X0.here hx rfl (hb hby d6_5) rfl ?_
    refine XS.bipush X0.here hx rfl (hb hby d6_6) ?_
    refine XS.idiv X0.here hx rfl (hb hby d6_8) rfl (by decide) ?_
    exact hk)
  obtain ⟨fs, hr, hrun, hended, hW, hsame⟩ := X0.leave (v := some (.int (((bits + (64 : Int32)) - (1 : Int32)) / (64 : Int32)))) (fun h => by rw [Bd.returns] at h; cases h)
  refine ⟨_, _, k783 _ ?_, hrun, hended, _, _, rfl, ?_, ⟨_, rfl⟩, hW, hsame.mono (by decide) (by decide)⟩
  · show Steps p.tables e below (s₁.setTop (mkF m 9 #[.val (.int bits)] [(.int (((bits + (64 : Int32)) - (1 : Int32)) / (64 : Int32)))])) _
    exact retI X0 hx Bd.returns (hb hby d6_9) hr
  · show Qc1 Z bits h0 n0 _ s₁.heap _
    rw [e0]
    exact ⟨by rw [hwc], N0, rfl⟩
def Qw1 (Z : State) (bits : Int32) (h0 : Heap) (n0 : Nat) (v : Option Value) (h : Heap) (L : List Loc) : Prop := ∃ wo : Addr, v = some (.ref wo) ∧ h0.size ≤ wo ∧ Fr n0 L ∧ Keep h0 h [] ∧ OwnAV Z h wo .long 1 (fun i => (.long (own_l2 (0 : Int64) (0 : Int64) i))) ∧ Exa Z h wo "[J"
set_option maxRecDepth 65536 in
set_option maxHeartbeats 40000000 in
theorem rmw1 (l : Launch) (Z : State) (a0 : Array Value) (hw : ∀ d ∈ tables_1, d.before a0 Z = true) (ws : List Jvm.Cond) (bits : Int32) (h0 : Heap) (n0 : Nat) (Z0 : n0 ≤ h0.size) (hwc : (((bits + (64 : Int32)) - (1 : Int32)) / (64 : Int32)) = (1 : Int32)) :
    MetFree l (⟨"com/example/faultline/faultline/engine/ReversibleBitSet", "words", "(I)[J"⟩ : MethodName) (head1 (Jvm.Cond.code (⟨"com/example/faultline/faultline/engine/ReversibleBitSet", "words", "(I)[J"⟩ : MethodName) prog_44_method_2_code 1 (some (.array .long)) :: ws) ({ frames := 1, cells := 1, slots := 1, locals := 12 } : Room)) (fun a U => a = #[(.int bits)] ∧ Z.Warmed39 U.vm ∧ U.heap = h0) (fun _ _ _ _ _ => True) (fun _ U o U' => ∃ v L, o = .returned v ∧ Qw1 Z bits h0 n0 v U'.heap L ∧ FrameEnd U o U' L ({ frames := 1, cells := 1, slots := 1, locals := 12 } : Room).cells ({ frames := 1, cells := 1, slots := 1, locals := 12 } : Room).slots) := by
  refine MetFree.of_bodySF (plainFor_of_name pn_5) hisR ?_
  intro p e s m args below meth c s₁ Bd hml0 hP hK
  obtain ⟨rfl, hZ, hh⟩ := hP
  have hx := Bd.exec
  have hby := Bd.bytes
  have hml : c.maxLocals = 1 := hml0
  have hown : s.vm.findClass "com/example/faultline/faultline/engine/ReversibleBitSet" = some m.cls := findClass_of_methodNamed Bd.named
  have hnm := (name_of_methodNamed Bd.named Bd.method).1
  have X0 : Stand p l e ({ frames := 1, cells := 1, slots := 1, locals := 12 } : Room) s m #[(.int bits)] below meth c s₁ [] 0 0 := Stand.of_body Bd
  have e0 : s₁.heap = h0 := by rw [← hh, Bd.state]; rfl
  have N0 := Fr.nil n0
  have pre0 : ∀ t, Steps p.tables e below (s₁.setTop (mkF m 0 #[.val (.int bits)] [])) t → Steps p.tables e below (s₁.setTop (entryFrame m #[(.int bits)] 1)) t := fun t k => castTop (ef_5 m bits) k
  obtain ⟨_, _, ⟨T784, L784, k784, n784⟩, -, X784, ⟨Lc784, hQ784, l784, y784, z784⟩, st784⟩ := Jvm.LawKit.callS X0 hx (y := (⟨"com/example/faultline/faultline/engine/ReversibleBitSet", "wordCount", "(I)I"⟩ : MethodName)) hown (mvT hZ (hw _ (List.mem_of_getElem? (i := 43) rfl))) (mvT hZ (hw _ (List.mem_of_getElem? (i := 44) rfl))) (mvT hZ (hw _ (List.mem_of_getElem? (i := 25) rfl))) (mvT hZ (hw _ (List.mem_of_getElem? (i := 45) rfl))) (by decide) (backOf (W := 0) (rmc1 l Z a0 hw [] bits  h0 n0 Z0 hwc) hZ (hw _ (List.mem_of_getElem? (i := 45) rfl)) (hw _ (List.mem_of_getElem? (i := 25) rfl)) (by decide) (by decide)) (g := (mkF m 1 #[.val (.int bits)] [(.int bits)])) rfl (by rw [hml]; rfl) (argsL := [(.int bits)]) (rest := []) (lenOf pd_4 rfl) rfl (by show 2 * 0 + _ ≤ _; exact Nat.le_of_eq rfl) (hb hby d5_1) (fun _ _ => ⟨rfl, e0, (by decide : 0 + 0 ≤ _), (by decide : 0 + 0 ≤ _)⟩)
  dsimp only [Pt.U, Pt.locs, Pt.cells, Pt.slots] at X784 l784 y784 z784 st784 hQ784
  subst l784 y784 z784
  obtain ⟨rfl, N784q, e784⟩ := hQ784
  have N784 := Fr.app N0 N784q
  obtain ⟨T785, h785, k785, X785, e785, E785, A785, Y785, st785⟩ := newPE X784 hx hZ (hw _ (List.mem_of_getElem? (i := 16) rfl)) e784 (g := (mkF m 4 #[.val (.int bits)] [(.int (1 : Int32))])) rfl (hb hby d5_4) rfl (by decide) (cap := 1) (by decide) (by decide) (by decide) (by decide) (ad := "[J") (by decide)
  obtain ⟨b785, g785⟩ : ∃ z, z = h0.size := ⟨_, rfl⟩
  have g786 : n0 ≤ b785 := g785 ▸ Z0
  have s787 : h0.size ≤ b785 := g785 ▸ (Keep.refl h0 []).1
  rw [← g785] at A785 Y785 st785
  have K788 := (Keep.refl h0 []).ext E785
  have Z789 : n0 ≤ h785.size := Nat.le_trans Z0 E785.1
  have A790 : OwnAV Z h785 b785 .long 1 (fun i => (.long ((fun _ => (0 : Int64)) i))) := OwnAV.new A785 rfl (by decide)
  have A791 : OwnAV Z h785 b785 .long 1 (fun i => (.long ((own_l2 (0 : Int64) (0 : Int64)) i))) := A790.congr (fun j hj => by
      have q : j = 0 ∨ j = 1 := by omega
      rcases q with rfl | rfl <;> rfl)
  have k792 : ∀ t, Steps p.tables e below (T785.setTop (mkF m 6 #[.val (.int bits)] [(.ref b785)])) t → Steps p.tables e below (s₁.setTop (entryFrame m #[(.int bits)] 1)) t := fun t hk => pre0 t (by
    show Steps p.tables e below (s₁.setTop (mkF m 0 #[.val (.int bits)] [])) _
    refine XS.iloadN X0.here hx rfl (hb hby d5_0) rfl ?_
    refine st784 _ ?_
    refine st785 _ ?_
    exact hk)
  obtain ⟨fs, hr, hrun, hended, hW, hsame⟩ := X785.leave (v := some (.ref b785)) (fun h => by rw [Bd.returns] at h; cases h)
  refine ⟨_, _, k792 _ ?_, hrun, hended, _, _, rfl, ?_, ⟨_, rfl⟩, hW, hsame.mono (by decide) (by decide)⟩
  · show Steps p.tables e below (T785.setTop (mkF m 6 #[.val (.int bits)] [(.ref b785)])) _
    exact retOut X785 hx Bd.returns rfl (Or.inr (Or.inr (Or.inr (Or.inr ⟨rfl, rfl, rfl⟩)))) (hb hby d5_6) hr
  · show Qw1 Z bits h0 n0 _ T785.heap _
    rw [e785]
    exact ⟨_, rfl, s787, N784, K788, A791, Y785⟩
def Qa1 (Z : State) (bits : Int32) (h0 : Heap) (n0 : Nat) (v : Option Value) (h : Heap) (L : List Loc) : Prop := ∃ (wo : Addr) (x0 x1 : Int64), v = some (.ref wo) ∧ h0.size ≤ wo ∧ Fr n0 L ∧ Keep h0 h [] ∧ OwnAV Z h wo .long 1 (fun i => (.long (own_l2 x0 x1 i))) ∧ Exa Z h wo "[J" ∧ x0 = (if (bits - (0 : Int32)) < (64 : Int32) then (((1 : Int64) <<< ((bits - (0 : Int32)) &&& 0x3f).toInt64) - (1 : Int64)) else (-1 : Int64))
set_option maxRecDepth 65536 in
set_option maxHeartbeats 40000000 in
theorem rma1 (l : Launch) (Z : State) (a0 : Array Value) (hw : ∀ d ∈ tables_1, d.before a0 Z = true) (ws : List Jvm.Cond) (bits : Int32) (h0 : Heap) (n0 : Nat) (Z0 : n0 ≤ h0.size) (hwc : (((bits + (64 : Int32)) - (1 : Int32)) / (64 : Int32)) = (1 : Int32)) :
    MetFree l (⟨"com/example/faultline/faultline/engine/ReversibleBitSet", "allSet", "(I)[J"⟩ : MethodName) (head1 (Jvm.Cond.code (⟨"com/example/faultline/faultline/engine/ReversibleBitSet", "allSet", "(I)[J"⟩ : MethodName) prog_44_method_3_code 4 (some (.array .long)) :: ws) ({ frames := 2, cells := 1, slots := 1, locals := 24 } : Room)) (fun a U => a = #[(.int bits)] ∧ Z.Warmed39 U.vm ∧ U.heap = h0) (fun _ _ _ _ _ => True) (fun _ U o U' => ∃ v L, o = .returned v ∧ Qa1 Z bits h0 n0 v U'.heap L ∧ FrameEnd U o U' L ({ frames := 2, cells := 1, slots := 1, locals := 24 } : Room).cells ({ frames := 2, cells := 1, slots := 1, locals := 24 } : Room).slots) := by
  refine MetFree.of_bodySF (plainFor_of_name pn_4) hisR ?_
  intro p e s m args below meth c s₁ Bd hml0 hP hK
  obtain ⟨rfl, hZ, hh⟩ := hP
  have hx := Bd.exec
  have hby := Bd.bytes
  have hml : c.maxLocals = 4 := hml0
  have hown : s.vm.findClass "com/example/faultline/faultline/engine/ReversibleBitSet" = some m.cls := findClass_of_methodNamed Bd.named
  have hnm := (name_of_methodNamed Bd.named Bd.method).1
  have X0 : Stand p l e ({ frames := 2, cells := 1, slots := 1, locals := 24 } : Room) s m #[(.int bits)] below meth c s₁ [] 0 0 := Stand.of_body Bd
  have e0 : s₁.heap = h0 := by rw [← hh, Bd.state]; rfl
  have N0 := Fr.nil n0
  have pre0 : ∀ t, Steps p.tables e below (s₁.setTop (mkF m 0 #[.val (.int bits), .unset, .unset, .unset] [])) t → Steps p.tables e below (s₁.setTop (entryFrame m #[(.int bits)] 4)) t := fun t k => castTop (ef_4 m bits) k
  obtain ⟨_, _, ⟨T793, L793, k793, n793⟩, -, X793, ⟨Lc793, hQ793, l793, y793, z793⟩, st793⟩ := Jvm.LawKit.callS X0 hx (y := (⟨"com/example/faultline/faultline/engine/ReversibleBitSet", "words", "(I)[J"⟩ : MethodName)) hown (mvT hZ (hw _ (List.mem_of_getElem? (i := 40) rfl))) (mvT hZ (hw _ (List.mem_of_getElem? (i := 41) rfl))) (mvT hZ (hw _ (List.mem_of_getElem? (i := 25) rfl))) (mvT hZ (hw _ (List.mem_of_getElem? (i := 42) rfl))) (by decide) (backOf (W := 0) (rmw1 l Z a0 hw [] bits  h0 n0 Z0 hwc) hZ (hw _ (List.mem_of_getElem? (i := 42) rfl)) (hw _ (List.mem_of_getElem? (i := 25) rfl)) (by decide) (by decide)) (g := (mkF m 1 #[.val (.int bits), .unset, .unset, .unset] [(.int bits)])) rfl (by rw [hml]; rfl) (argsL := [(.int bits)]) (rest := []) (lenOf pd_5 rfl) rfl (by show 2 * 0 + _ ≤ _; exact Nat.le_of_eq rfl) (hb hby d4_1) (fun _ _ => ⟨rfl, e0, (by decide : 0 + 1 ≤ _), (by decide : 0 + 1 ≤ _)⟩)
  dsimp only [Pt.U, Pt.locs, Pt.cells, Pt.slots] at X793 l793 y793 z793 st793 hQ793
  subst l793 y793 z793
  obtain ⟨wo, rfl, so, N793q, K793, Vo, Eo⟩ := hQ793
  have N793 := Fr.app N0 N793q
  have K794 := (Keep.refl h0 []).trans K793 all0
  have Z795 : n0 ≤ T793.heap.size := Nat.le_trans Z0 K793.1
  have go : n0 ≤ wo := Nat.le_trans Z0 so
  have k796 : ∀ t, Steps p.tables e below (T793.setTop (mkF m 25 #[.val (.int bits), .val (.ref wo), .val (.int (0 : Int32)), .val (.int (bits - (0 : Int32)))] [(.int (64 : Int32)), (.int (bits - (0 : Int32))), (.int (0 : Int32)), (.ref wo)])) t → Steps p.tables e below (s₁.setTop (entryFrame m #[(.int bits)] 4)) t := fun t hk => pre0 t (by
    show Steps p.tables e below (s₁.setTop (mkF m 0 #[.val (.int bits), .unset, .unset, .unset] [])) _
    refine XS.iloadN X0.here hx rfl (hb hby d4_0) rfl ?_
    refine st793 _ ?_
    refine XS.astoreN X793.here hx rfl (hb hby d4_4) rfl rfl (l' := #[.val (.int bits), .val (.ref wo), .unset, .unset]) rfl ?_
    refine XS.iconst X793.here hx rfl (hb hby d4_5) ?_
    show Steps p.tables e below (T793.setTop (mkF m 6 #[.val (.int bits), .val (.ref wo), .unset, .unset] [(.int (0 : Int32))])) _
    refine XS.istoreN X793.here hx rfl (hb hby d4_6) rfl (l' := #[.val (.int bits), .val (.ref wo), .val (.int (0 : Int32)), .unset]) rfl ?_
    refine XS.iloadN X793.here hx rfl (hb hby d4_7) rfl ?_
    refine XS.aloadN X793.here hx rfl (hb hby d4_8) rfl rfl ?_
    refine own_len X793 hx hZ rfl Vo (g := (mkF m 9 #[.val (.int bits), .val (.ref wo), .val (.int (0 : Int32)), .unset] [(.ref wo), (.int (0 : Int32))])) rfl rfl (hb hby d4_9) _ ?_
    show Steps p.tables e below (T793.setTop (mkF m 10 #[.val (.int bits), .val (.ref wo), .val (.int (0 : Int32)), .unset] [(.int (1 : Int32)), (.int (0 : Int32))])) _
    refine XS.icmpNo X793.here hx rfl (hb hby d4_10) rfl (tlt (by decide : (0 : Int32) < (1 : Int32))).2.1 ?_
    refine XS.iloadN X793.here hx rfl (hb hby d4_13) rfl ?_
    refine XS.iloadN X793.here hx rfl (hb hby d4_14) rfl ?_
    refine XS.bipush X793.here hx rfl (hb hby d4_15) ?_
    show Steps p.tables e below (T793.setTop (mkF m 17 #[.val (.int bits), .val (.ref wo), .val (.int (0 : Int32)), .unset] [(.int (64 : Int32)), (.int (0 : Int32)), (.int bits)])) _
    refine XS.imul X793.here hx rfl (hb hby d4_17) rfl ?_
    refine XS.isub X793.here hx rfl (hb hby d4_18) rfl ?_
    refine XS.istoreN X793.here hx rfl (hb hby d4_19) rfl (l' := #[.val (.int bits), .val (.ref wo), .val (.int (0 : Int32)), .val (.int (bits - (0 : Int32)))]) rfl ?_
    refine XS.aloadN X793.here hx rfl (hb hby d4_20) rfl rfl ?_
    show Steps p.tables e below (T793.setTop (mkF m 21 #[.val (.int bits), .val (.ref wo), .val (.int (0 : Int32)), .val (.int (bits - (0 : Int32)))] [(.ref wo)])) _
    refine XS.iloadN X793.here hx rfl (hb hby d4_21) rfl ?_
    refine XS.iloadN X793.here hx rfl (hb hby d4_22) rfl ?_
    refine XS.bipush X793.here hx rfl (hb hby d4_23) ?_
    exact hk)
  obtain ⟨x0, hx0, k797⟩ : ∃ (x0 : Int64), (x0 = (if (bits - (0 : Int32)) < (64 : Int32) then (((1 : Int64) <<< ((bits - (0 : Int32)) &&& 0x3f).toInt64) - (1 : Int64)) else (-1 : Int64))) ∧ ∀ t, Steps p.tables e below (T793.setTop (mkF m 39 #[.val (.int bits), .val (.ref wo), .val (.int (0 : Int32)), .val (.int (bits - (0 : Int32)))] [(.long x0), (.int (0 : Int32)), (.ref wo)])) t → Steps p.tables e below (s₁.setTop (entryFrame m #[(.int bits)] 4)) t := by
    by_cases hc25 : (bits - (0 : Int32)) < (64 : Int32)
    ·
      refine ⟨(((1 : Int64) <<< ((bits - (0 : Int32)) &&& 0x3f).toInt64) - (1 : Int64)), ((if_pos hc25).trans rfl).symm, fun t hk => k796 t ?_⟩
      show Steps p.tables e below (T793.setTop (mkF m 25 #[.val (.int bits), .val (.ref wo), .val (.int (0 : Int32)), .val (.int (bits - (0 : Int32)))] [(.int (64 : Int32)), (.int (bits - (0 : Int32))), (.int (0 : Int32)), (.ref wo)])) _
      refine XS.icmpYes X793.here hx rfl (pc0 := 25) (pc' := 34) rfl (hb hby d4_25) rfl (tlt hc25).1 (by decide) (by decide) ?_
      refine XS.lconst X793.here hx rfl (hb hby d4_34) ?_
      refine XS.iloadN X793.here hx rfl (hb hby d4_35) rfl ?_
      refine XS.lshl X793.here hx rfl (hb hby d4_36) rfl ?_
      show Steps p.tables e below (T793.setTop (mkF m 37 #[.val (.int bits), .val (.ref wo), .val (.int (0 : Int32)), .val (.int (bits - (0 : Int32)))] [(.long ((1 : Int64) <<< ((bits - (0 : Int32)) &&& 0x3f).toInt64)), (.int (0 : Int32)), (.ref wo)])) _
      refine XS.lconst X793.here hx rfl (hb hby d4_37) ?_
      refine XS.lsub X793.here hx rfl (hb hby d4_38) rfl ?_
      exact hk
    ·
      refine ⟨(-1 : Int64), ((if_neg hc25).trans rfl).symm, fun t hk => k796 t ?_⟩
      show Steps p.tables e below (T793.setTop (mkF m 25 #[.val (.int bits), .val (.ref wo), .val (.int (0 : Int32)), .val (.int (bits - (0 : Int32)))] [(.int (64 : Int32)), (.int (bits - (0 : Int32))), (.int (0 : Int32)), (.ref wo)])) _
      refine XS.icmpNo X793.here hx rfl (hb hby d4_25) rfl (flt hc25).1 ?_
      refine X793.ldc2Long hx hown (mvT hZ (hw _ (List.mem_of_getElem? (i := 32) rfl))) (g := (mkF m 28 #[.val (.int bits), .val (.ref wo), .val (.int (0 : Int32)), .val (.int (bits - (0 : Int32)))] [(.int (0 : Int32)), (.ref wo)])) rfl (hb hby d4_28) _ ?_
      refine XS.goto X793.here hx rfl (pc0 := 31) (pc' := 39) rfl (hb hby d4_31) (by decide) (by decide) ?_
      exact hk
  obtain ⟨T798, h798, X798, e798, W798, st798⟩ := own_last X793 hx hZ rfl Vo (k := 0) ⟨by decide, rfl, by decide⟩ (g := (mkF m 39 #[.val (.int bits), .val (.ref wo), .val (.int (0 : Int32)), .val (.int (bits - (0 : Int32)))] [(.long x0), (.int (0 : Int32)), (.ref wo)])) rfl rfl (hb hby d4_39)
  have A799 : OwnAV Z h798 wo .long 1 (fun i => (.long ((own_l2 x0 (0 : Int64)) i))) := (Vo.storeJ W798).congr (fun j hj => by
      have q : j = 0 ∨ j = 1 := by omega
      rcases q with rfl | rfl <;> rfl)
  have E800 := Eo.wr W798
  have K801 := K794.wr W798 (Or.inr so)
  have Z802 : n0 ≤ h798.size := W798.size ▸ Z795
  have N803 := Fr.snoc X798 N793 go
  have k804 : ∀ t, Steps p.tables e below (T798.setTop (mkF m 47 #[.val (.int bits), .val (.ref wo), .val (.int (1 : Int32)), .val (.int (bits - (0 : Int32)))] [(.ref wo)])) t → Steps p.tables e below (s₁.setTop (entryFrame m #[(.int bits)] 4)) t := fun t hk => k797 t (by
    show Steps p.tables e below (T793.setTop (mkF m 39 #[.val (.int bits), .val (.ref wo), .val (.int (0 : Int32)), .val (.int (bits - (0 : Int32)))] [(.long x0), (.int (0 : Int32)), (.ref wo)])) _
    refine st798 _ ?_
    refine XS.iinc X798.here hx rfl (hb hby d4_40) rfl (l' := #[.val (.int bits), .val (.ref wo), .val (.int (1 : Int32)), .val (.int (bits - (0 : Int32)))]) rfl ?_
    refine XS.goto X798.here hx rfl (pc0 := 43) (pc' := 7) rfl (hb hby d4_43) (by decide) (by decide) ?_
    refine XS.iloadN X798.here hx rfl (hb hby d4_7) rfl ?_
    show Steps p.tables e below (T798.setTop (mkF m 8 #[.val (.int bits), .val (.ref wo), .val (.int (1 : Int32)), .val (.int (bits - (0 : Int32)))] [(.int (1 : Int32))])) _
    refine XS.aloadN X798.here hx rfl (hb hby d4_8) rfl rfl ?_
    refine own_len X798 hx hZ e798 A799 (g := (mkF m 9 #[.val (.int bits), .val (.ref wo), .val (.int (1 : Int32)), .val (.int (bits - (0 : Int32)))] [(.ref wo), (.int (1 : Int32))])) rfl rfl (hb hby d4_9) _ ?_
    refine XS.icmpYes X798.here hx rfl (pc0 := 10) (pc' := 46) rfl (hb hby d4_10) rfl (flt (by decide : ¬ ((1 : Int32) < (1 : Int32)))).2.1 (by decide) (by decide) ?_
    refine XS.aloadN X798.here hx rfl (hb hby d4_46) rfl rfl ?_
    exact hk)
  obtain ⟨fs, hr, hrun, hended, hW, hsame⟩ := X798.leave (v := some (.ref wo)) (fun h => by rw [Bd.returns] at h; cases h)
  refine ⟨_, _, k804 _ ?_, hrun, hended, _, _, rfl, ?_, ⟨_, rfl⟩, hW, hsame.mono (by decide) (by decide)⟩
  · show Steps p.tables e below (T798.setTop (mkF m 47 #[.val (.int bits), .val (.ref wo), .val (.int (1 : Int32)), .val (.int (bits - (0 : Int32)))] [(.ref wo)])) _
    exact retOut X798 hx Bd.returns rfl (Or.inr (Or.inr (Or.inr (Or.inr ⟨rfl, rfl, rfl⟩)))) (hb hby d4_47) hr
  · show Qa1 Z bits h0 n0 _ T798.heap _
    rw [e798]
    exact ⟨wo, x0, (0 : Int64), rfl, so, N803, K801, A799, E800, hx0⟩
def Qi1 (Z : State) (st : Addr) (tr : Addr) (bits : Int32) (h0 : Heap) (n0 : Nat) (v : Option Value) (h : Heap) (L : List Loc) : Prop := v = none ∧ Fr n0 L ∧ Keep h0 h [st] ∧ ∃ (lim wo sa nz ma : Addr) (x0 x1 y0 y1 : Int64), h0.size ≤ lim ∧ @LT.lt Nat instLTNat lim wo ∧ @LT.lt Nat instLTNat wo sa ∧ @LT.lt Nat instLTNat sa nz ∧ @LT.lt Nat instLTNat nz ma ∧ OwnSet Z h st tr lim wo sa nz ma (-1 : Int64) ∧ OwnAV Z h lim .int 1 (fun i => (.int (own_l2 (1 : Int32) (0 : Int32) i))) ∧ OwnAV Z h wo .long 1 (fun i => (.long (own_l2 x0 x1 i))) ∧ OwnAV Z h sa .long 1 (fun i => (.long (own_l2 y0 y1 i))) ∧ OwnAV Z h nz .int 1 (fun i => (.int (own_l2 (0 : Int32) (0 : Int32) i))) ∧ OwnAV Z h ma .long 1 (fun i => (.long (own_l2 (0 : Int64) (0 : Int64) i))) ∧ Exa Z h lim "[I" ∧ Exa Z h wo "[J" ∧ x0 = (if (bits - (0 : Int32)) < (64 : Int32) then (((1 : Int64) <<< ((bits - (0 : Int32)) &&& 0x3f).toInt64) - (1 : Int64)) else (-1 : Int64)) ∧ y0 = (-1 : Int64)
set_option maxRecDepth 65536 in
set_option maxHeartbeats 40000000 in
theorem rmi1 (l : Launch) (Z : State) (a0 : Array Value) (hw : ∀ d ∈ tables_1, d.before a0 Z = true) (ws : List Jvm.Cond) (st : Addr) (tr : Addr) (bits : Int32) (h0 : Heap) (n0 : Nat) (Z0 : n0 ≤ h0.size) (hwc : (((bits + (64 : Int32)) - (1 : Int32)) / (64 : Int32)) = (1 : Int32)) (Ex : Exa Z h0 st "com/example/faultline/faultline/engine/ReversibleBitSet") (ga : n0 ≤ st) (F0 : Fld Z h0 st "com/example/faultline/faultline/engine/ReversibleBitSet" "trail" "Lcom/example/faultline/faultline/engine/Trail;" .null) (F1 : Fld Z h0 st "com/example/faultline/faultline/engine/ReversibleBitSet" "limit" "[I" .null) (F2 : Fld Z h0 st "com/example/faultline/faultline/engine/ReversibleBitSet" "words" "[J" .null) (F3 : Fld Z h0 st "com/example/faultline/faultline/engine/ReversibleBitSet" "savedIn" "[J" .null) (F4 : Fld Z h0 st "com/example/faultline/faultline/engine/ReversibleBitSet" "nonZero" "[I" .null) (F5 : Fld Z h0 st "com/example/faultline/faultline/engine/ReversibleBitSet" "mask" "[J" .null) (F6 : Fld Z h0 st "com/example/faultline/faultline/engine/ReversibleBitSet" "limitSavedIn" "J" (.long (0 : Int64))) :
    MetFree l (⟨"com/example/faultline/faultline/engine/ReversibleBitSet", "<init>", "(Lcom/example/faultline/faultline/engine/Trail;I)V"⟩ : MethodName) (head1 (Jvm.Cond.code (⟨"com/example/faultline/faultline/engine/ReversibleBitSet", "<init>", "(Lcom/example/faultline/faultline/engine/Trail;I)V"⟩ : MethodName) prog_44_method_1_code 4 none :: ws) ({ frames := 3, cells := 5, slots := 5, locals := 40 } : Room)) (fun a U => a = #[(.ref st), (.ref tr), (.int bits)] ∧ Z.Warmed39 U.vm ∧ U.heap = h0) (fun _ _ _ _ _ => True) (fun _ U o U' => ∃ v L, o = .returned v ∧ Qi1 Z st tr bits h0 n0 v U'.heap L ∧ FrameEnd U o U' L ({ frames := 3, cells := 5, slots := 5, locals := 40 } : Room).cells ({ frames := 3, cells := 5, slots := 5, locals := 40 } : Room).slots) := by
  refine MetFree.of_bodySF (plainFor_of_name pn_3) hisR ?_
  intro p e s m args below meth c s₁ Bd hml0 hP hK
  obtain ⟨rfl, hZ, hh⟩ := hP
  have hx := Bd.exec
  have hby := Bd.bytes
  have hml : c.maxLocals = 4 := hml0
  have hown : s.vm.findClass "com/example/faultline/faultline/engine/ReversibleBitSet" = some m.cls := findClass_of_methodNamed Bd.named
  have hnm := (name_of_methodNamed Bd.named Bd.method).1
  have X0 : Stand p l e ({ frames := 3, cells := 5, slots := 5, locals := 40 } : Room) s m #[(.ref st), (.ref tr), (.int bits)] below meth c s₁ [] 0 0 := Stand.of_body Bd
  have e0 : s₁.heap = h0 := by rw [← hh, Bd.state]; rfl
  have N0 := Fr.nil n0
  have pre0 : ∀ t, Steps p.tables e below (s₁.setTop (mkF m 0 #[.val (.ref st), .val (.ref tr), .val (.int bits), .unset] [])) t → Steps p.tables e below (s₁.setTop (entryFrame m #[(.ref st), (.ref tr), (.int bits)] 4)) t := fun t k => castTop (ef_3 m st tr bits) k
  obtain ⟨T805, X805, e805, st805⟩ := initO X0 hx hZ hown (hw _ (List.mem_of_getElem? (i := 29) rfl)) (hw _ (List.mem_of_getElem? (i := 7) rfl)) (hw _ (List.mem_of_getElem? (i := 8) rfl)) e0 (g := (mkF m 1 #[.val (.ref st), .val (.ref tr), .val (.int bits), .unset] [(.ref st)])) rfl (by rw [hml]; rfl) rfl (hb hby d3_1) (by decide) (W := 0) (by show 2 * 0 + _ ≤ _; exact Nat.le_of_eq rfl) (by decide)
  obtain ⟨T806, h806, k806, X806, e806, E806, A806, Y806, st806⟩ := newPE X805 hx hZ (hw _ (List.mem_of_getElem? (i := 13) rfl)) e805 (g := (mkF m 6 #[.val (.ref st), .val (.ref tr), .val (.int bits), .unset] [(.int (1 : Int32)), (.ref st)])) rfl (hb hby d3_6) rfl (by decide) (cap := 1) (by decide) (by decide) (by decide) (by decide) (ad := "[I") (by decide)
  obtain ⟨b806, g806⟩ : ∃ z, z = h0.size := ⟨_, rfl⟩
  have ne807 : st ≠ b806 := fun q => absurd Ex.lt (by rw [q, g806]; exact Nat.lt_irrefl _)
  have g808 : n0 ≤ b806 := g806 ▸ Z0
  have s809 : h0.size ≤ b806 := g806 ▸ (Keep.refl h0 [st]).1
  rw [← g806] at A806 Y806 st806
  have F810 := F0.ext E806
  have F811 := F1.ext E806
  have F812 := F2.ext E806
  have F813 := F3.ext E806
  have F814 := F4.ext E806
  have F815 := F5.ext E806
  have F816 := F6.ext E806
  have E817 := Ex.ext E806
  have K818 := (Keep.refl h0 [st]).ext E806
  have Z819 : n0 ≤ h806.size := Nat.le_trans Z0 E806.1
  have A820 : OwnAV Z h806 b806 .int 1 (fun i => (.int ((fun _ => (0 : Int32)) i))) := OwnAV.new A806 rfl (by decide)
  have A821 : OwnAV Z h806 b806 .int 1 (fun i => (.int ((own_l2 (0 : Int32) (0 : Int32)) i))) := A820.congr (fun j hj => by
      have q : j = 0 ∨ j = 1 := by omega
      rcases q with rfl | rfl <;> rfl)
  obtain ⟨T822, h822, X822, e822, W822, st822⟩ := putF X806 hx hZ hown (host := "") (Or.inl (hw _ (List.mem_of_getElem? (i := 30) rfl))) Via.refl e806 F811 E817 (Or.inr ⟨(hw _ (List.mem_of_getElem? (i := 31) rfl)), rfl, hnm⟩) (hw _ (List.mem_of_getElem? (i := 24) rfl)) (ty := (.array .int)) (by decide) rfl rfl (g := (mkF m 8 #[.val (.ref st), .val (.ref tr), .val (.int bits), .unset] [(.ref b806), (.ref st)])) rfl rfl (hb hby d3_8)
  have F823 := F810.other W822 (Or.inr (slot_ne (Or.inr (hw _ (List.mem_of_getElem? (i := 36) rfl))) (Or.inr (hw _ (List.mem_of_getElem? (i := 31) rfl))) (by decide) (by decide : parseFieldDescriptor "Lcom/example/faultline/faultline/engine/Trail;" = some (.object "com/example/faultline/faultline/engine/Trail")) (by decide : parseFieldDescriptor "[I" = some (.array .int))))
  have F824 := F811.same W822
  have F825 := F812.other W822 (Or.inr (slot_ne (Or.inr (hw _ (List.mem_of_getElem? (i := 47) rfl))) (Or.inr (hw _ (List.mem_of_getElem? (i := 31) rfl))) (by decide) (by decide : parseFieldDescriptor "[J" = some (.array .long)) (by decide : parseFieldDescriptor "[I" = some (.array .int))))
  have F826 := F813.other W822 (Or.inr (slot_ne (Or.inr (hw _ (List.mem_of_getElem? (i := 49) rfl))) (Or.inr (hw _ (List.mem_of_getElem? (i := 31) rfl))) (by decide) (by decide : parseFieldDescriptor "[J" = some (.array .long)) (by decide : parseFieldDescriptor "[I" = some (.array .int))))
  have F827 := F814.other W822 (Or.inr (slot_ne (Or.inr (hw _ (List.mem_of_getElem? (i := 51) rfl))) (Or.inr (hw _ (List.mem_of_getElem? (i := 31) rfl))) (by decide) (by decide : parseFieldDescriptor "[I" = some (.array .int)) (by decide : parseFieldDescriptor "[I" = some (.array .int))))
  have F828 := F815.other W822 (Or.inr (slot_ne (Or.inr (hw _ (List.mem_of_getElem? (i := 53) rfl))) (Or.inr (hw _ (List.mem_of_getElem? (i := 31) rfl))) (by decide) (by decide : parseFieldDescriptor "[J" = some (.array .long)) (by decide : parseFieldDescriptor "[I" = some (.array .int))))
  have F829 := F816.other W822 (Or.inr (slot_ne (Or.inl (hw _ (List.mem_of_getElem? (i := 34) rfl))) (Or.inr (hw _ (List.mem_of_getElem? (i := 31) rfl))) (by decide) (by decide : parseFieldDescriptor "J" = some .long) (by decide : parseFieldDescriptor "[I" = some (.array .int))))
  have E830 := E817.wr W822
  have E831 := Y806.wr W822
  have A832 := A821.other W822 (Ne.symm ne807)
  have K833 := K818.wr W822 (Or.inl (List.mem_of_getElem? (i := 0) rfl))
  have Z834 : n0 ≤ h822.size := W822.size ▸ Z819
  have N835 := Fr.snoc X822 N0 ga
  obtain ⟨T836, h836, X836, e836, W836, st836⟩ := putF X822 hx hZ hown (host := "") (Or.inl (hw _ (List.mem_of_getElem? (i := 33) rfl))) Via.refl e822 F829 E830 (Or.inl (hw _ (List.mem_of_getElem? (i := 34) rfl))) (hw _ (List.mem_of_getElem? (i := 24) rfl)) (ty := .long) (by decide) rfl rfl (g := (mkF m 15 #[.val (.ref st), .val (.ref tr), .val (.int bits), .unset] [(.long (-1 : Int64)), (.ref st)])) rfl rfl (hb hby d3_15)
  have F837 := F823.other W836 (Or.inr (slot_ne (Or.inr (hw _ (List.mem_of_getElem? (i := 36) rfl))) (Or.inl (hw _ (List.mem_of_getElem? (i := 34) rfl))) (by decide) (by decide : parseFieldDescriptor "Lcom/example/faultline/faultline/engine/Trail;" = some (.object "com/example/faultline/faultline/engine/Trail")) (by decide : parseFieldDescriptor "J" = some .long)))
  have F838 := F824.other W836 (Or.inr (slot_ne (Or.inr (hw _ (List.mem_of_getElem? (i := 31) rfl))) (Or.inl (hw _ (List.mem_of_getElem? (i := 34) rfl))) (by decide) (by decide : parseFieldDescriptor "[I" = some (.array .int)) (by decide : parseFieldDescriptor "J" = some .long)))
  have F839 := F825.other W836 (Or.inr (slot_ne (Or.inr (hw _ (List.mem_of_getElem? (i := 47) rfl))) (Or.inl (hw _ (List.mem_of_getElem? (i := 34) rfl))) (by decide) (by decide : parseFieldDescriptor "[J" = some (.array .long)) (by decide : parseFieldDescriptor "J" = some .long)))
  have F840 := F826.other W836 (Or.inr (slot_ne (Or.inr (hw _ (List.mem_of_getElem? (i := 49) rfl))) (Or.inl (hw _ (List.mem_of_getElem? (i := 34) rfl))) (by decide) (by decide : parseFieldDescriptor "[J" = some (.array .long)) (by decide : parseFieldDescriptor "J" = some .long)))
  have F841 := F827.other W836 (Or.inr (slot_ne (Or.inr (hw _ (List.mem_of_getElem? (i := 51) rfl))) (Or.inl (hw _ (List.mem_of_getElem? (i := 34) rfl))) (by decide) (by decide : parseFieldDescriptor "[I" = some (.array .int)) (by decide : parseFieldDescriptor "J" = some .long)))
  have F842 := F828.other W836 (Or.inr (slot_ne (Or.inr (hw _ (List.mem_of_getElem? (i := 53) rfl))) (Or.inl (hw _ (List.mem_of_getElem? (i := 34) rfl))) (by decide) (by decide : parseFieldDescriptor "[J" = some (.array .long)) (by decide : parseFieldDescriptor "J" = some .long)))
  have F843 := F829.same W836
  have E844 := E830.wr W836
  have E845 := E831.wr W836
  have A846 := A832.other W836 (Ne.symm ne807)
  have K847 := K833.wr W836 (Or.inl (List.mem_of_getElem? (i := 0) rfl))
  have Z848 : n0 ≤ h836.size := W836.size ▸ Z834
  have N849 := Fr.snoc X836 N835 ga
  obtain ⟨T850, h850, X850, e850, W850, st850⟩ := putF X836 hx hZ hown (host := "") (Or.inl (hw _ (List.mem_of_getElem? (i := 35) rfl))) Via.refl e836 F837 E844 (Or.inr ⟨(hw _ (List.mem_of_getElem? (i := 36) rfl)), rfl, hnm⟩) (hw _ (List.mem_of_getElem? (i := 24) rfl)) (ty := (.object "com/example/faultline/faultline/engine/Trail")) (by decide) rfl rfl (g := (mkF m 20 #[.val (.ref st), .val (.ref tr), .val (.int bits), .unset] [(.ref tr), (.ref st)])) rfl rfl (hb hby d3_20)
  have F851 := F837.same W850
  have F852 := F838.other W850 (Or.inr (slot_ne (Or.inr (hw _ (List.mem_of_getElem? (i := 31) rfl))) (Or.inr (hw _ (List.mem_of_getElem? (i := 36) rfl))) (by decide) (by decide : parseFieldDescriptor "[I" = some (.array .int)) (by decide : parseFieldDescriptor "Lcom/example/faultline/faultline/engine/Trail;" = some (.object "com/example/faultline/faultline/engine/Trail"))))
  have F853 := F839.other W850 (Or.inr (slot_ne (Or.inr (hw _ (List.mem_of_getElem? (i := 47) rfl))) (Or.inr (hw _ (List.mem_of_getElem? (i := 36) rfl))) (by decide) (by decide : parseFieldDescriptor "[J" = some (.array .long)) (by decide : parseFieldDescriptor "Lcom/example/faultline/faultline/engine/Trail;" = some (.object "com/example/faultline/faultline/engine/Trail"))))
  have F854 := F840.other W850 (Or.inr (slot_ne (Or.inr (hw _ (List.mem_of_getElem? (i := 49) rfl))) (Or.inr (hw _ (List.mem_of_getElem? (i := 36) rfl))) (by decide) (by decide : parseFieldDescriptor "[J" = some (.array .long)) (by decide : parseFieldDescriptor "Lcom/example/faultline/faultline/engine/Trail;" = some (.object "com/example/faultline/faultline/engine/Trail"))))
  have F855 := F841.other W850 (Or.inr (slot_ne (Or.inr (hw _ (List.mem_of_getElem? (i := 51) rfl))) (Or.inr (hw _ (List.mem_of_getElem? (i := 36) rfl))) (by decide) (by decide : parseFieldDescriptor "[I" = some (.array .int)) (by decide : parseFieldDescriptor "Lcom/example/faultline/faultline/engine/Trail;" = some (.object "com/example/faultline/faultline/engine/Trail"))))
  have F856 := F842.other W850 (Or.inr (slot_ne (Or.inr (hw _ (List.mem_of_getElem? (i := 53) rfl))) (Or.inr (hw _ (List.mem_of_getElem? (i := 36) rfl))) (by decide) (by decide : parseFieldDescriptor "[J" = some (.array .long)) (by decide : parseFieldDescriptor "Lcom/example/faultline/faultline/engine/Trail;" = some (.object "com/example/faultline/faultline/engine/Trail"))))
  have F857 := F843.other W850 (Or.inr (slot_ne (Or.inl (hw _ (List.mem_of_getElem? (i := 34) rfl))) (Or.inr (hw _ (List.mem_of_getElem? (i := 36) rfl))) (by decide) (by decide : parseFieldDescriptor "J" = some .long) (by decide : parseFieldDescriptor "Lcom/example/faultline/faultline/engine/Trail;" = some (.object "com/example/faultline/faultline/engine/Trail"))))
  have E858 := E844.wr W850
  have E859 := E845.wr W850
  have A860 := A846.other W850 (Ne.symm ne807)
  have K861 := K847.wr W850 (Or.inl (List.mem_of_getElem? (i := 0) rfl))
  have Z862 : n0 ≤ h850.size := W850.size ▸ Z848
  have N863 := Fr.snoc X850 N849 ga
  obtain ⟨_, _, ⟨T864, L864, k864, n864⟩, -, X864, ⟨Lc864, hQ864, l864, y864, z864⟩, st864⟩ := Jvm.LawKit.callS X850 hx (y := (⟨"com/example/faultline/faultline/engine/ReversibleBitSet", "allSet", "(I)[J"⟩ : MethodName)) hown (mvT hZ (hw _ (List.mem_of_getElem? (i := 37) rfl))) (mvT hZ (hw _ (List.mem_of_getElem? (i := 38) rfl))) (mvT hZ (hw _ (List.mem_of_getElem? (i := 25) rfl))) (mvT hZ (hw _ (List.mem_of_getElem? (i := 39) rfl))) (by decide) (backOf (W := 1) (rma1 l Z a0 hw [] bits  h850 n0 Z862 hwc) hZ (hw _ (List.mem_of_getElem? (i := 39) rfl)) (hw _ (List.mem_of_getElem? (i := 25) rfl)) (by decide) (by decide)) (g := (mkF m 25 #[.val (.ref st), .val (.ref tr), .val (.int bits), .unset] [(.int bits), (.ref st)])) rfl (by rw [hml]; rfl) (argsL := [(.int bits)]) (rest := [(.ref st)]) (lenOf pd_5 rfl) rfl (by show 2 * 0 + _ ≤ _; exact Nat.le_of_eq rfl) (hb hby d3_25) (fun _ _ => ⟨rfl, e850, (by decide : 1 + 1 ≤ _), (by decide : 1 + 1 ≤ _)⟩)
  dsimp only [Pt.U, Pt.locs, Pt.cells, Pt.slots] at X864 l864 y864 z864 st864 hQ864
  subst l864 y864 z864
  obtain ⟨wo, x0, x1, rfl, so, N864q, K864, Vo, Eo, hx0⟩ := hQ864
  have N864 := Fr.app N863 N864q
  have ne865 : st ≠ wo := Nat.ne_of_lt (Nat.lt_of_lt_of_le E858.lt so)
  have ne866 : b806 ≠ wo := Nat.ne_of_lt (Nat.lt_of_lt_of_le E859.lt so)
  have lt_b806_wo : @LT.lt Nat instLTNat b806 wo := Nat.lt_of_lt_of_le E859.lt so
  have go : n0 ≤ wo := Nat.le_trans Z862 so
  have szo : h0.size ≤ wo := Nat.le_trans K861.1 so
  have F867 := F851.keep K864 nin0
  have F868 := F852.keep K864 nin0
  have F869 := F853.keep K864 nin0
  have F870 := F854.keep K864 nin0
  have F871 := F855.keep K864 nin0
  have F872 := F856.keep K864 nin0
  have F873 := F857.keep K864 nin0
  have E874 := E858.keep K864
  have E875 := E859.keep K864
  have A876 := A860.keep K864 nin0
  have K877 := K861.trans K864 all0
  have Z878 : n0 ≤ T864.heap.size := Nat.le_trans Z862 K864.1
  obtain ⟨T879, h879, X879, e879, W879, st879⟩ := putF X864 hx hZ hown (host := "") (Or.inl (hw _ (List.mem_of_getElem? (i := 46) rfl))) Via.refl rfl F869 E874 (Or.inr ⟨(hw _ (List.mem_of_getElem? (i := 47) rfl)), rfl, hnm⟩) (hw _ (List.mem_of_getElem? (i := 24) rfl)) (ty := (.array .long)) (by decide) rfl rfl (g := (mkF m 28 #[.val (.ref st), .val (.ref tr), .val (.int bits), .unset] [(.ref wo), (.ref st)])) rfl rfl (hb hby d3_28)
  have F880 := F867.other W879 (Or.inr (slot_ne (Or.inr (hw _ (List.mem_of_getElem? (i := 36) rfl))) (Or.inr (hw _ (List.mem_of_getElem? (i := 47) rfl))) (by decide) (by decide : parseFieldDescriptor "Lcom/example/faultline/faultline/engine/Trail;" = some (.object "com/example/faultline/faultline/engine/Trail")) (by decide : parseFieldDescriptor "[J" = some (.array .long))))
  have F881 := F868.other W879 (Or.inr (slot_ne (Or.inr (hw _ (List.mem_of_getElem? (i := 31) rfl))) (Or.inr (hw _ (List.mem_of_getElem? (i := 47) rfl))) (by decide) (by decide : parseFieldDescriptor "[I" = some (.array .int)) (by decide : parseFieldDescriptor "[J" = some (.array .long))))
  have F882 := F869.same W879
  have F883 := F870.other W879 (Or.inr (slot_ne (Or.inr (hw _ (List.mem_of_getElem? (i := 49) rfl))) (Or.inr (hw _ (List.mem_of_getElem? (i := 47) rfl))) (by decide) (by decide : parseFieldDescriptor "[J" = some (.array .long)) (by decide : parseFieldDescriptor "[J" = some (.array .long))))
  have F884 := F871.other W879 (Or.inr (slot_ne (Or.inr (hw _ (List.mem_of_getElem? (i := 51) rfl))) (Or.inr (hw _ (List.mem_of_getElem? (i := 47) rfl))) (by decide) (by decide : parseFieldDescriptor "[I" = some (.array .int)) (by decide : parseFieldDescriptor "[J" = some (.array .long))))
  have F885 := F872.other W879 (Or.inr (slot_ne (Or.inr (hw _ (List.mem_of_getElem? (i := 53) rfl))) (Or.inr (hw _ (List.mem_of_getElem? (i := 47) rfl))) (by decide) (by decide : parseFieldDescriptor "[J" = some (.array .long)) (by decide : parseFieldDescriptor "[J" = some (.array .long))))
  have F886 := F873.other W879 (Or.inr (slot_ne (Or.inl (hw _ (List.mem_of_getElem? (i := 34) rfl))) (Or.inr (hw _ (List.mem_of_getElem? (i := 47) rfl))) (by decide) (by decide : parseFieldDescriptor "J" = some .long) (by decide : parseFieldDescriptor "[J" = some (.array .long))))
  have E887 := E874.wr W879
  have E888 := E875.wr W879
  have E889 := Eo.wr W879
  have A890 := A876.other W879 (Ne.symm ne807)
  have A891 := Vo.other W879 (Ne.symm ne865)
  have K892 := K877.wr W879 (Or.inl (List.mem_of_getElem? (i := 0) rfl))
  have Z893 : n0 ≤ h879.size := W879.size ▸ Z878
  have N894 := Fr.snoc X879 N864 ga
  obtain ⟨T895, X895, e895, st895⟩ := getF X879 hx hZ hown (host := "") (Or.inl (hw _ (List.mem_of_getElem? (i := 46) rfl))) Via.refl e879 F882 (g := (mkF m 33 #[.val (.ref st), .val (.ref tr), .val (.int bits), .unset] [(.ref st), (.ref st)])) rfl rfl (hb hby d3_33)
  obtain ⟨T896, h896, k896, X896, e896, E896, A896, Y896, st896⟩ := newPE X895 hx hZ (hw _ (List.mem_of_getElem? (i := 16) rfl)) e895 (g := (mkF m 37 #[.val (.ref st), .val (.ref tr), .val (.int bits), .unset] [(.int (1 : Int32)), (.ref st)])) rfl (hb hby d3_37) rfl (by decide) (cap := 1) (by decide) (by decide) (by decide) (by decide) (ad := "[J") (by decide)
  obtain ⟨b896, g896⟩ : ∃ z, z = h879.size := ⟨_, rfl⟩
  have ne897 : st ≠ b896 := fun q => absurd E887.lt (by rw [q, g896]; exact Nat.lt_irrefl _)
  have ne898 : b806 ≠ b896 := fun q => absurd E888.lt (by rw [q, g896]; exact Nat.lt_irrefl _)
  have ne899 : wo ≠ b896 := fun q => absurd E889.lt (by rw [q, g896]; exact Nat.lt_irrefl _)
  have lt_wo_b896 : @LT.lt Nat instLTNat wo b896 := Nat.lt_of_lt_of_eq E889.lt g896.symm
  have g900 : n0 ≤ b896 := g896 ▸ Z893
  have s901 : h0.size ≤ b896 := g896 ▸ K892.1
  rw [← g896] at A896 Y896 st896
  have F902 := F880.ext E896
  have F903 := F881.ext E896
  have F904 := F882.ext E896
  have F905 := F883.ext E896
  have F906 := F884.ext E896
  have F907 := F885.ext E896
  have F908 := F886.ext E896
  have E909 := E887.ext E896
  have E910 := E888.ext E896
  have E911 := E889.ext E896
  have A912 := A890.ext E896
  have A913 := A891.ext E896
  have K914 := K892.ext E896
  have Z915 : n0 ≤ h896.size := Nat.le_trans Z893 E896.1
  have A916 : OwnAV Z h896 b896 .long 1 (fun i => (.long ((fun _ => (0 : Int64)) i))) := OwnAV.new A896 rfl (by decide)
  have A917 : OwnAV Z h896 b896 .long 1 (fun i => (.long ((own_l2 (0 : Int64) (0 : Int64)) i))) := A916.congr (fun j hj => by
      have q : j = 0 ∨ j = 1 := by omega
      rcases q with rfl | rfl <;> rfl)
  obtain ⟨T918, h918, X918, e918, W918, st918⟩ := putF X896 hx hZ hown (host := "") (Or.inl (hw _ (List.mem_of_getElem? (i := 48) rfl))) Via.refl e896 F905 E909 (Or.inr ⟨(hw _ (List.mem_of_getElem? (i := 49) rfl)), rfl, hnm⟩) (hw _ (List.mem_of_getElem? (i := 24) rfl)) (ty := (.array .long)) (by decide) rfl rfl (g := (mkF m 39 #[.val (.ref st), .val (.ref tr), .val (.int bits), .unset] [(.ref b896), (.ref st)])) rfl rfl (hb hby d3_39)
  have F919 := F902.other W918 (Or.inr (slot_ne (Or.inr (hw _ (List.mem_of_getElem? (i := 36) rfl))) (Or.inr (hw _ (List.mem_of_getElem? (i := 49) rfl))) (by decide) (by decide : parseFieldDescriptor "Lcom/example/faultline/faultline/engine/Trail;" = some (.object "com/example/faultline/faultline/engine/Trail")) (by decide : parseFieldDescriptor "[J" = some (.array .long))))
  have F920 := F903.other W918 (Or.inr (slot_ne (Or.inr (hw _ (List.mem_of_getElem? (i := 31) rfl))) (Or.inr (hw _ (List.mem_of_getElem? (i := 49) rfl))) (by decide) (by decide : parseFieldDescriptor "[I" = some (.array .int)) (by decide : parseFieldDescriptor "[J" = some (.array .long))))
  have F921 := F904.other W918 (Or.inr (slot_ne (Or.inr (hw _ (List.mem_of_getElem? (i := 47) rfl))) (Or.inr (hw _ (List.mem_of_getElem? (i := 49) rfl))) (by decide) (by decide : parseFieldDescriptor "[J" = some (.array .long)) (by decide : parseFieldDescriptor "[J" = some (.array .long))))
  have F922 := F905.same W918
  have F923 := F906.other W918 (Or.inr (slot_ne (Or.inr (hw _ (List.mem_of_getElem? (i := 51) rfl))) (Or.inr (hw _ (List.mem_of_getElem? (i := 49) rfl))) (by decide) (by decide : parseFieldDescriptor "[I" = some (.array .int)) (by decide : parseFieldDescriptor "[J" = some (.array .long))))
  have F924 := F907.other W918 (Or.inr (slot_ne (Or.inr (hw _ (List.mem_of_getElem? (i := 53) rfl))) (Or.inr (hw _ (List.mem_of_getElem? (i := 49) rfl))) (by decide) (by decide : parseFieldDescriptor "[J" = some (.array .long)) (by decide : parseFieldDescriptor "[J" = some (.array .long))))
  have F925 := F908.other W918 (Or.inr (slot_ne (Or.inl (hw _ (List.mem_of_getElem? (i := 34) rfl))) (Or.inr (hw _ (List.mem_of_getElem? (i := 49) rfl))) (by decide) (by decide : parseFieldDescriptor "J" = some .long) (by decide : parseFieldDescriptor "[J" = some (.array .long))))
  have E926 := E909.wr W918
  have E927 := E910.wr W918
  have E928 := E911.wr W918
  have E929 := Y896.wr W918
  have A930 := A912.other W918 (Ne.symm ne807)
  have A931 := A913.other W918 (Ne.symm ne865)
  have A932 := A917.other W918 (Ne.symm ne897)
  have K933 := K914.wr W918 (Or.inl (List.mem_of_getElem? (i := 0) rfl))
  have Z934 : n0 ≤ h918.size := W918.size ▸ Z915
  have N935 := Fr.snoc X918 N894 ga
  obtain ⟨T936, X936, e936, st936⟩ := getF X918 hx hZ hown (host := "") (Or.inl (hw _ (List.mem_of_getElem? (i := 46) rfl))) Via.refl e918 F921 (g := (mkF m 44 #[.val (.ref st), .val (.ref tr), .val (.int bits), .unset] [(.ref st), (.ref st)])) rfl rfl (hb hby d3_44)
  obtain ⟨T937, h937, k937, X937, e937, E937, A937, Y937, st937⟩ := newPE X936 hx hZ (hw _ (List.mem_of_getElem? (i := 13) rfl)) e936 (g := (mkF m 48 #[.val (.ref st), .val (.ref tr), .val (.int bits), .unset] [(.int (1 : Int32)), (.ref st)])) rfl (hb hby d3_48) rfl (by decide) (cap := 1) (by decide) (by decide) (by decide) (by decide) (ad := "[I") (by decide)
  obtain ⟨b937, g937⟩ : ∃ z, z = h918.size := ⟨_, rfl⟩
  have ne938 : st ≠ b937 := fun q => absurd E926.lt (by rw [q, g937]; exact Nat.lt_irrefl _)
  have ne939 : b806 ≠ b937 := fun q => absurd E927.lt (by rw [q, g937]; exact Nat.lt_irrefl _)
  have ne940 : wo ≠ b937 := fun q => absurd E928.lt (by rw [q, g937]; exact Nat.lt_irrefl _)
  have ne941 : b896 ≠ b937 := fun q => absurd E929.lt (by rw [q, g937]; exact Nat.lt_irrefl _)
  have lt_b896_b937 : @LT.lt Nat instLTNat b896 b937 := Nat.lt_of_lt_of_eq E929.lt g937.symm
  have g942 : n0 ≤ b937 := g937 ▸ Z934
  have s943 : h0.size ≤ b937 := g937 ▸ K933.1
  rw [← g937] at A937 Y937 st937
  have F944 := F919.ext E937
  have F945 := F920.ext E937
  have F946 := F921.ext E937
  have F947 := F922.ext E937
  have F948 := F923.ext E937
  have F949 := F924.ext E937
  have F950 := F925.ext E937
  have E951 := E926.ext E937
  have E952 := E927.ext E937
  have E953 := E928.ext E937
  have E954 := E929.ext E937
  have A955 := A930.ext E937
  have A956 := A931.ext E937
  have A957 := A932.ext E937
  have K958 := K933.ext E937
  have Z959 : n0 ≤ h937.size := Nat.le_trans Z934 E937.1
  have A960 : OwnAV Z h937 b937 .int 1 (fun i => (.int ((fun _ => (0 : Int32)) i))) := OwnAV.new A937 rfl (by decide)
  have A961 : OwnAV Z h937 b937 .int 1 (fun i => (.int ((own_l2 (0 : Int32) (0 : Int32)) i))) := A960.congr (fun j hj => by
      have q : j = 0 ∨ j = 1 := by omega
      rcases q with rfl | rfl <;> rfl)
  obtain ⟨T962, h962, X962, e962, W962, st962⟩ := putF X937 hx hZ hown (host := "") (Or.inl (hw _ (List.mem_of_getElem? (i := 50) rfl))) Via.refl e937 F948 E951 (Or.inr ⟨(hw _ (List.mem_of_getElem? (i := 51) rfl)), rfl, hnm⟩) (hw _ (List.mem_of_getElem? (i := 24) rfl)) (ty := (.array .int)) (by decide) rfl rfl (g := (mkF m 50 #[.val (.ref st), .val (.ref tr), .val (.int bits), .unset] [(.ref b937), (.ref st)])) rfl rfl (hb hby d3_50)
  have F963 := F944.other W962 (Or.inr (slot_ne (Or.inr (hw _ (List.mem_of_getElem? (i := 36) rfl))) (Or.inr (hw _ (List.mem_of_getElem? (i := 51) rfl))) (by decide) (by decide : parseFieldDescriptor "Lcom/example/faultline/faultline/engine/Trail;" = some (.object "com/example/faultline/faultline/engine/Trail")) (by decide : parseFieldDescriptor "[I" = some (.array .int))))
  have F964 := F945.other W962 (Or.inr (slot_ne (Or.inr (hw _ (List.mem_of_getElem? (i := 31) rfl))) (Or.inr (hw _ (List.mem_of_getElem? (i := 51) rfl))) (by decide) (by decide : parseFieldDescriptor "[I" = some (.array .int)) (by decide : parseFieldDescriptor "[I" = some (.array .int))))
  have F965 := F946.other W962 (Or.inr (slot_ne (Or.inr (hw _ (List.mem_of_getElem? (i := 47) rfl))) (Or.inr (hw _ (List.mem_of_getElem? (i := 51) rfl))) (by decide) (by decide : parseFieldDescriptor "[J" = some (.array .long)) (by decide : parseFieldDescriptor "[I" = some (.array .int))))
  have F966 := F947.other W962 (Or.inr (slot_ne (Or.inr (hw _ (List.mem_of_getElem? (i := 49) rfl))) (Or.inr (hw _ (List.mem_of_getElem? (i := 51) rfl))) (by decide) (by decide : parseFieldDescriptor "[J" = some (.array .long)) (by decide : parseFieldDescriptor "[I" = some (.array .int))))
  have F967 := F948.same W962
  have F968 := F949.other W962 (Or.inr (slot_ne (Or.inr (hw _ (List.mem_of_getElem? (i := 53) rfl))) (Or.inr (hw _ (List.mem_of_getElem? (i := 51) rfl))) (by decide) (by decide : parseFieldDescriptor "[J" = some (.array .long)) (by decide : parseFieldDescriptor "[I" = some (.array .int))))
  have F969 := F950.other W962 (Or.inr (slot_ne (Or.inl (hw _ (List.mem_of_getElem? (i := 34) rfl))) (Or.inr (hw _ (List.mem_of_getElem? (i := 51) rfl))) (by decide) (by decide : parseFieldDescriptor "J" = some .long) (by decide : parseFieldDescriptor "[I" = some (.array .int))))
  have E970 := E951.wr W962
  have E971 := E952.wr W962
  have E972 := E953.wr W962
  have E973 := E954.wr W962
  have E974 := Y937.wr W962
  have A975 := A955.other W962 (Ne.symm ne807)
  have A976 := A956.other W962 (Ne.symm ne865)
  have A977 := A957.other W962 (Ne.symm ne897)
  have A978 := A961.other W962 (Ne.symm ne938)
  have K979 := K958.wr W962 (Or.inl (List.mem_of_getElem? (i := 0) rfl))
  have Z980 : n0 ≤ h962.size := W962.size ▸ Z959
  have N981 := Fr.snoc X962 N935 ga
  obtain ⟨T982, X982, e982, st982⟩ := getF X962 hx hZ hown (host := "") (Or.inl (hw _ (List.mem_of_getElem? (i := 46) rfl))) Via.refl e962 F965 (g := (mkF m 55 #[.val (.ref st), .val (.ref tr), .val (.int bits), .unset] [(.ref st), (.ref st)])) rfl rfl (hb hby d3_55)
  obtain ⟨T983, h983, k983, X983, e983, E983, A983, Y983, st983⟩ := newPE X982 hx hZ (hw _ (List.mem_of_getElem? (i := 16) rfl)) e982 (g := (mkF m 59 #[.val (.ref st), .val (.ref tr), .val (.int bits), .unset] [(.int (1 : Int32)), (.ref st)])) rfl (hb hby d3_59) rfl (by decide) (cap := 1) (by decide) (by decide) (by decide) (by decide) (ad := "[J") (by decide)
  obtain ⟨b983, g983⟩ : ∃ z, z = h962.size := ⟨_, rfl⟩
  have ne984 : st ≠ b983 := fun q => absurd E970.lt (by rw [q, g983]; exact Nat.lt_irrefl _)
  have ne985 : b806 ≠ b983 := fun q => absurd E971.lt (by rw [q, g983]; exact Nat.lt_irrefl _)
  have ne986 : wo ≠ b983 := fun q => absurd E972.lt (by rw [q, g983]; exact Nat.lt_irrefl _)
  have ne987 : b896 ≠ b983 := fun q => absurd E973.lt (by rw [q, g983]; exact Nat.lt_irrefl _)
  have ne988 : b937 ≠ b983 := fun q => absurd E974.lt (by rw [q, g983]; exact Nat.lt_irrefl _)
  have lt_b937_b983 : @LT.lt Nat instLTNat b937 b983 := Nat.lt_of_lt_of_eq E974.lt g983.symm
  have g989 : n0 ≤ b983 := g983 ▸ Z980
  have s990 : h0.size ≤ b983 := g983 ▸ K979.1
  rw [← g983] at A983 Y983 st983
  have F991 := F963.ext E983
  have F992 := F964.ext E983
  have F993 := F965.ext E983
  have F994 := F966.ext E983
  have F995 := F967.ext E983
  have F996 := F968.ext E983
  have F997 := F969.ext E983
  have E998 := E970.ext E983
  have E999 := E971.ext E983
  have E1000 := E972.ext E983
  have E1001 := E973.ext E983
  have E1002 := E974.ext E983
  have A1003 := A975.ext E983
  have A1004 := A976.ext E983
  have A1005 := A977.ext E983
  have A1006 := A978.ext E983
  have K1007 := K979.ext E983
  have Z1008 : n0 ≤ h983.size := Nat.le_trans Z980 E983.1
  have A1009 : OwnAV Z h983 b983 .long 1 (fun i => (.long ((fun _ => (0 : Int64)) i))) := OwnAV.new A983 rfl (by decide)
  have A1010 : OwnAV Z h983 b983 .long 1 (fun i => (.long ((own_l2 (0 : Int64) (0 : Int64)) i))) := A1009.congr (fun j hj => by
      have q : j = 0 ∨ j = 1 := by omega
      rcases q with rfl | rfl <;> rfl)
  obtain ⟨T1011, h1011, X1011, e1011, W1011, st1011⟩ := putF X983 hx hZ hown (host := "") (Or.inl (hw _ (List.mem_of_getElem? (i := 52) rfl))) Via.refl e983 F996 E998 (Or.inr ⟨(hw _ (List.mem_of_getElem? (i := 53) rfl)), rfl, hnm⟩) (hw _ (List.mem_of_getElem? (i := 24) rfl)) (ty := (.array .long)) (by decide) rfl rfl (g := (mkF m 61 #[.val (.ref st), .val (.ref tr), .val (.int bits), .unset] [(.ref b983), (.ref st)])) rfl rfl (hb hby d3_61)
  have F1012 := F991.other W1011 (Or.inr (slot_ne (Or.inr (hw _ (List.mem_of_getElem? (i := 36) rfl))) (Or.inr (hw _ (List.mem_of_getElem? (i := 53) rfl))) (by decide) (by decide : parseFieldDescriptor "Lcom/example/faultline/faultline/engine/Trail;" = some (.object "com/example/faultline/faultline/engine/Trail")) (by decide : parseFieldDescriptor "[J" = some (.array .long))))
  have F1013 := F992.other W1011 (Or.inr (slot_ne (Or.inr (hw _ (List.mem_of_getElem? (i := 31) rfl))) (Or.inr (hw _ (List.mem_of_getElem? (i := 53) rfl))) (by decide) (by decide : parseFieldDescriptor "[I" = some (.array .int)) (by decide : parseFieldDescriptor "[J" = some (.array .long))))
  have F1014 := F993.other W1011 (Or.inr (slot_ne (Or.inr (hw _ (List.mem_of_getElem? (i := 47) rfl))) (Or.inr (hw _ (List.mem_of_getElem? (i := 53) rfl))) (by decide) (by decide : parseFieldDescriptor "[J" = some (.array .long)) (by decide : parseFieldDescriptor "[J" = some (.array .long))))
  have F1015 := F994.other W1011 (Or.inr (slot_ne (Or.inr (hw _ (List.mem_of_getElem? (i := 49) rfl))) (Or.inr (hw _ (List.mem_of_getElem? (i := 53) rfl))) (by decide) (by decide : parseFieldDescriptor "[J" = some (.array .long)) (by decide : parseFieldDescriptor "[J" = some (.array .long))))
  have F1016 := F995.other W1011 (Or.inr (slot_ne (Or.inr (hw _ (List.mem_of_getElem? (i := 51) rfl))) (Or.inr (hw _ (List.mem_of_getElem? (i := 53) rfl))) (by decide) (by decide : parseFieldDescriptor "[I" = some (.array .int)) (by decide : parseFieldDescriptor "[J" = some (.array .long))))
  have F1017 := F996.same W1011
  have F1018 := F997.other W1011 (Or.inr (slot_ne (Or.inl (hw _ (List.mem_of_getElem? (i := 34) rfl))) (Or.inr (hw _ (List.mem_of_getElem? (i := 53) rfl))) (by decide) (by decide : parseFieldDescriptor "J" = some .long) (by decide : parseFieldDescriptor "[J" = some (.array .long))))
  have E1019 := E998.wr W1011
  have E1020 := E999.wr W1011
  have E1021 := E1000.wr W1011
  have E1022 := E1001.wr W1011
  have E1023 := E1002.wr W1011
  have E1024 := Y983.wr W1011
  have A1025 := A1003.other W1011 (Ne.symm ne807)
  have A1026 := A1004.other W1011 (Ne.symm ne865)
  have A1027 := A1005.other W1011 (Ne.symm ne897)
  have A1028 := A1006.other W1011 (Ne.symm ne938)
  have A1029 := A1010.other W1011 (Ne.symm ne984)
  have K1030 := K1007.wr W1011 (Or.inl (List.mem_of_getElem? (i := 0) rfl))
  have Z1031 : n0 ≤ h1011.size := W1011.size ▸ Z1008
  have N1032 := Fr.snoc X1011 N981 ga
  obtain ⟨T1033, X1033, e1033, st1033⟩ := getF X1011 hx hZ hown (host := "") (Or.inl (hw _ (List.mem_of_getElem? (i := 46) rfl))) Via.refl e1011 F1014 (g := (mkF m 68 #[.val (.ref st), .val (.ref tr), .val (.int bits), .val (.int (0 : Int32))] [(.ref st), (.int (0 : Int32))])) rfl rfl (hb hby d3_68)
  obtain ⟨T1034, X1034, e1034, st1034⟩ := getF X1033 hx hZ hown (host := "") (Or.inl (hw _ (List.mem_of_getElem? (i := 48) rfl))) Via.refl e1033 F1015 (g := (mkF m 76 #[.val (.ref st), .val (.ref tr), .val (.int bits), .val (.int (0 : Int32))] [(.ref st)])) rfl rfl (hb hby d3_76)
  obtain ⟨T1035, h1035, X1035, e1035, W1035, st1035⟩ := own_last X1034 hx hZ e1034 A1027 (k := 0) ⟨by decide, rfl, by decide⟩ (g := (mkF m 83 #[.val (.ref st), .val (.ref tr), .val (.int bits), .val (.int (0 : Int32))] [(.long (-1 : Int64)), (.int (0 : Int32)), (.ref b896)])) rfl rfl (hb hby d3_83)
  have A1036 : OwnAV Z h1035 b896 .long 1 (fun i => (.long ((own_l2 (-1 : Int64) (0 : Int64)) i))) := (A1027.storeJ W1035).congr (fun j hj => by
      have q : j = 0 ∨ j = 1 := by omega
      rcases q with rfl | rfl <;> rfl)
  have F1037 := F1012.other W1035 (Or.inl ne897)
  have F1038 := F1013.other W1035 (Or.inl ne897)
  have F1039 := F1014.other W1035 (Or.inl ne897)
  have F1040 := F1015.other W1035 (Or.inl ne897)
  have F1041 := F1016.other W1035 (Or.inl ne897)
  have F1042 := F1017.other W1035 (Or.inl ne897)
  have F1043 := F1018.other W1035 (Or.inl ne897)
  have E1044 := E1019.wr W1035
  have E1045 := E1020.wr W1035
  have E1046 := E1021.wr W1035
  have E1047 := E1022.wr W1035
  have E1048 := E1023.wr W1035
  have E1049 := E1024.wr W1035
  have A1050 := A1025.other W1035 ne898
  have A1051 := A1026.other W1035 ne899
  have A1052 := A1028.other W1035 (Ne.symm ne941)
  have A1053 := A1029.other W1035 (Ne.symm ne987)
  have K1054 := K1030.wr W1035 (Or.inr s901)
  have Z1055 : n0 ≤ h1035.size := W1035.size ▸ Z1031
  have N1056 := Fr.snoc X1035 N1032 g900
  obtain ⟨T1057, X1057, e1057, st1057⟩ := getF X1035 hx hZ hown (host := "") (Or.inl (hw _ (List.mem_of_getElem? (i := 50) rfl))) Via.refl e1035 F1041 (g := (mkF m 85 #[.val (.ref st), .val (.ref tr), .val (.int bits), .val (.int (0 : Int32))] [(.ref st)])) rfl rfl (hb hby d3_85)
  obtain ⟨T1058, h1058, X1058, e1058, W1058, st1058⟩ := own_iast X1057 hx hZ e1057 A1052 (k := 0) ⟨by decide, rfl, by decide⟩ (g := (mkF m 90 #[.val (.ref st), .val (.ref tr), .val (.int bits), .val (.int (0 : Int32))] [(.int (0 : Int32)), (.int (0 : Int32)), (.ref b937)])) rfl rfl (hb hby d3_90)
  have A1059 : OwnAV Z h1058 b937 .int 1 (fun i => (.int ((own_l2 (0 : Int32) (0 : Int32)) i))) := (A1052.storeI W1058).congr (fun j hj => by
      have q : j = 0 ∨ j = 1 := by omega
      rcases q with rfl | rfl <;> rfl)
  have F1060 := F1037.other W1058 (Or.inl ne938)
  have F1061 := F1038.other W1058 (Or.inl ne938)
  have F1062 := F1039.other W1058 (Or.inl ne938)
  have F1063 := F1040.other W1058 (Or.inl ne938)
  have F1064 := F1041.other W1058 (Or.inl ne938)
  have F1065 := F1042.other W1058 (Or.inl ne938)
  have F1066 := F1043.other W1058 (Or.inl ne938)
  have E1067 := E1044.wr W1058
  have E1068 := E1045.wr W1058
  have E1069 := E1046.wr W1058
  have E1070 := E1047.wr W1058
  have E1071 := E1048.wr W1058
  have E1072 := E1049.wr W1058
  have A1073 := A1050.other W1058 ne939
  have A1074 := A1051.other W1058 ne940
  have A1075 := A1036.other W1058 ne941
  have A1076 := A1053.other W1058 (Ne.symm ne988)
  have K1077 := K1054.wr W1058 (Or.inr s943)
  have Z1078 : n0 ≤ h1058.size := W1058.size ▸ Z1055
  have N1079 := Fr.snoc X1058 N1056 g942
  obtain ⟨T1080, X1080, e1080, st1080⟩ := getF X1058 hx hZ hown (host := "") (Or.inl (hw _ (List.mem_of_getElem? (i := 46) rfl))) Via.refl e1058 F1062 (g := (mkF m 68 #[.val (.ref st), .val (.ref tr), .val (.int bits), .val (.int (1 : Int32))] [(.ref st), (.int (1 : Int32))])) rfl rfl (hb hby d3_68)
  obtain ⟨T1081, X1081, e1081, st1081⟩ := getF X1080 hx hZ hown (host := "") (Or.inl (hw _ (List.mem_of_getElem? (i := 30) rfl))) Via.refl e1080 F1061 (g := (mkF m 98 #[.val (.ref st), .val (.ref tr), .val (.int bits), .val (.int (1 : Int32))] [(.ref st)])) rfl rfl (hb hby d3_98)
  obtain ⟨T1082, X1082, e1082, st1082⟩ := getF X1081 hx hZ hown (host := "") (Or.inl (hw _ (List.mem_of_getElem? (i := 46) rfl))) Via.refl e1081 F1062 (g := (mkF m 103 #[.val (.ref st), .val (.ref tr), .val (.int bits), .val (.int (1 : Int32))] [(.ref st), (.int (0 : Int32)), (.ref b806)])) rfl rfl (hb hby d3_103)
  obtain ⟨T1083, h1083, X1083, e1083, W1083, st1083⟩ := own_iast X1082 hx hZ e1082 A1073 (k := 0) ⟨by decide, rfl, by decide⟩ (g := (mkF m 107 #[.val (.ref st), .val (.ref tr), .val (.int bits), .val (.int (1 : Int32))] [(.int (1 : Int32)), (.int (0 : Int32)), (.ref b806)])) rfl rfl (hb hby d3_107)
  have A1084 : OwnAV Z h1083 b806 .int 1 (fun i => (.int ((own_l2 (1 : Int32) (0 : Int32)) i))) := (A1073.storeI W1083).congr (fun j hj => by
      have q : j = 0 ∨ j = 1 := by omega
      rcases q with rfl | rfl <;> rfl)
  have F1085 := F1060.other W1083 (Or.inl ne807)
  have F1086 := F1061.other W1083 (Or.inl ne807)
  have F1087 := F1062.other W1083 (Or.inl ne807)
  have F1088 := F1063.other W1083 (Or.inl ne807)
  have F1089 := F1064.other W1083 (Or.inl ne807)
  have F1090 := F1065.other W1083 (Or.inl ne807)
  have F1091 := F1066.other W1083 (Or.inl ne807)
  have E1092 := E1067.wr W1083
  have E1093 := E1068.wr W1083
  have E1094 := E1069.wr W1083
  have E1095 := E1070.wr W1083
  have E1096 := E1071.wr W1083
  have E1097 := E1072.wr W1083
  have A1098 := A1074.other W1083 (Ne.symm ne866)
  have A1099 := A1075.other W1083 (Ne.symm ne898)
  have A1100 := A1059.other W1083 (Ne.symm ne939)
  have A1101 := A1076.other W1083 (Ne.symm ne985)
  have K1102 := K1077.wr W1083 (Or.inr s809)
  have Z1103 : n0 ≤ h1083.size := W1083.size ▸ Z1078
  have N1104 := Fr.snoc X1083 N1079 g808
  have k1105 : ∀ t, Steps p.tables e below (T1083.setTop (mkF m 108 #[.val (.ref st), .val (.ref tr), .val (.int bits), .val (.int (1 : Int32))] [])) t → Steps p.tables e below (s₁.setTop (entryFrame m #[(.ref st), (.ref tr), (.int bits)] 4)) t := fun t hk => pre0 t (by
    show Steps p.tables e below (s₁.setTop (mkF m 0 #[.val (.ref st), .val (.ref tr), .val (.int bits), .unset] [])) _
    refine XS.aloadN X0.here hx rfl (hb hby d3_0) rfl rfl ?_
    refine st805 _ ?_
    refine XS.aloadN X805.here hx rfl (hb hby d3_4) rfl rfl ?_
    refine XS.iconst X805.here hx rfl (hb hby d3_5) ?_
    show Steps p.tables e below (T805.setTop (mkF m 6 #[.val (.ref st), .val (.ref tr), .val (.int bits), .unset] [(.int (1 : Int32)), (.ref st)])) _
    refine st806 _ ?_
    refine st822 _ ?_
    refine XS.aloadN X822.here hx rfl (hb hby d3_11) rfl rfl ?_
    refine X822.ldc2Long hx hown (mvT hZ (hw _ (List.mem_of_getElem? (i := 32) rfl))) (g := (mkF m 12 #[.val (.ref st), .val (.ref tr), .val (.int bits), .unset] [(.ref st)])) rfl (hb hby d3_12) _ ?_
    show Steps p.tables e below (T822.setTop (mkF m 15 #[.val (.ref st), .val (.ref tr), .val (.int bits), .unset] [(.long (-1 : Int64)), (.ref st)])) _
    refine st836 _ ?_
    refine XS.aloadN X836.here hx rfl (hb hby d3_18) rfl rfl ?_
    refine XS.aloadN X836.here hx rfl (hb hby d3_19) rfl rfl ?_
    refine st850 _ ?_
    show Steps p.tables e below (T850.setTop (mkF m 23 #[.val (.ref st), .val (.ref tr), .val (.int bits), .unset] [])) _
    refine XS.aloadN X850.here hx rfl (hb hby d3_23) rfl rfl ?_
    refine XS.iloadN X850.here hx rfl (hb hby d3_24) rfl ?_
    refine st864 _ ?_
    refine st879 _ ?_
    show Steps p.tables e below (T879.setTop (mkF m 31 #[.val (.ref st), .val (.ref tr), .val (.int bits), .unset] [])) _
    refine XS.aloadN X879.here hx rfl (hb hby d3_31) rfl rfl ?_
    refine XS.aloadN X879.here hx rfl (hb hby d3_32) rfl rfl ?_
    refine st895 _ ?_
    refine own_len X895 hx hZ e895 A891 (g := (mkF m 36 #[.val (.ref st), .val (.ref tr), .val (.int bits), .unset] [(.ref wo), (.ref st)])) rfl rfl (hb hby d3_36) _ ?_
    show Steps p.tables e below (T895.setTop (mkF m 37 #[.val (.ref st), .val (.ref tr), .val (.int bits), .unset] [(.int (1 : Int32)), (.ref st)])) _
    refine st896 _ ?_
    refine st918 _ ?_
    refine XS.aloadN X918.here hx rfl (hb hby d3_42) rfl rfl ?_
    refine XS.aloadN X918.here hx rfl (hb hby d3_43) rfl rfl ?_
    show Steps p.tables e below (T918.setTop (mkF m 44 #[.val (.ref st), .val (.ref tr), .val (.int bits), .unset] [(.ref st), (.ref st)])) _
    refine st936 _ ?_
    refine own_len X936 hx hZ e936 A931 (g := (mkF m 47 #[.val (.ref st), .val (.ref tr), .val (.int bits), .unset] [(.ref wo), (.ref st)])) rfl rfl (hb hby d3_47) _ ?_
    refine st937 _ ?_
    refine st962 _ ?_
    show Steps p.tables e below (T962.setTop (mkF m 53 #[.val (.ref st), .val (.ref tr), .val (.int bits), .unset] [])) _
    refine XS.aloadN X962.here hx rfl (hb hby d3_53) rfl rfl ?_
    refine XS.aloadN X962.here hx rfl (hb hby d3_54) rfl rfl ?_
    refine st982 _ ?_
    refine own_len X982 hx hZ e982 A976 (g := (mkF m 58 #[.val (.ref st), .val (.ref tr), .val (.int bits), .unset] [(.ref wo), (.ref st)])) rfl rfl (hb hby d3_58) _ ?_
    show Steps p.tables e below (T982.setTop (mkF m 59 #[.val (.ref st), .val (.ref tr), .val (.int bits), .unset] [(.int (1 : Int32)), (.ref st)])) _
    refine st983 _ ?_
    refine st1011 _ ?_
    refine XS.iconst X1011.here hx rfl (hb hby d3_64) ?_
    refine XS.istoreN X1011.here hx rfl (hb hby d3_65) rfl (l' := #[.val (.ref st), .val (.ref tr), .val (.int bits), .val (.int (0 : Int32))]) rfl ?_
    show Steps p.tables e below (T1011.setTop (mkF m 66 #[.val (.ref st), .val (.ref tr), .val (.int bits), .val (.int (0 : Int32))] [])) _
    refine XS.iloadN X1011.here hx rfl (hb hby d3_66) rfl ?_
    refine XS.aloadN X1011.here hx rfl (hb hby d3_67) rfl rfl ?_
    refine st1033 _ ?_
    refine own_len X1033 hx hZ e1033 A1026 (g := (mkF m 71 #[.val (.ref st), .val (.ref tr), .val (.int bits), .val (.int (0 : Int32))] [(.ref wo), (.int (0 : Int32))])) rfl rfl (hb hby d3_71) _ ?_
    show Steps p.tables e below (T1033.setTop (mkF m 72 #[.val (.ref st), .val (.ref tr), .val (.int bits), .val (.int (0 : Int32))] [(.int (1 : Int32)), (.int (0 : Int32))])) _
    refine XS.icmpNo X1033.here hx rfl (hb hby d3_72) rfl (tlt (by decide : (0 : Int32) < (1 : Int32))).2.1 ?_
    refine XS.aloadN X1033.here hx rfl (hb hby d3_75) rfl rfl ?_
    refine st1034 _ ?_
    refine XS.iloadN X1034.here hx rfl (hb hby d3_79) rfl ?_
    show Steps p.tables e below (T1034.setTop (mkF m 80 #[.val (.ref st), .val (.ref tr), .val (.int bits), .val (.int (0 : Int32))] [(.int (0 : Int32)), (.ref b896)])) _
    refine X1034.ldc2Long hx hown (mvT hZ (hw _ (List.mem_of_getElem? (i := 32) rfl))) (g := (mkF m 80 #[.val (.ref st), .val (.ref tr), .val (.int bits), .val (.int (0 : Int32))] [(.int (0 : Int32)), (.ref b896)])) rfl (hb hby d3_80) _ ?_
    refine st1035 _ ?_
    refine XS.aloadN X1035.here hx rfl (hb hby d3_84) rfl rfl ?_
    refine st1057 _ ?_
    show Steps p.tables e below (T1057.setTop (mkF m 88 #[.val (.ref st), .val (.ref tr), .val (.int bits), .val (.int (0 : Int32))] [(.ref b937)])) _
    refine XS.iloadN X1057.here hx rfl (hb hby d3_88) rfl ?_
    refine XS.iloadN X1057.here hx rfl (hb hby d3_89) rfl ?_
    refine st1058 _ ?_
    refine XS.iinc X1058.here hx rfl (hb hby d3_91) rfl (l' := #[.val (.ref st), .val (.ref tr), .val (.int bits), .val (.int (1 : Int32))]) rfl ?_
    show Steps p.tables e below (T1058.setTop (mkF m 94 #[.val (.ref st), .val (.ref tr), .val (.int bits), .val (.int (1 : Int32))] [])) _
    refine XS.goto X1058.here hx rfl (pc0 := 94) (pc' := 66) rfl (hb hby d3_94) (by decide) (by decide) ?_
    refine XS.iloadN X1058.here hx rfl (hb hby d3_66) rfl ?_
    refine XS.aloadN X1058.here hx rfl (hb hby d3_67) rfl rfl ?_
    refine st1080 _ ?_
    show Steps p.tables e below (T1080.setTop (mkF m 71 #[.val (.ref st), .val (.ref tr), .val (.int bits), .val (.int (1 : Int32))] [(.ref wo), (.int (1 : Int32))])) _
    refine own_len X1080 hx hZ e1080 A1074 (g := (mkF m 71 #[.val (.ref st), .val (.ref tr), .val (.int bits), .val (.int (1 : Int32))] [(.ref wo), (.int (1 : Int32))])) rfl rfl (hb hby d3_71) _ ?_
    refine XS.icmpYes X1080.here hx rfl (pc0 := 72) (pc' := 97) rfl (hb hby d3_72) rfl (flt (by decide : ¬ ((1 : Int32) < (1 : Int32)))).2.1 (by decide) (by decide) ?_
    refine XS.aloadN X1080.here hx rfl (hb hby d3_97) rfl rfl ?_
    refine st1081 _ ?_
    show Steps p.tables e below (T1081.setTop (mkF m 101 #[.val (.ref st), .val (.ref tr), .val (.int bits), .val (.int (1 : Int32))] [(.ref b806)])) _
    refine XS.iconst X1081.here hx rfl (hb hby d3_101) ?_
    refine XS.aloadN X1081.here hx rfl (hb hby d3_102) rfl rfl ?_
    refine st1082 _ ?_
    refine own_len X1082 hx hZ e1082 A1074 (g := (mkF m 106 #[.val (.ref st), .val (.ref tr), .val (.int bits), .val (.int (1 : Int32))] [(.ref wo), (.int (0 : Int32)), (.ref b806)])) rfl rfl (hb hby d3_106) _ ?_
    show Steps p.tables e below (T1082.setTop (mkF m 107 #[.val (.ref st), .val (.ref tr), .val (.int bits), .val (.int (1 : Int32))] [(.int (1 : Int32)), (.int (0 : Int32)), (.ref b806)])) _
    refine st1083 _ ?_
    exact hk)
  obtain ⟨fs, hr, hrun, hended, hW, hsame⟩ := X1083.leave (v := none) (fun _ => rfl)
  refine ⟨_, _, k1105 _ ?_, hrun, hended, _, _, rfl, ?_, ⟨_, rfl⟩, hW, hsame.mono (by decide) (by decide)⟩
  · show Steps p.tables e below (T1083.setTop (mkF m 108 #[.val (.ref st), .val (.ref tr), .val (.int bits), .val (.int (1 : Int32))] [])) _
    exact X1083.returnOut hx Bd.returns (hb hby d3_108) hr
  · show Qi1 Z st tr bits h0 n0 _ T1083.heap _
    rw [e1083]
    exact ⟨rfl, N1104, K1102, b806, wo, b896, b937, b983, x0, x1, (-1 : Int64), (0 : Int64), s809, lt_b806_wo, lt_wo_b896, lt_b896_b937, lt_b937_b983, ⟨E1092, F1085, F1086, F1087, F1088, F1089, F1090, F1091⟩, A1084, A1098, A1099, A1100, A1101, E1093, E1094, hx0, rfl⟩
def Qm1 (Z : State) (st : Addr) (mk : Addr) (tr : Addr) (lim : Addr) (wo : Addr) (sa : Addr) (nz : Addr) (ma : Addr) (ls : Int64) (m0 : Int64) (m1 : Int64) (q0 : Int64) (q1 : Int64) (h0 : Heap) (n0 : Nat) (v : Option Value) (h : Heap) (L : List Loc) : Prop := v = none ∧ Fr n0 L ∧ Keep h0 h [ma] ∧ OwnAV Z h ma .long 1 (fun i => (.long (own_l2 (m0 ||| q0) m1 i)))
set_option maxRecDepth 65536 in
set_option maxHeartbeats 40000000 in
theorem rmm1 (l : Launch) (Z : State) (a0 : Array Value) (hw : ∀ d ∈ tables_1, d.before a0 Z = true) (ws : List Jvm.Cond) (st : Addr) (mk : Addr) (tr : Addr) (lim : Addr) (wo : Addr) (sa : Addr) (nz : Addr) (ma : Addr) (ls : Int64) (m0 : Int64) (m1 : Int64) (q0 : Int64) (q1 : Int64) (h0 : Heap) (n0 : Nat) (Z0 : n0 ≤ h0.size) (hS : OwnSet Z h0 st tr lim wo sa nz ma ls) (gm : n0 ≤ ma) (hnes : st ≠ ma ∧ lim ≠ ma ∧ nz ≠ ma ∧ mk ≠ ma) (Vl : OwnAV Z h0 lim .int 1 (fun i => (.int (own_l2 (1 : Int32) (0 : Int32) i)))) (Vn : OwnAV Z h0 nz .int 1 (fun i => (.int (own_l2 (0 : Int32) (0 : Int32) i)))) (Vm : OwnAV Z h0 ma .long 1 (fun i => (.long (own_l2 m0 m1 i)))) (Vk : OwnAV Z h0 mk .long 2 (fun i => (.long (own_l2 q0 q1 i)))) :
    MetFree l (⟨"com/example/faultline/faultline/engine/ReversibleBitSet", "addToMask", "([J)V"⟩ : MethodName) (head1 (Jvm.Cond.code (⟨"com/example/faultline/faultline/engine/ReversibleBitSet", "addToMask", "([J)V"⟩ : MethodName) prog_44_method_9_code 4 none :: ws) ({ frames := 0, cells := 0, slots := 0, locals := 0 } : Room)) (fun a U => a = #[(.ref st), (.ref mk)] ∧ Z.Warmed39 U.vm ∧ U.heap = h0) (fun _ _ _ _ _ => True) (fun _ U o U' => ∃ v L, o = .returned v ∧ Qm1 Z st mk tr lim wo sa nz ma ls m0 m1 q0 q1 h0 n0 v U'.heap L ∧ FrameEnd U o U' L ({ frames := 0, cells := 0, slots := 0, locals := 0 } : Room).cells ({ frames := 0, cells := 0, slots := 0, locals := 0 } : Room).slots) := by
  refine MetFree.of_bodySF (plainFor_of_name pn_7) hisR ?_
  intro p e s m args below meth c s₁ Bd hml0 hP hK
  obtain ⟨rfl, hZ, hh⟩ := hP
  have hx := Bd.exec
  have hby := Bd.bytes
  have hml : c.maxLocals = 4 := hml0
  have hown : s.vm.findClass "com/example/faultline/faultline/engine/ReversibleBitSet" = some m.cls := findClass_of_methodNamed Bd.named
  have hnm := (name_of_methodNamed Bd.named Bd.method).1
  have X0 : Stand p l e ({ frames := 0, cells := 0, slots := 0, locals := 0 } : Room) s m #[(.ref st), (.ref mk)] below meth c s₁ [] 0 0 := Stand.of_body Bd
  have e0 : s₁.heap = h0 := by rw [← hh, Bd.state]; rfl
  have N0 := Fr.nil n0
  have pre0 : ∀ t, Steps p.tables e below (s₁.setTop (mkF m 0 #[.val (.ref st), .val (.ref mk), .unset, .unset] [])) t → Steps p.tables e below (s₁.setTop (entryFrame m #[(.ref st), (.ref mk)] 4)) t := fun t k => castTop (ef_7 m st mk) k
  obtain ⟨u1106E, u1106a, u1106b, u1106c, u1106d, u1106e, u1106f, u1106g⟩ := hS
  obtain ⟨T1107, X1107, e1107, st1107⟩ := getF X0 hx hZ hown (host := "") (Or.inl (hw _ (List.mem_of_getElem? (i := 30) rfl))) Via.refl e0 u1106b (g := (mkF m 4 #[.val (.ref st), .val (.ref mk), .val (.int (0 : Int32)), .unset] [(.ref st), (.int (0 : Int32))])) rfl rfl (hb hby d7_4)
  obtain ⟨T1108, X1108, e1108, st1108⟩ := getF X1107 hx hZ hown (host := "") (Or.inl (hw _ (List.mem_of_getElem? (i := 50) rfl))) Via.refl e1107 u1106e (g := (mkF m 13 #[.val (.ref st), .val (.ref mk), .val (.int (0 : Int32)), .unset] [(.ref st)])) rfl rfl (hb hby d7_13)
  obtain ⟨T1109, X1109, e1109, st1109⟩ := getF X1108 hx hZ hown (host := "") (Or.inl (hw _ (List.mem_of_getElem? (i := 52) rfl))) Via.refl e1108 u1106f (g := (mkF m 20 #[.val (.ref st), .val (.ref mk), .val (.int (0 : Int32)), .val (.int (0 : Int32))] [(.ref st)])) rfl rfl (hb hby d7_20)
  obtain ⟨T1110, h1110, X1110, e1110, W1110, st1110⟩ := own_last X1109 hx hZ e1109 Vm (k := 0) ⟨by decide, rfl, by decide⟩ (g := (mkF m 30 #[.val (.ref st), .val (.ref mk), .val (.int (0 : Int32)), .val (.int (0 : Int32))] [(.long (m0 ||| q0)), (.int (0 : Int32)), (.ref ma)])) rfl rfl (hb hby d7_30)
  have A1111 : OwnAV Z h1110 ma .long 1 (fun i => (.long ((own_l2 (m0 ||| q0) m1) i))) := (Vm.storeJ W1110).congr (fun j hj => by
      have q : j = 0 ∨ j = 1 := by omega
      rcases q with rfl | rfl <;> rfl)
  have F1112 := u1106a.other W1110 (Or.inl hnes.1)
  have F1113 := u1106b.other W1110 (Or.inl hnes.1)
  have F1114 := u1106c.other W1110 (Or.inl hnes.1)
  have F1115 := u1106d.other W1110 (Or.inl hnes.1)
  have F1116 := u1106e.other W1110 (Or.inl hnes.1)
  have F1117 := u1106f.other W1110 (Or.inl hnes.1)
  have F1118 := u1106g.other W1110 (Or.inl hnes.1)
  have E1119 := u1106E.wr W1110
  have A1120 := Vl.other W1110 hnes.2.1
  have A1121 := Vn.other W1110 hnes.2.2.1
  have A1122 := Vk.other W1110 hnes.2.2.2
  have K1123 := (Keep.refl h0 [ma]).wr W1110 (Or.inl (List.mem_of_getElem? (i := 0) rfl))
  have Z1124 : n0 ≤ h1110.size := W1110.size ▸ Z0
  have N1125 := Fr.snoc X1110 N0 gm
  obtain ⟨T1126, X1126, e1126, st1126⟩ := getF X1110 hx hZ hown (host := "") (Or.inl (hw _ (List.mem_of_getElem? (i := 30) rfl))) Via.refl e1110 F1113 (g := (mkF m 4 #[.val (.ref st), .val (.ref mk), .val (.int (1 : Int32)), .val (.int (0 : Int32))] [(.ref st), (.int (1 : Int32))])) rfl rfl (hb hby d7_4)
  have k1127 : ∀ t, Steps p.tables e below (T1126.setTop (mkF m 37 #[.val (.ref st), .val (.ref mk), .val (.int (1 : Int32)), .val (.int (0 : Int32))] [])) t → Steps p.tables e below (s₁.setTop (entryFrame m #[(.ref st), (.ref mk)] 4)) t := fun t hk => pre0 t (by
    show Steps p.tables e below (s₁.setTop (mkF m 0 #[.val (.ref st), .val (.ref mk), .unset, .unset] [])) _
    refine XS.iconst X0.here hx rfl (hb hby d7_0) ?_
    refine XS.istoreN X0.here hx rfl (hb hby d7_1) rfl (l' := #[.val (.ref st), .val (.ref mk), .val (.int (0 : Int32)), .unset]) rfl ?_
    refine XS.iloadN X0.here hx rfl (hb hby d7_2) rfl ?_
    refine XS.aloadN X0.here hx rfl (hb hby d7_3) rfl rfl ?_
    show Steps p.tables e below (s₁.setTop (mkF m 4 #[.val (.ref st), .val (.ref mk), .val (.int (0 : Int32)), .unset] [(.ref st), (.int (0 : Int32))])) _
    refine st1107 _ ?_
    refine XS.iconst X1107.here hx rfl (hb hby d7_7) ?_
    refine own_iald X1107 hx hZ e1107 Vl (k := 0) ⟨by decide, rfl, by decide⟩ rfl (g := (mkF m 8 #[.val (.ref st), .val (.ref mk), .val (.int (0 : Int32)), .unset] [(.int (0 : Int32)), (.ref lim), (.int (0 : Int32))])) rfl rfl (hb hby d7_8) _ ?_
    refine XS.icmpNo X1107.here hx rfl (hb hby d7_9) rfl (tlt (by decide : (0 : Int32) < (1 : Int32))).2.1 ?_
    show Steps p.tables e below (T1107.setTop (mkF m 12 #[.val (.ref st), .val (.ref mk), .val (.int (0 : Int32)), .unset] [])) _
    refine XS.aloadN X1107.here hx rfl (hb hby d7_12) rfl rfl ?_
    refine st1108 _ ?_
    refine XS.iloadN X1108.here hx rfl (hb hby d7_16) rfl ?_
    refine own_iald X1108 hx hZ e1108 Vn (k := 0) ⟨by decide, rfl, by decide⟩ rfl (g := (mkF m 17 #[.val (.ref st), .val (.ref mk), .val (.int (0 : Int32)), .unset] [(.int (0 : Int32)), (.ref nz)])) rfl rfl (hb hby d7_17) _ ?_
    show Steps p.tables e below (T1108.setTop (mkF m 18 #[.val (.ref st), .val (.ref mk), .val (.int (0 : Int32)), .unset] [(.int (0 : Int32))])) _
    refine XS.istoreN X1108.here hx rfl (hb hby d7_18) rfl (l' := #[.val (.ref st), .val (.ref mk), .val (.int (0 : Int32)), .val (.int (0 : Int32))]) rfl ?_
    refine XS.aloadN X1108.here hx rfl (hb hby d7_19) rfl rfl ?_
    refine st1109 _ ?_
    refine XS.iloadN X1109.here hx rfl (hb hby d7_23) rfl ?_
    show Steps p.tables e below (T1109.setTop (mkF m 24 #[.val (.ref st), .val (.ref mk), .val (.int (0 : Int32)), .val (.int (0 : Int32))] [(.int (0 : Int32)), (.ref ma)])) _
    refine XT.dup2 X1109.here hx rfl (hb hby d7_24) rfl rfl rfl ?_
    refine own_lald X1109 hx hZ e1109 Vm (k := 0) ⟨by decide, rfl, by decide⟩ rfl (g := (mkF m 25 #[.val (.ref st), .val (.ref mk), .val (.int (0 : Int32)), .val (.int (0 : Int32))] [(.int (0 : Int32)), (.ref ma), (.int (0 : Int32)), (.ref ma)])) rfl rfl (hb hby d7_25) _ ?_
    refine XS.aloadN X1109.here hx rfl (hb hby d7_26) rfl rfl ?_
    refine XS.iloadN X1109.here hx rfl (hb hby d7_27) rfl ?_
    show Steps p.tables e below (T1109.setTop (mkF m 28 #[.val (.ref st), .val (.ref mk), .val (.int (0 : Int32)), .val (.int (0 : Int32))] [(.int (0 : Int32)), (.ref mk), (.long m0), (.int (0 : Int32)), (.ref ma)])) _
    refine own_lald X1109 hx hZ e1109 Vk (k := 0) ⟨by decide, rfl, by decide⟩ rfl (g := (mkF m 28 #[.val (.ref st), .val (.ref mk), .val (.int (0 : Int32)), .val (.int (0 : Int32))] [(.int (0 : Int32)), (.ref mk), (.long m0), (.int (0 : Int32)), (.ref ma)])) rfl rfl (hb hby d7_28) _ ?_
    refine XS.lor X1109.here hx rfl (hb hby d7_29) rfl ?_
    refine st1110 _ ?_
    refine XS.iinc X1110.here hx rfl (hb hby d7_31) rfl (l' := #[.val (.ref st), .val (.ref mk), .val (.int (1 : Int32)), .val (.int (0 : Int32))]) rfl ?_
    show Steps p.tables e below (T1110.setTop (mkF m 34 #[.val (.ref st), .val (.ref mk), .val (.int (1 : Int32)), .val (.int (0 : Int32))] [])) _
    refine XS.goto X1110.here hx rfl (pc0 := 34) (pc' := 2) rfl (hb hby d7_34) (by decide) (by decide) ?_
    refine XS.iloadN X1110.here hx rfl (hb hby d7_2) rfl ?_
    refine XS.aloadN X1110.here hx rfl (hb hby d7_3) rfl rfl ?_
    refine st1126 _ ?_
    show Steps p.tables e below (T1126.setTop (mkF m 7 #[.val (.ref st), .val (.ref mk), .val (.int (1 : Int32)), .val (.int (0 : Int32))] [(.ref lim), (.int (1 : Int32))])) _
    refine XS.iconst X1126.here hx rfl (hb hby d7_7) ?_
    refine own_iald X1126 hx hZ e1126 A1120 (k := 0) ⟨by decide, rfl, by decide⟩ rfl (g := (mkF m 8 #[.val (.ref st), .val (.ref mk), .val (.int (1 : Int32)), .val (.int (0 : Int32))] [(.int (0 : Int32)), (.ref lim), (.int (1 : Int32))])) rfl rfl (hb hby d7_8) _ ?_
    refine XS.icmpYes X1126.here hx rfl (pc0 := 9) (pc' := 37) rfl (hb hby d7_9) rfl (flt (by decide : ¬ ((1 : Int32) < (1 : Int32)))).2.1 (by decide) (by decide) ?_
    exact hk)
  obtain ⟨fs, hr, hrun, hended, hW, hsame⟩ := X1126.leave (v := none) (fun _ => rfl)
  refine ⟨_, _, k1127 _ ?_, hrun, hended, _, _, rfl, ?_, ⟨_, rfl⟩, hW, hsame.mono (by decide) (by decide)⟩
  · show Steps p.tables e below (T1126.setTop (mkF m 37 #[.val (.ref st), .val (.ref mk), .val (.int (1 : Int32)), .val (.int (0 : Int32))] [])) _
    exact X1126.returnOut hx Bd.returns (hb hby d7_37) hr
  · show Qm1 Z st mk tr lim wo sa nz ma ls m0 m1 q0 q1 h0 n0 _ T1126.heap _
    rw [e1126]
    exact ⟨rfl, N1125, K1123, A1111⟩
def Qx1 (Z : State) (st : Addr) (tr : Addr) (ow : Addr) (ix : Addr) (sv : Addr) (lim : Addr) (wo : Addr) (sa : Addr) (nz : Addr) (ma : Addr) (x0 : Int64) (x1 : Int64) (y0 : Int64) (y1 : Int64) (m0 : Int64) (m1 : Int64) (h0 : Heap) (n0 : Nat) (v : Option Value) (h : Heap) (L : List Loc) : Prop := v = none ∧ Fr n0 L ∧ Keep h0 h [st, tr, ow, ix, sv, wo, sa, nz, lim] ∧ ∃ (ls1 : Int64) (lm z0 z1 : Int32), OwnSet Z h st tr lim wo sa nz ma ls1 ∧ OwnAV Z h wo .long 1 (fun i => (.long (own_l2 (x0 &&& m0) x1 i))) ∧ OwnAV Z h nz .int 1 (fun i => (.int (own_l2 z0 z1 i))) ∧ OwnAV Z h lim .int 1 (fun i => (.int (own_l2 lm (0 : Int32) i))) ∧ ((lm = (1 : Int32) ∧ z0 = (0 : Int32)) ∨ (lm = (0 : Int32) ∧ (x0 &&& m0) = (0 : Int64)))
set_option maxRecDepth 65536 in
set_option maxHeartbeats 40000000 in
theorem rmx1 (l : Launch) (Z : State) (a0 : Array Value) (hw : ∀ d ∈ tables_1, d.before a0 Z = true) (ws : List Jvm.Cond) (st : Addr) (tr : Addr) (ow : Addr) (ix : Addr) (sv : Addr) (lim : Addr) (wo : Addr) (sa : Addr) (nz : Addr) (ma : Addr) (x0 : Int64) (x1 : Int64) (y0 : Int64) (y1 : Int64) (m0 : Int64) (m1 : Int64) (h0 : Heap) (n0 : Nat) (Z0 : n0 ≤ h0.size) (hT : OwnTr Z h0 tr ow ix sv (0 : Int32)) (hap : OwnApart tr ow ix sv) (hnew : OwnNew n0 tr ow ix sv) (hS : OwnSet Z h0 st tr lim wo sa nz ma (-1 : Int64)) (hsn : n0 ≤ st ∧ n0 ≤ nz ∧ n0 ≤ lim) (gwo : n0 ≤ wo) (gsa : n0 ≤ sa) (hnes : st ≠ tr ∧ st ≠ ow ∧ st ≠ ix ∧ st ≠ sv ∧ st ≠ lim ∧ st ≠ wo ∧ st ≠ sa ∧ st ≠ nz ∧ st ≠ ma ∧ tr ≠ lim ∧ tr ≠ wo ∧ tr ≠ sa ∧ tr ≠ nz ∧ tr ≠ ma ∧ ow ≠ lim ∧ ow ≠ wo ∧ ow ≠ sa ∧ ow ≠ nz ∧ ow ≠ ma ∧ ix ≠ lim ∧ ix ≠ wo ∧ ix ≠ sa ∧ ix ≠ nz ∧ ix ≠ ma ∧ sv ≠ lim ∧ sv ≠ wo ∧ sv ≠ sa ∧ sv ≠ nz ∧ sv ≠ ma ∧ lim ≠ wo ∧ lim ≠ sa ∧ lim ≠ nz ∧ lim ≠ ma ∧ wo ≠ sa ∧ wo ≠ nz ∧ wo ≠ ma ∧ sa ≠ nz ∧ sa ≠ ma ∧ nz ≠ ma) (Vl : OwnAV Z h0 lim .int 1 (fun i => (.int (own_l2 (1 : Int32) (0 : Int32) i)))) (Vo : OwnAV Z h0 wo .long 1 (fun i => (.long (own_l2 x0 x1 i)))) (Vs : OwnAV Z h0 sa .long 1 (fun i => (.long (own_l2 y0 y1 i)))) (Vn : OwnAV Z h0 nz .int 1 (fun i => (.int (own_l2 (0 : Int32) (0 : Int32) i)))) (Vm : OwnAV Z h0 ma .long 1 (fun i => (.long (own_l2 m0 m1 i)))) (El : Exa Z h0 lim "[I") (Eo : Exa Z h0 wo "[J") (hx0 : ¬ x0 = (0 : Int64)) (hy0 : y0 = (-1 : Int64)) :
    MetFree l (⟨"com/example/faultline/faultline/engine/ReversibleBitSet", "intersectWithMask", "()V"⟩ : MethodName) (head1 (Jvm.Cond.code (⟨"com/example/faultline/faultline/engine/ReversibleBitSet", "intersectWithMask", "()V"⟩ : MethodName) prog_44_method_11_code 5 none :: ws) ({ frames := 3, cells := 0, slots := 0, locals := 52 } : Room)) (fun a U => a = #[(.ref st)] ∧ Z.Warmed39 U.vm ∧ U.heap = h0) (fun _ _ _ _ _ => True) (fun _ U o U' => ∃ v L, o = .returned v ∧ Qx1 Z st tr ow ix sv lim wo sa nz ma x0 x1 y0 y1 m0 m1 h0 n0 v U'.heap L ∧ FrameEnd U o U' L ({ frames := 3, cells := 0, slots := 0, locals := 52 } : Room).cells ({ frames := 3, cells := 0, slots := 0, locals := 52 } : Room).slots) := by
  refine MetFree.of_bodySF (plainFor_of_name pn_8) hisR ?_
  intro p e s m args below meth c s₁ Bd hml0 hP hK
  obtain ⟨rfl, hZ, hh⟩ := hP
  have hx := Bd.exec
  have hby := Bd.bytes
  have hml : c.maxLocals = 5 := hml0
  have hown : s.vm.findClass "com/example/faultline/faultline/engine/ReversibleBitSet" = some m.cls := findClass_of_methodNamed Bd.named
  have hnm := (name_of_methodNamed Bd.named Bd.method).1
  have X0 : Stand p l e ({ frames := 3, cells := 0, slots := 0, locals := 52 } : Room) s m #[(.ref st)] below meth c s₁ [] 0 0 := Stand.of_body Bd
  have e0 : s₁.heap = h0 := by rw [← hh, Bd.state]; rfl
  have N0 := Fr.nil n0
  have pre0 : ∀ t, Steps p.tables e below (s₁.setTop (mkF m 0 #[.val (.ref st), .unset, .unset, .unset, .unset] [])) t → Steps p.tables e below (s₁.setTop (entryFrame m #[(.ref st)] 5)) t := fun t k => castTop (ef_8 m st) k
  obtain ⟨u1128E, u1128a, u1128b, u1128c, u1128d, u1128e, u1128o, ⟨u1128fi, u1128x⟩, ⟨u1128fs, u1128s⟩⟩ := hT
  obtain ⟨u1129E, u1129a, u1129b, u1129c, u1129d, u1129e, u1129f, u1129g⟩ := hS
  have z00 : (0 : Int32).toInt = 0 := by decide
  have hys0 : ¬ y0 = (0 : Int64) := by rw [hy0]; decide
  obtain ⟨T1130, X1130, e1130, st1130⟩ := getF X0 hx hZ hown (host := "") (Or.inl (hw _ (List.mem_of_getElem? (i := 30) rfl))) Via.refl e0 u1129b (g := (mkF m 1 #[.val (.ref st), .unset, .unset, .unset, .unset] [(.ref st)])) rfl rfl (hb hby d8_1)
  obtain ⟨T1131, X1131, e1131, st1131⟩ := getF X1130 hx hZ hown (host := "") (Or.inl (hw _ (List.mem_of_getElem? (i := 50) rfl))) Via.refl e1130 u1129e (g := (mkF m 14 #[.val (.ref st), .val (.int (0 : Int32)), .unset, .unset, .unset] [(.ref st)])) rfl rfl (hb hby d8_14)
  obtain ⟨T1132, X1132, e1132, st1132⟩ := getF X1131 hx hZ hown (host := "") (Or.inl (hw _ (List.mem_of_getElem? (i := 46) rfl))) Via.refl e1131 u1129c (g := (mkF m 21 #[.val (.ref st), .val (.int (0 : Int32)), .val (.int (0 : Int32)), .unset, .unset] [(.ref st)])) rfl rfl (hb hby d8_21)
  obtain ⟨T1133, X1133, e1133, st1133⟩ := getF X1132 hx hZ hown (host := "") (Or.inl (hw _ (List.mem_of_getElem? (i := 52) rfl))) Via.refl e1132 u1129f (g := (mkF m 27 #[.val (.ref st), .val (.int (0 : Int32)), .val (.int (0 : Int32)), .unset, .unset] [(.ref st), (.long x0)])) rfl rfl (hb hby d8_27)
  obtain ⟨T1134, X1134, e1134, st1134⟩ := getF X1133 hx hZ hown (host := "") (Or.inl (hw _ (List.mem_of_getElem? (i := 46) rfl))) Via.refl e1133 u1129c (g := (mkF m 36 #[.val (.ref st), .val (.int (0 : Int32)), .val (.int (0 : Int32)), .val (.long (x0 &&& m0)), .second] [(.ref st), (.long (x0 &&& m0))])) rfl rfl (hb hby d8_36)
  have k1135 : ∀ t, Steps p.tables e below (T1134.setTop (mkF m 42 #[.val (.ref st), .val (.int (0 : Int32)), .val (.int (0 : Int32)), .val (.long (x0 &&& m0)), .second] [(.int (lcmpW (x0 &&& m0) x0))])) t → Steps p.tables e below (s₁.setTop (entryFrame m #[(.ref st)] 5)) t := fun t hk => pre0 t (by
    show Steps p.tables e below (s₁.setTop (mkF m 0 #[.val (.ref st), .unset, .unset, .unset, .unset] [])) _
    refine XS.aloadN X0.here hx rfl (hb hby d8_0) rfl rfl ?_
    refine st1130 _ ?_
    refine XS.iconst X1130.here hx rfl (hb hby d8_4) ?_
    refine own_iald X1130 hx hZ e1130 Vl (k := 0) ⟨by decide, rfl, by decide⟩ rfl (g := (mkF m 5 #[.val (.ref st), .unset, .unset, .unset, .unset] [(.int (0 : Int32)), (.ref lim)])) rfl rfl (hb hby d8_5) _ ?_
    show Steps p.tables e below (T1130.setTop (mkF m 6 #[.val (.ref st), .unset, .unset, .unset, .unset] [(.int (1 : Int32))])) _
    refine XS.iconst X1130.here hx rfl (hb hby d8_6) ?_
    refine XS.isub X1130.here hx rfl (hb hby d8_7) rfl ?_
    refine XS.istoreN X1130.here hx rfl (hb hby d8_8) rfl (l' := #[.val (.ref st), .val (.int (0 : Int32)), .unset, .unset, .unset]) rfl ?_
    refine XS.iloadN X1130.here hx rfl (hb hby d8_9) rfl ?_
    show Steps p.tables e below (T1130.setTop (mkF m 10 #[.val (.ref st), .val (.int (0 : Int32)), .unset, .unset, .unset] [(.int (0 : Int32))])) _
    refine XS.ifNo X1130.here hx rfl (hb hby d8_10) rfl ((if0 _ _).trans (flt (by decide : ¬ ((0 : Int32) < (0 : Int32)))).1) ?_
    refine XS.aloadN X1130.here hx rfl (hb hby d8_13) rfl rfl ?_
    refine st1131 _ ?_
    refine XS.iloadN X1131.here hx rfl (hb hby d8_17) rfl ?_
    show Steps p.tables e below (T1131.setTop (mkF m 18 #[.val (.ref st), .val (.int (0 : Int32)), .unset, .unset, .unset] [(.int (0 : Int32)), (.ref nz)])) _
    refine own_iald X1131 hx hZ e1131 Vn (k := 0) ⟨by decide, rfl, by decide⟩ rfl (g := (mkF m 18 #[.val (.ref st), .val (.int (0 : Int32)), .unset, .unset, .unset] [(.int (0 : Int32)), (.ref nz)])) rfl rfl (hb hby d8_18) _ ?_
    refine XS.istoreN X1131.here hx rfl (hb hby d8_19) rfl (l' := #[.val (.ref st), .val (.int (0 : Int32)), .val (.int (0 : Int32)), .unset, .unset]) rfl ?_
    refine XS.aloadN X1131.here hx rfl (hb hby d8_20) rfl rfl ?_
    refine st1132 _ ?_
    show Steps p.tables e below (T1132.setTop (mkF m 24 #[.val (.ref st), .val (.int (0 : Int32)), .val (.int (0 : Int32)), .unset, .unset] [(.ref wo)])) _
    refine XS.iloadN X1132.here hx rfl (hb hby d8_24) rfl ?_
    refine own_lald X1132 hx hZ e1132 Vo (k := 0) ⟨by decide, rfl, by decide⟩ rfl (g := (mkF m 25 #[.val (.ref st), .val (.int (0 : Int32)), .val (.int (0 : Int32)), .unset, .unset] [(.int (0 : Int32)), (.ref wo)])) rfl rfl (hb hby d8_25) _ ?_
    refine XS.aloadN X1132.here hx rfl (hb hby d8_26) rfl rfl ?_
    refine st1133 _ ?_
    show Steps p.tables e below (T1133.setTop (mkF m 30 #[.val (.ref st), .val (.int (0 : Int32)), .val (.int (0 : Int32)), .unset, .unset] [(.ref ma), (.long x0)])) _
    refine XS.iloadN X1133.here hx rfl (hb hby d8_30) rfl ?_
    refine own_lald X1133 hx hZ e1133 Vm (k := 0) ⟨by decide, rfl, by decide⟩ rfl (g := (mkF m 31 #[.val (.ref st), .val (.int (0 : Int32)), .val (.int (0 : Int32)), .unset, .unset] [(.int (0 : Int32)), (.ref ma), (.long x0)])) rfl rfl (hb hby d8_31) _ ?_
    refine XS.land X1133.here hx rfl (hb hby d8_32) rfl ?_
    refine XS.lstoreN X1133.here hx rfl (hb hby d8_33) rfl (l' := #[.val (.ref st), .val (.int (0 : Int32)), .val (.int (0 : Int32)), .val (.long (x0 &&& m0)), .second]) rfl ?_
    show Steps p.tables e below (T1133.setTop (mkF m 34 #[.val (.ref st), .val (.int (0 : Int32)), .val (.int (0 : Int32)), .val (.long (x0 &&& m0)), .second] [])) _
    refine XS.lloadN X1133.here hx rfl (hb hby d8_34) rfl ?_
    refine XS.aloadN X1133.here hx rfl (hb hby d8_35) rfl rfl ?_
    refine st1134 _ ?_
    refine XS.iloadN X1134.here hx rfl (hb hby d8_39) rfl ?_
    show Steps p.tables e below (T1134.setTop (mkF m 40 #[.val (.ref st), .val (.int (0 : Int32)), .val (.int (0 : Int32)), .val (.long (x0 &&& m0)), .second] [(.int (0 : Int32)), (.ref wo), (.long (x0 &&& m0))])) _
    refine own_lald X1134 hx hZ e1134 Vo (k := 0) ⟨by decide, rfl, by decide⟩ rfl (g := (mkF m 40 #[.val (.ref st), .val (.int (0 : Int32)), .val (.int (0 : Int32)), .val (.long (x0 &&& m0)), .second] [(.int (0 : Int32)), (.ref wo), (.long (x0 &&& m0))])) rfl rfl (hb hby d8_40) _ ?_
    refine XS.lcmp X1134.here hx rfl (hb hby d8_41) rfl ?_
    exact hk)
  by_cases hc42 : (x0 &&& m0) = x0
  ·
    have k1136 : ∀ t, Steps p.tables e below (T1134.setTop (mkF m 111 #[.val (.ref st), .val (.int (-1 : Int32)), .val (.int (0 : Int32)), .val (.long (x0 &&& m0)), .second] [])) t → Steps p.tables e below (s₁.setTop (entryFrame m #[(.ref st)] 5)) t := fun t hk => k1135 t (by
      show Steps p.tables e below (T1134.setTop (mkF m 42 #[.val (.ref st), .val (.int (0 : Int32)), .val (.int (0 : Int32)), .val (.long (x0 &&& m0)), .second] [(.int (lcmpW (x0 &&& m0) x0))])) _
      refine XS.ifYes X1134.here hx rfl (pc0 := 42) (pc' := 105) rfl (hb hby d8_42) rfl ((if0 _ _).trans (teq ((lw_eq _ _).mpr hc42)).1) (by decide) (by decide) ?_
      refine XS.iinc X1134.here hx rfl (hb hby d8_105) rfl (l' := #[.val (.ref st), .val (.int (-1 : Int32)), .val (.int (0 : Int32)), .val (.long (x0 &&& m0)), .second]) rfl ?_
      refine XS.goto X1134.here hx rfl (pc0 := 108) (pc' := 9) rfl (hb hby d8_108) (by decide) (by decide) ?_
      refine XS.iloadN X1134.here hx rfl (hb hby d8_9) rfl ?_
      show Steps p.tables e below (T1134.setTop (mkF m 10 #[.val (.ref st), .val (.int (-1 : Int32)), .val (.int (0 : Int32)), .val (.long (x0 &&& m0)), .second] [(.int (-1 : Int32))])) _
      refine XS.ifYes X1134.here hx rfl (pc0 := 10) (pc' := 111) rfl (hb hby d8_10) rfl ((if0 _ _).trans (tlt (by decide : (-1 : Int32) < (0 : Int32))).1) (by decide) (by decide) ?_
      exact hk)
    have Vfin : OwnAV Z h0 wo .long 1 (fun i => (.long (own_l2 (x0 &&& m0) x1 i))) := by
      rw [hc42]; exact Vo
    obtain ⟨fs, hr, hrun, hended, hW, hsame⟩ := X1134.leave (v := none) (fun _ => rfl)
    refine ⟨_, _, k1136 _ ?_, hrun, hended, _, _, rfl, ?_, ⟨_, rfl⟩, hW, hsame.mono (by decide) (by decide)⟩
    · show Steps p.tables e below (T1134.setTop (mkF m 111 #[.val (.ref st), .val (.int (-1 : Int32)), .val (.int (0 : Int32)), .val (.long (x0 &&& m0)), .second] [])) _
      exact X1134.returnOut hx Bd.returns (hb hby d8_111) hr
    · show Qx1 Z st tr ow ix sv lim wo sa nz ma x0 x1 y0 y1 m0 m1 h0 n0 _ T1134.heap _
      rw [e1134]
      exact ⟨rfl, N0, (Keep.refl h0 [st, tr, ow, ix, sv, wo, sa, nz, lim]), _, (1 : Int32), (0 : Int32), (0 : Int32), ⟨u1129E, u1129a, u1129b, u1129c, u1129d, u1129e, u1129f, u1129g⟩, Vfin, Vn, Vl, Or.inl ⟨rfl, rfl⟩⟩
  ·
    obtain ⟨T1137, X1137, e1137, st1137⟩ := getF X1134 hx hZ hown (host := "") (Or.inl (hw _ (List.mem_of_getElem? (i := 48) rfl))) Via.refl e1134 u1129d (g := (mkF m 46 #[.val (.ref st), .val (.int (0 : Int32)), .val (.int (0 : Int32)), .val (.long (x0 &&& m0)), .second] [(.ref st)])) rfl rfl (hb hby d8_46)
    obtain ⟨T1138, X1138, e1138, st1138⟩ := getF X1137 hx hZ hown (host := "") (Or.inl (hw _ (List.mem_of_getElem? (i := 35) rfl))) Via.refl e1137 u1129a (g := (mkF m 52 #[.val (.ref st), .val (.int (0 : Int32)), .val (.int (0 : Int32)), .val (.long (x0 &&& m0)), .second] [(.ref st), (.long y0)])) rfl rfl (hb hby d8_52)
    obtain ⟨cq1139, kq1139, q1139a, q1139b, q1139c⟩ := isOf hZ e1138 u1128E
    obtain ⟨_, _, ⟨T1139, L1139, k1139, n1139⟩, -, X1139, ⟨Lc1139, hQ1139, l1139, y1139, z1139⟩, st1139⟩ := X1138.virtualBack hx (y := (⟨"com/example/faultline/faultline/engine/Trail", "world", "()J"⟩ : MethodName)) (z := (⟨"com/example/faultline/faultline/engine/Trail", "world", "()J"⟩ : MethodName)) hown (mvT hZ (hw _ (List.mem_of_getElem? (i := 69) rfl))) (mvT hZ (hw _ (List.mem_of_getElem? (i := 70) rfl))) (notFace_of_selects (args := #[]) (mvT hZ (hw _ (List.mem_of_getElem? (i := 72) rfl)))) (mvT hZ (hw _ (List.mem_of_getElem? (i := 72) rfl))) (mvT hZ (hw _ (List.mem_of_getElem? (i := 71) rfl))) (by decide) (backOf (W := 2) (rm10 l Z a0 hw [] tr (0 : Int64) h0 n0 Z0 u1128e) hZ (hw _ (List.mem_of_getElem? (i := 73) rfl)) (hw _ (List.mem_of_getElem? (i := 2) rfl)) (by decide) (by decide)) q1139a q1139c (g := (mkF m 55 #[.val (.ref st), .val (.int (0 : Int32)), .val (.int (0 : Int32)), .val (.long (x0 &&& m0)), .second] [(.ref tr), (.long y0)])) rfl (by rw [hml]; rfl) (Steps.refl _) (argsL := []) (rest := [(.long y0)]) (lenOf pd_2 rfl) rfl (by show 2 * 0 + _ ≤ _; exact Nat.le_of_eq rfl) (hb hby d8_55) (fun _ _ => ⟨rfl, e1138, (by decide : 0 + 0 ≤ _), (by decide : 0 + 0 ≤ _)⟩)
    dsimp only [Pt.U, Pt.locs, Pt.cells, Pt.slots] at X1139 l1139 y1139 z1139 st1139 hQ1139
    subst l1139 y1139 z1139
    obtain ⟨rfl, N1139q, e1139⟩ := hQ1139
    have N1139 := Fr.app N0 N1139q
    obtain ⟨T1140, X1140, e1140, st1140⟩ := getF X1139 hx hZ hown (host := "") (Or.inl (hw _ (List.mem_of_getElem? (i := 35) rfl))) Via.refl e1139 u1129a (g := (mkF m 63 #[.val (.ref st), .val (.int (0 : Int32)), .val (.int (0 : Int32)), .val (.long (x0 &&& m0)), .second] [(.ref st)])) rfl rfl (hb hby d8_63)
    obtain ⟨T1141, X1141, e1141, st1141⟩ := getF X1140 hx hZ hown (host := "") (Or.inl (hw _ (List.mem_of_getElem? (i := 46) rfl))) Via.refl e1140 u1129c (g := (mkF m 67 #[.val (.ref st), .val (.int (0 : Int32)), .val (.int (0 : Int32)), .val (.long (x0 &&& m0)), .second] [(.ref st), (.ref tr)])) rfl rfl (hb hby d8_67)
    obtain ⟨cq1142, kq1142, q1142a, q1142b, q1142c⟩ := isOf hZ e1141 u1128E
    obtain ⟨_, _, ⟨T1142, L1142, k1142, n1142⟩, -, X1142, ⟨Lc1142, hQ1142, l1142, y1142, z1142⟩, st1142⟩ := X1141.virtualBack hx (y := (⟨"com/example/faultline/faultline/engine/Trail", "save", "([JI)V"⟩ : MethodName)) (z := (⟨"com/example/faultline/faultline/engine/Trail", "save", "([JI)V"⟩ : MethodName)) hown (mvT hZ (hw _ (List.mem_of_getElem? (i := 76) rfl))) (mvT hZ (hw _ (List.mem_of_getElem? (i := 77) rfl))) (notFace_of_selects (args := #[]) (mvT hZ (hw _ (List.mem_of_getElem? (i := 79) rfl)))) (mvT hZ (hw _ (List.mem_of_getElem? (i := 79) rfl))) (mvT hZ (hw _ (List.mem_of_getElem? (i := 78) rfl))) (by decide) (backOf (W := 0) (rm11 l Z a0 hw [] tr wo (0 : Int32) ow ix sv (0 : Int32) 1 0 (own_l2 x0 x1) h0 n0 Z0 ⟨u1128E, u1128a, u1128b, u1128c, u1128d, u1128e, u1128o, ⟨_, u1128x⟩, ⟨_, u1128s⟩⟩ hap hnew (by decide : 0 ≤ (0 : Int32).toInt) (by decide) Eo Vo ⟨by decide, rfl, by decide⟩) hZ (hw _ (List.mem_of_getElem? (i := 80) rfl)) (hw _ (List.mem_of_getElem? (i := 2) rfl)) (by decide) (by decide)) q1142a q1142c (g := (mkF m 71 #[.val (.ref st), .val (.int (0 : Int32)), .val (.int (0 : Int32)), .val (.long (x0 &&& m0)), .second] [(.int (0 : Int32)), (.ref wo), (.ref tr)])) rfl (by rw [hml]; rfl) (Steps.refl _) (argsL := [(.ref wo), (.int (0 : Int32))]) (rest := []) (lenOf pd_6 rfl) rfl (by show 2 * 0 + _ ≤ _; exact Nat.le_of_eq rfl) (hb hby d8_71) (fun _ _ => ⟨rfl, e1141, (by decide : 0 + 0 ≤ _), (by decide : 0 + 0 ≤ _)⟩)
    dsimp only [Pt.U, Pt.locs, Pt.cells, Pt.slots] at X1142 l1142 y1142 z1142 st1142 hQ1142
    subst l1142 y1142 z1142
    obtain ⟨rfl, N1142q, K1142, hT1142⟩ := hQ1142
    have N1142 := Fr.app N1139 N1142q
    have F1143 := u1129a.keep K1142 (ninS hnes.1 (ninS hnes.2.1 (ninS hnes.2.2.1 (ninS hnes.2.2.2.1 nin0))))
    have F1144 := u1129b.keep K1142 (ninS hnes.1 (ninS hnes.2.1 (ninS hnes.2.2.1 (ninS hnes.2.2.2.1 nin0))))
    have F1145 := u1129c.keep K1142 (ninS hnes.1 (ninS hnes.2.1 (ninS hnes.2.2.1 (ninS hnes.2.2.2.1 nin0))))
    have F1146 := u1129d.keep K1142 (ninS hnes.1 (ninS hnes.2.1 (ninS hnes.2.2.1 (ninS hnes.2.2.2.1 nin0))))
    have F1147 := u1129e.keep K1142 (ninS hnes.1 (ninS hnes.2.1 (ninS hnes.2.2.1 (ninS hnes.2.2.2.1 nin0))))
    have F1148 := u1129f.keep K1142 (ninS hnes.1 (ninS hnes.2.1 (ninS hnes.2.2.1 (ninS hnes.2.2.2.1 nin0))))
    have F1149 := u1129g.keep K1142 (ninS hnes.1 (ninS hnes.2.1 (ninS hnes.2.2.1 (ninS hnes.2.2.2.1 nin0))))
    have E1150 := u1128E.keep K1142
    have E1151 := u1129E.keep K1142
    have E1152 := El.keep K1142
    have E1153 := Eo.keep K1142
    have A1154 := Vl.keep K1142 (ninS (Ne.symm hnes.2.2.2.2.2.2.2.2.2.1) (ninS (Ne.symm hnes.2.2.2.2.2.2.2.2.2.2.2.2.2.2.1) (ninS (Ne.symm hnes.2.2.2.2.2.2.2.2.2.2.2.2.2.2.2.2.2.2.2.1) (ninS (Ne.symm hnes.2.2.2.2.2.2.2.2.2.2.2.2.2.2.2.2.2.2.2.2.2.2.2.2.1) nin0))))
    have A1155 := Vo.keep K1142 (ninS (Ne.symm hnes.2.2.2.2.2.2.2.2.2.2.1) (ninS (Ne.symm hnes.2.2.2.2.2.2.2.2.2.2.2.2.2.2.2.1) (ninS (Ne.symm hnes.2.2.2.2.2.2.2.2.2.2.2.2.2.2.2.2.2.2.2.2.1) (ninS (Ne.symm hnes.2.2.2.2.2.2.2.2.2.2.2.2.2.2.2.2.2.2.2.2.2.2.2.2.2.1) nin0))))
    have A1156 := Vs.keep K1142 (ninS (Ne.symm hnes.2.2.2.2.2.2.2.2.2.2.2.1) (ninS (Ne.symm hnes.2.2.2.2.2.2.2.2.2.2.2.2.2.2.2.2.1) (ninS (Ne.symm hnes.2.2.2.2.2.2.2.2.2.2.2.2.2.2.2.2.2.2.2.2.2.1) (ninS (Ne.symm hnes.2.2.2.2.2.2.2.2.2.2.2.2.2.2.2.2.2.2.2.2.2.2.2.2.2.2.1) nin0))))
    have A1157 := Vn.keep K1142 (ninS (Ne.symm hnes.2.2.2.2.2.2.2.2.2.2.2.2.1) (ninS (Ne.symm hnes.2.2.2.2.2.2.2.2.2.2.2.2.2.2.2.2.2.1) (ninS (Ne.symm hnes.2.2.2.2.2.2.2.2.2.2.2.2.2.2.2.2.2.2.2.2.2.2.1) (ninS (Ne.symm hnes.2.2.2.2.2.2.2.2.2.2.2.2.2.2.2.2.2.2.2.2.2.2.2.2.2.2.2.1) nin0))))
    have A1158 := Vm.keep K1142 (ninS (Ne.symm hnes.2.2.2.2.2.2.2.2.2.2.2.2.2.1) (ninS (Ne.symm hnes.2.2.2.2.2.2.2.2.2.2.2.2.2.2.2.2.2.2.1) (ninS (Ne.symm hnes.2.2.2.2.2.2.2.2.2.2.2.2.2.2.2.2.2.2.2.2.2.2.2.1) (ninS (Ne.symm hnes.2.2.2.2.2.2.2.2.2.2.2.2.2.2.2.2.2.2.2.2.2.2.2.2.2.2.2.2.1) nin0))))
    have K1159 := (Keep.refl h0 [st, tr, ow, ix, sv, wo, sa, nz, lim]).trans K1142 (allS (Or.inl (List.mem_of_getElem? (i := 1) rfl)) (allS (Or.inl (List.mem_of_getElem? (i := 2) rfl)) (allS (Or.inl (List.mem_of_getElem? (i := 3) rfl)) (allS (Or.inl (List.mem_of_getElem? (i := 4) rfl)) all0))))
    have Z1160 : n0 ≤ T1142.heap.size := Nat.le_trans Z0 K1142.1
    obtain ⟨t1161, qt1161⟩ : ∃ z : Int32, z = (0 : Int32) + (1 : Int32) := ⟨_, rfl⟩
    rw [← qt1161] at hT1142
    obtain ⟨pt1161, rt1161⟩ := own_tick (0 : Int32) t1161 qt1161 (by decide : 0 ≤ (0 : Int32).toInt) (by decide)
    obtain ⟨u1162E, u1162a, u1162b, u1162c, u1162d, u1162e, u1162o, ⟨u1162fi, u1162x⟩, ⟨u1162fs, u1162s⟩⟩ := hT1142
    obtain ⟨T1163, X1163, e1163, st1163⟩ := getF X1142 hx hZ hown (host := "") (Or.inl (hw _ (List.mem_of_getElem? (i := 48) rfl))) Via.refl rfl F1146 (g := (mkF m 75 #[.val (.ref st), .val (.int (0 : Int32)), .val (.int (0 : Int32)), .val (.long (x0 &&& m0)), .second] [(.ref st)])) rfl rfl (hb hby d8_75)
    obtain ⟨T1164, X1164, e1164, st1164⟩ := getF X1163 hx hZ hown (host := "") (Or.inl (hw _ (List.mem_of_getElem? (i := 35) rfl))) Via.refl e1163 F1143 (g := (mkF m 80 #[.val (.ref st), .val (.int (0 : Int32)), .val (.int (0 : Int32)), .val (.long (x0 &&& m0)), .second] [(.ref st), (.int (0 : Int32)), (.ref sa)])) rfl rfl (hb hby d8_80)
    obtain ⟨cq1165, kq1165, q1165a, q1165b, q1165c⟩ := isOf hZ e1164 u1162E
    obtain ⟨_, _, ⟨T1165, L1165, k1165, n1165⟩, -, X1165, ⟨Lc1165, hQ1165, l1165, y1165, z1165⟩, st1165⟩ := X1164.virtualBack hx (y := (⟨"com/example/faultline/faultline/engine/Trail", "world", "()J"⟩ : MethodName)) (z := (⟨"com/example/faultline/faultline/engine/Trail", "world", "()J"⟩ : MethodName)) hown (mvT hZ (hw _ (List.mem_of_getElem? (i := 69) rfl))) (mvT hZ (hw _ (List.mem_of_getElem? (i := 70) rfl))) (notFace_of_selects (args := #[]) (mvT hZ (hw _ (List.mem_of_getElem? (i := 72) rfl)))) (mvT hZ (hw _ (List.mem_of_getElem? (i := 72) rfl))) (mvT hZ (hw _ (List.mem_of_getElem? (i := 71) rfl))) (by decide) (backOf (W := 2) (rm10 l Z a0 hw [] tr (0 : Int64) T1142.heap n0 Z1160 u1162e) hZ (hw _ (List.mem_of_getElem? (i := 73) rfl)) (hw _ (List.mem_of_getElem? (i := 2) rfl)) (by decide) (by decide)) q1165a q1165c (g := (mkF m 83 #[.val (.ref st), .val (.int (0 : Int32)), .val (.int (0 : Int32)), .val (.long (x0 &&& m0)), .second] [(.ref tr), (.int (0 : Int32)), (.ref sa)])) rfl (by rw [hml]; rfl) (Steps.refl _) (argsL := []) (rest := [(.int (0 : Int32)), (.ref sa)]) (lenOf pd_2 rfl) rfl (by show 2 * 0 + _ ≤ _; exact Nat.le_of_eq rfl) (hb hby d8_83) (fun _ _ => ⟨rfl, e1164, (by decide : 0 + 0 ≤ _), (by decide : 0 + 0 ≤ _)⟩)
    dsimp only [Pt.U, Pt.locs, Pt.cells, Pt.slots] at X1165 l1165 y1165 z1165 st1165 hQ1165
    subst l1165 y1165 z1165
    obtain ⟨rfl, N1165q, e1165⟩ := hQ1165
    have N1165 := Fr.app N1142 N1165q
    obtain ⟨T1166, h1166, X1166, e1166, W1166, st1166⟩ := own_last X1165 hx hZ e1165 A1156 (k := 0) ⟨by decide, rfl, by decide⟩ (g := (mkF m 86 #[.val (.ref st), .val (.int (0 : Int32)), .val (.int (0 : Int32)), .val (.long (x0 &&& m0)), .second] [(.long (0 : Int64)), (.int (0 : Int32)), (.ref sa)])) rfl rfl (hb hby d8_86)
    have A1167 : OwnAV Z h1166 sa .long 1 (fun i => (.long ((own_l2 (0 : Int64) y1) i))) := (A1156.storeJ W1166).congr (fun j hj => by
        have q : j = 0 ∨ j = 1 := by omega
        rcases q with rfl | rfl <;> rfl)
    have F1168 := F1143.other W1166 (Or.inl hnes.2.2.2.2.2.2.1)
    have F1169 := F1144.other W1166 (Or.inl hnes.2.2.2.2.2.2.1)
    have F1170 := F1145.other W1166 (Or.inl hnes.2.2.2.2.2.2.1)
    have F1171 := F1146.other W1166 (Or.inl hnes.2.2.2.2.2.2.1)
    have F1172 := F1147.other W1166 (Or.inl hnes.2.2.2.2.2.2.1)
    have F1173 := F1148.other W1166 (Or.inl hnes.2.2.2.2.2.2.1)
    have F1174 := F1149.other W1166 (Or.inl hnes.2.2.2.2.2.2.1)
    have F1175 := u1162a.other W1166 (Or.inl hnes.2.2.2.2.2.2.2.2.2.2.2.1)
    have F1176 := u1162b.other W1166 (Or.inl hnes.2.2.2.2.2.2.2.2.2.2.2.1)
    have F1177 := u1162c.other W1166 (Or.inl hnes.2.2.2.2.2.2.2.2.2.2.2.1)
    have F1178 := u1162d.other W1166 (Or.inl hnes.2.2.2.2.2.2.2.2.2.2.2.1)
    have F1179 := u1162e.other W1166 (Or.inl hnes.2.2.2.2.2.2.2.2.2.2.2.1)
    have E1180 := u1162E.wr W1166
    have E1181 := E1151.wr W1166
    have E1182 := E1152.wr W1166
    have E1183 := E1153.wr W1166
    have A1184 := A1154.other W1166 hnes.2.2.2.2.2.2.2.2.2.2.2.2.2.2.2.2.2.2.2.2.2.2.2.2.2.2.2.2.2.2.1
    have A1185 := A1155.other W1166 hnes.2.2.2.2.2.2.2.2.2.2.2.2.2.2.2.2.2.2.2.2.2.2.2.2.2.2.2.2.2.2.2.2.2.1
    have A1186 := A1157.other W1166 (Ne.symm hnes.2.2.2.2.2.2.2.2.2.2.2.2.2.2.2.2.2.2.2.2.2.2.2.2.2.2.2.2.2.2.2.2.2.2.2.2.1)
    have A1187 := A1158.other W1166 (Ne.symm hnes.2.2.2.2.2.2.2.2.2.2.2.2.2.2.2.2.2.2.2.2.2.2.2.2.2.2.2.2.2.2.2.2.2.2.2.2.2.1)
    have A1188 := u1162o.other W1166 hnes.2.2.2.2.2.2.2.2.2.2.2.2.2.2.2.2.1
    have A1189 := u1162x.other W1166 hnes.2.2.2.2.2.2.2.2.2.2.2.2.2.2.2.2.2.2.2.2.2.1
    have A1190 := u1162s.other W1166 hnes.2.2.2.2.2.2.2.2.2.2.2.2.2.2.2.2.2.2.2.2.2.2.2.2.2.2.1
    have K1191 := K1159.wr W1166 (Or.inl (List.mem_of_getElem? (i := 6) rfl))
    have Z1192 : n0 ≤ h1166.size := W1166.size ▸ Z1160
    have N1193 := Fr.snoc X1166 N1165 gsa
    obtain ⟨T1194, X1194, e1194, st1194⟩ := getF X1166 hx hZ hown (host := "") (Or.inl (hw _ (List.mem_of_getElem? (i := 46) rfl))) Via.refl e1166 F1170 (g := (mkF m 88 #[.val (.ref st), .val (.int (0 : Int32)), .val (.int (0 : Int32)), .val (.long (x0 &&& m0)), .second] [(.ref st)])) rfl rfl (hb hby d8_88)
    obtain ⟨T1195, h1195, X1195, e1195, W1195, st1195⟩ := own_last X1194 hx hZ e1194 A1185 (k := 0) ⟨by decide, rfl, by decide⟩ (g := (mkF m 93 #[.val (.ref st), .val (.int (0 : Int32)), .val (.int (0 : Int32)), .val (.long (x0 &&& m0)), .second] [(.long (x0 &&& m0)), (.int (0 : Int32)), (.ref wo)])) rfl rfl (hb hby d8_93)
    have A1196 : OwnAV Z h1195 wo .long 1 (fun i => (.long ((own_l2 (x0 &&& m0) x1) i))) := (A1185.storeJ W1195).congr (fun j hj => by
        have q : j = 0 ∨ j = 1 := by omega
        rcases q with rfl | rfl <;> rfl)
    have F1197 := F1168.other W1195 (Or.inl hnes.2.2.2.2.2.1)
    have F1198 := F1169.other W1195 (Or.inl hnes.2.2.2.2.2.1)
    have F1199 := F1170.other W1195 (Or.inl hnes.2.2.2.2.2.1)
    have F1200 := F1171.other W1195 (Or.inl hnes.2.2.2.2.2.1)
    have F1201 := F1172.other W1195 (Or.inl hnes.2.2.2.2.2.1)
    have F1202 := F1173.other W1195 (Or.inl hnes.2.2.2.2.2.1)
    have F1203 := F1174.other W1195 (Or.inl hnes.2.2.2.2.2.1)
    have F1204 := F1175.other W1195 (Or.inl hnes.2.2.2.2.2.2.2.2.2.2.1)
    have F1205 := F1176.other W1195 (Or.inl hnes.2.2.2.2.2.2.2.2.2.2.1)
    have F1206 := F1177.other W1195 (Or.inl hnes.2.2.2.2.2.2.2.2.2.2.1)
    have F1207 := F1178.other W1195 (Or.inl hnes.2.2.2.2.2.2.2.2.2.2.1)
    have F1208 := F1179.other W1195 (Or.inl hnes.2.2.2.2.2.2.2.2.2.2.1)
    have E1209 := E1180.wr W1195
    have E1210 := E1181.wr W1195
    have E1211 := E1182.wr W1195
    have E1212 := E1183.wr W1195
    have A1213 := A1184.other W1195 hnes.2.2.2.2.2.2.2.2.2.2.2.2.2.2.2.2.2.2.2.2.2.2.2.2.2.2.2.2.2.1
    have A1214 := A1167.other W1195 (Ne.symm hnes.2.2.2.2.2.2.2.2.2.2.2.2.2.2.2.2.2.2.2.2.2.2.2.2.2.2.2.2.2.2.2.2.2.1)
    have A1215 := A1186.other W1195 (Ne.symm hnes.2.2.2.2.2.2.2.2.2.2.2.2.2.2.2.2.2.2.2.2.2.2.2.2.2.2.2.2.2.2.2.2.2.2.1)
    have A1216 := A1187.other W1195 (Ne.symm hnes.2.2.2.2.2.2.2.2.2.2.2.2.2.2.2.2.2.2.2.2.2.2.2.2.2.2.2.2.2.2.2.2.2.2.2.1)
    have A1217 := A1188.other W1195 hnes.2.2.2.2.2.2.2.2.2.2.2.2.2.2.2.1
    have A1218 := A1189.other W1195 hnes.2.2.2.2.2.2.2.2.2.2.2.2.2.2.2.2.2.2.2.2.1
    have A1219 := A1190.other W1195 hnes.2.2.2.2.2.2.2.2.2.2.2.2.2.2.2.2.2.2.2.2.2.2.2.2.2.1
    have K1220 := K1191.wr W1195 (Or.inl (List.mem_of_getElem? (i := 5) rfl))
    have Z1221 : n0 ≤ h1195.size := W1195.size ▸ Z1192
    have N1222 := Fr.snoc X1195 N1193 gwo
    have k1223 : ∀ t, Steps p.tables e below (T1195.setTop (mkF m 97 #[.val (.ref st), .val (.int (0 : Int32)), .val (.int (0 : Int32)), .val (.long (x0 &&& m0)), .second] [(.int (lcmpW (x0 &&& m0) (0 : Int64)))])) t → Steps p.tables e below (s₁.setTop (entryFrame m #[(.ref st)] 5)) t := fun t hk => k1135 t (by
      show Steps p.tables e below (T1134.setTop (mkF m 42 #[.val (.ref st), .val (.int (0 : Int32)), .val (.int (0 : Int32)), .val (.long (x0 &&& m0)), .second] [(.int (lcmpW (x0 &&& m0) x0))])) _
      refine XS.ifNo X1134.here hx rfl (hb hby d8_42) rfl ((if0 _ _).trans (feq (fun q => hc42 ((lw_eq _ _).mp q))).1) ?_
      refine XS.aloadN X1134.here hx rfl (hb hby d8_45) rfl rfl ?_
      refine st1137 _ ?_
      refine XS.iloadN X1137.here hx rfl (hb hby d8_49) rfl ?_
      show Steps p.tables e below (T1137.setTop (mkF m 50 #[.val (.ref st), .val (.int (0 : Int32)), .val (.int (0 : Int32)), .val (.long (x0 &&& m0)), .second] [(.int (0 : Int32)), (.ref sa)])) _
      refine own_lald X1137 hx hZ e1137 Vs (k := 0) ⟨by decide, rfl, by decide⟩ rfl (g := (mkF m 50 #[.val (.ref st), .val (.int (0 : Int32)), .val (.int (0 : Int32)), .val (.long (x0 &&& m0)), .second] [(.int (0 : Int32)), (.ref sa)])) rfl rfl (hb hby d8_50) _ ?_
      refine XS.aloadN X1137.here hx rfl (hb hby d8_51) rfl rfl ?_
      refine st1138 _ ?_
      refine st1139.trans ?_
      show Steps p.tables e below (T1139.setTop (mkF m 58 #[.val (.ref st), .val (.int (0 : Int32)), .val (.int (0 : Int32)), .val (.long (x0 &&& m0)), .second] [(.long (0 : Int64)), (.long y0)])) _
      refine XS.lcmp X1139.here hx rfl (hb hby d8_58) rfl ?_
      refine XS.ifNo X1139.here hx rfl (hb hby d8_59) rfl ((if0 _ _).trans (feq (fun q => hys0 ((lw_eq _ _).mp q))).1) ?_
      refine XS.aloadN X1139.here hx rfl (hb hby d8_62) rfl rfl ?_
      refine st1140 _ ?_
      show Steps p.tables e below (T1140.setTop (mkF m 66 #[.val (.ref st), .val (.int (0 : Int32)), .val (.int (0 : Int32)), .val (.long (x0 &&& m0)), .second] [(.ref tr)])) _
      refine XS.aloadN X1140.here hx rfl (hb hby d8_66) rfl rfl ?_
      refine st1141 _ ?_
      refine XS.iloadN X1141.here hx rfl (hb hby d8_70) rfl ?_
      refine st1142.trans ?_
      show Steps p.tables e below (T1142.setTop (mkF m 74 #[.val (.ref st), .val (.int (0 : Int32)), .val (.int (0 : Int32)), .val (.long (x0 &&& m0)), .second] [])) _
      refine XS.aloadN X1142.here hx rfl (hb hby d8_74) rfl rfl ?_
      refine st1163 _ ?_
      refine XS.iloadN X1163.here hx rfl (hb hby d8_78) rfl ?_
      refine XS.aloadN X1163.here hx rfl (hb hby d8_79) rfl rfl ?_
      show Steps p.tables e below (T1163.setTop (mkF m 80 #[.val (.ref st), .val (.int (0 : Int32)), .val (.int (0 : Int32)), .val (.long (x0 &&& m0)), .second] [(.ref st), (.int (0 : Int32)), (.ref sa)])) _
      refine st1164 _ ?_
      refine st1165.trans ?_
      refine st1166 _ ?_
      refine XS.aloadN X1166.here hx rfl (hb hby d8_87) rfl rfl ?_
      show Steps p.tables e below (T1166.setTop (mkF m 88 #[.val (.ref st), .val (.int (0 : Int32)), .val (.int (0 : Int32)), .val (.long (x0 &&& m0)), .second] [(.ref st)])) _
      refine st1194 _ ?_
      refine XS.iloadN X1194.here hx rfl (hb hby d8_91) rfl ?_
      refine XS.lloadN X1194.here hx rfl (hb hby d8_92) rfl ?_
      refine st1195 _ ?_
      show Steps p.tables e below (T1195.setTop (mkF m 94 #[.val (.ref st), .val (.int (0 : Int32)), .val (.int (0 : Int32)), .val (.long (x0 &&& m0)), .second] [])) _
      refine XS.lloadN X1195.here hx rfl (hb hby d8_94) rfl ?_
      refine XS.lconst X1195.here hx rfl (hb hby d8_95) ?_
      refine XS.lcmp X1195.here hx rfl (hb hby d8_96) rfl ?_
      exact hk)
    by_cases hc97 : (x0 &&& m0) = (0 : Int64)
    ·
      obtain ⟨cq1224, q1224, q1224'⟩ := E1210.cell
      obtain ⟨_, _, ⟨T1224, L1224, k1224, n1224⟩, -, X1224, ⟨Lc1224, hQ1224, l1224, y1224, z1224⟩, st1224⟩ := X1195.privateBack hx (y := (⟨"com/example/faultline/faultline/engine/ReversibleBitSet", "removeNonZero", "(I)V"⟩ : MethodName)) hown (mvT hZ (hw _ (List.mem_of_getElem? (i := 88) rfl))) (mvT hZ (hw _ (List.mem_of_getElem? (i := 89) rfl))) (own_selp (mvT hZ (hw _ (List.mem_of_getElem? (i := 24) rfl))) (Cond.privateMethod_at (mvP hZ (hw _ (List.mem_of_getElem? (i := 90) rfl)) (args := #[]))) (mvT hZ (hw _ (List.mem_of_getElem? (i := 89) rfl))) (by decide)) (Cond.privateMethod_at (mvP hZ (hw _ (List.mem_of_getElem? (i := 90) rfl)) (args := #[]))) (mvT hZ (hw _ (List.mem_of_getElem? (i := 91) rfl))) (by decide) (backOf (W := 0) (rm13 l Z a0 hw [] st (0 : Int32) tr ow ix sv lim wo sa nz ma (-1 : Int64) t1161 (1 : Int32) 1 0 0 (own_l2 (0 : Int32) (0 : Int32)) h1195 n0 Z1221 ⟨E1209, F1204, F1205, F1206, F1207, F1208, A1217, ⟨_, A1218⟩, ⟨_, A1219⟩⟩ hap hnew pt1161 (by omega) ⟨E1210, F1197, F1198, F1199, F1200, F1201, F1202, F1203⟩ hsn ⟨hnes.1, hnes.2.1, hnes.2.2.1, hnes.2.2.2.1, hnes.2.2.2.2.1, hnes.2.2.2.2.2.2.2.1, hnes.2.2.2.2.2.2.2.2.2.1, hnes.2.2.2.2.2.2.2.2.2.2.2.2.1, hnes.2.2.2.2.2.2.2.2.2.2.2.2.2.2.1, hnes.2.2.2.2.2.2.2.2.2.2.2.2.2.2.2.2.2.1, hnes.2.2.2.2.2.2.2.2.2.2.2.2.2.2.2.2.2.2.2.1, hnes.2.2.2.2.2.2.2.2.2.2.2.2.2.2.2.2.2.2.2.2.2.2.1, hnes.2.2.2.2.2.2.2.2.2.2.2.2.2.2.2.2.2.2.2.2.2.2.2.2.1, hnes.2.2.2.2.2.2.2.2.2.2.2.2.2.2.2.2.2.2.2.2.2.2.2.2.2.2.2.1, hnes.2.2.2.2.2.2.2.2.2.2.2.2.2.2.2.2.2.2.2.2.2.2.2.2.2.2.2.2.2.2.2.1⟩ E1211 A1213 A1215 ⟨by decide, rfl, by decide⟩ ⟨by decide, rfl, by decide⟩) hZ (hw _ (List.mem_of_getElem? (i := 91) rfl)) (hw _ (List.mem_of_getElem? (i := 25) rfl)) (by decide) (by decide)) (g := (mkF m 102 #[.val (.ref st), .val (.int (0 : Int32)), .val (.int (0 : Int32)), .val (.long (x0 &&& m0)), .second] [(.int (0 : Int32)), (.ref st)])) rfl (by rw [hml]; rfl) (Steps.refl _) (a := st) (by rw [e1195]; exact q1224) q1224' (argsL := [(.int (0 : Int32))]) (rest := []) (lenOf pd_7 rfl) rfl (by show 2 * 0 + _ ≤ _; exact Nat.le_of_eq rfl) (hb hby d8_102) (fun _ _ => ⟨rfl, e1195, (by decide : 0 + 0 ≤ _), (by decide : 0 + 0 ≤ _)⟩)
      dsimp only [Pt.U, Pt.locs, Pt.cells, Pt.slots] at X1224 l1224 y1224 z1224 st1224 hQ1224
      subst l1224 y1224 z1224
      obtain ⟨rfl, N1224q, K1224, hS1224, ⟨tt1224, pt1224, qt1224, hT1224⟩, Vn1224, Vl1224, El1224⟩ := hQ1224
      have N1224 := Fr.app N1222 N1224q
      have E1225 := E1209.keep K1224
      have E1226 := E1210.keep K1224
      have E1227 := E1211.keep K1224
      have E1228 := E1212.keep K1224
      have A1229 := A1196.keep K1224 (ninS (Ne.symm hnes.2.2.2.2.2.1) (ninS (Ne.symm hnes.2.2.2.2.2.2.2.2.2.2.1) (ninS (Ne.symm hnes.2.2.2.2.2.2.2.2.2.2.2.2.2.2.2.1) (ninS (Ne.symm hnes.2.2.2.2.2.2.2.2.2.2.2.2.2.2.2.2.2.2.2.2.1) (ninS (Ne.symm hnes.2.2.2.2.2.2.2.2.2.2.2.2.2.2.2.2.2.2.2.2.2.2.2.2.2.1) (ninS hnes.2.2.2.2.2.2.2.2.2.2.2.2.2.2.2.2.2.2.2.2.2.2.2.2.2.2.2.2.2.2.2.2.2.2.1 (ninS (Ne.symm hnes.2.2.2.2.2.2.2.2.2.2.2.2.2.2.2.2.2.2.2.2.2.2.2.2.2.2.2.2.2.1) nin0)))))))
      have A1230 := A1214.keep K1224 (ninS (Ne.symm hnes.2.2.2.2.2.2.1) (ninS (Ne.symm hnes.2.2.2.2.2.2.2.2.2.2.2.1) (ninS (Ne.symm hnes.2.2.2.2.2.2.2.2.2.2.2.2.2.2.2.2.1) (ninS (Ne.symm hnes.2.2.2.2.2.2.2.2.2.2.2.2.2.2.2.2.2.2.2.2.2.1) (ninS (Ne.symm hnes.2.2.2.2.2.2.2.2.2.2.2.2.2.2.2.2.2.2.2.2.2.2.2.2.2.2.1) (ninS hnes.2.2.2.2.2.2.2.2.2.2.2.2.2.2.2.2.2.2.2.2.2.2.2.2.2.2.2.2.2.2.2.2.2.2.2.2.1 (ninS (Ne.symm hnes.2.2.2.2.2.2.2.2.2.2.2.2.2.2.2.2.2.2.2.2.2.2.2.2.2.2.2.2.2.2.1) nin0)))))))
      have A1231 := A1216.keep K1224 (ninS (Ne.symm hnes.2.2.2.2.2.2.2.2.1) (ninS (Ne.symm hnes.2.2.2.2.2.2.2.2.2.2.2.2.2.1) (ninS (Ne.symm hnes.2.2.2.2.2.2.2.2.2.2.2.2.2.2.2.2.2.2.1) (ninS (Ne.symm hnes.2.2.2.2.2.2.2.2.2.2.2.2.2.2.2.2.2.2.2.2.2.2.2.1) (ninS (Ne.symm hnes.2.2.2.2.2.2.2.2.2.2.2.2.2.2.2.2.2.2.2.2.2.2.2.2.2.2.2.2.1) (ninS (Ne.symm hnes.2.2.2.2.2.2.2.2.2.2.2.2.2.2.2.2.2.2.2.2.2.2.2.2.2.2.2.2.2.2.2.2.2.2.2.2.2.2) (ninS (Ne.symm hnes.2.2.2.2.2.2.2.2.2.2.2.2.2.2.2.2.2.2.2.2.2.2.2.2.2.2.2.2.2.2.2.2.1) nin0)))))))
      have K1232 := K1220.trans K1224 (allS (Or.inl (List.mem_of_getElem? (i := 0) rfl)) (allS (Or.inl (List.mem_of_getElem? (i := 1) rfl)) (allS (Or.inl (List.mem_of_getElem? (i := 2) rfl)) (allS (Or.inl (List.mem_of_getElem? (i := 3) rfl)) (allS (Or.inl (List.mem_of_getElem? (i := 4) rfl)) (allS (Or.inl (List.mem_of_getElem? (i := 7) rfl)) (allS (Or.inl (List.mem_of_getElem? (i := 8) rfl)) all0)))))))
      have Z1233 : n0 ≤ T1224.heap.size := Nat.le_trans Z1221 K1224.1
      obtain ⟨u1234E, u1234a, u1234b, u1234c, u1234d, u1234e, u1234o, ⟨u1234fi, u1234x⟩, ⟨u1234fs, u1234s⟩⟩ := hT1224
      obtain ⟨u1235E, u1235a, u1235b, u1235c, u1235d, u1235e, u1235f, u1235g⟩ := hS1224
      have Vz1224 : OwnAV Z T1224.heap nz .int 1 (fun i => (.int (own_l2 (0 : Int32) (0 : Int32) i))) := Vn1224.congr (fun j hj => by
          have q : j = 0 ∨ j = 1 := by omega
          rcases q with rfl | rfl <;> rfl)
      have Vy1224 : OwnAV Z T1224.heap lim .int 1 (fun i => (.int (own_l2 (0 : Int32) (0 : Int32) i))) := Vl1224
      have k1236 : ∀ t, Steps p.tables e below (T1224.setTop (mkF m 111 #[.val (.ref st), .val (.int (-1 : Int32)), .val (.int (0 : Int32)), .val (.long (x0 &&& m0)), .second] [])) t → Steps p.tables e below (s₁.setTop (entryFrame m #[(.ref st)] 5)) t := fun t hk => k1223 t (by
        show Steps p.tables e below (T1195.setTop (mkF m 97 #[.val (.ref st), .val (.int (0 : Int32)), .val (.int (0 : Int32)), .val (.long (x0 &&& m0)), .second] [(.int (lcmpW (x0 &&& m0) (0 : Int64)))])) _
        refine XS.ifNo X1195.here hx rfl (hb hby d8_97) rfl ((if0 _ _).trans (teq ((lw_eq _ _).mpr hc97)).2) ?_
        refine XS.aloadN X1195.here hx rfl (hb hby d8_100) rfl rfl ?_
        refine XS.iloadN X1195.here hx rfl (hb hby d8_101) rfl ?_
        refine st1224.trans ?_
        show Steps p.tables e below (T1224.setTop (mkF m 105 #[.val (.ref st), .val (.int (0 : Int32)), .val (.int (0 : Int32)), .val (.long (x0 &&& m0)), .second] [])) _
        refine XS.iinc X1224.here hx rfl (hb hby d8_105) rfl (l' := #[.val (.ref st), .val (.int (-1 : Int32)), .val (.int (0 : Int32)), .val (.long (x0 &&& m0)), .second]) rfl ?_
        refine XS.goto X1224.here hx rfl (pc0 := 108) (pc' := 9) rfl (hb hby d8_108) (by decide) (by decide) ?_
        refine XS.iloadN X1224.here hx rfl (hb hby d8_9) rfl ?_
        refine XS.ifYes X1224.here hx rfl (pc0 := 10) (pc' := 111) rfl (hb hby d8_10) rfl ((if0 _ _).trans (tlt (by decide : (-1 : Int32) < (0 : Int32))).1) (by decide) (by decide) ?_
        exact hk)
      obtain ⟨fs, hr, hrun, hended, hW, hsame⟩ := X1224.leave (v := none) (fun _ => rfl)
      refine ⟨_, _, k1236 _ ?_, hrun, hended, _, _, rfl, ?_, ⟨_, rfl⟩, hW, hsame.mono (by decide) (by decide)⟩
      · show Steps p.tables e below (T1224.setTop (mkF m 111 #[.val (.ref st), .val (.int (-1 : Int32)), .val (.int (0 : Int32)), .val (.long (x0 &&& m0)), .second] [])) _
        exact X1224.returnOut hx Bd.returns (hb hby d8_111) hr
      · show Qx1 Z st tr ow ix sv lim wo sa nz ma x0 x1 y0 y1 m0 m1 h0 n0 _ T1224.heap _
        exact ⟨rfl, N1224, K1232, _, (0 : Int32), (0 : Int32), (0 : Int32), ⟨u1235E, u1235a, u1235b, u1235c, u1235d, u1235e, u1235f, u1235g⟩, A1229, Vz1224, Vy1224, Or.inr ⟨rfl, hc97⟩⟩
    ·
      have k1237 : ∀ t, Steps p.tables e below (T1195.setTop (mkF m 111 #[.val (.ref st), .val (.int (-1 : Int32)), .val (.int (0 : Int32)), .val (.long (x0 &&& m0)), .second] [])) t → Steps p.tables e below (s₁.setTop (entryFrame m #[(.ref st)] 5)) t := fun t hk => k1223 t (by
        show Steps p.tables e below (T1195.setTop (mkF m 97 #[.val (.ref st), .val (.int (0 : Int32)), .val (.int (0 : Int32)), .val (.long (x0 &&& m0)), .second] [(.int (lcmpW (x0 &&& m0) (0 : Int64)))])) _
        refine XS.ifYes X1195.here hx rfl (pc0 := 97) (pc' := 105) rfl (hb hby d8_97) rfl ((if0 _ _).trans (feq (fun q => hc97 ((lw_eq _ _).mp q))).2) (by decide) (by decide) ?_
        refine XS.iinc X1195.here hx rfl (hb hby d8_105) rfl (l' := #[.val (.ref st), .val (.int (-1 : Int32)), .val (.int (0 : Int32)), .val (.long (x0 &&& m0)), .second]) rfl ?_
        refine XS.goto X1195.here hx rfl (pc0 := 108) (pc' := 9) rfl (hb hby d8_108) (by decide) (by decide) ?_
        refine XS.iloadN X1195.here hx rfl (hb hby d8_9) rfl ?_
        show Steps p.tables e below (T1195.setTop (mkF m 10 #[.val (.ref st), .val (.int (-1 : Int32)), .val (.int (0 : Int32)), .val (.long (x0 &&& m0)), .second] [(.int (-1 : Int32))])) _
        refine XS.ifYes X1195.here hx rfl (pc0 := 10) (pc' := 111) rfl (hb hby d8_10) rfl ((if0 _ _).trans (tlt (by decide : (-1 : Int32) < (0 : Int32))).1) (by decide) (by decide) ?_
        exact hk)
      obtain ⟨fs, hr, hrun, hended, hW, hsame⟩ := X1195.leave (v := none) (fun _ => rfl)
      refine ⟨_, _, k1237 _ ?_, hrun, hended, _, _, rfl, ?_, ⟨_, rfl⟩, hW, hsame.mono (by decide) (by decide)⟩
      · show Steps p.tables e below (T1195.setTop (mkF m 111 #[.val (.ref st), .val (.int (-1 : Int32)), .val (.int (0 : Int32)), .val (.long (x0 &&& m0)), .second] [])) _
        exact X1195.returnOut hx Bd.returns (hb hby d8_111) hr
      · show Qx1 Z st tr ow ix sv lim wo sa nz ma x0 x1 y0 y1 m0 m1 h0 n0 _ T1195.heap _
        rw [e1195]
        exact ⟨rfl, N1222, K1220, _, (1 : Int32), (0 : Int32), (0 : Int32), ⟨E1210, F1197, F1198, F1199, F1200, F1201, F1202, F1203⟩, A1196, A1215, A1213, Or.inl ⟨rfl, rfl⟩⟩
def Qy1 (Z : State) (st : Addr) (qu : Addr) (tr : Addr) (lim : Addr) (wo : Addr) (sa : Addr) (nz : Addr) (ma : Addr) (ls : Int64) (x0 : Int64) (x1 : Int64) (q0 : Int64) (q1 : Int64) (lm : Int32) (z0 : Int32) (z1 : Int32) (h0 : Heap) (n0 : Nat) (v : Option Value) (h : Heap) (L : List Loc) : Prop := ∃ rr : Int32, v = some (.int rr) ∧ (((rr = (-1 : Int32) ∧ (x0 &&& q0) = (0 : Int64)) ∨ (rr = (0 : Int32) ∧ ¬ (x0 &&& q0) = (0 : Int64)))) ∧ Fr n0 L ∧ h = h0
set_option maxRecDepth 65536 in
set_option maxHeartbeats 40000000 in
theorem rmy1 (l : Launch) (Z : State) (a0 : Array Value) (hw : ∀ d ∈ tables_1, d.before a0 Z = true) (ws : List Jvm.Cond) (st : Addr) (qu : Addr) (tr : Addr) (lim : Addr) (wo : Addr) (sa : Addr) (nz : Addr) (ma : Addr) (ls : Int64) (x0 : Int64) (x1 : Int64) (q0 : Int64) (q1 : Int64) (lm : Int32) (z0 : Int32) (z1 : Int32) (h0 : Heap) (n0 : Nat) (Z0 : n0 ≤ h0.size) (hS : OwnSet Z h0 st tr lim wo sa nz ma ls) (Vl : OwnAV Z h0 lim .int 1 (fun i => (.int (own_l2 lm (0 : Int32) i)))) (Vo : OwnAV Z h0 wo .long 1 (fun i => (.long (own_l2 x0 x1 i)))) (Vn : OwnAV Z h0 nz .int 1 (fun i => (.int (own_l2 z0 z1 i)))) (Vq : OwnAV Z h0 qu .long 2 (fun i => (.long (own_l2 q0 q1 i)))) (hpr : (lm = (1 : Int32) ∧ z0 = (0 : Int32)) ∨ (lm = (0 : Int32) ∧ x0 = (0 : Int64))) :
    MetFree l (⟨"com/example/faultline/faultline/engine/ReversibleBitSet", "intersectIndex", "([J)I"⟩ : MethodName) (head1 (Jvm.Cond.code (⟨"com/example/faultline/faultline/engine/ReversibleBitSet", "intersectIndex", "([J)I"⟩ : MethodName) prog_44_method_13_code 4 (some .int) :: ws) ({ frames := 0, cells := 0, slots := 0, locals := 0 } : Room)) (fun a U => a = #[(.ref st), (.ref qu)] ∧ Z.Warmed39 U.vm ∧ U.heap = h0) (fun _ _ _ _ _ => True) (fun _ U o U' => ∃ v L, o = .returned v ∧ Qy1 Z st qu tr lim wo sa nz ma ls x0 x1 q0 q1 lm z0 z1 h0 n0 v U'.heap L ∧ FrameEnd U o U' L ({ frames := 0, cells := 0, slots := 0, locals := 0 } : Room).cells ({ frames := 0, cells := 0, slots := 0, locals := 0 } : Room).slots) := by
  refine MetFree.of_bodySF (plainFor_of_name pn_9) hisR ?_
  intro p e s m args below meth c s₁ Bd hml0 hP hK
  obtain ⟨rfl, hZ, hh⟩ := hP
  have hx := Bd.exec
  have hby := Bd.bytes
  have hml : c.maxLocals = 4 := hml0
  have hown : s.vm.findClass "com/example/faultline/faultline/engine/ReversibleBitSet" = some m.cls := findClass_of_methodNamed Bd.named
  have hnm := (name_of_methodNamed Bd.named Bd.method).1
  have X0 : Stand p l e ({ frames := 0, cells := 0, slots := 0, locals := 0 } : Room) s m #[(.ref st), (.ref qu)] below meth c s₁ [] 0 0 := Stand.of_body Bd
  have e0 : s₁.heap = h0 := by rw [← hh, Bd.state]; rfl
  have N0 := Fr.nil n0
  have pre0 : ∀ t, Steps p.tables e below (s₁.setTop (mkF m 0 #[.val (.ref st), .val (.ref qu), .unset, .unset] [])) t → Steps p.tables e below (s₁.setTop (entryFrame m #[(.ref st), (.ref qu)] 4)) t := fun t k => castTop (ef_9 m st qu) k
  rcases hpr with ⟨rfl, rfl⟩ | ⟨rfl, w0⟩
  ·
    obtain ⟨u1238E, u1238a, u1238b, u1238c, u1238d, u1238e, u1238f, u1238g⟩ := hS
    obtain ⟨T1239, X1239, e1239, st1239⟩ := getF X0 hx hZ hown (host := "") (Or.inl (hw _ (List.mem_of_getElem? (i := 30) rfl))) Via.refl e0 u1238b (g := (mkF m 4 #[.val (.ref st), .val (.ref qu), .val (.int (0 : Int32)), .unset] [(.ref st), (.int (0 : Int32))])) rfl rfl (hb hby d9_4)
    obtain ⟨T1240, X1240, e1240, st1240⟩ := getF X1239 hx hZ hown (host := "") (Or.inl (hw _ (List.mem_of_getElem? (i := 50) rfl))) Via.refl e1239 u1238e (g := (mkF m 13 #[.val (.ref st), .val (.ref qu), .val (.int (0 : Int32)), .unset] [(.ref st)])) rfl rfl (hb hby d9_13)
    obtain ⟨T1241, X1241, e1241, st1241⟩ := getF X1240 hx hZ hown (host := "") (Or.inl (hw _ (List.mem_of_getElem? (i := 46) rfl))) Via.refl e1240 u1238c (g := (mkF m 20 #[.val (.ref st), .val (.ref qu), .val (.int (0 : Int32)), .val (.int (0 : Int32))] [(.ref st)])) rfl rfl (hb hby d9_20)
    have k1242 : ∀ t, Steps p.tables e below (T1241.setTop (mkF m 31 #[.val (.ref st), .val (.ref qu), .val (.int (0 : Int32)), .val (.int (0 : Int32))] [(.int (lcmpW (x0 &&& q0) (0 : Int64)))])) t → Steps p.tables e below (s₁.setTop (entryFrame m #[(.ref st), (.ref qu)] 4)) t := fun t hk => pre0 t (by
      show Steps p.tables e below (s₁.setTop (mkF m 0 #[.val (.ref st), .val (.ref qu), .unset, .unset] [])) _
      refine XS.iconst X0.here hx rfl (hb hby d9_0) ?_
      refine XS.istoreN X0.here hx rfl (hb hby d9_1) rfl (l' := #[.val (.ref st), .val (.ref qu), .val (.int (0 : Int32)), .unset]) rfl ?_
      refine XS.iloadN X0.here hx rfl (hb hby d9_2) rfl ?_
      refine XS.aloadN X0.here hx rfl (hb hby d9_3) rfl rfl ?_
      show Steps p.tables e below (s₁.setTop (mkF m 4 #[.val (.ref st), .val (.ref qu), .val (.int (0 : Int32)), .unset] [(.ref st), (.int (0 : Int32))])) _
      refine st1239 _ ?_
      refine XS.iconst X1239.here hx rfl (hb hby d9_7) ?_
      refine own_iald X1239 hx hZ e1239 Vl (k := 0) ⟨by decide, rfl, by decide⟩ rfl (g := (mkF m 8 #[.val (.ref st), .val (.ref qu), .val (.int (0 : Int32)), .unset] [(.int (0 : Int32)), (.ref lim), (.int (0 : Int32))])) rfl rfl (hb hby d9_8) _ ?_
      refine XS.icmpNo X1239.here hx rfl (hb hby d9_9) rfl (tlt (by decide : (0 : Int32) < (1 : Int32))).2.1 ?_
      show Steps p.tables e below (T1239.setTop (mkF m 12 #[.val (.ref st), .val (.ref qu), .val (.int (0 : Int32)), .unset] [])) _
      refine XS.aloadN X1239.here hx rfl (hb hby d9_12) rfl rfl ?_
      refine st1240 _ ?_
      refine XS.iloadN X1240.here hx rfl (hb hby d9_16) rfl ?_
      refine own_iald X1240 hx hZ e1240 Vn (k := 0) ⟨by decide, rfl, by decide⟩ rfl (g := (mkF m 17 #[.val (.ref st), .val (.ref qu), .val (.int (0 : Int32)), .unset] [(.int (0 : Int32)), (.ref nz)])) rfl rfl (hb hby d9_17) _ ?_
      show Steps p.tables e below (T1240.setTop (mkF m 18 #[.val (.ref st), .val (.ref qu), .val (.int (0 : Int32)), .unset] [(.int (0 : Int32))])) _
      refine XS.istoreN X1240.here hx rfl (hb hby d9_18) rfl (l' := #[.val (.ref st), .val (.ref qu), .val (.int (0 : Int32)), .val (.int (0 : Int32))]) rfl ?_
      refine XS.aloadN X1240.here hx rfl (hb hby d9_19) rfl rfl ?_
      refine st1241 _ ?_
      refine XS.iloadN X1241.here hx rfl (hb hby d9_23) rfl ?_
      show Steps p.tables e below (T1241.setTop (mkF m 24 #[.val (.ref st), .val (.ref qu), .val (.int (0 : Int32)), .val (.int (0 : Int32))] [(.int (0 : Int32)), (.ref wo)])) _
      refine own_lald X1241 hx hZ e1241 Vo (k := 0) ⟨by decide, rfl, by decide⟩ rfl (g := (mkF m 24 #[.val (.ref st), .val (.ref qu), .val (.int (0 : Int32)), .val (.int (0 : Int32))] [(.int (0 : Int32)), (.ref wo)])) rfl rfl (hb hby d9_24) _ ?_
      refine XS.aloadN X1241.here hx rfl (hb hby d9_25) rfl rfl ?_
      refine XS.iloadN X1241.here hx rfl (hb hby d9_26) rfl ?_
      refine own_lald X1241 hx hZ e1241 Vq (k := 0) ⟨by decide, rfl, by decide⟩ rfl (g := (mkF m 27 #[.val (.ref st), .val (.ref qu), .val (.int (0 : Int32)), .val (.int (0 : Int32))] [(.int (0 : Int32)), (.ref qu), (.long x0)])) rfl rfl (hb hby d9_27) _ ?_
      show Steps p.tables e below (T1241.setTop (mkF m 28 #[.val (.ref st), .val (.ref qu), .val (.int (0 : Int32)), .val (.int (0 : Int32))] [(.long q0), (.long x0)])) _
      refine XS.land X1241.here hx rfl (hb hby d9_28) rfl ?_
      refine XS.lconst X1241.here hx rfl (hb hby d9_29) ?_
      refine XS.lcmp X1241.here hx rfl (hb hby d9_30) rfl ?_
      exact hk)
    by_cases hc31 : (x0 &&& q0) = (0 : Int64)
    ·
      obtain ⟨T1243, X1243, e1243, st1243⟩ := getF X1241 hx hZ hown (host := "") (Or.inl (hw _ (List.mem_of_getElem? (i := 30) rfl))) Via.refl e1241 u1238b (g := (mkF m 4 #[.val (.ref st), .val (.ref qu), .val (.int (1 : Int32)), .val (.int (0 : Int32))] [(.ref st), (.int (1 : Int32))])) rfl rfl (hb hby d9_4)
      have k1244 : ∀ t, Steps p.tables e below (T1243.setTop (mkF m 43 #[.val (.ref st), .val (.ref qu), .val (.int (1 : Int32)), .val (.int (0 : Int32))] [(.int (-1 : Int32))])) t → Steps p.tables e below (s₁.setTop (entryFrame m #[(.ref st), (.ref qu)] 4)) t := fun t hk => k1242 t (by
        show Steps p.tables e below (T1241.setTop (mkF m 31 #[.val (.ref st), .val (.ref qu), .val (.int (0 : Int32)), .val (.int (0 : Int32))] [(.int (lcmpW (x0 &&& q0) (0 : Int64)))])) _
        refine XS.ifYes X1241.here hx rfl (pc0 := 31) (pc' := 36) rfl (hb hby d9_31) rfl ((if0 _ _).trans (teq ((lw_eq _ _).mpr hc31)).1) (by decide) (by decide) ?_
        refine XS.iinc X1241.here hx rfl (hb hby d9_36) rfl (l' := #[.val (.ref st), .val (.ref qu), .val (.int (1 : Int32)), .val (.int (0 : Int32))]) rfl ?_
        refine XS.goto X1241.here hx rfl (pc0 := 39) (pc' := 2) rfl (hb hby d9_39) (by decide) (by decide) ?_
        refine XS.iloadN X1241.here hx rfl (hb hby d9_2) rfl ?_
        show Steps p.tables e below (T1241.setTop (mkF m 3 #[.val (.ref st), .val (.ref qu), .val (.int (1 : Int32)), .val (.int (0 : Int32))] [(.int (1 : Int32))])) _
        refine XS.aloadN X1241.here hx rfl (hb hby d9_3) rfl rfl ?_
        refine st1243 _ ?_
        refine XS.iconst X1243.here hx rfl (hb hby d9_7) ?_
        refine own_iald X1243 hx hZ e1243 Vl (k := 0) ⟨by decide, rfl, by decide⟩ rfl (g := (mkF m 8 #[.val (.ref st), .val (.ref qu), .val (.int (1 : Int32)), .val (.int (0 : Int32))] [(.int (0 : Int32)), (.ref lim), (.int (1 : Int32))])) rfl rfl (hb hby d9_8) _ ?_
        show Steps p.tables e below (T1243.setTop (mkF m 9 #[.val (.ref st), .val (.ref qu), .val (.int (1 : Int32)), .val (.int (0 : Int32))] [(.int (1 : Int32)), (.int (1 : Int32))])) _
        refine XS.icmpYes X1243.here hx rfl (pc0 := 9) (pc' := 42) rfl (hb hby d9_9) rfl (flt (by decide : ¬ ((1 : Int32) < (1 : Int32)))).2.1 (by decide) (by decide) ?_
        refine XS.iconst X1243.here hx rfl (hb hby d9_42) ?_
        exact hk)
      obtain ⟨fs, hr, hrun, hended, hW, hsame⟩ := X1243.leave (v := some (.int (-1 : Int32))) (fun h => by rw [Bd.returns] at h; cases h)
      refine ⟨_, _, k1244 _ ?_, hrun, hended, _, _, rfl, ?_, ⟨_, rfl⟩, hW, hsame.mono (by decide) (by decide)⟩
      · show Steps p.tables e below (T1243.setTop (mkF m 43 #[.val (.ref st), .val (.ref qu), .val (.int (1 : Int32)), .val (.int (0 : Int32))] [(.int (-1 : Int32))])) _
        exact retI X1243 hx Bd.returns (hb hby d9_43) hr
      · show Qy1 Z st qu tr lim wo sa nz ma ls x0 x1 q0 q1 (1 : Int32) (0 : Int32) z1 h0 n0 _ T1243.heap _
        rw [e1243]
        exact ⟨_, rfl, Or.inl ⟨rfl, hc31⟩, N0, rfl⟩
    ·
      have k1245 : ∀ t, Steps p.tables e below (T1241.setTop (mkF m 35 #[.val (.ref st), .val (.ref qu), .val (.int (0 : Int32)), .val (.int (0 : Int32))] [(.int (0 : Int32))])) t → Steps p.tables e below (s₁.setTop (entryFrame m #[(.ref st), (.ref qu)] 4)) t := fun t hk => k1242 t (by
        show Steps p.tables e below (T1241.setTop (mkF m 31 #[.val (.ref st), .val (.ref qu), .val (.int (0 : Int32)), .val (.int (0 : Int32))] [(.int (lcmpW (x0 &&& q0) (0 : Int64)))])) _
        refine XS.ifNo X1241.here hx rfl (hb hby d9_31) rfl ((if0 _ _).trans (feq (fun q => hc31 ((lw_eq _ _).mp q))).1) ?_
        refine XS.iloadN X1241.here hx rfl (hb hby d9_34) rfl ?_
        exact hk)
      obtain ⟨fs, hr, hrun, hended, hW, hsame⟩ := X1241.leave (v := some (.int (0 : Int32))) (fun h => by rw [Bd.returns] at h; cases h)
      refine ⟨_, _, k1245 _ ?_, hrun, hended, _, _, rfl, ?_, ⟨_, rfl⟩, hW, hsame.mono (by decide) (by decide)⟩
      · show Steps p.tables e below (T1241.setTop (mkF m 35 #[.val (.ref st), .val (.ref qu), .val (.int (0 : Int32)), .val (.int (0 : Int32))] [(.int (0 : Int32))])) _
        exact retI X1241 hx Bd.returns (hb hby d9_35) hr
      · show Qy1 Z st qu tr lim wo sa nz ma ls x0 x1 q0 q1 (1 : Int32) (0 : Int32) z1 h0 n0 _ T1241.heap _
        rw [e1241]
        exact ⟨_, rfl, Or.inr ⟨rfl, hc31⟩, N0, rfl⟩
  ·
    obtain ⟨u1246E, u1246a, u1246b, u1246c, u1246d, u1246e, u1246f, u1246g⟩ := hS
    obtain ⟨T1247, X1247, e1247, st1247⟩ := getF X0 hx hZ hown (host := "") (Or.inl (hw _ (List.mem_of_getElem? (i := 30) rfl))) Via.refl e0 u1246b (g := (mkF m 4 #[.val (.ref st), .val (.ref qu), .val (.int (0 : Int32)), .unset] [(.ref st), (.int (0 : Int32))])) rfl rfl (hb hby d9_4)
    have k1248 : ∀ t, Steps p.tables e below (T1247.setTop (mkF m 43 #[.val (.ref st), .val (.ref qu), .val (.int (0 : Int32)), .unset] [(.int (-1 : Int32))])) t → Steps p.tables e below (s₁.setTop (entryFrame m #[(.ref st), (.ref qu)] 4)) t := fun t hk => pre0 t (by
      show Steps p.tables e below (s₁.setTop (mkF m 0 #[.val (.ref st), .val (.ref qu), .unset, .unset] [])) _
      refine XS.iconst X0.here hx rfl (hb hby d9_0) ?_
      refine XS.istoreN X0.here hx rfl (hb hby d9_1) rfl (l' := #[.val (.ref st), .val (.ref qu), .val (.int (0 : Int32)), .unset]) rfl ?_
      refine XS.iloadN X0.here hx rfl (hb hby d9_2) rfl ?_
      refine XS.aloadN X0.here hx rfl (hb hby d9_3) rfl rfl ?_
      show Steps p.tables e below (s₁.setTop (mkF m 4 #[.val (.ref st), .val (.ref qu), .val (.int (0 : Int32)), .unset] [(.ref st), (.int (0 : Int32))])) _
      refine st1247 _ ?_
      refine XS.iconst X1247.here hx rfl (hb hby d9_7) ?_
      refine own_iald X1247 hx hZ e1247 Vl (k := 0) ⟨by decide, rfl, by decide⟩ rfl (g := (mkF m 8 #[.val (.ref st), .val (.ref qu), .val (.int (0 : Int32)), .unset] [(.int (0 : Int32)), (.ref lim), (.int (0 : Int32))])) rfl rfl (hb hby d9_8) _ ?_
      refine XS.icmpYes X1247.here hx rfl (pc0 := 9) (pc' := 42) rfl (hb hby d9_9) rfl (flt (by decide : ¬ ((0 : Int32) < (0 : Int32)))).2.1 (by decide) (by decide) ?_
      show Steps p.tables e below (T1247.setTop (mkF m 42 #[.val (.ref st), .val (.ref qu), .val (.int (0 : Int32)), .unset] [])) _
      refine XS.iconst X1247.here hx rfl (hb hby d9_42) ?_
      exact hk)
    obtain ⟨fs, hr, hrun, hended, hW, hsame⟩ := X1247.leave (v := some (.int (-1 : Int32))) (fun h => by rw [Bd.returns] at h; cases h)
    refine ⟨_, _, k1248 _ ?_, hrun, hended, _, _, rfl, ?_, ⟨_, rfl⟩, hW, hsame.mono (by decide) (by decide)⟩
    · show Steps p.tables e below (T1247.setTop (mkF m 43 #[.val (.ref st), .val (.ref qu), .val (.int (0 : Int32)), .unset] [(.int (-1 : Int32))])) _
      exact retI X1247 hx Bd.returns (hb hby d9_43) hr
    · show Qy1 Z st qu tr lim wo sa nz ma ls x0 x1 q0 q1 (0 : Int32) z0 z1 h0 n0 _ T1247.heap _
      rw [e1247]
      exact ⟨_, rfl, Or.inl ⟨rfl, (by rw [w0]; exact own_zand q0)⟩, N0, rfl⟩
def Qc2 (Z : State) (bits : Int32) (h0 : Heap) (n0 : Nat) (v : Option Value) (h : Heap) (L : List Loc) : Prop := v = some (.int (2 : Int32)) ∧ Fr n0 L ∧ h = h0
set_option maxRecDepth 65536 in
set_option maxHeartbeats 40000000 in
theorem rmc2 (l : Launch) (Z : State) (a0 : Array Value) (hw : ∀ d ∈ tables_1, d.before a0 Z = true) (ws : List Jvm.Cond) (bits : Int32) (h0 : Heap) (n0 : Nat) (Z0 : n0 ≤ h0.size) (hwc : (((bits + (64 : Int32)) - (1 : Int32)) / (64 : Int32)) = (2 : Int32)) :
    MetFree l (⟨"com/example/faultline/faultline/engine/ReversibleBitSet", "wordCount", "(I)I"⟩ : MethodName) (head1 (Jvm.Cond.code (⟨"com/example/faultline/faultline/engine/ReversibleBitSet", "wordCount", "(I)I"⟩ : MethodName) prog_44_method_4_code 1 (some .int) :: ws) ({ frames := 0, cells := 0, slots := 0, locals := 0 } : Room)) (fun a U => a = #[(.int bits)] ∧ Z.Warmed39 U.vm ∧ U.heap = h0) (fun _ _ _ _ _ => True) (fun _ U o U' => ∃ v L, o = .returned v ∧ Qc2 Z bits h0 n0 v U'.heap L ∧ FrameEnd U o U' L ({ frames := 0, cells := 0, slots := 0, locals := 0 } : Room).cells ({ frames := 0, cells := 0, slots := 0, locals := 0 } : Room).slots) := by
  refine MetFree.of_bodySF (plainFor_of_name pn_6) hisR ?_
  intro p e s m args below meth c s₁ Bd hml0 hP hK
  obtain ⟨rfl, hZ, hh⟩ := hP
  have hx := Bd.exec
  have hby := Bd.bytes
  have hml : c.maxLocals = 1 := hml0
  have hown : s.vm.findClass "com/example/faultline/faultline/engine/ReversibleBitSet" = some m.cls := findClass_of_methodNamed Bd.named
  have hnm := (name_of_methodNamed Bd.named Bd.method).1
  have X0 : Stand p l e ({ frames := 0, cells := 0, slots := 0, locals := 0 } : Room) s m #[(.int bits)] below meth c s₁ [] 0 0 := Stand.of_body Bd
  have e0 : s₁.heap = h0 := by rw [← hh, Bd.state]; rfl
  have N0 := Fr.nil n0
  have pre0 : ∀ t, Steps p.tables e below (s₁.setTop (mkF m 0 #[.val (.int bits)] [])) t → Steps p.tables e below (s₁.setTop (entryFrame m #[(.int bits)] 1)) t := fun t k => castTop (ef_6 m bits) k
  have k1249 : ∀ t, Steps p.tables e below (s₁.setTop (mkF m 9 #[.val (.int bits)] [(.int (((bits + (64 : Int32)) - (1 : Int32)) / (64 : Int32)))])) t → Steps p.tables e below (s₁.setTop (entryFrame m #[(.int bits)] 1)) t := fun t hk => pre0 t (by
    show Steps p.tables e below (s₁.setTop (mkF m 0 #[.val (.int bits)] [])) _
    refine XS.iloadN X0.here hx rfl (hb hby d6_0) rfl ?_
    refine XS.bipush X0.here hx rfl (hb hby d6_1) ?_
    refine XS.iadd X0.here hx rfl (hb hby d6_3) rfl ?_
    refine XS.iconst X0.here hx rfl (hb hby d6_4) ?_
    show Steps p.tables e below (s₁.setTop (mkF m 5 #[.val (.int bits)] [(.int (1 : Int32)), (.int (bits + (64 : Int32)))])) _
    refine XS.isub X0.here hx rfl (hb hby d6_5) rfl ?_
    refine XS.bipush X0.here hx rfl (hb hby d6_6) ?_
    refine XS.idiv X0.here hx rfl (hb hby d6_8) rfl (by decide) ?_
    exact hk)
  obtain ⟨fs, hr, hrun, hended, hW, hsame⟩ := X0.leave (v := some (.int (((bits + (64 : Int32)) - (1 : Int32)) / (64 : Int32)))) (fun h => by rw [Bd.returns] at h; cases h)
  refine ⟨_, _, k1249 _ ?_, hrun, hended, _, _, rfl, ?_, ⟨_, rfl⟩, hW, hsame.mono (by decide) (by decide)⟩
  · show Steps p.tables e below (s₁.setTop (mkF m 9 #[.val (.int bits)] [(.int (((bits + (64 : Int32)) - (1 : Int32)) / (64 : Int32)))])) _
    exact retI X0 hx Bd.returns (hb hby d6_9) hr
  · show Qc2 Z bits h0 n0 _ s₁.heap _
    rw [e0]
    exact ⟨by rw [hwc], N0, rfl⟩
def Qw2 (Z : State) (bits : Int32) (h0 : Heap) (n0 : Nat) (v : Option Value) (h : Heap) (L : List Loc) : Prop := ∃ wo : Addr, v = some (.ref wo) ∧ h0.size ≤ wo ∧ Fr n0 L ∧ Keep h0 h [] ∧ OwnAV Z h wo .long 2 (fun i => (.long (own_l2 (0 : Int64) (0 : Int64) i))) ∧ Exa Z h wo "[J"
set_option maxRecDepth 65536 in
set_option maxHeartbeats 40000000 in
theorem rmw2 (l : Launch) (Z : State) (a0 : Array Value) (hw : ∀ d ∈ tables_1, d.before a0 Z = true) (ws : List Jvm.Cond) (bits : Int32) (h0 : Heap) (n0 : Nat) (Z0 : n0 ≤ h0.size) (hwc : (((bits + (64 : Int32)) - (1 : Int32)) / (64 : Int32)) = (2 : Int32)) :
    MetFree l (⟨"com/example/faultline/faultline/engine/ReversibleBitSet", "words", "(I)[J"⟩ : MethodName) (head1 (Jvm.Cond.code (⟨"com/example/faultline/faultline/engine/ReversibleBitSet", "words", "(I)[J"⟩ : MethodName) prog_44_method_2_code 1 (some (.array .long)) :: ws) ({ frames := 1, cells := 1, slots := 2, locals := 12 } : Room)) (fun a U => a = #[(.int bits)] ∧ Z.Warmed39 U.vm ∧ U.heap = h0) (fun _ _ _ _ _ => True) (fun _ U o U' => ∃ v L, o = .returned v ∧ Qw2 Z bits h0 n0 v U'.heap L ∧ FrameEnd U o U' L ({ frames := 1, cells := 1, slots := 2, locals := 12 } : Room).cells ({ frames := 1, cells := 1, slots := 2, locals := 12 } : Room).slots) := by
  refine MetFree.of_bodySF (plainFor_of_name pn_5) hisR ?_
  intro p e s m args below meth c s₁ Bd hml0 hP hK
  obtain ⟨rfl, hZ, hh⟩ := hP
  have hx := Bd.exec
  have hby := Bd.bytes
  have hml : c.maxLocals = 1 := hml0
  have hown : s.vm.findClass "com/example/faultline/faultline/engine/ReversibleBitSet" = some m.cls := findClass_of_methodNamed Bd.named
  have hnm := (name_of_methodNamed Bd.named Bd.method).1
  have X0 : Stand p l e ({ frames := 1, cells := 1, slots := 2, locals := 12 } : Room) s m #[(.int bits)] below meth c s₁ [] 0 0 := Stand.of_body Bd
  have e0 : s₁.heap = h0 := by rw [← hh, Bd.state]; rfl
  have N0 := Fr.nil n0
  have pre0 : ∀ t, Steps p.tables e below (s₁.setTop (mkF m 0 #[.val (.int bits)] [])) t → Steps p.tables e below (s₁.setTop (entryFrame m #[(.int bits)] 1)) t := fun t k => castTop (ef_5 m bits) k
  obtain ⟨_, _, ⟨T1250, L1250, k1250, n1250⟩, -, X1250, ⟨Lc1250, hQ1250, l1250, y1250, z1250⟩, st1250⟩ := Jvm.LawKit.callS X0 hx (y := (⟨"com/example/faultline/faultline/engine/ReversibleBitSet", "wordCount", "(I)I"⟩ : MethodName)) hown (mvT hZ (hw _ (List.mem_of_getElem? (i := 43) rfl))) (mvT hZ (hw _ (List.mem_of_getElem? (i := 44) rfl))) (mvT hZ (hw _ (List.mem_of_getElem? (i := 25) rfl))) (mvT hZ (hw _ (List.mem_of_getElem? (i := 45) rfl))) (by decide) (backOf (W := 0) (rmc2 l Z a0 hw [] bits  h0 n0 Z0 hwc) hZ (hw _ (List.mem_of_getElem? (i := 45) rfl)) (hw _ (List.mem_of_getElem? (i := 25) rfl)) (by decide) (by decide)) (g := (mkF m 1 #[.val (.int bits)] [(.int bits)])) rfl (by rw [hml]; rfl) (argsL := [(.int bits)]) (rest := []) (lenOf pd_4 rfl) rfl (by show 2 * 0 + _ ≤ _; exact Nat.le_of_eq rfl) (hb hby d5_1) (fun _ _ => ⟨rfl, e0, (by decide : 0 + 0 ≤ _), (by decide : 0 + 0 ≤ _)⟩)
  dsimp only [Pt.U, Pt.locs, Pt.cells, Pt.slots] at X1250 l1250 y1250 z1250 st1250 hQ1250
  subst l1250 y1250 z1250
  obtain ⟨rfl, N1250q, e1250⟩ := hQ1250
  have N1250 := Fr.app N0 N1250q
  obtain ⟨T1251, h1251, k1251, X1251, e1251, E1251, A1251, Y1251, st1251⟩ := newPE X1250 hx hZ (hw _ (List.mem_of_getElem? (i := 16) rfl)) e1250 (g := (mkF m 4 #[.val (.int bits)] [(.int (2 : Int32))])) rfl (hb hby d5_4) rfl (by decide) (cap := 2) (by decide) (by decide) (by decide) (by decide) (ad := "[J") (by decide)
  obtain ⟨b1251, g1251⟩ : ∃ z, z = h0.size := ⟨_, rfl⟩
  have g1252 : n0 ≤ b1251 := g1251 ▸ Z0
  have s1253 : h0.size ≤ b1251 := g1251 ▸ (Keep.refl h0 []).1
  rw [← g1251] at A1251 Y1251 st1251
  have K1254 := (Keep.refl h0 []).ext E1251
  have Z1255 : n0 ≤ h1251.size := Nat.le_trans Z0 E1251.1
  have A1256 : OwnAV Z h1251 b1251 .long 2 (fun i => (.long ((fun _ => (0 : Int64)) i))) := OwnAV.new A1251 rfl (by decide)
  have A1257 : OwnAV Z h1251 b1251 .long 2 (fun i => (.long ((own_l2 (0 : Int64) (0 : Int64)) i))) := A1256.congr (fun j hj => by
      have q : j = 0 ∨ j = 1 := by omega
      rcases q with rfl | rfl <;> rfl)
  have k1258 : ∀ t, Steps p.tables e below (T1251.setTop (mkF m 6 #[.val (.int bits)] [(.ref b1251)])) t → Steps p.tables e below (s₁.setTop (entryFrame m #[(.int bits)] 1)) t := fun t hk => pre0 t (by
    show Steps p.tables e below (s₁.setTop (mkF m 0 #[.val (.int bits)] [])) _
    refine XS.iloadN X0.here hx rfl (hb hby d5_0) rfl ?_
    refine st1250 _ ?_
    refine st1251 _ ?_
    exact hk)
  obtain ⟨fs, hr, hrun, hended, hW, hsame⟩ := X1251.leave (v := some (.ref b1251)) (fun h => by rw [Bd.returns] at h; cases h)
  refine ⟨_, _, k1258 _ ?_, hrun, hended, _, _, rfl, ?_, ⟨_, rfl⟩, hW, hsame.mono (by decide) (by decide)⟩
  · show Steps p.tables e below (T1251.setTop (mkF m 6 #[.val (.int bits)] [(.ref b1251)])) _
    exact retOut X1251 hx Bd.returns rfl (Or.inr (Or.inr (Or.inr (Or.inr ⟨rfl, rfl, rfl⟩)))) (hb hby d5_6) hr
  · show Qw2 Z bits h0 n0 _ T1251.heap _
    rw [e1251]
    exact ⟨_, rfl, s1253, N1250, K1254, A1257, Y1251⟩
def Qa2 (Z : State) (bits : Int32) (h0 : Heap) (n0 : Nat) (v : Option Value) (h : Heap) (L : List Loc) : Prop := ∃ (wo : Addr) (x0 x1 : Int64), v = some (.ref wo) ∧ h0.size ≤ wo ∧ Fr n0 L ∧ Keep h0 h [] ∧ OwnAV Z h wo .long 2 (fun i => (.long (own_l2 x0 x1 i))) ∧ Exa Z h wo "[J" ∧ x0 = (if (bits - (0 : Int32)) < (64 : Int32) then (((1 : Int64) <<< ((bits - (0 : Int32)) &&& 0x3f).toInt64) - (1 : Int64)) else (-1 : Int64)) ∧ x1 = (if (bits - (64 : Int32)) < (64 : Int32) then (((1 : Int64) <<< ((bits - (64 : Int32)) &&& 0x3f).toInt64) - (1 : Int64)) else (-1 : Int64))
set_option maxRecDepth 65536 in
set_option maxHeartbeats 40000000 in
theorem rma2 (l : Launch) (Z : State) (a0 : Array Value) (hw : ∀ d ∈ tables_1, d.before a0 Z = true) (ws : List Jvm.Cond) (bits : Int32) (h0 : Heap) (n0 : Nat) (Z0 : n0 ≤ h0.size) (hwc : (((bits + (64 : Int32)) - (1 : Int32)) / (64 : Int32)) = (2 : Int32)) :
    MetFree l (⟨"com/example/faultline/faultline/engine/ReversibleBitSet", "allSet", "(I)[J"⟩ : MethodName) (head1 (Jvm.Cond.code (⟨"com/example/faultline/faultline/engine/ReversibleBitSet", "allSet", "(I)[J"⟩ : MethodName) prog_44_method_3_code 4 (some (.array .long)) :: ws) ({ frames := 2, cells := 1, slots := 2, locals := 24 } : Room)) (fun a U => a = #[(.int bits)] ∧ Z.Warmed39 U.vm ∧ U.heap = h0) (fun _ _ _ _ _ => True) (fun _ U o U' => ∃ v L, o = .returned v ∧ Qa2 Z bits h0 n0 v U'.heap L ∧ FrameEnd U o U' L ({ frames := 2, cells := 1, slots := 2, locals := 24 } : Room).cells ({ frames := 2, cells := 1, slots := 2, locals := 24 } : Room).slots) := by
  refine MetFree.of_bodySF (plainFor_of_name pn_4) hisR ?_
  intro p e s m args below meth c s₁ Bd hml0 hP hK
  obtain ⟨rfl, hZ, hh⟩ := hP
  have hx := Bd.exec
  have hby := Bd.bytes
  have hml : c.maxLocals = 4 := hml0
  have hown : s.vm.findClass "com/example/faultline/faultline/engine/ReversibleBitSet" = some m.cls := findClass_of_methodNamed Bd.named
  have hnm := (name_of_methodNamed Bd.named Bd.method).1
  have X0 : Stand p l e ({ frames := 2, cells := 1, slots := 2, locals := 24 } : Room) s m #[(.int bits)] below meth c s₁ [] 0 0 := Stand.of_body Bd
  have e0 : s₁.heap = h0 := by rw [← hh, Bd.state]; rfl
  have N0 := Fr.nil n0
  have pre0 : ∀ t, Steps p.tables e below (s₁.setTop (mkF m 0 #[.val (.int bits), .unset, .unset, .unset] [])) t → Steps p.tables e below (s₁.setTop (entryFrame m #[(.int bits)] 4)) t := fun t k => castTop (ef_4 m bits) k
  obtain ⟨_, _, ⟨T1259, L1259, k1259, n1259⟩, -, X1259, ⟨Lc1259, hQ1259, l1259, y1259, z1259⟩, st1259⟩ := Jvm.LawKit.callS X0 hx (y := (⟨"com/example/faultline/faultline/engine/ReversibleBitSet", "words", "(I)[J"⟩ : MethodName)) hown (mvT hZ (hw _ (List.mem_of_getElem? (i := 40) rfl))) (mvT hZ (hw _ (List.mem_of_getElem? (i := 41) rfl))) (mvT hZ (hw _ (List.mem_of_getElem? (i := 25) rfl))) (mvT hZ (hw _ (List.mem_of_getElem? (i := 42) rfl))) (by decide) (backOf (W := 0) (rmw2 l Z a0 hw [] bits  h0 n0 Z0 hwc) hZ (hw _ (List.mem_of_getElem? (i := 42) rfl)) (hw _ (List.mem_of_getElem? (i := 25) rfl)) (by decide) (by decide)) (g := (mkF m 1 #[.val (.int bits), .unset, .unset, .unset] [(.int bits)])) rfl (by rw [hml]; rfl) (argsL := [(.int bits)]) (rest := []) (lenOf pd_5 rfl) rfl (by show 2 * 0 + _ ≤ _; exact Nat.le_of_eq rfl) (hb hby d4_1) (fun _ _ => ⟨rfl, e0, (by decide : 0 + 1 ≤ _), (by decide : 0 + 2 ≤ _)⟩)
  dsimp only [Pt.U, Pt.locs, Pt.cells, Pt.slots] at X1259 l1259 y1259 z1259 st1259 hQ1259
  subst l1259 y1259 z1259
  obtain ⟨wo, rfl, so, N1259q, K1259, Vo, Eo⟩ := hQ1259
  have N1259 := Fr.app N0 N1259q
  have K1260 := (Keep.refl h0 []).trans K1259 all0
  have Z1261 : n0 ≤ T1259.heap.size := Nat.le_trans Z0 K1259.1
  have go : n0 ≤ wo := Nat.le_trans Z0 so
  have k1262 : ∀ t, Steps p.tables e below (T1259.setTop (mkF m 25 #[.val (.int bits), .val (.ref wo), .val (.int (0 : Int32)), .val (.int (bits - (0 : Int32)))] [(.int (64 : Int32)), (.int (bits - (0 : Int32))), (.int (0 : Int32)), (.ref wo)])) t → Steps p.tables e below (s₁.setTop (entryFrame m #[(.int bits)] 4)) t := fun t hk => pre0 t (by
    show Steps p.tables e below (s₁.setTop (mkF m 0 #[.val (.int bits), .unset, .unset, .unset] [])) _
    refine XS.iloadN X0.here hx rfl (hb hby d4_0) rfl ?_
    refine st1259 _ ?_
    refine XS.astoreN X1259.here hx rfl (hb hby d4_4) rfl rfl (l' := #[.val (.int bits), .val (.ref wo), .unset, .unset]) rfl ?_
    refine XS.iconst X1259.here hx rfl (hb hby d4_5) ?_
    show Steps p.tables e below (T1259.setTop (mkF m 6 #[.val (.int bits), .val (.ref wo), .unset, .unset] [(.int (0 : Int32))])) _
    refine XS.istoreN X1259.here hx rfl (hb hby d4_6) rfl (l' := #[.val (.int bits), .val (.ref wo), .val (.int (0 : Int32)), .unset]) rfl ?_
    refine XS.iloadN X1259.here hx rfl (hb hby d4_7) rfl ?_
    refine XS.aloadN X1259.here hx rfl (hb hby d4_8) rfl rfl ?_
    refine own_len X1259 hx hZ rfl Vo (g := (mkF m 9 #[.val (.int bits), .val (.ref wo), .val (.int (0 : Int32)), .unset] [(.ref wo), (.int (0 : Int32))])) rfl rfl (hb hby d4_9) _ ?_
    show Steps p.tables e below (T1259.setTop (mkF m 10 #[.val (.int bits), .val (.ref wo), .val (.int (0 : Int32)), .unset] [(.int (2 : Int32)), (.int (0 : Int32))])) _
    refine XS.icmpNo X1259.here hx rfl (hb hby d4_10) rfl (tlt (by decide : (0 : Int32) < (2 : Int32))).2.1 ?_
    refine XS.iloadN X1259.here hx rfl (hb hby d4_13) rfl ?_
    refine XS.iloadN X1259.here hx rfl (hb hby d4_14) rfl ?_
    refine XS.bipush X1259.here hx rfl (hb hby d4_15) ?_
    show Steps p.tables e below (T1259.setTop (mkF m 17 #[.val (.int bits), .val (.ref wo), .val (.int (0 : Int32)), .unset] [(.int (64 : Int32)), (.int (0 : Int32)), (.int bits)])) _
    refine XS.imul X1259.here hx rfl (hb hby d4_17) rfl ?_
    refine XS.isub X1259.here hx rfl (hb hby d4_18) rfl ?_
    refine XS.istoreN X1259.here hx rfl (hb hby d4_19) rfl (l' := #[.val (.int bits), .val (.ref wo), .val (.int (0 : Int32)), .val (.int (bits - (0 : Int32)))]) rfl ?_
    refine XS.aloadN X1259.here hx rfl (hb hby d4_20) rfl rfl ?_
    show Steps p.tables e below (T1259.setTop (mkF m 21 #[.val (.int bits), .val (.ref wo), .val (.int (0 : Int32)), .val (.int (bits - (0 : Int32)))] [(.ref wo)])) _
    refine XS.iloadN X1259.here hx rfl (hb hby d4_21) rfl ?_
    refine XS.iloadN X1259.here hx rfl (hb hby d4_22) rfl ?_
    refine XS.bipush X1259.here hx rfl (hb hby d4_23) ?_
    exact hk)
  obtain ⟨x0, hx0, k1263⟩ : ∃ (x0 : Int64), (x0 = (if (bits - (0 : Int32)) < (64 : Int32) then (((1 : Int64) <<< ((bits - (0 : Int32)) &&& 0x3f).toInt64) - (1 : Int64)) else (-1 : Int64))) ∧ ∀ t, Steps p.tables e below (T1259.setTop (mkF m 39 #[.val (.int bits), .val (.ref wo), .val (.int (0 : Int32)), .val (.int (bits - (0 : Int32)))] [(.long x0), (.int (0 : Int32)), (.ref wo)])) t → Steps p.tables e below (s₁.setTop (entryFrame m #[(.int bits)] 4)) t := by
    by_cases hc25 : (bits - (0 : Int32)) < (64 : Int32)
    ·
      refine ⟨(((1 : Int64) <<< ((bits - (0 : Int32)) &&& 0x3f).toInt64) - (1 : Int64)), ((if_pos hc25).trans rfl).symm, fun t hk => k1262 t ?_⟩
      show Steps p.tables e below (T1259.setTop (mkF m 25 #[.val (.int bits), .val (.ref wo), .val (.int (0 : Int32)), .val (.int (bits - (0 : Int32)))] [(.int (64 : Int32)), (.int (bits - (0 : Int32))), (.int (0 : Int32)), (.ref wo)])) _
      refine XS.icmpYes X1259.here hx rfl (pc0 := 25) (pc' := 34) rfl (hb hby d4_25) rfl (tlt hc25).1 (by decide) (by decide) ?_
      refine XS.lconst X1259.here hx rfl (hb hby d4_34) ?_
      refine XS.iloadN X1259.here hx rfl (hb hby d4_35) rfl ?_
      refine XS.lshl X1259.here hx rfl (hb hby d4_36) rfl ?_
      show Steps p.tables e below (T1259.setTop (mkF m 37 #[.val (.int bits), .val (.ref wo), .val (.int (0 : Int32)), .val (.int (bits - (0 : Int32)))] [(.long ((1 : Int64) <<< ((bits - (0 : Int32)) &&& 0x3f).toInt64)), (.int (0 : Int32)), (.ref wo)])) _
      refine XS.lconst X1259.here hx rfl (hb hby d4_37) ?_
      refine XS.lsub X1259.here hx rfl (hb hby d4_38) rfl ?_
      exact hk
    ·
      refine ⟨(-1 : Int64), ((if_neg hc25).trans rfl).symm, fun t hk => k1262 t ?_⟩
      show Steps p.tables e below (T1259.setTop (mkF m 25 #[.val (.int bits), .val (.ref wo), .val (.int (0 : Int32)), .val (.int (bits - (0 : Int32)))] [(.int (64 : Int32)), (.int (bits - (0 : Int32))), (.int (0 : Int32)), (.ref wo)])) _
      refine XS.icmpNo X1259.here hx rfl (hb hby d4_25) rfl (flt hc25).1 ?_
      refine X1259.ldc2Long hx hown (mvT hZ (hw _ (List.mem_of_getElem? (i := 32) rfl))) (g := (mkF m 28 #[.val (.int bits), .val (.ref wo), .val (.int (0 : Int32)), .val (.int (bits - (0 : Int32)))] [(.int (0 : Int32)), (.ref wo)])) rfl (hb hby d4_28) _ ?_
      refine XS.goto X1259.here hx rfl (pc0 := 31) (pc' := 39) rfl (hb hby d4_31) (by decide) (by decide) ?_
      exact hk
  obtain ⟨T1264, h1264, X1264, e1264, W1264, st1264⟩ := own_last X1259 hx hZ rfl Vo (k := 0) ⟨by decide, rfl, by decide⟩ (g := (mkF m 39 #[.val (.int bits), .val (.ref wo), .val (.int (0 : Int32)), .val (.int (bits - (0 : Int32)))] [(.long x0), (.int (0 : Int32)), (.ref wo)])) rfl rfl (hb hby d4_39)
  have A1265 : OwnAV Z h1264 wo .long 2 (fun i => (.long ((own_l2 x0 (0 : Int64)) i))) := (Vo.storeJ W1264).congr (fun j hj => by
      have q : j = 0 ∨ j = 1 := by omega
      rcases q with rfl | rfl <;> rfl)
  have E1266 := Eo.wr W1264
  have K1267 := K1260.wr W1264 (Or.inr so)
  have Z1268 : n0 ≤ h1264.size := W1264.size ▸ Z1261
  have N1269 := Fr.snoc X1264 N1259 go
  have k1270 : ∀ t, Steps p.tables e below (T1264.setTop (mkF m 25 #[.val (.int bits), .val (.ref wo), .val (.int (1 : Int32)), .val (.int (bits - (64 : Int32)))] [(.int (64 : Int32)), (.int (bits - (64 : Int32))), (.int (1 : Int32)), (.ref wo)])) t → Steps p.tables e below (s₁.setTop (entryFrame m #[(.int bits)] 4)) t := fun t hk => k1263 t (by
    show Steps p.tables e below (T1259.setTop (mkF m 39 #[.val (.int bits), .val (.ref wo), .val (.int (0 : Int32)), .val (.int (bits - (0 : Int32)))] [(.long x0), (.int (0 : Int32)), (.ref wo)])) _
    refine st1264 _ ?_
    refine XS.iinc X1264.here hx rfl (hb hby d4_40) rfl (l' := #[.val (.int bits), .val (.ref wo), .val (.int (1 : Int32)), .val (.int (bits - (0 : Int32)))]) rfl ?_
    refine XS.goto X1264.here hx rfl (pc0 := 43) (pc' := 7) rfl (hb hby d4_43) (by decide) (by decide) ?_
    refine XS.iloadN X1264.here hx rfl (hb hby d4_7) rfl ?_
    show Steps p.tables e below (T1264.setTop (mkF m 8 #[.val (.int bits), .val (.ref wo), .val (.int (1 : Int32)), .val (.int (bits - (0 : Int32)))] [(.int (1 : Int32))])) _
    refine XS.aloadN X1264.here hx rfl (hb hby d4_8) rfl rfl ?_
    refine own_len X1264 hx hZ e1264 A1265 (g := (mkF m 9 #[.val (.int bits), .val (.ref wo), .val (.int (1 : Int32)), .val (.int (bits - (0 : Int32)))] [(.ref wo), (.int (1 : Int32))])) rfl rfl (hb hby d4_9) _ ?_
    refine XS.icmpNo X1264.here hx rfl (hb hby d4_10) rfl (tlt (by decide : (1 : Int32) < (2 : Int32))).2.1 ?_
    refine XS.iloadN X1264.here hx rfl (hb hby d4_13) rfl ?_
    show Steps p.tables e below (T1264.setTop (mkF m 14 #[.val (.int bits), .val (.ref wo), .val (.int (1 : Int32)), .val (.int (bits - (0 : Int32)))] [(.int bits)])) _
    refine XS.iloadN X1264.here hx rfl (hb hby d4_14) rfl ?_
    refine XS.bipush X1264.here hx rfl (hb hby d4_15) ?_
    refine XS.imul X1264.here hx rfl (hb hby d4_17) rfl ?_
    refine XS.isub X1264.here hx rfl (hb hby d4_18) rfl ?_
    show Steps p.tables e below (T1264.setTop (mkF m 19 #[.val (.int bits), .val (.ref wo), .val (.int (1 : Int32)), .val (.int (bits - (0 : Int32)))] [(.int (bits - (64 : Int32)))])) _
    refine XS.istoreN X1264.here hx rfl (hb hby d4_19) rfl (l' := #[.val (.int bits), .val (.ref wo), .val (.int (1 : Int32)), .val (.int (bits - (64 : Int32)))]) rfl ?_
    refine XS.aloadN X1264.here hx rfl (hb hby d4_20) rfl rfl ?_
    refine XS.iloadN X1264.here hx rfl (hb hby d4_21) rfl ?_
    refine XS.iloadN X1264.here hx rfl (hb hby d4_22) rfl ?_
    show Steps p.tables e below (T1264.setTop (mkF m 23 #[.val (.int bits), .val (.ref wo), .val (.int (1 : Int32)), .val (.int (bits - (64 : Int32)))] [(.int (bits - (64 : Int32))), (.int (1 : Int32)), (.ref wo)])) _
    refine XS.bipush X1264.here hx rfl (hb hby d4_23) ?_
    exact hk)
  obtain ⟨x1, hx1, k1271⟩ : ∃ (x1 : Int64), (x1 = (if (bits - (64 : Int32)) < (64 : Int32) then (((1 : Int64) <<< ((bits - (64 : Int32)) &&& 0x3f).toInt64) - (1 : Int64)) else (-1 : Int64))) ∧ ∀ t, Steps p.tables e below (T1264.setTop (mkF m 39 #[.val (.int bits), .val (.ref wo), .val (.int (1 : Int32)), .val (.int (bits - (64 : Int32)))] [(.long x1), (.int (1 : Int32)), (.ref wo)])) t → Steps p.tables e below (s₁.setTop (entryFrame m #[(.int bits)] 4)) t := by
    by_cases hc25 : (bits - (64 : Int32)) < (64 : Int32)
    ·
      refine ⟨(((1 : Int64) <<< ((bits - (64 : Int32)) &&& 0x3f).toInt64) - (1 : Int64)), ((if_pos hc25).trans rfl).symm, fun t hk => k1270 t ?_⟩
      show Steps p.tables e below (T1264.setTop (mkF m 25 #[.val (.int bits), .val (.ref wo), .val (.int (1 : Int32)), .val (.int (bits - (64 : Int32)))] [(.int (64 : Int32)), (.int (bits - (64 : Int32))), (.int (1 : Int32)), (.ref wo)])) _
      refine XS.icmpYes X1264.here hx rfl (pc0 := 25) (pc' := 34) rfl (hb hby d4_25) rfl (tlt hc25).1 (by decide) (by decide) ?_
      refine XS.lconst X1264.here hx rfl (hb hby d4_34) ?_
      refine XS.iloadN X1264.here hx rfl (hb hby d4_35) rfl ?_
      refine XS.lshl X1264.here hx rfl (hb hby d4_36) rfl ?_
      show Steps p.tables e below (T1264.setTop (mkF m 37 #[.val (.int bits), .val (.ref wo), .val (.int (1 : Int32)), .val (.int (bits - (64 : Int32)))] [(.long ((1 : Int64) <<< ((bits - (64 : Int32)) &&& 0x3f).toInt64)), (.int (1 : Int32)), (.ref wo)])) _
      refine XS.lconst X1264.here hx rfl (hb hby d4_37) ?_
      refine XS.lsub X1264.here hx rfl (hb hby d4_38) rfl ?_
      exact hk
    ·
      refine ⟨(-1 : Int64), ((if_neg hc25).trans rfl).symm, fun t hk => k1270 t ?_⟩
      show Steps p.tables e below (T1264.setTop (mkF m 25 #[.val (.int bits), .val (.ref wo), .val (.int (1 : Int32)), .val (.int (bits - (64 : Int32)))] [(.int (64 : Int32)), (.int (bits - (64 : Int32))), (.int (1 : Int32)), (.ref wo)])) _
      refine XS.icmpNo X1264.here hx rfl (hb hby d4_25) rfl (flt hc25).1 ?_
      refine X1264.ldc2Long hx hown (mvT hZ (hw _ (List.mem_of_getElem? (i := 32) rfl))) (g := (mkF m 28 #[.val (.int bits), .val (.ref wo), .val (.int (1 : Int32)), .val (.int (bits - (64 : Int32)))] [(.int (1 : Int32)), (.ref wo)])) rfl (hb hby d4_28) _ ?_
      refine XS.goto X1264.here hx rfl (pc0 := 31) (pc' := 39) rfl (hb hby d4_31) (by decide) (by decide) ?_
      exact hk
  obtain ⟨T1272, h1272, X1272, e1272, W1272, st1272⟩ := own_last X1264 hx hZ e1264 A1265 (k := 1) ⟨by decide, rfl, by decide⟩ (g := (mkF m 39 #[.val (.int bits), .val (.ref wo), .val (.int (1 : Int32)), .val (.int (bits - (64 : Int32)))] [(.long x1), (.int (1 : Int32)), (.ref wo)])) rfl rfl (hb hby d4_39)
  have A1273 : OwnAV Z h1272 wo .long 2 (fun i => (.long ((own_l2 x0 x1) i))) := (A1265.storeJ W1272).congr (fun j hj => by
      have q : j = 0 ∨ j = 1 := by omega
      rcases q with rfl | rfl <;> rfl)
  have E1274 := E1266.wr W1272
  have K1275 := K1267.wr W1272 (Or.inr so)
  have Z1276 : n0 ≤ h1272.size := W1272.size ▸ Z1268
  have N1277 := Fr.snoc X1272 N1269 go
  have k1278 : ∀ t, Steps p.tables e below (T1272.setTop (mkF m 47 #[.val (.int bits), .val (.ref wo), .val (.int (2 : Int32)), .val (.int (bits - (64 : Int32)))] [(.ref wo)])) t → Steps p.tables e below (s₁.setTop (entryFrame m #[(.int bits)] 4)) t := fun t hk => k1271 t (by
    show Steps p.tables e below (T1264.setTop (mkF m 39 #[.val (.int bits), .val (.ref wo), .val (.int (1 : Int32)), .val (.int (bits - (64 : Int32)))] [(.long x1), (.int (1 : Int32)), (.ref wo)])) _
    refine st1272 _ ?_
    refine XS.iinc X1272.here hx rfl (hb hby d4_40) rfl (l' := #[.val (.int bits), .val (.ref wo), .val (.int (2 : Int32)), .val (.int (bits - (64 : Int32)))]) rfl ?_
    refine XS.goto X1272.here hx rfl (pc0 := 43) (pc' := 7) rfl (hb hby d4_43) (by decide) (by decide) ?_
    refine XS.iloadN X1272.here hx rfl (hb hby d4_7) rfl ?_
    show Steps p.tables e below (T1272.setTop (mkF m 8 #[.val (.int bits), .val (.ref wo), .val (.int (2 : Int32)), .val (.int (bits - (64 : Int32)))] [(.int (2 : Int32))])) _
    refine XS.aloadN X1272.here hx rfl (hb hby d4_8) rfl rfl ?_
    refine own_len X1272 hx hZ e1272 A1273 (g := (mkF m 9 #[.val (.int bits), .val (.ref wo), .val (.int (2 : Int32)), .val (.int (bits - (64 : Int32)))] [(.ref wo), (.int (2 : Int32))])) rfl rfl (hb hby d4_9) _ ?_
    refine XS.icmpYes X1272.here hx rfl (pc0 := 10) (pc' := 46) rfl (hb hby d4_10) rfl (flt (by decide : ¬ ((2 : Int32) < (2 : Int32)))).2.1 (by decide) (by decide) ?_
    refine XS.aloadN X1272.here hx rfl (hb hby d4_46) rfl rfl ?_
    exact hk)
  obtain ⟨fs, hr, hrun, hended, hW, hsame⟩ := X1272.leave (v := some (.ref wo)) (fun h => by rw [Bd.returns] at h; cases h)
  refine ⟨_, _, k1278 _ ?_, hrun, hended, _, _, rfl, ?_, ⟨_, rfl⟩, hW, hsame.mono (by decide) (by decide)⟩
  · show Steps p.tables e below (T1272.setTop (mkF m 47 #[.val (.int bits), .val (.ref wo), .val (.int (2 : Int32)), .val (.int (bits - (64 : Int32)))] [(.ref wo)])) _
    exact retOut X1272 hx Bd.returns rfl (Or.inr (Or.inr (Or.inr (Or.inr ⟨rfl, rfl, rfl⟩)))) (hb hby d4_47) hr
  · show Qa2 Z bits h0 n0 _ T1272.heap _
    rw [e1272]
    exact ⟨wo, x0, x1, rfl, so, N1277, K1275, A1273, E1274, hx0, hx1⟩
def Qi2 (Z : State) (st : Addr) (tr : Addr) (bits : Int32) (h0 : Heap) (n0 : Nat) (v : Option Value) (h : Heap) (L : List Loc) : Prop := v = none ∧ Fr n0 L ∧ Keep h0 h [st] ∧ ∃ (lim wo sa nz ma : Addr) (x0 x1 y0 y1 : Int64), h0.size ≤ lim ∧ @LT.lt Nat instLTNat lim wo ∧ @LT.lt Nat instLTNat wo sa ∧ @LT.lt Nat instLTNat sa nz ∧ @LT.lt Nat instLTNat nz ma ∧ OwnSet Z h st tr lim wo sa nz ma (-1 : Int64) ∧ OwnAV Z h lim .int 1 (fun i => (.int (own_l2 (2 : Int32) (0 : Int32) i))) ∧ OwnAV Z h wo .long 2 (fun i => (.long (own_l2 x0 x1 i))) ∧ OwnAV Z h sa .long 2 (fun i => (.long (own_l2 y0 y1 i))) ∧ OwnAV Z h nz .int 2 (fun i => (.int (own_l2 (0 : Int32) (1 : Int32) i))) ∧ OwnAV Z h ma .long 2 (fun i => (.long (own_l2 (0 : Int64) (0 : Int64) i))) ∧ Exa Z h lim "[I" ∧ Exa Z h wo "[J" ∧ x0 = (if (bits - (0 : Int32)) < (64 : Int32) then (((1 : Int64) <<< ((bits - (0 : Int32)) &&& 0x3f).toInt64) - (1 : Int64)) else (-1 : Int64)) ∧ x1 = (if (bits - (64 : Int32)) < (64 : Int32) then (((1 : Int64) <<< ((bits - (64 : Int32)) &&& 0x3f).toInt64) - (1 : Int64)) else (-1 : Int64)) ∧ y0 = (-1 : Int64) ∧ y1 = (-1 : Int64)
set_option maxRecDepth 65536 in
set_option maxHeartbeats 40000000 in
theorem rmi2 (l : Launch) (Z : State) (a0 : Array Value) (hw : ∀ d ∈ tables_1, d.before a0 Z = true) (ws : List Jvm.Cond) (st : Addr) (tr : Addr) (bits : Int32) (h0 : Heap) (n0 : Nat) (Z0 : n0 ≤ h0.size) (hwc : (((bits + (64 : Int32)) - (1 : Int32)) / (64 : Int32)) = (2 : Int32)) (Ex : Exa Z h0 st "com/example/faultline/faultline/engine/ReversibleBitSet") (ga : n0 ≤ st) (F0 : Fld Z h0 st "com/example/faultline/faultline/engine/ReversibleBitSet" "trail" "Lcom/example/faultline/faultline/engine/Trail;" .null) (F1 : Fld Z h0 st "com/example/faultline/faultline/engine/ReversibleBitSet" "limit" "[I" .null) (F2 : Fld Z h0 st "com/example/faultline/faultline/engine/ReversibleBitSet" "words" "[J" .null) (F3 : Fld Z h0 st "com/example/faultline/faultline/engine/ReversibleBitSet" "savedIn" "[J" .null) (F4 : Fld Z h0 st "com/example/faultline/faultline/engine/ReversibleBitSet" "nonZero" "[I" .null) (F5 : Fld Z h0 st "com/example/faultline/faultline/engine/ReversibleBitSet" "mask" "[J" .null) (F6 : Fld Z h0 st "com/example/faultline/faultline/engine/ReversibleBitSet" "limitSavedIn" "J" (.long (0 : Int64))) :
    MetFree l (⟨"com/example/faultline/faultline/engine/ReversibleBitSet", "<init>", "(Lcom/example/faultline/faultline/engine/Trail;I)V"⟩ : MethodName) (head1 (Jvm.Cond.code (⟨"com/example/faultline/faultline/engine/ReversibleBitSet", "<init>", "(Lcom/example/faultline/faultline/engine/Trail;I)V"⟩ : MethodName) prog_44_method_1_code 4 none :: ws) ({ frames := 3, cells := 5, slots := 9, locals := 40 } : Room)) (fun a U => a = #[(.ref st), (.ref tr), (.int bits)] ∧ Z.Warmed39 U.vm ∧ U.heap = h0) (fun _ _ _ _ _ => True) (fun _ U o U' => ∃ v L, o = .returned v ∧ Qi2 Z st tr bits h0 n0 v U'.heap L ∧ FrameEnd U o U' L ({ frames := 3, cells := 5, slots := 9, locals := 40 } : Room).cells ({ frames := 3, cells := 5, slots := 9, locals := 40 } : Room).slots) := by
  refine MetFree.of_bodySF (plainFor_of_name pn_3) hisR ?_
  intro p e s m args below meth c s₁ Bd hml0 hP hK
  obtain ⟨rfl, hZ, hh⟩ := hP
  have hx := Bd.exec
  have hby := Bd.bytes
  have hml : c.maxLocals = 4 := hml0
  have hown : s.vm.findClass "com/example/faultline/faultline/engine/ReversibleBitSet" = some m.cls := findClass_of_methodNamed Bd.named
  have hnm := (name_of_methodNamed Bd.named Bd.method).1
  have X0 : Stand p l e ({ frames := 3, cells := 5, slots := 9, locals := 40 } : Room) s m #[(.ref st), (.ref tr), (.int bits)] below meth c s₁ [] 0 0 := Stand.of_body Bd
  have e0 : s₁.heap = h0 := by rw [← hh, Bd.state]; rfl
  have N0 := Fr.nil n0
  have pre0 : ∀ t, Steps p.tables e below (s₁.setTop (mkF m 0 #[.val (.ref st), .val (.ref tr), .val (.int bits), .unset] [])) t → Steps p.tables e below (s₁.setTop (entryFrame m #[(.ref st), (.ref tr), (.int bits)] 4)) t := fun t k => castTop (ef_3 m st tr bits) k
  obtain ⟨T1279, X1279, e1279, st1279⟩ := initO X0 hx hZ hown (hw _ (List.mem_of_getElem? (i := 29) rfl)) (hw _ (List.mem_of_getElem? (i := 7) rfl)) (hw _ (List.mem_of_getElem? (i := 8) rfl)) e0 (g := (mkF m 1 #[.val (.ref st), .val (.ref tr), .val (.int bits), .unset] [(.ref st)])) rfl (by rw [hml]; rfl) rfl (hb hby d3_1) (by decide) (W := 0) (by show 2 * 0 + _ ≤ _; exact Nat.le_of_eq rfl) (by decide)
  obtain ⟨T1280, h1280, k1280, X1280, e1280, E1280, A1280, Y1280, st1280⟩ := newPE X1279 hx hZ (hw _ (List.mem_of_getElem? (i := 13) rfl)) e1279 (g := (mkF m 6 #[.val (.ref st), .val (.ref tr), .val (.int bits), .unset] [(.int (1 : Int32)), (.ref st)])) rfl (hb hby d3_6) rfl (by decide) (cap := 1) (by decide) (by decide) (by decide) (by decide) (ad := "[I") (by decide)
  obtain ⟨b1280, g1280⟩ : ∃ z, z = h0.size := ⟨_, rfl⟩
  have ne1281 : st ≠ b1280 := fun q => absurd Ex.lt (by rw [q, g1280]; exact Nat.lt_irrefl _)
  have g1282 : n0 ≤ b1280 := g1280 ▸ Z0
  have s1283 : h0.size ≤ b1280 := g1280 ▸ (Keep.refl h0 [st]).1
  rw [← g1280] at A1280 Y1280 st1280
  have F1284 := F0.ext E1280
  have F1285 := F1.ext E1280
  have F1286 := F2.ext E1280
  have F1287 := F3.ext E1280
  have F1288 := F4.ext E1280
  have F1289 := F5.ext E1280
  have F1290 := F6.ext E1280
  have E1291 := Ex.ext E1280
  have K1292 := (Keep.refl h0 [st]).ext E1280
  have Z1293 : n0 ≤ h1280.size := Nat.le_trans Z0 E1280.1
  have A1294 : OwnAV Z h1280 b1280 .int 1 (fun i => (.int ((fun _ => (0 : Int32)) i))) := OwnAV.new A1280 rfl (by decide)
  have A1295 : OwnAV Z h1280 b1280 .int 1 (fun i => (.int ((own_l2 (0 : Int32) (0 : Int32)) i))) := A1294.congr (fun j hj => by
      have q : j = 0 ∨ j = 1 := by omega
      rcases q with rfl | rfl <;> rfl)
  obtain ⟨T1296, h1296, X1296, e1296, W1296, st1296⟩ := putF X1280 hx hZ hown (host := "") (Or.inl (hw _ (List.mem_of_getElem? (i := 30) rfl))) Via.refl e1280 F1285 E1291 (Or.inr ⟨(hw _ (List.mem_of_getElem? (i := 31) rfl)), rfl, hnm⟩) (hw _ (List.mem_of_getElem? (i := 24) rfl)) (ty := (.array .int)) (by decide) rfl rfl (g := (mkF m 8 #[.val (.ref st), .val (.ref tr), .val (.int bits), .unset] [(.ref b1280), (.ref st)])) rfl rfl (hb hby d3_8)
  have F1297 := F1284.other W1296 (Or.inr (slot_ne (Or.inr (hw _ (List.mem_of_getElem? (i := 36) rfl))) (Or.inr (hw _ (List.mem_of_getElem? (i := 31) rfl))) (by decide) (by decide : parseFieldDescriptor "Lcom/example/faultline/faultline/engine/Trail;" = some (.object "com/example/faultline/faultline/engine/Trail")) (by decide : parseFieldDescriptor "[I" = some (.array .int))))
  have F1298 := F1285.same W1296
  have F1299 := F1286.other W1296 (Or.inr (slot_ne (Or.inr (hw _ (List.mem_of_getElem? (i := 47) rfl))) (Or.inr (hw _ (List.mem_of_getElem? (i := 31) rfl))) (by decide) (by decide : parseFieldDescriptor "[J" = some (.array .long)) (by decide : parseFieldDescriptor "[I" = some (.array .int))))
  have F1300 := F1287.other W1296 (Or.inr (slot_ne (Or.inr (hw _ (List.mem_of_getElem? (i := 49) rfl))) (Or.inr (hw _ (List.mem_of_getElem? (i := 31) rfl))) (by decide) (by decide : parseFieldDescriptor "[J" = some (.array .long)) (by decide : parseFieldDescriptor "[I" = some (.array .int))))
  have F1301 := F1288.other W1296 (Or.inr (slot_ne (Or.inr (hw _ (List.mem_of_getElem? (i := 51) rfl))) (Or.inr (hw _ (List.mem_of_getElem? (i := 31) rfl))) (by decide) (by decide : parseFieldDescriptor "[I" = some (.array .int)) (by decide : parseFieldDescriptor "[I" = some (.array .int))))
  have F1302 := F1289.other W1296 (Or.inr (slot_ne (Or.inr (hw _ (List.mem_of_getElem? (i := 53) rfl))) (Or.inr (hw _ (List.mem_of_getElem? (i := 31) rfl))) (by decide) (by decide : parseFieldDescriptor "[J" = some (.array .long)) (by decide : parseFieldDescriptor "[I" = some (.array .int))))
  have F1303 := F1290.other W1296 (Or.inr (slot_ne (Or.inl (hw _ (List.mem_of_getElem? (i := 34) rfl))) (Or.inr (hw _ (List.mem_of_getElem? (i := 31) rfl))) (by decide) (by decide : parseFieldDescriptor "J" = some .long) (by decide : parseFieldDescriptor "[I" = some (.array .int))))
  have E1304 := E1291.wr W1296
  have E1305 := Y1280.wr W1296
  have A1306 := A1295.other W1296 (Ne.symm ne1281)
  have K1307 := K1292.wr W1296 (Or.inl (List.mem_of_getElem? (i := 0) rfl))
  have Z1308 : n0 ≤ h1296.size := W1296.size ▸ Z1293
  have N1309 := Fr.snoc X1296 N0 ga
  obtain ⟨T1310, h1310, X1310, e1310, W1310, st1310⟩ := putF X1296 hx hZ hown (host := "") (Or.inl (hw _ (List.mem_of_getElem? (i := 33) rfl))) Via.refl e1296 F1303 E1304 (Or.inl (hw _ (List.mem_of_getElem? (i := 34) rfl))) (hw _ (List.mem_of_getElem? (i := 24) rfl)) (ty := .long) (by decide) rfl rfl (g := (mkF m 15 #[.val (.ref st), .val (.ref tr), .val (.int bits), .unset] [(.long (-1 : Int64)), (.ref st)])) rfl rfl (hb hby d3_15)
  have F1311 := F1297.other W1310 (Or.inr (slot_ne (Or.inr (hw _ (List.mem_of_getElem? (i := 36) rfl))) (Or.inl (hw _ (List.mem_of_getElem? (i := 34) rfl))) (by decide) (by decide : parseFieldDescriptor "Lcom/example/faultline/faultline/engine/Trail;" = some (.object "com/example/faultline/faultline/engine/Trail")) (by decide : parseFieldDescriptor "J" = some .long)))
  have F1312 := F1298.other W1310 (Or.inr (slot_ne (Or.inr (hw _ (List.mem_of_getElem? (i := 31) rfl))) (Or.inl (hw _ (List.mem_of_getElem? (i := 34) rfl))) (by decide) (by decide : parseFieldDescriptor "[I" = some (.array .int)) (by decide : parseFieldDescriptor "J" = some .long)))
  have F1313 := F1299.other W1310 (Or.inr (slot_ne (Or.inr (hw _ (List.mem_of_getElem? (i := 47) rfl))) (Or.inl (hw _ (List.mem_of_getElem? (i := 34) rfl))) (by decide) (by decide : parseFieldDescriptor "[J" = some (.array .long)) (by decide : parseFieldDescriptor "J" = some .long)))
  have F1314 := F1300.other W1310 (Or.inr (slot_ne (Or.inr (hw _ (List.mem_of_getElem? (i := 49) rfl))) (Or.inl (hw _ (List.mem_of_getElem? (i := 34) rfl))) (by decide) (by decide : parseFieldDescriptor "[J" = some (.array .long)) (by decide : parseFieldDescriptor "J" = some .long)))
  have F1315 := F1301.other W1310 (Or.inr (slot_ne (Or.inr (hw _ (List.mem_of_getElem? (i := 51) rfl))) (Or.inl (hw _ (List.mem_of_getElem? (i := 34) rfl))) (by decide) (by decide : parseFieldDescriptor "[I" = some (.array .int)) (by decide : parseFieldDescriptor "J" = some .long)))
  have F1316 := F1302.other W1310 (Or.inr (slot_ne (Or.inr (hw _ (List.mem_of_getElem? (i := 53) rfl))) (Or.inl (hw _ (List.mem_of_getElem? (i := 34) rfl))) (by decide) (by decide : parseFieldDescriptor "[J" = some (.array .long)) (by decide : parseFieldDescriptor "J" = some .long)))
  have F1317 := F1303.same W1310
  have E1318 := E1304.wr W1310
  have E1319 := E1305.wr W1310
  have A1320 := A1306.other W1310 (Ne.symm ne1281)
  have K1321 := K1307.wr W1310 (Or.inl (List.mem_of_getElem? (i := 0) rfl))
  have Z1322 : n0 ≤ h1310.size := W1310.size ▸ Z1308
  have N1323 := Fr.snoc X1310 N1309 ga
  obtain ⟨T1324, h1324, X1324, e1324, W1324, st1324⟩ := putF X1310 hx hZ hown (host := "") (Or.inl (hw _ (List.mem_of_getElem? (i := 35) rfl))) Via.refl e1310 F1311 E1318 (Or.inr ⟨(hw _ (List.mem_of_getElem? (i := 36) rfl)), rfl, hnm⟩) (hw _ (List.mem_of_getElem? (i := 24) rfl)) (ty := (.object "com/example/faultline/faultline/engine/Trail")) (by decide) rfl rfl (g := (mkF m 20 #[.val (.ref st), .val (.ref tr), .val (.int bits), .unset] [(.ref tr), (.ref st)])) rfl rfl (hb hby d3_20)
  have F1325 := F1311.same W1324
  have F1326 := F1312.other W1324 (Or.inr (slot_ne (Or.inr (hw _ (List.mem_of_getElem? (i := 31) rfl))) (Or.inr (hw _ (List.mem_of_getElem? (i := 36) rfl))) (by decide) (by decide : parseFieldDescriptor "[I" = some (.array .int)) (by decide : parseFieldDescriptor "Lcom/example/faultline/faultline/engine/Trail;" = some (.object "com/example/faultline/faultline/engine/Trail"))))
  have F1327 := F1313.other W1324 (Or.inr (slot_ne (Or.inr (hw _ (List.mem_of_getElem? (i := 47) rfl))) (Or.inr (hw _ (List.mem_of_getElem? (i := 36) rfl))) (by decide) (by decide : parseFieldDescriptor "[J" = some (.array .long)) (by decide : parseFieldDescriptor "Lcom/example/faultline/faultline/engine/Trail;" = some (.object "com/example/faultline/faultline/engine/Trail"))))
  have F1328 := F1314.other W1324 (Or.inr (slot_ne (Or.inr (hw _ (List.mem_of_getElem? (i := 49) rfl))) (Or.inr (hw _ (List.mem_of_getElem? (i := 36) rfl))) (by decide) (by decide : parseFieldDescriptor "[J" = some (.array .long)) (by decide : parseFieldDescriptor "Lcom/example/faultline/faultline/engine/Trail;" = some (.object "com/example/faultline/faultline/engine/Trail"))))
  have F1329 := F1315.other W1324 (Or.inr (slot_ne (Or.inr (hw _ (List.mem_of_getElem? (i := 51) rfl))) (Or.inr (hw _ (List.mem_of_getElem? (i := 36) rfl))) (by decide) (by decide : parseFieldDescriptor "[I" = some (.array .int)) (by decide : parseFieldDescriptor "Lcom/example/faultline/faultline/engine/Trail;" = some (.object "com/example/faultline/faultline/engine/Trail"))))
  have F1330 := F1316.other W1324 (Or.inr (slot_ne (Or.inr (hw _ (List.mem_of_getElem? (i := 53) rfl))) (Or.inr (hw _ (List.mem_of_getElem? (i := 36) rfl))) (by decide) (by decide : parseFieldDescriptor "[J" = some (.array .long)) (by decide : parseFieldDescriptor "Lcom/example/faultline/faultline/engine/Trail;" = some (.object "com/example/faultline/faultline/engine/Trail"))))
  have F1331 := F1317.other W1324 (Or.inr (slot_ne (Or.inl (hw _ (List.mem_of_getElem? (i := 34) rfl))) (Or.inr (hw _ (List.mem_of_getElem? (i := 36) rfl))) (by decide) (by decide : parseFieldDescriptor "J" = some .long) (by decide : parseFieldDescriptor "Lcom/example/faultline/faultline/engine/Trail;" = some (.object "com/example/faultline/faultline/engine/Trail"))))
  have E1332 := E1318.wr W1324
  have E1333 := E1319.wr W1324
  have A1334 := A1320.other W1324 (Ne.symm ne1281)
  have K1335 := K1321.wr W1324 (Or.inl (List.mem_of_getElem? (i := 0) rfl))
  have Z1336 : n0 ≤ h1324.size := W1324.size ▸ Z1322
  have N1337 := Fr.snoc X1324 N1323 ga
  obtain ⟨_, _, ⟨T1338, L1338, k1338, n1338⟩, -, X1338, ⟨Lc1338, hQ1338, l1338, y1338, z1338⟩, st1338⟩ := Jvm.LawKit.callS X1324 hx (y := (⟨"com/example/faultline/faultline/engine/ReversibleBitSet", "allSet", "(I)[J"⟩ : MethodName)) hown (mvT hZ (hw _ (List.mem_of_getElem? (i := 37) rfl))) (mvT hZ (hw _ (List.mem_of_getElem? (i := 38) rfl))) (mvT hZ (hw _ (List.mem_of_getElem? (i := 25) rfl))) (mvT hZ (hw _ (List.mem_of_getElem? (i := 39) rfl))) (by decide) (backOf (W := 1) (rma2 l Z a0 hw [] bits  h1324 n0 Z1336 hwc) hZ (hw _ (List.mem_of_getElem? (i := 39) rfl)) (hw _ (List.mem_of_getElem? (i := 25) rfl)) (by decide) (by decide)) (g := (mkF m 25 #[.val (.ref st), .val (.ref tr), .val (.int bits), .unset] [(.int bits), (.ref st)])) rfl (by rw [hml]; rfl) (argsL := [(.int bits)]) (rest := [(.ref st)]) (lenOf pd_5 rfl) rfl (by show 2 * 0 + _ ≤ _; exact Nat.le_of_eq rfl) (hb hby d3_25) (fun _ _ => ⟨rfl, e1324, (by decide : 1 + 1 ≤ _), (by decide : 1 + 2 ≤ _)⟩)
  dsimp only [Pt.U, Pt.locs, Pt.cells, Pt.slots] at X1338 l1338 y1338 z1338 st1338 hQ1338
  subst l1338 y1338 z1338
  obtain ⟨wo, x0, x1, rfl, so, N1338q, K1338, Vo, Eo, hx0, hx1⟩ := hQ1338
  have N1338 := Fr.app N1337 N1338q
  have ne1339 : st ≠ wo := Nat.ne_of_lt (Nat.lt_of_lt_of_le E1332.lt so)
  have ne1340 : b1280 ≠ wo := Nat.ne_of_lt (Nat.lt_of_lt_of_le E1333.lt so)
  have lt_b1280_wo : @LT.lt Nat instLTNat b1280 wo := Nat.lt_of_lt_of_le E1333.lt so
  have go : n0 ≤ wo := Nat.le_trans Z1336 so
  have szo : h0.size ≤ wo := Nat.le_trans K1335.1 so
  have F1341 := F1325.keep K1338 nin0
  have F1342 := F1326.keep K1338 nin0
  have F1343 := F1327.keep K1338 nin0
  have F1344 := F1328.keep K1338 nin0
  have F1345 := F1329.keep K1338 nin0
  have F1346 := F1330.keep K1338 nin0
  have F1347 := F1331.keep K1338 nin0
  have E1348 := E1332.keep K1338
  have E1349 := E1333.keep K1338
  have A1350 := A1334.keep K1338 nin0
  have K1351 := K1335.trans K1338 all0
  have Z1352 : n0 ≤ T1338.heap.size := Nat.le_trans Z1336 K1338.1
  obtain ⟨T1353, h1353, X1353, e1353, W1353, st1353⟩ := putF X1338 hx hZ hown (host := "") (Or.inl (hw _ (List.mem_of_getElem? (i := 46) rfl))) Via.refl rfl F1343 E1348 (Or.inr ⟨(hw _ (List.mem_of_getElem? (i := 47) rfl)), rfl, hnm⟩) (hw _ (List.mem_of_getElem? (i := 24) rfl)) (ty := (.array .long)) (by decide) rfl rfl (g := (mkF m 28 #[.val (.ref st), .val (.ref tr), .val (.int bits), .unset] [(.ref wo), (.ref st)])) rfl rfl (hb hby d3_28)
  have F1354 := F1341.other W1353 (Or.inr (slot_ne (Or.inr (hw _ (List.mem_of_getElem? (i := 36) rfl))) (Or.inr (hw _ (List.mem_of_getElem? (i := 47) rfl))) (by decide) (by decide : parseFieldDescriptor "Lcom/example/faultline/faultline/engine/Trail;" = some (.object "com/example/faultline/faultline/engine/Trail")) (by decide : parseFieldDescriptor "[J" = some (.array .long))))
  have F1355 := F1342.other W1353 (Or.inr (slot_ne (Or.inr (hw _ (List.mem_of_getElem? (i := 31) rfl))) (Or.inr (hw _ (List.mem_of_getElem? (i := 47) rfl))) (by decide) (by decide : parseFieldDescriptor "[I" = some (.array .int)) (by decide : parseFieldDescriptor "[J" = some (.array .long))))
  have F1356 := F1343.same W1353
  have F1357 := F1344.other W1353 (Or.inr (slot_ne (Or.inr (hw _ (List.mem_of_getElem? (i := 49) rfl))) (Or.inr (hw _ (List.mem_of_getElem? (i := 47) rfl))) (by decide) (by decide : parseFieldDescriptor "[J" = some (.array .long)) (by decide : parseFieldDescriptor "[J" = some (.array .long))))
  have F1358 := F1345.other W1353 (Or.inr (slot_ne (Or.inr (hw _ (List.mem_of_getElem? (i := 51) rfl))) (Or.inr (hw _ (List.mem_of_getElem? (i := 47) rfl))) (by decide) (by decide : parseFieldDescriptor "[I" = some (.array .int)) (by decide : parseFieldDescriptor "[J" = some (.array .long))))
  have F1359 := F1346.other W1353 (Or.inr (slot_ne (Or.inr (hw _ (List.mem_of_getElem? (i := 53) rfl))) (Or.inr (hw _ (List.mem_of_getElem? (i := 47) rfl))) (by decide) (by decide : parseFieldDescriptor "[J" = some (.array .long)) (by decide : parseFieldDescriptor "[J" = some (.array .long))))
  have F1360 := F1347.other W1353 (Or.inr (slot_ne (Or.inl (hw _ (List.mem_of_getElem? (i := 34) rfl))) (Or.inr (hw _ (List.mem_of_getElem? (i := 47) rfl))) (by decide) (by decide : parseFieldDescriptor "J" = some .long) (by decide : parseFieldDescriptor "[J" = some (.array .long))))
  have E1361 := E1348.wr W1353
  have E1362 := E1349.wr W1353
  have E1363 := Eo.wr W1353
  have A1364 := A1350.other W1353 (Ne.symm ne1281)
  have A1365 := Vo.other W1353 (Ne.symm ne1339)
  have K1366 := K1351.wr W1353 (Or.inl (List.mem_of_getElem? (i := 0) rfl))
  have Z1367 : n0 ≤ h1353.size := W1353.size ▸ Z1352
  have N1368 := Fr.snoc X1353 N1338 ga
  obtain ⟨T1369, X1369, e1369, st1369⟩ := getF X1353 hx hZ hown (host := "") (Or.inl (hw _ (List.mem_of_getElem? (i := 46) rfl))) Via.refl e1353 F1356 (g := (mkF m 33 #[.val (.ref st), .val (.ref tr), .val (.int bits), .unset] [(.ref st), (.ref st)])) rfl rfl (hb hby d3_33)
  obtain ⟨T1370, h1370, k1370, X1370, e1370, E1370, A1370, Y1370, st1370⟩ := newPE X1369 hx hZ (hw _ (List.mem_of_getElem? (i := 16) rfl)) e1369 (g := (mkF m 37 #[.val (.ref st), .val (.ref tr), .val (.int bits), .unset] [(.int (2 : Int32)), (.ref st)])) rfl (hb hby d3_37) rfl (by decide) (cap := 2) (by decide) (by decide) (by decide) (by decide) (ad := "[J") (by decide)
  obtain ⟨b1370, g1370⟩ : ∃ z, z = h1353.size := ⟨_, rfl⟩
  have ne1371 : st ≠ b1370 := fun q => absurd E1361.lt (by rw [q, g1370]; exact Nat.lt_irrefl _)
  have ne1372 : b1280 ≠ b1370 := fun q => absurd E1362.lt (by rw [q, g1370]; exact Nat.lt_irrefl _)
  have ne1373 : wo ≠ b1370 := fun q => absurd E1363.lt (by rw [q, g1370]; exact Nat.lt_irrefl _)
  have lt_wo_b1370 : @LT.lt Nat instLTNat wo b1370 := Nat.lt_of_lt_of_eq E1363.lt g1370.symm
  have g1374 : n0 ≤ b1370 := g1370 ▸ Z1367
  have s1375 : h0.size ≤ b1370 := g1370 ▸ K1366.1
  rw [← g1370] at A1370 Y1370 st1370
  have F1376 := F1354.ext E1370
  have F1377 := F1355.ext E1370
  have F1378 := F1356.ext E1370
  have F1379 := F1357.ext E1370
  have F1380 := F1358.ext E1370
  have F1381 := F1359.ext E1370
  have F1382 := F1360.ext E1370
  have E1383 := E1361.ext E1370
  have E1384 := E1362.ext E1370
  have E1385 := E1363.ext E1370
  have A1386 := A1364.ext E1370
  have A1387 := A1365.ext E1370
  have K1388 := K1366.ext E1370
  have Z1389 : n0 ≤ h1370.size := Nat.le_trans Z1367 E1370.1
  have A1390 : OwnAV Z h1370 b1370 .long 2 (fun i => (.long ((fun _ => (0 : Int64)) i))) := OwnAV.new A1370 rfl (by decide)
  have A1391 : OwnAV Z h1370 b1370 .long 2 (fun i => (.long ((own_l2 (0 : Int64) (0 : Int64)) i))) := A1390.congr (fun j hj => by
      have q : j = 0 ∨ j = 1 := by omega
      rcases q with rfl | rfl <;> rfl)
  obtain ⟨T1392, h1392, X1392, e1392, W1392, st1392⟩ := putF X1370 hx hZ hown (host := "") (Or.inl (hw _ (List.mem_of_getElem? (i := 48) rfl))) Via.refl e1370 F1379 E1383 (Or.inr ⟨(hw _ (List.mem_of_getElem? (i := 49) rfl)), rfl, hnm⟩) (hw _ (List.mem_of_getElem? (i := 24) rfl)) (ty := (.array .long)) (by decide) rfl rfl (g := (mkF m 39 #[.val (.ref st), .val (.ref tr), .val (.int bits), .unset] [(.ref b1370), (.ref st)])) rfl rfl (hb hby d3_39)
  have F1393 := F1376.other W1392 (Or.inr (slot_ne (Or.inr (hw _ (List.mem_of_getElem? (i := 36) rfl))) (Or.inr (hw _ (List.mem_of_getElem? (i := 49) rfl))) (by decide) (by decide : parseFieldDescriptor "Lcom/example/faultline/faultline/engine/Trail;" = some (.object "com/example/faultline/faultline/engine/Trail")) (by decide : parseFieldDescriptor "[J" = some (.array .long))))
  have F1394 := F1377.other W1392 (Or.inr (slot_ne (Or.inr (hw _ (List.mem_of_getElem? (i := 31) rfl))) (Or.inr (hw _ (List.mem_of_getElem? (i := 49) rfl))) (by decide) (by decide : parseFieldDescriptor "[I" = some (.array .int)) (by decide : parseFieldDescriptor "[J" = some (.array .long))))
  have F1395 := F1378.other W1392 (Or.inr (slot_ne (Or.inr (hw _ (List.mem_of_getElem? (i := 47) rfl))) (Or.inr (hw _ (List.mem_of_getElem? (i := 49) rfl))) (by decide) (by decide : parseFieldDescriptor "[J" = some (.array .long)) (by decide : parseFieldDescriptor "[J" = some (.array .long))))
  have F1396 := F1379.same W1392
  have F1397 := F1380.other W1392 (Or.inr (slot_ne (Or.inr (hw _ (List.mem_of_getElem? (i := 51) rfl))) (Or.inr (hw _ (List.mem_of_getElem? (i := 49) rfl))) (by decide) (by decide : parseFieldDescriptor "[I" = some (.array .int)) (by decide : parseFieldDescriptor "[J" = some (.array .long))))
  have F1398 := F1381.other W1392 (Or.inr (slot_ne (Or.inr (hw _ (List.mem_of_getElem? (i := 53) rfl))) (Or.inr (hw _ (List.mem_of_getElem? (i := 49) rfl))) (by decide) (by decide : parseFieldDescriptor "[J" = some (.array .long)) (by decide : parseFieldDescriptor "[J" = some (.array .long))))
  have F1399 := F1382.other W1392 (Or.inr (slot_ne (Or.inl (hw _ (List.mem_of_getElem? (i := 34) rfl))) (Or.inr (hw _ (List.mem_of_getElem? (i := 49) rfl))) (by decide) (by decide : parseFieldDescriptor "J" = some .long) (by decide : parseFieldDescriptor "[J" = some (.array .long))))
  have E1400 := E1383.wr W1392
  have E1401 := E1384.wr W1392
  have E1402 := E1385.wr W1392
  have E1403 := Y1370.wr W1392
  have A1404 := A1386.other W1392 (Ne.symm ne1281)
  have A1405 := A1387.other W1392 (Ne.symm ne1339)
  have A1406 := A1391.other W1392 (Ne.symm ne1371)
  have K1407 := K1388.wr W1392 (Or.inl (List.mem_of_getElem? (i := 0) rfl))
  have Z1408 : n0 ≤ h1392.size := W1392.size ▸ Z1389
  have N1409 := Fr.snoc X1392 N1368 ga
  obtain ⟨T1410, X1410, e1410, st1410⟩ := getF X1392 hx hZ hown (host := "") (Or.inl (hw _ (List.mem_of_getElem? (i := 46) rfl))) Via.refl e1392 F1395 (g := (mkF m 44 #[.val (.ref st), .val (.ref tr), .val (.int bits), .unset] [(.ref st), (.ref st)])) rfl rfl (hb hby d3_44)
  obtain ⟨T1411, h1411, k1411, X1411, e1411, E1411, A1411, Y1411, st1411⟩ := newPE X1410 hx hZ (hw _ (List.mem_of_getElem? (i := 13) rfl)) e1410 (g := (mkF m 48 #[.val (.ref st), .val (.ref tr), .val (.int bits), .unset] [(.int (2 : Int32)), (.ref st)])) rfl (hb hby d3_48) rfl (by decide) (cap := 2) (by decide) (by decide) (by decide) (by decide) (ad := "[I") (by decide)
  obtain ⟨b1411, g1411⟩ : ∃ z, z = h1392.size := ⟨_, rfl⟩
  have ne1412 : st ≠ b1411 := fun q => absurd E1400.lt (by rw [q, g1411]; exact Nat.lt_irrefl _)
  have ne1413 : b1280 ≠ b1411 := fun q => absurd E1401.lt (by rw [q, g1411]; exact Nat.lt_irrefl _)
  have ne1414 : wo ≠ b1411 := fun q => absurd E1402.lt (by rw [q, g1411]; exact Nat.lt_irrefl _)
  have ne1415 : b1370 ≠ b1411 := fun q => absurd E1403.lt (by rw [q, g1411]; exact Nat.lt_irrefl _)
  have lt_b1370_b1411 : @LT.lt Nat instLTNat b1370 b1411 := Nat.lt_of_lt_of_eq E1403.lt g1411.symm
  have g1416 : n0 ≤ b1411 := g1411 ▸ Z1408
  have s1417 : h0.size ≤ b1411 := g1411 ▸ K1407.1
  rw [← g1411] at A1411 Y1411 st1411
  have F1418 := F1393.ext E1411
  have F1419 := F1394.ext E1411
  have F1420 := F1395.ext E1411
  have F1421 := F1396.ext E1411
  have F1422 := F1397.ext E1411
  have F1423 := F1398.ext E1411
  have F1424 := F1399.ext E1411
  have E1425 := E1400.ext E1411
  have E1426 := E1401.ext E1411
  have E1427 := E1402.ext E1411
  have E1428 := E1403.ext E1411
  have A1429 := A1404.ext E1411
  have A1430 := A1405.ext E1411
  have A1431 := A1406.ext E1411
  have K1432 := K1407.ext E1411
  have Z1433 : n0 ≤ h1411.size := Nat.le_trans Z1408 E1411.1
  have A1434 : OwnAV Z h1411 b1411 .int 2 (fun i => (.int ((fun _ => (0 : Int32)) i))) := OwnAV.new A1411 rfl (by decide)
  have A1435 : OwnAV Z h1411 b1411 .int 2 (fun i => (.int ((own_l2 (0 : Int32) (0 : Int32)) i))) := A1434.congr (fun j hj => by
      have q : j = 0 ∨ j = 1 := by omega
      rcases q with rfl | rfl <;> rfl)
  obtain ⟨T1436, h1436, X1436, e1436, W1436, st1436⟩ := putF X1411 hx hZ hown (host := "") (Or.inl (hw _ (List.mem_of_getElem? (i := 50) rfl))) Via.refl e1411 F1422 E1425 (Or.inr ⟨(hw _ (List.mem_of_getElem? (i := 51) rfl)), rfl, hnm⟩) (hw _ (List.mem_of_getElem? (i := 24) rfl)) (ty := (.array .int)) (by decide) rfl rfl (g := (mkF m 50 #[.val (.ref st), .val (.ref tr), .val (.int bits), .unset] [(.ref b1411), (.ref st)])) rfl rfl (hb hby d3_50)
  have F1437 := F1418.other W1436 (Or.inr (slot_ne (Or.inr (hw _ (List.mem_of_getElem? (i := 36) rfl))) (Or.inr (hw _ (List.mem_of_getElem? (i := 51) rfl))) (by decide) (by decide : parseFieldDescriptor "Lcom/example/faultline/faultline/engine/Trail;" = some (.object "com/example/faultline/faultline/engine/Trail")) (by decide : parseFieldDescriptor "[I" = some (.array .int))))
  have F1438 := F1419.other W1436 (Or.inr (slot_ne (Or.inr (hw _ (List.mem_of_getElem? (i := 31) rfl))) (Or.inr (hw _ (List.mem_of_getElem? (i := 51) rfl))) (by decide) (by decide : parseFieldDescriptor "[I" = some (.array .int)) (by decide : parseFieldDescriptor "[I" = some (.array .int))))
  have F1439 := F1420.other W1436 (Or.inr (slot_ne (Or.inr (hw _ (List.mem_of_getElem? (i := 47) rfl))) (Or.inr (hw _ (List.mem_of_getElem? (i := 51) rfl))) (by decide) (by decide : parseFieldDescriptor "[J" = some (.array .long)) (by decide : parseFieldDescriptor "[I" = some (.array .int))))
  have F1440 := F1421.other W1436 (Or.inr (slot_ne (Or.inr (hw _ (List.mem_of_getElem? (i := 49) rfl))) (Or.inr (hw _ (List.mem_of_getElem? (i := 51) rfl))) (by decide) (by decide : parseFieldDescriptor "[J" = some (.array .long)) (by decide : parseFieldDescriptor "[I" = some (.array .int))))
  have F1441 := F1422.same W1436
  have F1442 := F1423.other W1436 (Or.inr (slot_ne (Or.inr (hw _ (List.mem_of_getElem? (i := 53) rfl))) (Or.inr (hw _ (List.mem_of_getElem? (i := 51) rfl))) (by decide) (by decide : parseFieldDescriptor "[J" = some (.array .long)) (by decide : parseFieldDescriptor "[I" = some (.array .int))))
  have F1443 := F1424.other W1436 (Or.inr (slot_ne (Or.inl (hw _ (List.mem_of_getElem? (i := 34) rfl))) (Or.inr (hw _ (List.mem_of_getElem? (i := 51) rfl))) (by decide) (by decide : parseFieldDescriptor "J" = some .long) (by decide : parseFieldDescriptor "[I" = some (.array .int))))
  have E1444 := E1425.wr W1436
  have E1445 := E1426.wr W1436
  have E1446 := E1427.wr W1436
  have E1447 := E1428.wr W1436
  have E1448 := Y1411.wr W1436
  have A1449 := A1429.other W1436 (Ne.symm ne1281)
  have A1450 := A1430.other W1436 (Ne.symm ne1339)
  have A1451 := A1431.other W1436 (Ne.symm ne1371)
  have A1452 := A1435.other W1436 (Ne.symm ne1412)
  have K1453 := K1432.wr W1436 (Or.inl (List.mem_of_getElem? (i := 0) rfl))
  have Z1454 : n0 ≤ h1436.size := W1436.size ▸ Z1433
  have N1455 := Fr.snoc X1436 N1409 ga
  obtain ⟨T1456, X1456, e1456, st1456⟩ := getF X1436 hx hZ hown (host := "") (Or.inl (hw _ (List.mem_of_getElem? (i := 46) rfl))) Via.refl e1436 F1439 (g := (mkF m 55 #[.val (.ref st), .val (.ref tr), .val (.int bits), .unset] [(.ref st), (.ref st)])) rfl rfl (hb hby d3_55)
  obtain ⟨T1457, h1457, k1457, X1457, e1457, E1457, A1457, Y1457, st1457⟩ := newPE X1456 hx hZ (hw _ (List.mem_of_getElem? (i := 16) rfl)) e1456 (g := (mkF m 59 #[.val (.ref st), .val (.ref tr), .val (.int bits), .unset] [(.int (2 : Int32)), (.ref st)])) rfl (hb hby d3_59) rfl (by decide) (cap := 2) (by decide) (by decide) (by decide) (by decide) (ad := "[J") (by decide)
  obtain ⟨b1457, g1457⟩ : ∃ z, z = h1436.size := ⟨_, rfl⟩
  have ne1458 : st ≠ b1457 := fun q => absurd E1444.lt (by rw [q, g1457]; exact Nat.lt_irrefl _)
  have ne1459 : b1280 ≠ b1457 := fun q => absurd E1445.lt (by rw [q, g1457]; exact Nat.lt_irrefl _)
  have ne1460 : wo ≠ b1457 := fun q => absurd E1446.lt (by rw [q, g1457]; exact Nat.lt_irrefl _)
  have ne1461 : b1370 ≠ b1457 := fun q => absurd E1447.lt (by rw [q, g1457]; exact Nat.lt_irrefl _)
  have ne1462 : b1411 ≠ b1457 := fun q => absurd E1448.lt (by rw [q, g1457]; exact Nat.lt_irrefl _)
  have lt_b1411_b1457 : @LT.lt Nat instLTNat b1411 b1457 := Nat.lt_of_lt_of_eq E1448.lt g1457.symm
  have g1463 : n0 ≤ b1457 := g1457 ▸ Z1454
  have s1464 : h0.size ≤ b1457 := g1457 ▸ K1453.1
  rw [← g1457] at A1457 Y1457 st1457
  have F1465 := F1437.ext E1457
  have F1466 := F1438.ext E1457
  have F1467 := F1439.ext E1457
  have F1468 := F1440.ext E1457
  have F1469 := F1441.ext E1457
  have F1470 := F1442.ext E1457
  have F1471 := F1443.ext E1457
  have E1472 := E1444.ext E1457
  have E1473 := E1445.ext E1457
  have E1474 := E1446.ext E1457
  have E1475 := E1447.ext E1457
  have E1476 := E1448.ext E1457
  have A1477 := A1449.ext E1457
  have A1478 := A1450.ext E1457
  have A1479 := A1451.ext E1457
  have A1480 := A1452.ext E1457
  have K1481 := K1453.ext E1457
  have Z1482 : n0 ≤ h1457.size := Nat.le_trans Z1454 E1457.1
  have A1483 : OwnAV Z h1457 b1457 .long 2 (fun i => (.long ((fun _ => (0 : Int64)) i))) := OwnAV.new A1457 rfl (by decide)
  have A1484 : OwnAV Z h1457 b1457 .long 2 (fun i => (.long ((own_l2 (0 : Int64) (0 : Int64)) i))) := A1483.congr (fun j hj => by
      have q : j = 0 ∨ j = 1 := by omega
      rcases q with rfl | rfl <;> rfl)
  obtain ⟨T1485, h1485, X1485, e1485, W1485, st1485⟩ := putF X1457 hx hZ hown (host := "") (Or.inl (hw _ (List.mem_of_getElem? (i := 52) rfl))) Via.refl e1457 F1470 E1472 (Or.inr ⟨(hw _ (List.mem_of_getElem? (i := 53) rfl)), rfl, hnm⟩) (hw _ (List.mem_of_getElem? (i := 24) rfl)) (ty := (.array .long)) (by decide) rfl rfl (g := (mkF m 61 #[.val (.ref st), .val (.ref tr), .val (.int bits), .unset] [(.ref b1457), (.ref st)])) rfl rfl (hb hby d3_61)
  have F1486 := F1465.other W1485 (Or.inr (slot_ne (Or.inr (hw _ (List.mem_of_getElem? (i := 36) rfl))) (Or.inr (hw _ (List.mem_of_getElem? (i := 53) rfl))) (by decide) (by decide : parseFieldDescriptor "Lcom/example/faultline/faultline/engine/Trail;" = some (.object "com/example/faultline/faultline/engine/Trail")) (by decide : parseFieldDescriptor "[J" = some (.array .long))))
  have F1487 := F1466.other W1485 (Or.inr (slot_ne (Or.inr (hw _ (List.mem_of_getElem? (i := 31) rfl))) (Or.inr (hw _ (List.mem_of_getElem? (i := 53) rfl))) (by decide) (by decide : parseFieldDescriptor "[I" = some (.array .int)) (by decide : parseFieldDescriptor "[J" = some (.array .long))))
  have F1488 := F1467.other W1485 (Or.inr (slot_ne (Or.inr (hw _ (List.mem_of_getElem? (i := 47) rfl))) (Or.inr (hw _ (List.mem_of_getElem? (i := 53) rfl))) (by decide) (by decide : parseFieldDescriptor "[J" = some (.array .long)) (by decide : parseFieldDescriptor "[J" = some (.array .long))))
  have F1489 := F1468.other W1485 (Or.inr (slot_ne (Or.inr (hw _ (List.mem_of_getElem? (i := 49) rfl))) (Or.inr (hw _ (List.mem_of_getElem? (i := 53) rfl))) (by decide) (by decide : parseFieldDescriptor "[J" = some (.array .long)) (by decide : parseFieldDescriptor "[J" = some (.array .long))))
  have F1490 := F1469.other W1485 (Or.inr (slot_ne (Or.inr (hw _ (List.mem_of_getElem? (i := 51) rfl))) (Or.inr (hw _ (List.mem_of_getElem? (i := 53) rfl))) (by decide) (by decide : parseFieldDescriptor "[I" = some (.array .int)) (by decide : parseFieldDescriptor "[J" = some (.array .long))))
  have F1491 := F1470.same W1485
  have F1492 := F1471.other W1485 (Or.inr (slot_ne (Or.inl (hw _ (List.mem_of_getElem? (i := 34) rfl))) (Or.inr (hw _ (List.mem_of_getElem? (i := 53) rfl))) (by decide) (by decide : parseFieldDescriptor "J" = some .long) (by decide : parseFieldDescriptor "[J" = some (.array .long))))
  have E1493 := E1472.wr W1485
  have E1494 := E1473.wr W1485
  have E1495 := E1474.wr W1485
  have E1496 := E1475.wr W1485
  have E1497 := E1476.wr W1485
  have E1498 := Y1457.wr W1485
  have A1499 := A1477.other W1485 (Ne.symm ne1281)
  have A1500 := A1478.other W1485 (Ne.symm ne1339)
  have A1501 := A1479.other W1485 (Ne.symm ne1371)
  have A1502 := A1480.other W1485 (Ne.symm ne1412)
  have A1503 := A1484.other W1485 (Ne.symm ne1458)
  have K1504 := K1481.wr W1485 (Or.inl (List.mem_of_getElem? (i := 0) rfl))
  have Z1505 : n0 ≤ h1485.size := W1485.size ▸ Z1482
  have N1506 := Fr.snoc X1485 N1455 ga
  obtain ⟨T1507, X1507, e1507, st1507⟩ := getF X1485 hx hZ hown (host := "") (Or.inl (hw _ (List.mem_of_getElem? (i := 46) rfl))) Via.refl e1485 F1488 (g := (mkF m 68 #[.val (.ref st), .val (.ref tr), .val (.int bits), .val (.int (0 : Int32))] [(.ref st), (.int (0 : Int32))])) rfl rfl (hb hby d3_68)
  obtain ⟨T1508, X1508, e1508, st1508⟩ := getF X1507 hx hZ hown (host := "") (Or.inl (hw _ (List.mem_of_getElem? (i := 48) rfl))) Via.refl e1507 F1489 (g := (mkF m 76 #[.val (.ref st), .val (.ref tr), .val (.int bits), .val (.int (0 : Int32))] [(.ref st)])) rfl rfl (hb hby d3_76)
  obtain ⟨T1509, h1509, X1509, e1509, W1509, st1509⟩ := own_last X1508 hx hZ e1508 A1501 (k := 0) ⟨by decide, rfl, by decide⟩ (g := (mkF m 83 #[.val (.ref st), .val (.ref tr), .val (.int bits), .val (.int (0 : Int32))] [(.long (-1 : Int64)), (.int (0 : Int32)), (.ref b1370)])) rfl rfl (hb hby d3_83)
  have A1510 : OwnAV Z h1509 b1370 .long 2 (fun i => (.long ((own_l2 (-1 : Int64) (0 : Int64)) i))) := (A1501.storeJ W1509).congr (fun j hj => by
      have q : j = 0 ∨ j = 1 := by omega
      rcases q with rfl | rfl <;> rfl)
  have F1511 := F1486.other W1509 (Or.inl ne1371)
  have F1512 := F1487.other W1509 (Or.inl ne1371)
  have F1513 := F1488.other W1509 (Or.inl ne1371)
  have F1514 := F1489.other W1509 (Or.inl ne1371)
  have F1515 := F1490.other W1509 (Or.inl ne1371)
  have F1516 := F1491.other W1509 (Or.inl ne1371)
  have F1517 := F1492.other W1509 (Or.inl ne1371)
  have E1518 := E1493.wr W1509
  have E1519 := E1494.wr W1509
  have E1520 := E1495.wr W1509
  have E1521 := E1496.wr W1509
  have E1522 := E1497.wr W1509
  have E1523 := E1498.wr W1509
  have A1524 := A1499.other W1509 ne1372
  have A1525 := A1500.other W1509 ne1373
  have A1526 := A1502.other W1509 (Ne.symm ne1415)
  have A1527 := A1503.other W1509 (Ne.symm ne1461)
  have K1528 := K1504.wr W1509 (Or.inr s1375)
  have Z1529 : n0 ≤ h1509.size := W1509.size ▸ Z1505
  have N1530 := Fr.snoc X1509 N1506 g1374
  obtain ⟨T1531, X1531, e1531, st1531⟩ := getF X1509 hx hZ hown (host := "") (Or.inl (hw _ (List.mem_of_getElem? (i := 50) rfl))) Via.refl e1509 F1515 (g := (mkF m 85 #[.val (.ref st), .val (.ref tr), .val (.int bits), .val (.int (0 : Int32))] [(.ref st)])) rfl rfl (hb hby d3_85)
  obtain ⟨T1532, h1532, X1532, e1532, W1532, st1532⟩ := own_iast X1531 hx hZ e1531 A1526 (k := 0) ⟨by decide, rfl, by decide⟩ (g := (mkF m 90 #[.val (.ref st), .val (.ref tr), .val (.int bits), .val (.int (0 : Int32))] [(.int (0 : Int32)), (.int (0 : Int32)), (.ref b1411)])) rfl rfl (hb hby d3_90)
  have A1533 : OwnAV Z h1532 b1411 .int 2 (fun i => (.int ((own_l2 (0 : Int32) (0 : Int32)) i))) := (A1526.storeI W1532).congr (fun j hj => by
      have q : j = 0 ∨ j = 1 := by omega
      rcases q with rfl | rfl <;> rfl)
  have F1534 := F1511.other W1532 (Or.inl ne1412)
  have F1535 := F1512.other W1532 (Or.inl ne1412)
  have F1536 := F1513.other W1532 (Or.inl ne1412)
  have F1537 := F1514.other W1532 (Or.inl ne1412)
  have F1538 := F1515.other W1532 (Or.inl ne1412)
  have F1539 := F1516.other W1532 (Or.inl ne1412)
  have F1540 := F1517.other W1532 (Or.inl ne1412)
  have E1541 := E1518.wr W1532
  have E1542 := E1519.wr W1532
  have E1543 := E1520.wr W1532
  have E1544 := E1521.wr W1532
  have E1545 := E1522.wr W1532
  have E1546 := E1523.wr W1532
  have A1547 := A1524.other W1532 ne1413
  have A1548 := A1525.other W1532 ne1414
  have A1549 := A1510.other W1532 ne1415
  have A1550 := A1527.other W1532 (Ne.symm ne1462)
  have K1551 := K1528.wr W1532 (Or.inr s1417)
  have Z1552 : n0 ≤ h1532.size := W1532.size ▸ Z1529
  have N1553 := Fr.snoc X1532 N1530 g1416
  obtain ⟨T1554, X1554, e1554, st1554⟩ := getF X1532 hx hZ hown (host := "") (Or.inl (hw _ (List.mem_of_getElem? (i := 46) rfl))) Via.refl e1532 F1536 (g := (mkF m 68 #[.val (.ref st), .val (.ref tr), .val (.int bits), .val (.int (1 : Int32))] [(.ref st), (.int (1 : Int32))])) rfl rfl (hb hby d3_68)
  obtain ⟨T1555, X1555, e1555, st1555⟩ := getF X1554 hx hZ hown (host := "") (Or.inl (hw _ (List.mem_of_getElem? (i := 48) rfl))) Via.refl e1554 F1537 (g := (mkF m 76 #[.val (.ref st), .val (.ref tr), .val (.int bits), .val (.int (1 : Int32))] [(.ref st)])) rfl rfl (hb hby d3_76)
  obtain ⟨T1556, h1556, X1556, e1556, W1556, st1556⟩ := own_last X1555 hx hZ e1555 A1549 (k := 1) ⟨by decide, rfl, by decide⟩ (g := (mkF m 83 #[.val (.ref st), .val (.ref tr), .val (.int bits), .val (.int (1 : Int32))] [(.long (-1 : Int64)), (.int (1 : Int32)), (.ref b1370)])) rfl rfl (hb hby d3_83)
  have A1557 : OwnAV Z h1556 b1370 .long 2 (fun i => (.long ((own_l2 (-1 : Int64) (-1 : Int64)) i))) := (A1549.storeJ W1556).congr (fun j hj => by
      have q : j = 0 ∨ j = 1 := by omega
      rcases q with rfl | rfl <;> rfl)
  have F1558 := F1534.other W1556 (Or.inl ne1371)
  have F1559 := F1535.other W1556 (Or.inl ne1371)
  have F1560 := F1536.other W1556 (Or.inl ne1371)
  have F1561 := F1537.other W1556 (Or.inl ne1371)
  have F1562 := F1538.other W1556 (Or.inl ne1371)
  have F1563 := F1539.other W1556 (Or.inl ne1371)
  have F1564 := F1540.other W1556 (Or.inl ne1371)
  have E1565 := E1541.wr W1556
  have E1566 := E1542.wr W1556
  have E1567 := E1543.wr W1556
  have E1568 := E1544.wr W1556
  have E1569 := E1545.wr W1556
  have E1570 := E1546.wr W1556
  have A1571 := A1547.other W1556 ne1372
  have A1572 := A1548.other W1556 ne1373
  have A1573 := A1533.other W1556 (Ne.symm ne1415)
  have A1574 := A1550.other W1556 (Ne.symm ne1461)
  have K1575 := K1551.wr W1556 (Or.inr s1375)
  have Z1576 : n0 ≤ h1556.size := W1556.size ▸ Z1552
  have N1577 := Fr.snoc X1556 N1553 g1374
  obtain ⟨T1578, X1578, e1578, st1578⟩ := getF X1556 hx hZ hown (host := "") (Or.inl (hw _ (List.mem_of_getElem? (i := 50) rfl))) Via.refl e1556 F1562 (g := (mkF m 85 #[.val (.ref st), .val (.ref tr), .val (.int bits), .val (.int (1 : Int32))] [(.ref st)])) rfl rfl (hb hby d3_85)
  obtain ⟨T1579, h1579, X1579, e1579, W1579, st1579⟩ := own_iast X1578 hx hZ e1578 A1573 (k := 1) ⟨by decide, rfl, by decide⟩ (g := (mkF m 90 #[.val (.ref st), .val (.ref tr), .val (.int bits), .val (.int (1 : Int32))] [(.int (1 : Int32)), (.int (1 : Int32)), (.ref b1411)])) rfl rfl (hb hby d3_90)
  have A1580 : OwnAV Z h1579 b1411 .int 2 (fun i => (.int ((own_l2 (0 : Int32) (1 : Int32)) i))) := (A1573.storeI W1579).congr (fun j hj => by
      have q : j = 0 ∨ j = 1 := by omega
      rcases q with rfl | rfl <;> rfl)
  have F1581 := F1558.other W1579 (Or.inl ne1412)
  have F1582 := F1559.other W1579 (Or.inl ne1412)
  have F1583 := F1560.other W1579 (Or.inl ne1412)
  have F1584 := F1561.other W1579 (Or.inl ne1412)
  have F1585 := F1562.other W1579 (Or.inl ne1412)
  have F1586 := F1563.other W1579 (Or.inl ne1412)
  have F1587 := F1564.other W1579 (Or.inl ne1412)
  have E1588 := E1565.wr W1579
  have E1589 := E1566.wr W1579
  have E1590 := E1567.wr W1579
  have E1591 := E1568.wr W1579
  have E1592 := E1569.wr W1579
  have E1593 := E1570.wr W1579
  have A1594 := A1571.other W1579 ne1413
  have A1595 := A1572.other W1579 ne1414
  have A1596 := A1557.other W1579 ne1415
  have A1597 := A1574.other W1579 (Ne.symm ne1462)
  have K1598 := K1575.wr W1579 (Or.inr s1417)
  have Z1599 : n0 ≤ h1579.size := W1579.size ▸ Z1576
  have N1600 := Fr.snoc X1579 N1577 g1416
  obtain ⟨T1601, X1601, e1601, st1601⟩ := getF X1579 hx hZ hown (host := "") (Or.inl (hw _ (List.mem_of_getElem? (i := 46) rfl))) Via.refl e1579 F1583 (g := (mkF m 68 #[.val (.ref st), .val (.ref tr), .val (.int bits), .val (.int (2 : Int32))] [(.ref st), (.int (2 : Int32))])) rfl rfl (hb hby d3_68)
  obtain ⟨T1602, X1602, e1602, st1602⟩ := getF X1601 hx hZ hown (host := "") (Or.inl (hw _ (List.mem_of_getElem? (i := 30) rfl))) Via.refl e1601 F1582 (g := (mkF m 98 #[.val (.ref st), .val (.ref tr), .val (.int bits), .val (.int (2 : Int32))] [(.ref st)])) rfl rfl (hb hby d3_98)
  obtain ⟨T1603, X1603, e1603, st1603⟩ := getF X1602 hx hZ hown (host := "") (Or.inl (hw _ (List.mem_of_getElem? (i := 46) rfl))) Via.refl e1602 F1583 (g := (mkF m 103 #[.val (.ref st), .val (.ref tr), .val (.int bits), .val (.int (2 : Int32))] [(.ref st), (.int (0 : Int32)), (.ref b1280)])) rfl rfl (hb hby d3_103)
  obtain ⟨T1604, h1604, X1604, e1604, W1604, st1604⟩ := own_iast X1603 hx hZ e1603 A1594 (k := 0) ⟨by decide, rfl, by decide⟩ (g := (mkF m 107 #[.val (.ref st), .val (.ref tr), .val (.int bits), .val (.int (2 : Int32))] [(.int (2 : Int32)), (.int (0 : Int32)), (.ref b1280)])) rfl rfl (hb hby d3_107)
  have A1605 : OwnAV Z h1604 b1280 .int 1 (fun i => (.int ((own_l2 (2 : Int32) (0 : Int32)) i))) := (A1594.storeI W1604).congr (fun j hj => by
      have q : j = 0 ∨ j = 1 := by omega
      rcases q with rfl | rfl <;> rfl)
  have F1606 := F1581.other W1604 (Or.inl ne1281)
  have F1607 := F1582.other W1604 (Or.inl ne1281)
  have F1608 := F1583.other W1604 (Or.inl ne1281)
  have F1609 := F1584.other W1604 (Or.inl ne1281)
  have F1610 := F1585.other W1604 (Or.inl ne1281)
  have F1611 := F1586.other W1604 (Or.inl ne1281)
  have F1612 := F1587.other W1604 (Or.inl ne1281)
  have E1613 := E1588.wr W1604
  have E1614 := E1589.wr W1604
  have E1615 := E1590.wr W1604
  have E1616 := E1591.wr W1604
  have E1617 := E1592.wr W1604
  have E1618 := E1593.wr W1604
  have A1619 := A1595.other W1604 (Ne.symm ne1340)
  have A1620 := A1596.other W1604 (Ne.symm ne1372)
  have A1621 := A1580.other W1604 (Ne.symm ne1413)
  have A1622 := A1597.other W1604 (Ne.symm ne1459)
  have K1623 := K1598.wr W1604 (Or.inr s1283)
  have Z1624 : n0 ≤ h1604.size := W1604.size ▸ Z1599
  have N1625 := Fr.snoc X1604 N1600 g1282
  have k1626 : ∀ t, Steps p.tables e below (T1604.setTop (mkF m 108 #[.val (.ref st), .val (.ref tr), .val (.int bits), .val (.int (2 : Int32))] [])) t → Steps p.tables e below (s₁.setTop (entryFrame m #[(.ref st), (.ref tr), (.int bits)] 4)) t := fun t hk => pre0 t (by
    show Steps p.tables e below (s₁.setTop (mkF m 0 #[.val (.ref st), .val (.ref tr), .val (.int bits), .unset] [])) _
    refine XS.aloadN X0.here hx rfl (hb hby d3_0) rfl rfl ?_
    refine st1279 _ ?_
    refine XS.aloadN X1279.here hx rfl (hb hby d3_4) rfl rfl ?_
    refine XS.iconst X1279.here hx rfl (hb hby d3_5) ?_
    show Steps p.tables e below (T1279.setTop (mkF m 6 #[.val (.ref st), .val (.ref tr), .val (.int bits), .unset] [(.int (1 : Int32)), (.ref st)])) _
    refine st1280 _ ?_
    refine st1296 _ ?_
    refine XS.aloadN X1296.here hx rfl (hb hby d3_11) rfl rfl ?_
    refine X1296.ldc2Long hx hown (mvT hZ (hw _ (List.mem_of_getElem? (i := 32) rfl))) (g := (mkF m 12 #[.val (.ref st), .val (.ref tr), .val (.int bits), .unset] [(.ref st)])) rfl (hb hby d3_12) _ ?_
    show Steps p.tables e below (T1296.setTop (mkF m 15 #[.val (.ref st), .val (.ref tr), .val (.int bits), .unset] [(.long (-1 : Int64)), (.ref st)])) _
    refine st1310 _ ?_
    refine XS.aloadN X1310.here hx rfl (hb hby d3_18) rfl rfl ?_
    refine XS.aloadN X1310.here hx rfl (hb hby d3_19) rfl rfl ?_
    refine st1324 _ ?_
    show Steps p.tables e below (T1324.setTop (mkF m 23 #[.val (.ref st), .val (.ref tr), .val (.int bits), .unset] [])) _
    refine XS.aloadN X1324.here hx rfl (hb hby d3_23) rfl rfl ?_
    refine XS.iloadN X1324.here hx rfl (hb hby d3_24) rfl ?_
    refine st1338 _ ?_
    refine st1353 _ ?_
    show Steps p.tables e below (T1353.setTop (mkF m 31 #[.val (.ref st), .val (.ref tr), .val (.int bits), .unset] [])) _
    refine XS.aloadN X1353.here hx rfl (hb hby d3_31) rfl rfl ?_
    refine XS.aloadN X1353.here hx rfl (hb hby d3_32) rfl rfl ?_
    refine st1369 _ ?_
    refine own_len X1369 hx hZ e1369 A1365 (g := (mkF m 36 #[.val (.ref st), .val (.ref tr), .val (.int bits), .unset] [(.ref wo), (.ref st)])) rfl rfl (hb hby d3_36) _ ?_
    show Steps p.tables e below (T1369.setTop (mkF m 37 #[.val (.ref st), .val (.ref tr), .val (.int bits), .unset] [(.int (2 : Int32)), (.ref st)])) _
    refine st1370 _ ?_
    refine st1392 _ ?_
    refine XS.aloadN X1392.here hx rfl (hb hby d3_42) rfl rfl ?_
    refine XS.aloadN X1392.here hx rfl (hb hby d3_43) rfl rfl ?_
    show Steps p.tables e below (T1392.setTop (mkF m 44 #[.val (.ref st), .val (.ref tr), .val (.int bits), .unset] [(.ref st), (.ref st)])) _
    refine st1410 _ ?_
    refine own_len X1410 hx hZ e1410 A1405 (g := (mkF m 47 #[.val (.ref st), .val (.ref tr), .val (.int bits), .unset] [(.ref wo), (.ref st)])) rfl rfl (hb hby d3_47) _ ?_
    refine st1411 _ ?_
    refine st1436 _ ?_
    show Steps p.tables e below (T1436.setTop (mkF m 53 #[.val (.ref st), .val (.ref tr), .val (.int bits), .unset] [])) _
    refine XS.aloadN X1436.here hx rfl (hb hby d3_53) rfl rfl ?_
    refine XS.aloadN X1436.here hx rfl (hb hby d3_54) rfl rfl ?_
    refine st1456 _ ?_
    refine own_len X1456 hx hZ e1456 A1450 (g := (mkF m 58 #[.val (.ref st), .val (.ref tr), .val (.int bits), .unset] [(.ref wo), (.ref st)])) rfl rfl (hb hby d3_58) _ ?_
    show Steps p.tables e below (T1456.setTop (mkF m 59 #[.val (.ref st), .val (.ref tr), .val (.int bits), .unset] [(.int (2 : Int32)), (.ref st)])) _
    refine st1457 _ ?_
    refine st1485 _ ?_
    refine XS.iconst X1485.here hx rfl (hb hby d3_64) ?_
    refine XS.istoreN X1485.here hx rfl (hb hby d3_65) rfl (l' := #[.val (.ref st), .val (.ref tr), .val (.int bits), .val (.int (0 : Int32))]) rfl ?_
    show Steps p.tables e below (T1485.setTop (mkF m 66 #[.val (.ref st), .val (.ref tr), .val (.int bits), .val (.int (0 : Int32))] [])) _
    refine XS.iloadN X1485.here hx rfl (hb hby d3_66) rfl ?_
    refine XS.aloadN X1485.here hx rfl (hb hby d3_67) rfl rfl ?_
    refine st1507 _ ?_
    refine own_len X1507 hx hZ e1507 A1500 (g := (mkF m 71 #[.val (.ref st), .val (.ref tr), .val (.int bits), .val (.int (0 : Int32))] [(.ref wo), (.int (0 : Int32))])) rfl rfl (hb hby d3_71) _ ?_
    show Steps p.tables e below (T1507.setTop (mkF m 72 #[.val (.ref st), .val (.ref tr), .val (.int bits), .val (.int (0 : Int32))] [(.int (2 : Int32)), (.int (0 : Int32))])) _
    refine XS.icmpNo X1507.here hx rfl (hb hby d3_72) rfl (tlt (by decide : (0 : Int32) < (2 : Int32))).2.1 ?_
    refine XS.aloadN X1507.here hx rfl (hb hby d3_75) rfl rfl ?_
    refine st1508 _ ?_
    refine XS.iloadN X1508.here hx rfl (hb hby d3_79) rfl ?_
    show Steps p.tables e below (T1508.setTop (mkF m 80 #[.val (.ref st), .val (.ref tr), .val (.int bits), .val (.int (0 : Int32))] [(.int (0 : Int32)), (.ref b1370)])) _
    refine X1508.ldc2Long hx hown (mvT hZ (hw _ (List.mem_of_getElem? (i := 32) rfl))) (g := (mkF m 80 #[.val (.ref st), .val (.ref tr), .val (.int bits), .val (.int (0 : Int32))] [(.int (0 : Int32)), (.ref b1370)])) rfl (hb hby d3_80) _ ?_
    refine st1509 _ ?_
    refine XS.aloadN X1509.here hx rfl (hb hby d3_84) rfl rfl ?_
    refine st1531 _ ?_
    show Steps p.tables e below (T1531.setTop (mkF m 88 #[.val (.ref st), .val (.ref tr), .val (.int bits), .val (.int (0 : Int32))] [(.ref b1411)])) _
    refine XS.iloadN X1531.here hx rfl (hb hby d3_88) rfl ?_
    refine XS.iloadN X1531.here hx rfl (hb hby d3_89) rfl ?_
    refine st1532 _ ?_
    refine XS.iinc X1532.here hx rfl (hb hby d3_91) rfl (l' := #[.val (.ref st), .val (.ref tr), .val (.int bits), .val (.int (1 : Int32))]) rfl ?_
    show Steps p.tables e below (T1532.setTop (mkF m 94 #[.val (.ref st), .val (.ref tr), .val (.int bits), .val (.int (1 : Int32))] [])) _
    refine XS.goto X1532.here hx rfl (pc0 := 94) (pc' := 66) rfl (hb hby d3_94) (by decide) (by decide) ?_
    refine XS.iloadN X1532.here hx rfl (hb hby d3_66) rfl ?_
    refine XS.aloadN X1532.here hx rfl (hb hby d3_67) rfl rfl ?_
    refine st1554 _ ?_
    show Steps p.tables e below (T1554.setTop (mkF m 71 #[.val (.ref st), .val (.ref tr), .val (.int bits), .val (.int (1 : Int32))] [(.ref wo), (.int (1 : Int32))])) _
    refine own_len X1554 hx hZ e1554 A1548 (g := (mkF m 71 #[.val (.ref st), .val (.ref tr), .val (.int bits), .val (.int (1 : Int32))] [(.ref wo), (.int (1 : Int32))])) rfl rfl (hb hby d3_71) _ ?_
    refine XS.icmpNo X1554.here hx rfl (hb hby d3_72) rfl (tlt (by decide : (1 : Int32) < (2 : Int32))).2.1 ?_
    refine XS.aloadN X1554.here hx rfl (hb hby d3_75) rfl rfl ?_
    refine st1555 _ ?_
    show Steps p.tables e below (T1555.setTop (mkF m 79 #[.val (.ref st), .val (.ref tr), .val (.int bits), .val (.int (1 : Int32))] [(.ref b1370)])) _
    refine XS.iloadN X1555.here hx rfl (hb hby d3_79) rfl ?_
    refine X1555.ldc2Long hx hown (mvT hZ (hw _ (List.mem_of_getElem? (i := 32) rfl))) (g := (mkF m 80 #[.val (.ref st), .val (.ref tr), .val (.int bits), .val (.int (1 : Int32))] [(.int (1 : Int32)), (.ref b1370)])) rfl (hb hby d3_80) _ ?_
    refine st1556 _ ?_
    refine XS.aloadN X1556.here hx rfl (hb hby d3_84) rfl rfl ?_
    show Steps p.tables e below (T1556.setTop (mkF m 85 #[.val (.ref st), .val (.ref tr), .val (.int bits), .val (.int (1 : Int32))] [(.ref st)])) _
    refine st1578 _ ?_
    refine XS.iloadN X1578.here hx rfl (hb hby d3_88) rfl ?_
    refine XS.iloadN X1578.here hx rfl (hb hby d3_89) rfl ?_
    refine st1579 _ ?_
    show Steps p.tables e below (T1579.setTop (mkF m 91 #[.val (.ref st), .val (.ref tr), .val (.int bits), .val (.int (1 : Int32))] [])) _
    refine XS.iinc X1579.here hx rfl (hb hby d3_91) rfl (l' := #[.val (.ref st), .val (.ref tr), .val (.int bits), .val (.int (2 : Int32))]) rfl ?_
    refine XS.goto X1579.here hx rfl (pc0 := 94) (pc' := 66) rfl (hb hby d3_94) (by decide) (by decide) ?_
    refine XS.iloadN X1579.here hx rfl (hb hby d3_66) rfl ?_
    refine XS.aloadN X1579.here hx rfl (hb hby d3_67) rfl rfl ?_
    show Steps p.tables e below (T1579.setTop (mkF m 68 #[.val (.ref st), .val (.ref tr), .val (.int bits), .val (.int (2 : Int32))] [(.ref st), (.int (2 : Int32))])) _
    refine st1601 _ ?_
    refine own_len X1601 hx hZ e1601 A1595 (g := (mkF m 71 #[.val (.ref st), .val (.ref tr), .val (.int bits), .val (.int (2 : Int32))] [(.ref wo), (.int (2 : Int32))])) rfl rfl (hb hby d3_71) _ ?_
    refine XS.icmpYes X1601.here hx rfl (pc0 := 72) (pc' := 97) rfl (hb hby d3_72) rfl (flt (by decide : ¬ ((2 : Int32) < (2 : Int32)))).2.1 (by decide) (by decide) ?_
    refine XS.aloadN X1601.here hx rfl (hb hby d3_97) rfl rfl ?_
    show Steps p.tables e below (T1601.setTop (mkF m 98 #[.val (.ref st), .val (.ref tr), .val (.int bits), .val (.int (2 : Int32))] [(.ref st)])) _
    refine st1602 _ ?_
    refine XS.iconst X1602.here hx rfl (hb hby d3_101) ?_
    refine XS.aloadN X1602.here hx rfl (hb hby d3_102) rfl rfl ?_
    refine st1603 _ ?_
    show Steps p.tables e below (T1603.setTop (mkF m 106 #[.val (.ref st), .val (.ref tr), .val (.int bits), .val (.int (2 : Int32))] [(.ref wo), (.int (0 : Int32)), (.ref b1280)])) _
    refine own_len X1603 hx hZ e1603 A1595 (g := (mkF m 106 #[.val (.ref st), .val (.ref tr), .val (.int bits), .val (.int (2 : Int32))] [(.ref wo), (.int (0 : Int32)), (.ref b1280)])) rfl rfl (hb hby d3_106) _ ?_
    refine st1604 _ ?_
    exact hk)
  obtain ⟨fs, hr, hrun, hended, hW, hsame⟩ := X1604.leave (v := none) (fun _ => rfl)
  refine ⟨_, _, k1626 _ ?_, hrun, hended, _, _, rfl, ?_, ⟨_, rfl⟩, hW, hsame.mono (by decide) (by decide)⟩
  · show Steps p.tables e below (T1604.setTop (mkF m 108 #[.val (.ref st), .val (.ref tr), .val (.int bits), .val (.int (2 : Int32))] [])) _
    exact X1604.returnOut hx Bd.returns (hb hby d3_108) hr
  · show Qi2 Z st tr bits h0 n0 _ T1604.heap _
    rw [e1604]
    exact ⟨rfl, N1625, K1623, b1280, wo, b1370, b1411, b1457, x0, x1, (-1 : Int64), (-1 : Int64), s1283, lt_b1280_wo, lt_wo_b1370, lt_b1370_b1411, lt_b1411_b1457, ⟨E1613, F1606, F1607, F1608, F1609, F1610, F1611, F1612⟩, A1605, A1619, A1620, A1621, A1622, E1614, E1615, hx0, hx1, rfl, rfl⟩
def Qm2 (Z : State) (st : Addr) (mk : Addr) (tr : Addr) (lim : Addr) (wo : Addr) (sa : Addr) (nz : Addr) (ma : Addr) (ls : Int64) (m0 : Int64) (m1 : Int64) (q0 : Int64) (q1 : Int64) (h0 : Heap) (n0 : Nat) (v : Option Value) (h : Heap) (L : List Loc) : Prop := v = none ∧ Fr n0 L ∧ Keep h0 h [ma] ∧ OwnAV Z h ma .long 2 (fun i => (.long (own_l2 (m0 ||| q0) (m1 ||| q1) i)))
set_option maxRecDepth 65536 in
set_option maxHeartbeats 40000000 in
theorem rmm2 (l : Launch) (Z : State) (a0 : Array Value) (hw : ∀ d ∈ tables_1, d.before a0 Z = true) (ws : List Jvm.Cond) (st : Addr) (mk : Addr) (tr : Addr) (lim : Addr) (wo : Addr) (sa : Addr) (nz : Addr) (ma : Addr) (ls : Int64) (m0 : Int64) (m1 : Int64) (q0 : Int64) (q1 : Int64) (h0 : Heap) (n0 : Nat) (Z0 : n0 ≤ h0.size) (hS : OwnSet Z h0 st tr lim wo sa nz ma ls) (gm : n0 ≤ ma) (hnes : st ≠ ma ∧ lim ≠ ma ∧ nz ≠ ma ∧ mk ≠ ma) (Vl : OwnAV Z h0 lim .int 1 (fun i => (.int (own_l2 (2 : Int32) (0 : Int32) i)))) (Vn : OwnAV Z h0 nz .int 2 (fun i => (.int (own_l2 (0 : Int32) (1 : Int32) i)))) (Vm : OwnAV Z h0 ma .long 2 (fun i => (.long (own_l2 m0 m1 i)))) (Vk : OwnAV Z h0 mk .long 2 (fun i => (.long (own_l2 q0 q1 i)))) :
    MetFree l (⟨"com/example/faultline/faultline/engine/ReversibleBitSet", "addToMask", "([J)V"⟩ : MethodName) (head1 (Jvm.Cond.code (⟨"com/example/faultline/faultline/engine/ReversibleBitSet", "addToMask", "([J)V"⟩ : MethodName) prog_44_method_9_code 4 none :: ws) ({ frames := 0, cells := 0, slots := 0, locals := 0 } : Room)) (fun a U => a = #[(.ref st), (.ref mk)] ∧ Z.Warmed39 U.vm ∧ U.heap = h0) (fun _ _ _ _ _ => True) (fun _ U o U' => ∃ v L, o = .returned v ∧ Qm2 Z st mk tr lim wo sa nz ma ls m0 m1 q0 q1 h0 n0 v U'.heap L ∧ FrameEnd U o U' L ({ frames := 0, cells := 0, slots := 0, locals := 0 } : Room).cells ({ frames := 0, cells := 0, slots := 0, locals := 0 } : Room).slots) := by
  refine MetFree.of_bodySF (plainFor_of_name pn_7) hisR ?_
  intro p e s m args below meth c s₁ Bd hml0 hP hK
  obtain ⟨rfl, hZ, hh⟩ := hP
  have hx := Bd.exec
  have hby := Bd.bytes
  have hml : c.maxLocals = 4 := hml0
  have hown : s.vm.findClass "com/example/faultline/faultline/engine/ReversibleBitSet" = some m.cls := findClass_of_methodNamed Bd.named
  have hnm := (name_of_methodNamed Bd.named Bd.method).1
  have X0 : Stand p l e ({ frames := 0, cells := 0, slots := 0, locals := 0 } : Room) s m #[(.ref st), (.ref mk)] below meth c s₁ [] 0 0 := Stand.of_body Bd
  have e0 : s₁.heap = h0 := by rw [← hh, Bd.state]; rfl
  have N0 := Fr.nil n0
  have pre0 : ∀ t, Steps p.tables e below (s₁.setTop (mkF m 0 #[.val (.ref st), .val (.ref mk), .unset, .unset] [])) t → Steps p.tables e below (s₁.setTop (entryFrame m #[(.ref st), (.ref mk)] 4)) t := fun t k => castTop (ef_7 m st mk) k
  obtain ⟨u1627E, u1627a, u1627b, u1627c, u1627d, u1627e, u1627f, u1627g⟩ := hS
  obtain ⟨T1628, X1628, e1628, st1628⟩ := getF X0 hx hZ hown (host := "") (Or.inl (hw _ (List.mem_of_getElem? (i := 30) rfl))) Via.refl e0 u1627b (g := (mkF m 4 #[.val (.ref st), .val (.ref mk), .val (.int (0 : Int32)), .unset] [(.ref st), (.int (0 : Int32))])) rfl rfl (hb hby d7_4)
  obtain ⟨T1629, X1629, e1629, st1629⟩ := getF X1628 hx hZ hown (host := "") (Or.inl (hw _ (List.mem_of_getElem? (i := 50) rfl))) Via.refl e1628 u1627e (g := (mkF m 13 #[.val (.ref st), .val (.ref mk), .val (.int (0 : Int32)), .unset] [(.ref st)])) rfl rfl (hb hby d7_13)
  obtain ⟨T1630, X1630, e1630, st1630⟩ := getF X1629 hx hZ hown (host := "") (Or.inl (hw _ (List.mem_of_getElem? (i := 52) rfl))) Via.refl e1629 u1627f (g := (mkF m 20 #[.val (.ref st), .val (.ref mk), .val (.int (0 : Int32)), .val (.int (0 : Int32))] [(.ref st)])) rfl rfl (hb hby d7_20)
  obtain ⟨T1631, h1631, X1631, e1631, W1631, st1631⟩ := own_last X1630 hx hZ e1630 Vm (k := 0) ⟨by decide, rfl, by decide⟩ (g := (mkF m 30 #[.val (.ref st), .val (.ref mk), .val (.int (0 : Int32)), .val (.int (0 : Int32))] [(.long (m0 ||| q0)), (.int (0 : Int32)), (.ref ma)])) rfl rfl (hb hby d7_30)
  have A1632 : OwnAV Z h1631 ma .long 2 (fun i => (.long ((own_l2 (m0 ||| q0) m1) i))) := (Vm.storeJ W1631).congr (fun j hj => by
      have q : j = 0 ∨ j = 1 := by omega
      rcases q with rfl | rfl <;> rfl)
  have F1633 := u1627a.other W1631 (Or.inl hnes.1)
  have F1634 := u1627b.other W1631 (Or.inl hnes.1)
  have F1635 := u1627c.other W1631 (Or.inl hnes.1)
  have F1636 := u1627d.other W1631 (Or.inl hnes.1)
  have F1637 := u1627e.other W1631 (Or.inl hnes.1)
  have F1638 := u1627f.other W1631 (Or.inl hnes.1)
  have F1639 := u1627g.other W1631 (Or.inl hnes.1)
  have E1640 := u1627E.wr W1631
  have A1641 := Vl.other W1631 hnes.2.1
  have A1642 := Vn.other W1631 hnes.2.2.1
  have A1643 := Vk.other W1631 hnes.2.2.2
  have K1644 := (Keep.refl h0 [ma]).wr W1631 (Or.inl (List.mem_of_getElem? (i := 0) rfl))
  have Z1645 : n0 ≤ h1631.size := W1631.size ▸ Z0
  have N1646 := Fr.snoc X1631 N0 gm
  obtain ⟨T1647, X1647, e1647, st1647⟩ := getF X1631 hx hZ hown (host := "") (Or.inl (hw _ (List.mem_of_getElem? (i := 30) rfl))) Via.refl e1631 F1634 (g := (mkF m 4 #[.val (.ref st), .val (.ref mk), .val (.int (1 : Int32)), .val (.int (0 : Int32))] [(.ref st), (.int (1 : Int32))])) rfl rfl (hb hby d7_4)
  obtain ⟨T1648, X1648, e1648, st1648⟩ := getF X1647 hx hZ hown (host := "") (Or.inl (hw _ (List.mem_of_getElem? (i := 50) rfl))) Via.refl e1647 F1637 (g := (mkF m 13 #[.val (.ref st), .val (.ref mk), .val (.int (1 : Int32)), .val (.int (0 : Int32))] [(.ref st)])) rfl rfl (hb hby d7_13)
  obtain ⟨T1649, X1649, e1649, st1649⟩ := getF X1648 hx hZ hown (host := "") (Or.inl (hw _ (List.mem_of_getElem? (i := 52) rfl))) Via.refl e1648 F1638 (g := (mkF m 20 #[.val (.ref st), .val (.ref mk), .val (.int (1 : Int32)), .val (.int (1 : Int32))] [(.ref st)])) rfl rfl (hb hby d7_20)
  obtain ⟨T1650, h1650, X1650, e1650, W1650, st1650⟩ := own_last X1649 hx hZ e1649 A1632 (k := 1) ⟨by decide, rfl, by decide⟩ (g := (mkF m 30 #[.val (.ref st), .val (.ref mk), .val (.int (1 : Int32)), .val (.int (1 : Int32))] [(.long (m1 ||| q1)), (.int (1 : Int32)), (.ref ma)])) rfl rfl (hb hby d7_30)
  have A1651 : OwnAV Z h1650 ma .long 2 (fun i => (.long ((own_l2 (m0 ||| q0) (m1 ||| q1)) i))) := (A1632.storeJ W1650).congr (fun j hj => by
      have q : j = 0 ∨ j = 1 := by omega
      rcases q with rfl | rfl <;> rfl)
  have F1652 := F1633.other W1650 (Or.inl hnes.1)
  have F1653 := F1634.other W1650 (Or.inl hnes.1)
  have F1654 := F1635.other W1650 (Or.inl hnes.1)
  have F1655 := F1636.other W1650 (Or.inl hnes.1)
  have F1656 := F1637.other W1650 (Or.inl hnes.1)
  have F1657 := F1638.other W1650 (Or.inl hnes.1)
  have F1658 := F1639.other W1650 (Or.inl hnes.1)
  have E1659 := E1640.wr W1650
  have A1660 := A1641.other W1650 hnes.2.1
  have A1661 := A1642.other W1650 hnes.2.2.1
  have A1662 := A1643.other W1650 hnes.2.2.2
  have K1663 := K1644.wr W1650 (Or.inl (List.mem_of_getElem? (i := 0) rfl))
  have Z1664 : n0 ≤ h1650.size := W1650.size ▸ Z1645
  have N1665 := Fr.snoc X1650 N1646 gm
  obtain ⟨T1666, X1666, e1666, st1666⟩ := getF X1650 hx hZ hown (host := "") (Or.inl (hw _ (List.mem_of_getElem? (i := 30) rfl))) Via.refl e1650 F1653 (g := (mkF m 4 #[.val (.ref st), .val (.ref mk), .val (.int (2 : Int32)), .val (.int (1 : Int32))] [(.ref st), (.int (2 : Int32))])) rfl rfl (hb hby d7_4)
  have k1667 : ∀ t, Steps p.tables e below (T1666.setTop (mkF m 37 #[.val (.ref st), .val (.ref mk), .val (.int (2 : Int32)), .val (.int (1 : Int32))] [])) t → Steps p.tables e below (s₁.setTop (entryFrame m #[(.ref st), (.ref mk)] 4)) t := fun t hk => pre0 t (by
    show Steps p.tables e below (s₁.setTop (mkF m 0 #[.val (.ref st), .val (.ref mk), .unset, .unset] [])) _
    refine XS.iconst X0.here hx rfl (hb hby d7_0) ?_
    refine XS.istoreN X0.here hx rfl (hb hby d7_1) rfl (l' := #[.val (.ref st), .val (.ref mk), .val (.int (0 : Int32)), .unset]) rfl ?_
    refine XS.iloadN X0.here hx rfl (hb hby d7_2) rfl ?_
    refine XS.aloadN X0.here hx rfl (hb hby d7_3) rfl rfl ?_
    show Steps p.tables e below (s₁.setTop (mkF m 4 #[.val (.ref st), .val (.ref mk), .val (.int (0 : Int32)), .unset] [(.ref st), (.int (0 : Int32))])) _
    refine st1628 _ ?_
    refine XS.iconst X1628.here hx rfl (hb hby d7_7) ?_
    refine own_iald X1628 hx hZ e1628 Vl (k := 0) ⟨by decide, rfl, by decide⟩ rfl (g := (mkF m 8 #[.val (.ref st), .val (.ref mk), .val (.int (0 : Int32)), .unset] [(.int (0 : Int32)), (.ref lim), (.int (0 : Int32))])) rfl rfl (hb hby d7_8) _ ?_
    refine XS.icmpNo X1628.here hx rfl (hb hby d7_9) rfl (tlt (by decide : (0 : Int32) < (2 : Int32))).2.1 ?_
    show Steps p.tables e below (T1628.setTop (mkF m 12 #[.val (.ref st), .val (.ref mk), .val (.int (0 : Int32)), .unset] [])) _
    refine XS.aloadN X1628.here hx rfl (hb hby d7_12) rfl rfl ?_
    refine st1629 _ ?_
    refine XS.iloadN X1629.here hx rfl (hb hby d7_16) rfl ?_
    refine own_iald X1629 hx hZ e1629 Vn (k := 0) ⟨by decide, rfl, by decide⟩ rfl (g := (mkF m 17 #[.val (.ref st), .val (.ref mk), .val (.int (0 : Int32)), .unset] [(.int (0 : Int32)), (.ref nz)])) rfl rfl (hb hby d7_17) _ ?_
    show Steps p.tables e below (T1629.setTop (mkF m 18 #[.val (.ref st), .val (.ref mk), .val (.int (0 : Int32)), .unset] [(.int (0 : Int32))])) _
    refine XS.istoreN X1629.here hx rfl (hb hby d7_18) rfl (l' := #[.val (.ref st), .val (.ref mk), .val (.int (0 : Int32)), .val (.int (0 : Int32))]) rfl ?_
    refine XS.aloadN X1629.here hx rfl (hb hby d7_19) rfl rfl ?_
    refine st1630 _ ?_
    refine XS.iloadN X1630.here hx rfl (hb hby d7_23) rfl ?_
    show Steps p.tables e below (T1630.setTop (mkF m 24 #[.val (.ref st), .val (.ref mk), .val (.int (0 : Int32)), .val (.int (0 : Int32))] [(.int (0 : Int32)), (.ref ma)])) _
    refine XT.dup2 X1630.here hx rfl (hb hby d7_24) rfl rfl rfl ?_
    refine own_lald X1630 hx hZ e1630 Vm (k := 0) ⟨by decide, rfl, by decide⟩ rfl (g := (mkF m 25 #[.val (.ref st), .val (.ref mk), .val (.int (0 : Int32)), .val (.int (0 : Int32))] [(.int (0 : Int32)), (.ref ma), (.int (0 : Int32)), (.ref ma)])) rfl rfl (hb hby d7_25) _ ?_
    refine XS.aloadN X1630.here hx rfl (hb hby d7_26) rfl rfl ?_
    refine XS.iloadN X1630.here hx rfl (hb hby d7_27) rfl ?_
    show Steps p.tables e below (T1630.setTop (mkF m 28 #[.val (.ref st), .val (.ref mk), .val (.int (0 : Int32)), .val (.int (0 : Int32))] [(.int (0 : Int32)), (.ref mk), (.long m0), (.int (0 : Int32)), (.ref ma)])) _
    refine own_lald X1630 hx hZ e1630 Vk (k := 0) ⟨by decide, rfl, by decide⟩ rfl (g := (mkF m 28 #[.val (.ref st), .val (.ref mk), .val (.int (0 : Int32)), .val (.int (0 : Int32))] [(.int (0 : Int32)), (.ref mk), (.long m0), (.int (0 : Int32)), (.ref ma)])) rfl rfl (hb hby d7_28) _ ?_
    refine XS.lor X1630.here hx rfl (hb hby d7_29) rfl ?_
    refine st1631 _ ?_
    refine XS.iinc X1631.here hx rfl (hb hby d7_31) rfl (l' := #[.val (.ref st), .val (.ref mk), .val (.int (1 : Int32)), .val (.int (0 : Int32))]) rfl ?_
    show Steps p.tables e below (T1631.setTop (mkF m 34 #[.val (.ref st), .val (.ref mk), .val (.int (1 : Int32)), .val (.int (0 : Int32))] [])) _
    refine XS.goto X1631.here hx rfl (pc0 := 34) (pc' := 2) rfl (hb hby d7_34) (by decide) (by decide) ?_
    refine XS.iloadN X1631.here hx rfl (hb hby d7_2) rfl ?_
    refine XS.aloadN X1631.here hx rfl (hb hby d7_3) rfl rfl ?_
    refine st1647 _ ?_
    show Steps p.tables e below (T1647.setTop (mkF m 7 #[.val (.ref st), .val (.ref mk), .val (.int (1 : Int32)), .val (.int (0 : Int32))] [(.ref lim), (.int (1 : Int32))])) _
    refine XS.iconst X1647.here hx rfl (hb hby d7_7) ?_
    refine own_iald X1647 hx hZ e1647 A1641 (k := 0) ⟨by decide, rfl, by decide⟩ rfl (g := (mkF m 8 #[.val (.ref st), .val (.ref mk), .val (.int (1 : Int32)), .val (.int (0 : Int32))] [(.int (0 : Int32)), (.ref lim), (.int (1 : Int32))])) rfl rfl (hb hby d7_8) _ ?_
    refine XS.icmpNo X1647.here hx rfl (hb hby d7_9) rfl (tlt (by decide : (1 : Int32) < (2 : Int32))).2.1 ?_
    refine XS.aloadN X1647.here hx rfl (hb hby d7_12) rfl rfl ?_
    show Steps p.tables e below (T1647.setTop (mkF m 13 #[.val (.ref st), .val (.ref mk), .val (.int (1 : Int32)), .val (.int (0 : Int32))] [(.ref st)])) _
    refine st1648 _ ?_
    refine XS.iloadN X1648.here hx rfl (hb hby d7_16) rfl ?_
    refine own_iald X1648 hx hZ e1648 A1642 (k := 1) ⟨by decide, rfl, by decide⟩ rfl (g := (mkF m 17 #[.val (.ref st), .val (.ref mk), .val (.int (1 : Int32)), .val (.int (0 : Int32))] [(.int (1 : Int32)), (.ref nz)])) rfl rfl (hb hby d7_17) _ ?_
    refine XS.istoreN X1648.here hx rfl (hb hby d7_18) rfl (l' := #[.val (.ref st), .val (.ref mk), .val (.int (1 : Int32)), .val (.int (1 : Int32))]) rfl ?_
    show Steps p.tables e below (T1648.setTop (mkF m 19 #[.val (.ref st), .val (.ref mk), .val (.int (1 : Int32)), .val (.int (1 : Int32))] [])) _
    refine XS.aloadN X1648.here hx rfl (hb hby d7_19) rfl rfl ?_
    refine st1649 _ ?_
    refine XS.iloadN X1649.here hx rfl (hb hby d7_23) rfl ?_
    refine XT.dup2 X1649.here hx rfl (hb hby d7_24) rfl rfl rfl ?_
    show Steps p.tables e below (T1649.setTop (mkF m 25 #[.val (.ref st), .val (.ref mk), .val (.int (1 : Int32)), .val (.int (1 : Int32))] [(.int (1 : Int32)), (.ref ma), (.int (1 : Int32)), (.ref ma)])) _
    refine own_lald X1649 hx hZ e1649 A1632 (k := 1) ⟨by decide, rfl, by decide⟩ rfl (g := (mkF m 25 #[.val (.ref st), .val (.ref mk), .val (.int (1 : Int32)), .val (.int (1 : Int32))] [(.int (1 : Int32)), (.ref ma), (.int (1 : Int32)), (.ref ma)])) rfl rfl (hb hby d7_25) _ ?_
    refine XS.aloadN X1649.here hx rfl (hb hby d7_26) rfl rfl ?_
    refine XS.iloadN X1649.here hx rfl (hb hby d7_27) rfl ?_
    refine own_lald X1649 hx hZ e1649 A1643 (k := 1) ⟨by decide, rfl, by decide⟩ rfl (g := (mkF m 28 #[.val (.ref st), .val (.ref mk), .val (.int (1 : Int32)), .val (.int (1 : Int32))] [(.int (1 : Int32)), (.ref mk), (.long m1), (.int (1 : Int32)), (.ref ma)])) rfl rfl (hb hby d7_28) _ ?_
    show Steps p.tables e below (T1649.setTop (mkF m 29 #[.val (.ref st), .val (.ref mk), .val (.int (1 : Int32)), .val (.int (1 : Int32))] [(.long q1), (.long m1), (.int (1 : Int32)), (.ref ma)])) _
    refine XS.lor X1649.here hx rfl (hb hby d7_29) rfl ?_
    refine st1650 _ ?_
    refine XS.iinc X1650.here hx rfl (hb hby d7_31) rfl (l' := #[.val (.ref st), .val (.ref mk), .val (.int (2 : Int32)), .val (.int (1 : Int32))]) rfl ?_
    refine XS.goto X1650.here hx rfl (pc0 := 34) (pc' := 2) rfl (hb hby d7_34) (by decide) (by decide) ?_
    show Steps p.tables e below (T1650.setTop (mkF m 2 #[.val (.ref st), .val (.ref mk), .val (.int (2 : Int32)), .val (.int (1 : Int32))] [])) _
    refine XS.iloadN X1650.here hx rfl (hb hby d7_2) rfl ?_
    refine XS.aloadN X1650.here hx rfl (hb hby d7_3) rfl rfl ?_
    refine st1666 _ ?_
    refine XS.iconst X1666.here hx rfl (hb hby d7_7) ?_
    show Steps p.tables e below (T1666.setTop (mkF m 8 #[.val (.ref st), .val (.ref mk), .val (.int (2 : Int32)), .val (.int (1 : Int32))] [(.int (0 : Int32)), (.ref lim), (.int (2 : Int32))])) _
    refine own_iald X1666 hx hZ e1666 A1660 (k := 0) ⟨by decide, rfl, by decide⟩ rfl (g := (mkF m 8 #[.val (.ref st), .val (.ref mk), .val (.int (2 : Int32)), .val (.int (1 : Int32))] [(.int (0 : Int32)), (.ref lim), (.int (2 : Int32))])) rfl rfl (hb hby d7_8) _ ?_
    refine XS.icmpYes X1666.here hx rfl (pc0 := 9) (pc' := 37) rfl (hb hby d7_9) rfl (flt (by decide : ¬ ((2 : Int32) < (2 : Int32)))).2.1 (by decide) (by decide) ?_
    exact hk)
  obtain ⟨fs, hr, hrun, hended, hW, hsame⟩ := X1666.leave (v := none) (fun _ => rfl)
  refine ⟨_, _, k1667 _ ?_, hrun, hended, _, _, rfl, ?_, ⟨_, rfl⟩, hW, hsame.mono (by decide) (by decide)⟩
  · show Steps p.tables e below (T1666.setTop (mkF m 37 #[.val (.ref st), .val (.ref mk), .val (.int (2 : Int32)), .val (.int (1 : Int32))] [])) _
    exact X1666.returnOut hx Bd.returns (hb hby d7_37) hr
  · show Qm2 Z st mk tr lim wo sa nz ma ls m0 m1 q0 q1 h0 n0 _ T1666.heap _
    rw [e1666]
    exact ⟨rfl, N1665, K1663, A1651⟩
def Qx2 (Z : State) (st : Addr) (tr : Addr) (ow : Addr) (ix : Addr) (sv : Addr) (lim : Addr) (wo : Addr) (sa : Addr) (nz : Addr) (ma : Addr) (x0 : Int64) (x1 : Int64) (y0 : Int64) (y1 : Int64) (m0 : Int64) (m1 : Int64) (h0 : Heap) (n0 : Nat) (v : Option Value) (h : Heap) (L : List Loc) : Prop := v = none ∧ Fr n0 L ∧ Keep h0 h [st, tr, ow, ix, sv, wo, sa, nz, lim] ∧ ∃ (ls1 : Int64) (lm z0 z1 : Int32), OwnSet Z h st tr lim wo sa nz ma ls1 ∧ OwnAV Z h wo .long 2 (fun i => (.long (own_l2 (x0 &&& m0) (x1 &&& m1) i))) ∧ OwnAV Z h nz .int 2 (fun i => (.int (own_l2 z0 z1 i))) ∧ OwnAV Z h lim .int 1 (fun i => (.int (own_l2 lm (0 : Int32) i))) ∧ ((lm = (2 : Int32) ∧ z0 = (0 : Int32) ∧ z1 = (1 : Int32)) ∨ (lm = (1 : Int32) ∧ z0 = (0 : Int32) ∧ (x1 &&& m1) = (0 : Int64)) ∨ (lm = (1 : Int32) ∧ z0 = (1 : Int32) ∧ (x0 &&& m0) = (0 : Int64)) ∨ (lm = (0 : Int32) ∧ (x0 &&& m0) = (0 : Int64) ∧ (x1 &&& m1) = (0 : Int64)))
set_option maxRecDepth 65536 in
set_option maxHeartbeats 40000000 in
theorem rmx2 (l : Launch) (Z : State) (a0 : Array Value) (hw : ∀ d ∈ tables_1, d.before a0 Z = true) (ws : List Jvm.Cond) (st : Addr) (tr : Addr) (ow : Addr) (ix : Addr) (sv : Addr) (lim : Addr) (wo : Addr) (sa : Addr) (nz : Addr) (ma : Addr) (x0 : Int64) (x1 : Int64) (y0 : Int64) (y1 : Int64) (m0 : Int64) (m1 : Int64) (h0 : Heap) (n0 : Nat) (Z0 : n0 ≤ h0.size) (hT : OwnTr Z h0 tr ow ix sv (0 : Int32)) (hap : OwnApart tr ow ix sv) (hnew : OwnNew n0 tr ow ix sv) (hS : OwnSet Z h0 st tr lim wo sa nz ma (-1 : Int64)) (hsn : n0 ≤ st ∧ n0 ≤ nz ∧ n0 ≤ lim) (gwo : n0 ≤ wo) (gsa : n0 ≤ sa) (hnes : st ≠ tr ∧ st ≠ ow ∧ st ≠ ix ∧ st ≠ sv ∧ st ≠ lim ∧ st ≠ wo ∧ st ≠ sa ∧ st ≠ nz ∧ st ≠ ma ∧ tr ≠ lim ∧ tr ≠ wo ∧ tr ≠ sa ∧ tr ≠ nz ∧ tr ≠ ma ∧ ow ≠ lim ∧ ow ≠ wo ∧ ow ≠ sa ∧ ow ≠ nz ∧ ow ≠ ma ∧ ix ≠ lim ∧ ix ≠ wo ∧ ix ≠ sa ∧ ix ≠ nz ∧ ix ≠ ma ∧ sv ≠ lim ∧ sv ≠ wo ∧ sv ≠ sa ∧ sv ≠ nz ∧ sv ≠ ma ∧ lim ≠ wo ∧ lim ≠ sa ∧ lim ≠ nz ∧ lim ≠ ma ∧ wo ≠ sa ∧ wo ≠ nz ∧ wo ≠ ma ∧ sa ≠ nz ∧ sa ≠ ma ∧ nz ≠ ma) (Vl : OwnAV Z h0 lim .int 1 (fun i => (.int (own_l2 (2 : Int32) (0 : Int32) i)))) (Vo : OwnAV Z h0 wo .long 2 (fun i => (.long (own_l2 x0 x1 i)))) (Vs : OwnAV Z h0 sa .long 2 (fun i => (.long (own_l2 y0 y1 i)))) (Vn : OwnAV Z h0 nz .int 2 (fun i => (.int (own_l2 (0 : Int32) (1 : Int32) i)))) (Vm : OwnAV Z h0 ma .long 2 (fun i => (.long (own_l2 m0 m1 i)))) (El : Exa Z h0 lim "[I") (Eo : Exa Z h0 wo "[J") (hx0 : ¬ x0 = (0 : Int64)) (hx1 : ¬ x1 = (0 : Int64)) (hy0 : y0 = (-1 : Int64)) (hy1 : y1 = (-1 : Int64)) :
    MetFree l (⟨"com/example/faultline/faultline/engine/ReversibleBitSet", "intersectWithMask", "()V"⟩ : MethodName) (head1 (Jvm.Cond.code (⟨"com/example/faultline/faultline/engine/ReversibleBitSet", "intersectWithMask", "()V"⟩ : MethodName) prog_44_method_11_code 5 none :: ws) ({ frames := 3, cells := 0, slots := 0, locals := 52 } : Room)) (fun a U => a = #[(.ref st)] ∧ Z.Warmed39 U.vm ∧ U.heap = h0) (fun _ _ _ _ _ => True) (fun _ U o U' => ∃ v L, o = .returned v ∧ Qx2 Z st tr ow ix sv lim wo sa nz ma x0 x1 y0 y1 m0 m1 h0 n0 v U'.heap L ∧ FrameEnd U o U' L ({ frames := 3, cells := 0, slots := 0, locals := 52 } : Room).cells ({ frames := 3, cells := 0, slots := 0, locals := 52 } : Room).slots) := by
  refine MetFree.of_bodySF (plainFor_of_name pn_8) hisR ?_
  intro p e s m args below meth c s₁ Bd hml0 hP hK
  obtain ⟨rfl, hZ, hh⟩ := hP
  have hx := Bd.exec
  have hby := Bd.bytes
  have hml : c.maxLocals = 5 := hml0
  have hown : s.vm.findClass "com/example/faultline/faultline/engine/ReversibleBitSet" = some m.cls := findClass_of_methodNamed Bd.named
  have hnm := (name_of_methodNamed Bd.named Bd.method).1
  have X0 : Stand p l e ({ frames := 3, cells := 0, slots := 0, locals := 52 } : Room) s m #[(.ref st)] below meth c s₁ [] 0 0 := Stand.of_body Bd
  have e0 : s₁.heap = h0 := by rw [← hh, Bd.state]; rfl
  have N0 := Fr.nil n0
  have pre0 : ∀ t, Steps p.tables e below (s₁.setTop (mkF m 0 #[.val (.ref st), .unset, .unset, .unset, .unset] [])) t → Steps p.tables e below (s₁.setTop (entryFrame m #[(.ref st)] 5)) t := fun t k => castTop (ef_8 m st) k
  obtain ⟨u1668E, u1668a, u1668b, u1668c, u1668d, u1668e, u1668o, ⟨u1668fi, u1668x⟩, ⟨u1668fs, u1668s⟩⟩ := hT
  obtain ⟨u1669E, u1669a, u1669b, u1669c, u1669d, u1669e, u1669f, u1669g⟩ := hS
  have z00 : (0 : Int32).toInt = 0 := by decide
  have hys0 : ¬ y0 = (0 : Int64) := by rw [hy0]; decide
  have hys1 : ¬ y1 = (0 : Int64) := by rw [hy1]; decide
  obtain ⟨T1670, X1670, e1670, st1670⟩ := getF X0 hx hZ hown (host := "") (Or.inl (hw _ (List.mem_of_getElem? (i := 30) rfl))) Via.refl e0 u1669b (g := (mkF m 1 #[.val (.ref st), .unset, .unset, .unset, .unset] [(.ref st)])) rfl rfl (hb hby d8_1)
  obtain ⟨T1671, X1671, e1671, st1671⟩ := getF X1670 hx hZ hown (host := "") (Or.inl (hw _ (List.mem_of_getElem? (i := 50) rfl))) Via.refl e1670 u1669e (g := (mkF m 14 #[.val (.ref st), .val (.int (1 : Int32)), .unset, .unset, .unset] [(.ref st)])) rfl rfl (hb hby d8_14)
  obtain ⟨T1672, X1672, e1672, st1672⟩ := getF X1671 hx hZ hown (host := "") (Or.inl (hw _ (List.mem_of_getElem? (i := 46) rfl))) Via.refl e1671 u1669c (g := (mkF m 21 #[.val (.ref st), .val (.int (1 : Int32)), .val (.int (1 : Int32)), .unset, .unset] [(.ref st)])) rfl rfl (hb hby d8_21)
  obtain ⟨T1673, X1673, e1673, st1673⟩ := getF X1672 hx hZ hown (host := "") (Or.inl (hw _ (List.mem_of_getElem? (i := 52) rfl))) Via.refl e1672 u1669f (g := (mkF m 27 #[.val (.ref st), .val (.int (1 : Int32)), .val (.int (1 : Int32)), .unset, .unset] [(.ref st), (.long x1)])) rfl rfl (hb hby d8_27)
  obtain ⟨T1674, X1674, e1674, st1674⟩ := getF X1673 hx hZ hown (host := "") (Or.inl (hw _ (List.mem_of_getElem? (i := 46) rfl))) Via.refl e1673 u1669c (g := (mkF m 36 #[.val (.ref st), .val (.int (1 : Int32)), .val (.int (1 : Int32)), .val (.long (x1 &&& m1)), .second] [(.ref st), (.long (x1 &&& m1))])) rfl rfl (hb hby d8_36)
  have k1675 : ∀ t, Steps p.tables e below (T1674.setTop (mkF m 42 #[.val (.ref st), .val (.int (1 : Int32)), .val (.int (1 : Int32)), .val (.long (x1 &&& m1)), .second] [(.int (lcmpW (x1 &&& m1) x1))])) t → Steps p.tables e below (s₁.setTop (entryFrame m #[(.ref st)] 5)) t := fun t hk => pre0 t (by
    show Steps p.tables e below (s₁.setTop (mkF m 0 #[.val (.ref st), .unset, .unset, .unset, .unset] [])) _
    refine XS.aloadN X0.here hx rfl (hb hby d8_0) rfl rfl ?_
    refine st1670 _ ?_
    refine XS.iconst X1670.here hx rfl (hb hby d8_4) ?_
    refine own_iald X1670 hx hZ e1670 Vl (k := 0) ⟨by decide, rfl, by decide⟩ rfl (g := (mkF m 5 #[.val (.ref st), .unset, .unset, .unset, .unset] [(.int (0 : Int32)), (.ref lim)])) rfl rfl (hb hby d8_5) _ ?_
    show Steps p.tables e below (T1670.setTop (mkF m 6 #[.val (.ref st), .unset, .unset, .unset, .unset] [(.int (2 : Int32))])) _
    refine XS.iconst X1670.here hx rfl (hb hby d8_6) ?_
    refine XS.isub X1670.here hx rfl (hb hby d8_7) rfl ?_
    refine XS.istoreN X1670.here hx rfl (hb hby d8_8) rfl (l' := #[.val (.ref st), .val (.int (1 : Int32)), .unset, .unset, .unset]) rfl ?_
    refine XS.iloadN X1670.here hx rfl (hb hby d8_9) rfl ?_
    show Steps p.tables e below (T1670.setTop (mkF m 10 #[.val (.ref st), .val (.int (1 : Int32)), .unset, .unset, .unset] [(.int (1 : Int32))])) _
    refine XS.ifNo X1670.here hx rfl (hb hby d8_10) rfl ((if0 _ _).trans (flt (by decide : ¬ ((1 : Int32) < (0 : Int32)))).1) ?_
    refine XS.aloadN X1670.here hx rfl (hb hby d8_13) rfl rfl ?_
    refine st1671 _ ?_
    refine XS.iloadN X1671.here hx rfl (hb hby d8_17) rfl ?_
    show Steps p.tables e below (T1671.setTop (mkF m 18 #[.val (.ref st), .val (.int (1 : Int32)), .unset, .unset, .unset] [(.int (1 : Int32)), (.ref nz)])) _
    refine own_iald X1671 hx hZ e1671 Vn (k := 1) ⟨by decide, rfl, by decide⟩ rfl (g := (mkF m 18 #[.val (.ref st), .val (.int (1 : Int32)), .unset, .unset, .unset] [(.int (1 : Int32)), (.ref nz)])) rfl rfl (hb hby d8_18) _ ?_
    refine XS.istoreN X1671.here hx rfl (hb hby d8_19) rfl (l' := #[.val (.ref st), .val (.int (1 : Int32)), .val (.int (1 : Int32)), .unset, .unset]) rfl ?_
    refine XS.aloadN X1671.here hx rfl (hb hby d8_20) rfl rfl ?_
    refine st1672 _ ?_
    show Steps p.tables e below (T1672.setTop (mkF m 24 #[.val (.ref st), .val (.int (1 : Int32)), .val (.int (1 : Int32)), .unset, .unset] [(.ref wo)])) _
    refine XS.iloadN X1672.here hx rfl (hb hby d8_24) rfl ?_
    refine own_lald X1672 hx hZ e1672 Vo (k := 1) ⟨by decide, rfl, by decide⟩ rfl (g := (mkF m 25 #[.val (.ref st), .val (.int (1 : Int32)), .val (.int (1 : Int32)), .unset, .unset] [(.int (1 : Int32)), (.ref wo)])) rfl rfl (hb hby d8_25) _ ?_
    refine XS.aloadN X1672.here hx rfl (hb hby d8_26) rfl rfl ?_
    refine st1673 _ ?_
    show Steps p.tables e below (T1673.setTop (mkF m 30 #[.val (.ref st), .val (.int (1 : Int32)), .val (.int (1 : Int32)), .unset, .unset] [(.ref ma), (.long x1)])) _
    refine XS.iloadN X1673.here hx rfl (hb hby d8_30) rfl ?_
    refine own_lald X1673 hx hZ e1673 Vm (k := 1) ⟨by decide, rfl, by decide⟩ rfl (g := (mkF m 31 #[.val (.ref st), .val (.int (1 : Int32)), .val (.int (1 : Int32)), .unset, .unset] [(.int (1 : Int32)), (.ref ma), (.long x1)])) rfl rfl (hb hby d8_31) _ ?_
    refine XS.land X1673.here hx rfl (hb hby d8_32) rfl ?_
    refine XS.lstoreN X1673.here hx rfl (hb hby d8_33) rfl (l' := #[.val (.ref st), .val (.int (1 : Int32)), .val (.int (1 : Int32)), .val (.long (x1 &&& m1)), .second]) rfl ?_
    show Steps p.tables e below (T1673.setTop (mkF m 34 #[.val (.ref st), .val (.int (1 : Int32)), .val (.int (1 : Int32)), .val (.long (x1 &&& m1)), .second] [])) _
    refine XS.lloadN X1673.here hx rfl (hb hby d8_34) rfl ?_
    refine XS.aloadN X1673.here hx rfl (hb hby d8_35) rfl rfl ?_
    refine st1674 _ ?_
    refine XS.iloadN X1674.here hx rfl (hb hby d8_39) rfl ?_
    show Steps p.tables e below (T1674.setTop (mkF m 40 #[.val (.ref st), .val (.int (1 : Int32)), .val (.int (1 : Int32)), .val (.long (x1 &&& m1)), .second] [(.int (1 : Int32)), (.ref wo), (.long (x1 &&& m1))])) _
    refine own_lald X1674 hx hZ e1674 Vo (k := 1) ⟨by decide, rfl, by decide⟩ rfl (g := (mkF m 40 #[.val (.ref st), .val (.int (1 : Int32)), .val (.int (1 : Int32)), .val (.long (x1 &&& m1)), .second] [(.int (1 : Int32)), (.ref wo), (.long (x1 &&& m1))])) rfl rfl (hb hby d8_40) _ ?_
    refine XS.lcmp X1674.here hx rfl (hb hby d8_41) rfl ?_
    exact hk)
  by_cases hc42 : (x1 &&& m1) = x1
  ·
    obtain ⟨T1676, X1676, e1676, st1676⟩ := getF X1674 hx hZ hown (host := "") (Or.inl (hw _ (List.mem_of_getElem? (i := 50) rfl))) Via.refl e1674 u1669e (g := (mkF m 14 #[.val (.ref st), .val (.int (0 : Int32)), .val (.int (1 : Int32)), .val (.long (x1 &&& m1)), .second] [(.ref st)])) rfl rfl (hb hby d8_14)
    obtain ⟨T1677, X1677, e1677, st1677⟩ := getF X1676 hx hZ hown (host := "") (Or.inl (hw _ (List.mem_of_getElem? (i := 46) rfl))) Via.refl e1676 u1669c (g := (mkF m 21 #[.val (.ref st), .val (.int (0 : Int32)), .val (.int (0 : Int32)), .val (.long (x1 &&& m1)), .second] [(.ref st)])) rfl rfl (hb hby d8_21)
    obtain ⟨T1678, X1678, e1678, st1678⟩ := getF X1677 hx hZ hown (host := "") (Or.inl (hw _ (List.mem_of_getElem? (i := 52) rfl))) Via.refl e1677 u1669f (g := (mkF m 27 #[.val (.ref st), .val (.int (0 : Int32)), .val (.int (0 : Int32)), .val (.long (x1 &&& m1)), .second] [(.ref st), (.long x0)])) rfl rfl (hb hby d8_27)
    obtain ⟨T1679, X1679, e1679, st1679⟩ := getF X1678 hx hZ hown (host := "") (Or.inl (hw _ (List.mem_of_getElem? (i := 46) rfl))) Via.refl e1678 u1669c (g := (mkF m 36 #[.val (.ref st), .val (.int (0 : Int32)), .val (.int (0 : Int32)), .val (.long (x0 &&& m0)), .second] [(.ref st), (.long (x0 &&& m0))])) rfl rfl (hb hby d8_36)
    have k1680 : ∀ t, Steps p.tables e below (T1679.setTop (mkF m 42 #[.val (.ref st), .val (.int (0 : Int32)), .val (.int (0 : Int32)), .val (.long (x0 &&& m0)), .second] [(.int (lcmpW (x0 &&& m0) x0))])) t → Steps p.tables e below (s₁.setTop (entryFrame m #[(.ref st)] 5)) t := fun t hk => k1675 t (by
      show Steps p.tables e below (T1674.setTop (mkF m 42 #[.val (.ref st), .val (.int (1 : Int32)), .val (.int (1 : Int32)), .val (.long (x1 &&& m1)), .second] [(.int (lcmpW (x1 &&& m1) x1))])) _
      refine XS.ifYes X1674.here hx rfl (pc0 := 42) (pc' := 105) rfl (hb hby d8_42) rfl ((if0 _ _).trans (teq ((lw_eq _ _).mpr hc42)).1) (by decide) (by decide) ?_
      refine XS.iinc X1674.here hx rfl (hb hby d8_105) rfl (l' := #[.val (.ref st), .val (.int (0 : Int32)), .val (.int (1 : Int32)), .val (.long (x1 &&& m1)), .second]) rfl ?_
      refine XS.goto X1674.here hx rfl (pc0 := 108) (pc' := 9) rfl (hb hby d8_108) (by decide) (by decide) ?_
      refine XS.iloadN X1674.here hx rfl (hb hby d8_9) rfl ?_
      show Steps p.tables e below (T1674.setTop (mkF m 10 #[.val (.ref st), .val (.int (0 : Int32)), .val (.int (1 : Int32)), .val (.long (x1 &&& m1)), .second] [(.int (0 : Int32))])) _
      refine XS.ifNo X1674.here hx rfl (hb hby d8_10) rfl ((if0 _ _).trans (flt (by decide : ¬ ((0 : Int32) < (0 : Int32)))).1) ?_
      refine XS.aloadN X1674.here hx rfl (hb hby d8_13) rfl rfl ?_
      refine st1676 _ ?_
      refine XS.iloadN X1676.here hx rfl (hb hby d8_17) rfl ?_
      show Steps p.tables e below (T1676.setTop (mkF m 18 #[.val (.ref st), .val (.int (0 : Int32)), .val (.int (1 : Int32)), .val (.long (x1 &&& m1)), .second] [(.int (0 : Int32)), (.ref nz)])) _
      refine own_iald X1676 hx hZ e1676 Vn (k := 0) ⟨by decide, rfl, by decide⟩ rfl (g := (mkF m 18 #[.val (.ref st), .val (.int (0 : Int32)), .val (.int (1 : Int32)), .val (.long (x1 &&& m1)), .second] [(.int (0 : Int32)), (.ref nz)])) rfl rfl (hb hby d8_18) _ ?_
      refine XS.istoreN X1676.here hx rfl (hb hby d8_19) rfl (l' := #[.val (.ref st), .val (.int (0 : Int32)), .val (.int (0 : Int32)), .val (.long (x1 &&& m1)), .second]) rfl ?_
      refine XS.aloadN X1676.here hx rfl (hb hby d8_20) rfl rfl ?_
      refine st1677 _ ?_
      show Steps p.tables e below (T1677.setTop (mkF m 24 #[.val (.ref st), .val (.int (0 : Int32)), .val (.int (0 : Int32)), .val (.long (x1 &&& m1)), .second] [(.ref wo)])) _
      refine XS.iloadN X1677.here hx rfl (hb hby d8_24) rfl ?_
      refine own_lald X1677 hx hZ e1677 Vo (k := 0) ⟨by decide, rfl, by decide⟩ rfl (g := (mkF m 25 #[.val (.ref st), .val (.int (0 : Int32)), .val (.int (0 : Int32)), .val (.long (x1 &&& m1)), .second] [(.int (0 : Int32)), (.ref wo)])) rfl rfl (hb hby d8_25) _ ?_
      refine XS.aloadN X1677.here hx rfl (hb hby d8_26) rfl rfl ?_
      refine st1678 _ ?_
      show Steps p.tables e below (T1678.setTop (mkF m 30 #[.val (.ref st), .val (.int (0 : Int32)), .val (.int (0 : Int32)), .val (.long (x1 &&& m1)), .second] [(.ref ma), (.long x0)])) _
      refine XS.iloadN X1678.here hx rfl (hb hby d8_30) rfl ?_
      refine own_lald X1678 hx hZ e1678 Vm (k := 0) ⟨by decide, rfl, by decide⟩ rfl (g := (mkF m 31 #[.val (.ref st), .val (.int (0 : Int32)), .val (.int (0 : Int32)), .val (.long (x1 &&& m1)), .second] [(.int (0 : Int32)), (.ref ma), (.long x0)])) rfl rfl (hb hby d8_31) _ ?_
      refine XS.land X1678.here hx rfl (hb hby d8_32) rfl ?_
      refine XS.lstoreN X1678.here hx rfl (hb hby d8_33) rfl (l' := #[.val (.ref st), .val (.int (0 : Int32)), .val (.int (0 : Int32)), .val (.long (x0 &&& m0)), .second]) rfl ?_
      show Steps p.tables e below (T1678.setTop (mkF m 34 #[.val (.ref st), .val (.int (0 : Int32)), .val (.int (0 : Int32)), .val (.long (x0 &&& m0)), .second] [])) _
      refine XS.lloadN X1678.here hx rfl (hb hby d8_34) rfl ?_
      refine XS.aloadN X1678.here hx rfl (hb hby d8_35) rfl rfl ?_
      refine st1679 _ ?_
      refine XS.iloadN X1679.here hx rfl (hb hby d8_39) rfl ?_
      show Steps p.tables e below (T1679.setTop (mkF m 40 #[.val (.ref st), .val (.int (0 : Int32)), .val (.int (0 : Int32)), .val (.long (x0 &&& m0)), .second] [(.int (0 : Int32)), (.ref wo), (.long (x0 &&& m0))])) _
      refine own_lald X1679 hx hZ e1679 Vo (k := 0) ⟨by decide, rfl, by decide⟩ rfl (g := (mkF m 40 #[.val (.ref st), .val (.int (0 : Int32)), .val (.int (0 : Int32)), .val (.long (x0 &&& m0)), .second] [(.int (0 : Int32)), (.ref wo), (.long (x0 &&& m0))])) rfl rfl (hb hby d8_40) _ ?_
      refine XS.lcmp X1679.here hx rfl (hb hby d8_41) rfl ?_
      exact hk)
    by_cases hc42' : (x0 &&& m0) = x0
    ·
      have k1681 : ∀ t, Steps p.tables e below (T1679.setTop (mkF m 111 #[.val (.ref st), .val (.int (-1 : Int32)), .val (.int (0 : Int32)), .val (.long (x0 &&& m0)), .second] [])) t → Steps p.tables e below (s₁.setTop (entryFrame m #[(.ref st)] 5)) t := fun t hk => k1680 t (by
        show Steps p.tables e below (T1679.setTop (mkF m 42 #[.val (.ref st), .val (.int (0 : Int32)), .val (.int (0 : Int32)), .val (.long (x0 &&& m0)), .second] [(.int (lcmpW (x0 &&& m0) x0))])) _
        refine XS.ifYes X1679.here hx rfl (pc0 := 42) (pc' := 105) rfl (hb hby d8_42) rfl ((if0 _ _).trans (teq ((lw_eq _ _).mpr hc42')).1) (by decide) (by decide) ?_
        refine XS.iinc X1679.here hx rfl (hb hby d8_105) rfl (l' := #[.val (.ref st), .val (.int (-1 : Int32)), .val (.int (0 : Int32)), .val (.long (x0 &&& m0)), .second]) rfl ?_
        refine XS.goto X1679.here hx rfl (pc0 := 108) (pc' := 9) rfl (hb hby d8_108) (by decide) (by decide) ?_
        refine XS.iloadN X1679.here hx rfl (hb hby d8_9) rfl ?_
        show Steps p.tables e below (T1679.setTop (mkF m 10 #[.val (.ref st), .val (.int (-1 : Int32)), .val (.int (0 : Int32)), .val (.long (x0 &&& m0)), .second] [(.int (-1 : Int32))])) _
        refine XS.ifYes X1679.here hx rfl (pc0 := 10) (pc' := 111) rfl (hb hby d8_10) rfl ((if0 _ _).trans (tlt (by decide : (-1 : Int32) < (0 : Int32))).1) (by decide) (by decide) ?_
        exact hk)
      have Vfin : OwnAV Z h0 wo .long 2 (fun i => (.long (own_l2 (x0 &&& m0) (x1 &&& m1) i))) := by
        rw [hc42', hc42]; exact Vo
      obtain ⟨fs, hr, hrun, hended, hW, hsame⟩ := X1679.leave (v := none) (fun _ => rfl)
      refine ⟨_, _, k1681 _ ?_, hrun, hended, _, _, rfl, ?_, ⟨_, rfl⟩, hW, hsame.mono (by decide) (by decide)⟩
      · show Steps p.tables e below (T1679.setTop (mkF m 111 #[.val (.ref st), .val (.int (-1 : Int32)), .val (.int (0 : Int32)), .val (.long (x0 &&& m0)), .second] [])) _
        exact X1679.returnOut hx Bd.returns (hb hby d8_111) hr
      · show Qx2 Z st tr ow ix sv lim wo sa nz ma x0 x1 y0 y1 m0 m1 h0 n0 _ T1679.heap _
        rw [e1679]
        exact ⟨rfl, N0, (Keep.refl h0 [st, tr, ow, ix, sv, wo, sa, nz, lim]), _, (2 : Int32), (0 : Int32), (1 : Int32), ⟨u1669E, u1669a, u1669b, u1669c, u1669d, u1669e, u1669f, u1669g⟩, Vfin, Vn, Vl, Or.inl ⟨rfl, rfl, rfl⟩⟩
    ·
      obtain ⟨T1682, X1682, e1682, st1682⟩ := getF X1679 hx hZ hown (host := "") (Or.inl (hw _ (List.mem_of_getElem? (i := 48) rfl))) Via.refl e1679 u1669d (g := (mkF m 46 #[.val (.ref st), .val (.int (0 : Int32)), .val (.int (0 : Int32)), .val (.long (x0 &&& m0)), .second] [(.ref st)])) rfl rfl (hb hby d8_46)
      obtain ⟨T1683, X1683, e1683, st1683⟩ := getF X1682 hx hZ hown (host := "") (Or.inl (hw _ (List.mem_of_getElem? (i := 35) rfl))) Via.refl e1682 u1669a (g := (mkF m 52 #[.val (.ref st), .val (.int (0 : Int32)), .val (.int (0 : Int32)), .val (.long (x0 &&& m0)), .second] [(.ref st), (.long y0)])) rfl rfl (hb hby d8_52)
      obtain ⟨cq1684, kq1684, q1684a, q1684b, q1684c⟩ := isOf hZ e1683 u1668E
      obtain ⟨_, _, ⟨T1684, L1684, k1684, n1684⟩, -, X1684, ⟨Lc1684, hQ1684, l1684, y1684, z1684⟩, st1684⟩ := X1683.virtualBack hx (y := (⟨"com/example/faultline/faultline/engine/Trail", "world", "()J"⟩ : MethodName)) (z := (⟨"com/example/faultline/faultline/engine/Trail", "world", "()J"⟩ : MethodName)) hown (mvT hZ (hw _ (List.mem_of_getElem? (i := 69) rfl))) (mvT hZ (hw _ (List.mem_of_getElem? (i := 70) rfl))) (notFace_of_selects (args := #[]) (mvT hZ (hw _ (List.mem_of_getElem? (i := 72) rfl)))) (mvT hZ (hw _ (List.mem_of_getElem? (i := 72) rfl))) (mvT hZ (hw _ (List.mem_of_getElem? (i := 71) rfl))) (by decide) (backOf (W := 2) (rm10 l Z a0 hw [] tr (0 : Int64) h0 n0 Z0 u1668e) hZ (hw _ (List.mem_of_getElem? (i := 73) rfl)) (hw _ (List.mem_of_getElem? (i := 2) rfl)) (by decide) (by decide)) q1684a q1684c (g := (mkF m 55 #[.val (.ref st), .val (.int (0 : Int32)), .val (.int (0 : Int32)), .val (.long (x0 &&& m0)), .second] [(.ref tr), (.long y0)])) rfl (by rw [hml]; rfl) (Steps.refl _) (argsL := []) (rest := [(.long y0)]) (lenOf pd_2 rfl) rfl (by show 2 * 0 + _ ≤ _; exact Nat.le_of_eq rfl) (hb hby d8_55) (fun _ _ => ⟨rfl, e1683, (by decide : 0 + 0 ≤ _), (by decide : 0 + 0 ≤ _)⟩)
      dsimp only [Pt.U, Pt.locs, Pt.cells, Pt.slots] at X1684 l1684 y1684 z1684 st1684 hQ1684
      subst l1684 y1684 z1684
      obtain ⟨rfl, N1684q, e1684⟩ := hQ1684
      have N1684 := Fr.app N0 N1684q
      obtain ⟨T1685, X1685, e1685, st1685⟩ := getF X1684 hx hZ hown (host := "") (Or.inl (hw _ (List.mem_of_getElem? (i := 35) rfl))) Via.refl e1684 u1669a (g := (mkF m 63 #[.val (.ref st), .val (.int (0 : Int32)), .val (.int (0 : Int32)), .val (.long (x0 &&& m0)), .second] [(.ref st)])) rfl rfl (hb hby d8_63)
      obtain ⟨T1686, X1686, e1686, st1686⟩ := getF X1685 hx hZ hown (host := "") (Or.inl (hw _ (List.mem_of_getElem? (i := 46) rfl))) Via.refl e1685 u1669c (g := (mkF m 67 #[.val (.ref st), .val (.int (0 : Int32)), .val (.int (0 : Int32)), .val (.long (x0 &&& m0)), .second] [(.ref st), (.ref tr)])) rfl rfl (hb hby d8_67)
      obtain ⟨cq1687, kq1687, q1687a, q1687b, q1687c⟩ := isOf hZ e1686 u1668E
      obtain ⟨_, _, ⟨T1687, L1687, k1687, n1687⟩, -, X1687, ⟨Lc1687, hQ1687, l1687, y1687, z1687⟩, st1687⟩ := X1686.virtualBack hx (y := (⟨"com/example/faultline/faultline/engine/Trail", "save", "([JI)V"⟩ : MethodName)) (z := (⟨"com/example/faultline/faultline/engine/Trail", "save", "([JI)V"⟩ : MethodName)) hown (mvT hZ (hw _ (List.mem_of_getElem? (i := 76) rfl))) (mvT hZ (hw _ (List.mem_of_getElem? (i := 77) rfl))) (notFace_of_selects (args := #[]) (mvT hZ (hw _ (List.mem_of_getElem? (i := 79) rfl)))) (mvT hZ (hw _ (List.mem_of_getElem? (i := 79) rfl))) (mvT hZ (hw _ (List.mem_of_getElem? (i := 78) rfl))) (by decide) (backOf (W := 0) (rm11 l Z a0 hw [] tr wo (0 : Int32) ow ix sv (0 : Int32) 2 0 (own_l2 x0 x1) h0 n0 Z0 ⟨u1668E, u1668a, u1668b, u1668c, u1668d, u1668e, u1668o, ⟨_, u1668x⟩, ⟨_, u1668s⟩⟩ hap hnew (by decide : 0 ≤ (0 : Int32).toInt) (by decide) Eo Vo ⟨by decide, rfl, by decide⟩) hZ (hw _ (List.mem_of_getElem? (i := 80) rfl)) (hw _ (List.mem_of_getElem? (i := 2) rfl)) (by decide) (by decide)) q1687a q1687c (g := (mkF m 71 #[.val (.ref st), .val (.int (0 : Int32)), .val (.int (0 : Int32)), .val (.long (x0 &&& m0)), .second] [(.int (0 : Int32)), (.ref wo), (.ref tr)])) rfl (by rw [hml]; rfl) (Steps.refl _) (argsL := [(.ref wo), (.int (0 : Int32))]) (rest := []) (lenOf pd_6 rfl) rfl (by show 2 * 0 + _ ≤ _; exact Nat.le_of_eq rfl) (hb hby d8_71) (fun _ _ => ⟨rfl, e1686, (by decide : 0 + 0 ≤ _), (by decide : 0 + 0 ≤ _)⟩)
      dsimp only [Pt.U, Pt.locs, Pt.cells, Pt.slots] at X1687 l1687 y1687 z1687 st1687 hQ1687
      subst l1687 y1687 z1687
      obtain ⟨rfl, N1687q, K1687, hT1687⟩ := hQ1687
      have N1687 := Fr.app N1684 N1687q
      have F1688 := u1669a.keep K1687 (ninS hnes.1 (ninS hnes.2.1 (ninS hnes.2.2.1 (ninS hnes.2.2.2.1 nin0))))
      have F1689 := u1669b.keep K1687 (ninS hnes.1 (ninS hnes.2.1 (ninS hnes.2.2.1 (ninS hnes.2.2.2.1 nin0))))
      have F1690 := u1669c.keep K1687 (ninS hnes.1 (ninS hnes.2.1 (ninS hnes.2.2.1 (ninS hnes.2.2.2.1 nin0))))
      have F1691 := u1669d.keep K1687 (ninS hnes.1 (ninS hnes.2.1 (ninS hnes.2.2.1 (ninS hnes.2.2.2.1 nin0))))
      have F1692 := u1669e.keep K1687 (ninS hnes.1 (ninS hnes.2.1 (ninS hnes.2.2.1 (ninS hnes.2.2.2.1 nin0))))
      have F1693 := u1669f.keep K1687 (ninS hnes.1 (ninS hnes.2.1 (ninS hnes.2.2.1 (ninS hnes.2.2.2.1 nin0))))
      have F1694 := u1669g.keep K1687 (ninS hnes.1 (ninS hnes.2.1 (ninS hnes.2.2.1 (ninS hnes.2.2.2.1 nin0))))
      have E1695 := u1668E.keep K1687
      have E1696 := u1669E.keep K1687
      have E1697 := El.keep K1687
      have E1698 := Eo.keep K1687
      have A1699 := Vl.keep K1687 (ninS (Ne.symm hnes.2.2.2.2.2.2.2.2.2.1) (ninS (Ne.symm hnes.2.2.2.2.2.2.2.2.2.2.2.2.2.2.1) (ninS (Ne.symm hnes.2.2.2.2.2.2.2.2.2.2.2.2.2.2.2.2.2.2.2.1) (ninS (Ne.symm hnes.2.2.2.2.2.2.2.2.2.2.2.2.2.2.2.2.2.2.2.2.2.2.2.2.1) nin0))))
      have A1700 := Vo.keep K1687 (ninS (Ne.symm hnes.2.2.2.2.2.2.2.2.2.2.1) (ninS (Ne.symm hnes.2.2.2.2.2.2.2.2.2.2.2.2.2.2.2.1) (ninS (Ne.symm hnes.2.2.2.2.2.2.2.2.2.2.2.2.2.2.2.2.2.2.2.2.1) (ninS (Ne.symm hnes.2.2.2.2.2.2.2.2.2.2.2.2.2.2.2.2.2.2.2.2.2.2.2.2.2.1) nin0))))
      have A1701 := Vs.keep K1687 (ninS (Ne.symm hnes.2.2.2.2.2.2.2.2.2.2.2.1) (ninS (Ne.symm hnes.2.2.2.2.2.2.2.2.2.2.2.2.2.2.2.2.1) (ninS (Ne.symm hnes.2.2.2.2.2.2.2.2.2.2.2.2.2.2.2.2.2.2.2.2.2.1) (ninS (Ne.symm hnes.2.2.2.2.2.2.2.2.2.2.2.2.2.2.2.2.2.2.2.2.2.2.2.2.2.2.1) nin0))))
      have A1702 := Vn.keep K1687 (ninS (Ne.symm hnes.2.2.2.2.2.2.2.2.2.2.2.2.1) (ninS (Ne.symm hnes.2.2.2.2.2.2.2.2.2.2.2.2.2.2.2.2.2.1) (ninS (Ne.symm hnes.2.2.2.2.2.2.2.2.2.2.2.2.2.2.2.2.2.2.2.2.2.2.1) (ninS (Ne.symm hnes.2.2.2.2.2.2.2.2.2.2.2.2.2.2.2.2.2.2.2.2.2.2.2.2.2.2.2.1) nin0))))
      have A1703 := Vm.keep K1687 (ninS (Ne.symm hnes.2.2.2.2.2.2.2.2.2.2.2.2.2.1) (ninS (Ne.symm hnes.2.2.2.2.2.2.2.2.2.2.2.2.2.2.2.2.2.2.1) (ninS (Ne.symm hnes.2.2.2.2.2.2.2.2.2.2.2.2.2.2.2.2.2.2.2.2.2.2.2.1) (ninS (Ne.symm hnes.2.2.2.2.2.2.2.2.2.2.2.2.2.2.2.2.2.2.2.2.2.2.2.2.2.2.2.2.1) nin0))))
      have K1704 := (Keep.refl h0 [st, tr, ow, ix, sv, wo, sa, nz, lim]).trans K1687 (allS (Or.inl (List.mem_of_getElem? (i := 1) rfl)) (allS (Or.inl (List.mem_of_getElem? (i := 2) rfl)) (allS (Or.inl (List.mem_of_getElem? (i := 3) rfl)) (allS (Or.inl (List.mem_of_getElem? (i := 4) rfl)) all0))))
      have Z1705 : n0 ≤ T1687.heap.size := Nat.le_trans Z0 K1687.1
      obtain ⟨t1706, qt1706⟩ : ∃ z : Int32, z = (0 : Int32) + (1 : Int32) := ⟨_, rfl⟩
      rw [← qt1706] at hT1687
      obtain ⟨pt1706, rt1706⟩ := own_tick (0 : Int32) t1706 qt1706 (by decide : 0 ≤ (0 : Int32).toInt) (by decide)
      obtain ⟨u1707E, u1707a, u1707b, u1707c, u1707d, u1707e, u1707o, ⟨u1707fi, u1707x⟩, ⟨u1707fs, u1707s⟩⟩ := hT1687
      obtain ⟨T1708, X1708, e1708, st1708⟩ := getF X1687 hx hZ hown (host := "") (Or.inl (hw _ (List.mem_of_getElem? (i := 48) rfl))) Via.refl rfl F1691 (g := (mkF m 75 #[.val (.ref st), .val (.int (0 : Int32)), .val (.int (0 : Int32)), .val (.long (x0 &&& m0)), .second] [(.ref st)])) rfl rfl (hb hby d8_75)
      obtain ⟨T1709, X1709, e1709, st1709⟩ := getF X1708 hx hZ hown (host := "") (Or.inl (hw _ (List.mem_of_getElem? (i := 35) rfl))) Via.refl e1708 F1688 (g := (mkF m 80 #[.val (.ref st), .val (.int (0 : Int32)), .val (.int (0 : Int32)), .val (.long (x0 &&& m0)), .second] [(.ref st), (.int (0 : Int32)), (.ref sa)])) rfl rfl (hb hby d8_80)
      obtain ⟨cq1710, kq1710, q1710a, q1710b, q1710c⟩ := isOf hZ e1709 u1707E
      obtain ⟨_, _, ⟨T1710, L1710, k1710, n1710⟩, -, X1710, ⟨Lc1710, hQ1710, l1710, y1710, z1710⟩, st1710⟩ := X1709.virtualBack hx (y := (⟨"com/example/faultline/faultline/engine/Trail", "world", "()J"⟩ : MethodName)) (z := (⟨"com/example/faultline/faultline/engine/Trail", "world", "()J"⟩ : MethodName)) hown (mvT hZ (hw _ (List.mem_of_getElem? (i := 69) rfl))) (mvT hZ (hw _ (List.mem_of_getElem? (i := 70) rfl))) (notFace_of_selects (args := #[]) (mvT hZ (hw _ (List.mem_of_getElem? (i := 72) rfl)))) (mvT hZ (hw _ (List.mem_of_getElem? (i := 72) rfl))) (mvT hZ (hw _ (List.mem_of_getElem? (i := 71) rfl))) (by decide) (backOf (W := 2) (rm10 l Z a0 hw [] tr (0 : Int64) T1687.heap n0 Z1705 u1707e) hZ (hw _ (List.mem_of_getElem? (i := 73) rfl)) (hw _ (List.mem_of_getElem? (i := 2) rfl)) (by decide) (by decide)) q1710a q1710c (g := (mkF m 83 #[.val (.ref st), .val (.int (0 : Int32)), .val (.int (0 : Int32)), .val (.long (x0 &&& m0)), .second] [(.ref tr), (.int (0 : Int32)), (.ref sa)])) rfl (by rw [hml]; rfl) (Steps.refl _) (argsL := []) (rest := [(.int (0 : Int32)), (.ref sa)]) (lenOf pd_2 rfl) rfl (by show 2 * 0 + _ ≤ _; exact Nat.le_of_eq rfl) (hb hby d8_83) (fun _ _ => ⟨rfl, e1709, (by decide : 0 + 0 ≤ _), (by decide : 0 + 0 ≤ _)⟩)
      dsimp only [Pt.U, Pt.locs, Pt.cells, Pt.slots] at X1710 l1710 y1710 z1710 st1710 hQ1710
      subst l1710 y1710 z1710
      obtain ⟨rfl, N1710q, e1710⟩ := hQ1710
      have N1710 := Fr.app N1687 N1710q
      obtain ⟨T1711, h1711, X1711, e1711, W1711, st1711⟩ := own_last X1710 hx hZ e1710 A1701 (k := 0) ⟨by decide, rfl, by decide⟩ (g := (mkF m 86 #[.val (.ref st), .val (.int (0 : Int32)), .val (.int (0 : Int32)), .val (.long (x0 &&& m0)), .second] [(.long (0 : Int64)), (.int (0 : Int32)), (.ref sa)])) rfl rfl (hb hby d8_86)
      have A1712 : OwnAV Z h1711 sa .long 2 (fun i => (.long ((own_l2 (0 : Int64) y1) i))) := (A1701.storeJ W1711).congr (fun j hj => by
          have q : j = 0 ∨ j = 1 := by omega
          rcases q with rfl | rfl <;> rfl)
      have F1713 := F1688.other W1711 (Or.inl hnes.2.2.2.2.2.2.1)
      have F1714 := F1689.other W1711 (Or.inl hnes.2.2.2.2.2.2.1)
      have F1715 := F1690.other W1711 (Or.inl hnes.2.2.2.2.2.2.1)
      have F1716 := F1691.other W1711 (Or.inl hnes.2.2.2.2.2.2.1)
      have F1717 := F1692.other W1711 (Or.inl hnes.2.2.2.2.2.2.1)
      have F1718 := F1693.other W1711 (Or.inl hnes.2.2.2.2.2.2.1)
      have F1719 := F1694.other W1711 (Or.inl hnes.2.2.2.2.2.2.1)
      have F1720 := u1707a.other W1711 (Or.inl hnes.2.2.2.2.2.2.2.2.2.2.2.1)
      have F1721 := u1707b.other W1711 (Or.inl hnes.2.2.2.2.2.2.2.2.2.2.2.1)
      have F1722 := u1707c.other W1711 (Or.inl hnes.2.2.2.2.2.2.2.2.2.2.2.1)
      have F1723 := u1707d.other W1711 (Or.inl hnes.2.2.2.2.2.2.2.2.2.2.2.1)
      have F1724 := u1707e.other W1711 (Or.inl hnes.2.2.2.2.2.2.2.2.2.2.2.1)
      have E1725 := u1707E.wr W1711
      have E1726 := E1696.wr W1711
      have E1727 := E1697.wr W1711
      have E1728 := E1698.wr W1711
      have A1729 := A1699.other W1711 hnes.2.2.2.2.2.2.2.2.2.2.2.2.2.2.2.2.2.2.2.2.2.2.2.2.2.2.2.2.2.2.1
      have A1730 := A1700.other W1711 hnes.2.2.2.2.2.2.2.2.2.2.2.2.2.2.2.2.2.2.2.2.2.2.2.2.2.2.2.2.2.2.2.2.2.1
      have A1731 := A1702.other W1711 (Ne.symm hnes.2.2.2.2.2.2.2.2.2.2.2.2.2.2.2.2.2.2.2.2.2.2.2.2.2.2.2.2.2.2.2.2.2.2.2.2.1)
      have A1732 := A1703.other W1711 (Ne.symm hnes.2.2.2.2.2.2.2.2.2.2.2.2.2.2.2.2.2.2.2.2.2.2.2.2.2.2.2.2.2.2.2.2.2.2.2.2.2.1)
      have A1733 := u1707o.other W1711 hnes.2.2.2.2.2.2.2.2.2.2.2.2.2.2.2.2.1
      have A1734 := u1707x.other W1711 hnes.2.2.2.2.2.2.2.2.2.2.2.2.2.2.2.2.2.2.2.2.2.1
      have A1735 := u1707s.other W1711 hnes.2.2.2.2.2.2.2.2.2.2.2.2.2.2.2.2.2.2.2.2.2.2.2.2.2.2.1
      have K1736 := K1704.wr W1711 (Or.inl (List.mem_of_getElem? (i := 6) rfl))
      have Z1737 : n0 ≤ h1711.size := W1711.size ▸ Z1705
      have N1738 := Fr.snoc X1711 N1710 gsa
      obtain ⟨T1739, X1739, e1739, st1739⟩ := getF X1711 hx hZ hown (host := "") (Or.inl (hw _ (List.mem_of_getElem? (i := 46) rfl))) Via.refl e1711 F1715 (g := (mkF m 88 #[.val (.ref st), .val (.int (0 : Int32)), .val (.int (0 : Int32)), .val (.long (x0 &&& m0)), .second] [(.ref st)])) rfl rfl (hb hby d8_88)
      obtain ⟨T1740, h1740, X1740, e1740, W1740, st1740⟩ := own_last X1739 hx hZ e1739 A1730 (k := 0) ⟨by decide, rfl, by decide⟩ (g := (mkF m 93 #[.val (.ref st), .val (.int (0 : Int32)), .val (.int (0 : Int32)), .val (.long (x0 &&& m0)), .second] [(.long (x0 &&& m0)), (.int (0 : Int32)), (.ref wo)])) rfl rfl (hb hby d8_93)
      have A1741 : OwnAV Z h1740 wo .long 2 (fun i => (.long ((own_l2 (x0 &&& m0) x1) i))) := (A1730.storeJ W1740).congr (fun j hj => by
          have q : j = 0 ∨ j = 1 := by omega
          rcases q with rfl | rfl <;> rfl)
      have F1742 := F1713.other W1740 (Or.inl hnes.2.2.2.2.2.1)
      have F1743 := F1714.other W1740 (Or.inl hnes.2.2.2.2.2.1)
      have F1744 := F1715.other W1740 (Or.inl hnes.2.2.2.2.2.1)
      have F1745 := F1716.other W1740 (Or.inl hnes.2.2.2.2.2.1)
      have F1746 := F1717.other W1740 (Or.inl hnes.2.2.2.2.2.1)
      have F1747 := F1718.other W1740 (Or.inl hnes.2.2.2.2.2.1)
      have F1748 := F1719.other W1740 (Or.inl hnes.2.2.2.2.2.1)
      have F1749 := F1720.other W1740 (Or.inl hnes.2.2.2.2.2.2.2.2.2.2.1)
      have F1750 := F1721.other W1740 (Or.inl hnes.2.2.2.2.2.2.2.2.2.2.1)
      have F1751 := F1722.other W1740 (Or.inl hnes.2.2.2.2.2.2.2.2.2.2.1)
      have F1752 := F1723.other W1740 (Or.inl hnes.2.2.2.2.2.2.2.2.2.2.1)
      have F1753 := F1724.other W1740 (Or.inl hnes.2.2.2.2.2.2.2.2.2.2.1)
      have E1754 := E1725.wr W1740
      have E1755 := E1726.wr W1740
      have E1756 := E1727.wr W1740
      have E1757 := E1728.wr W1740
      have A1758 := A1729.other W1740 hnes.2.2.2.2.2.2.2.2.2.2.2.2.2.2.2.2.2.2.2.2.2.2.2.2.2.2.2.2.2.1
      have A1759 := A1712.other W1740 (Ne.symm hnes.2.2.2.2.2.2.2.2.2.2.2.2.2.2.2.2.2.2.2.2.2.2.2.2.2.2.2.2.2.2.2.2.2.1)
      have A1760 := A1731.other W1740 (Ne.symm hnes.2.2.2.2.2.2.2.2.2.2.2.2.2.2.2.2.2.2.2.2.2.2.2.2.2.2.2.2.2.2.2.2.2.2.1)
      have A1761 := A1732.other W1740 (Ne.symm hnes.2.2.2.2.2.2.2.2.2.2.2.2.2.2.2.2.2.2.2.2.2.2.2.2.2.2.2.2.2.2.2.2.2.2.2.1)
      have A1762 := A1733.other W1740 hnes.2.2.2.2.2.2.2.2.2.2.2.2.2.2.2.1
      have A1763 := A1734.other W1740 hnes.2.2.2.2.2.2.2.2.2.2.2.2.2.2.2.2.2.2.2.2.1
      have A1764 := A1735.other W1740 hnes.2.2.2.2.2.2.2.2.2.2.2.2.2.2.2.2.2.2.2.2.2.2.2.2.2.1
      have K1765 := K1736.wr W1740 (Or.inl (List.mem_of_getElem? (i := 5) rfl))
      have Z1766 : n0 ≤ h1740.size := W1740.size ▸ Z1737
      have N1767 := Fr.snoc X1740 N1738 gwo
      have k1768 : ∀ t, Steps p.tables e below (T1740.setTop (mkF m 97 #[.val (.ref st), .val (.int (0 : Int32)), .val (.int (0 : Int32)), .val (.long (x0 &&& m0)), .second] [(.int (lcmpW (x0 &&& m0) (0 : Int64)))])) t → Steps p.tables e below (s₁.setTop (entryFrame m #[(.ref st)] 5)) t := fun t hk => k1680 t (by
        show Steps p.tables e below (T1679.setTop (mkF m 42 #[.val (.ref st), .val (.int (0 : Int32)), .val (.int (0 : Int32)), .val (.long (x0 &&& m0)), .second] [(.int (lcmpW (x0 &&& m0) x0))])) _
        refine XS.ifNo X1679.here hx rfl (hb hby d8_42) rfl ((if0 _ _).trans (feq (fun q => hc42' ((lw_eq _ _).mp q))).1) ?_
        refine XS.aloadN X1679.here hx rfl (hb hby d8_45) rfl rfl ?_
        refine st1682 _ ?_
        refine XS.iloadN X1682.here hx rfl (hb hby d8_49) rfl ?_
        show Steps p.tables e below (T1682.setTop (mkF m 50 #[.val (.ref st), .val (.int (0 : Int32)), .val (.int (0 : Int32)), .val (.long (x0 &&& m0)), .second] [(.int (0 : Int32)), (.ref sa)])) _
        refine own_lald X1682 hx hZ e1682 Vs (k := 0) ⟨by decide, rfl, by decide⟩ rfl (g := (mkF m 50 #[.val (.ref st), .val (.int (0 : Int32)), .val (.int (0 : Int32)), .val (.long (x0 &&& m0)), .second] [(.int (0 : Int32)), (.ref sa)])) rfl rfl (hb hby d8_50) _ ?_
        refine XS.aloadN X1682.here hx rfl (hb hby d8_51) rfl rfl ?_
        refine st1683 _ ?_
        refine st1684.trans ?_
        show Steps p.tables e below (T1684.setTop (mkF m 58 #[.val (.ref st), .val (.int (0 : Int32)), .val (.int (0 : Int32)), .val (.long (x0 &&& m0)), .second] [(.long (0 : Int64)), (.long y0)])) _
        refine XS.lcmp X1684.here hx rfl (hb hby d8_58) rfl ?_
        refine XS.ifNo X1684.here hx rfl (hb hby d8_59) rfl ((if0 _ _).trans (feq (fun q => hys0 ((lw_eq _ _).mp q))).1) ?_
        refine XS.aloadN X1684.here hx rfl (hb hby d8_62) rfl rfl ?_
        refine st1685 _ ?_
        show Steps p.tables e below (T1685.setTop (mkF m 66 #[.val (.ref st), .val (.int (0 : Int32)), .val (.int (0 : Int32)), .val (.long (x0 &&& m0)), .second] [(.ref tr)])) _
        refine XS.aloadN X1685.here hx rfl (hb hby d8_66) rfl rfl ?_
        refine st1686 _ ?_
        refine XS.iloadN X1686.here hx rfl (hb hby d8_70) rfl ?_
        refine st1687.trans ?_
        show Steps p.tables e below (T1687.setTop (mkF m 74 #[.val (.ref st), .val (.int (0 : Int32)), .val (.int (0 : Int32)), .val (.long (x0 &&& m0)), .second] [])) _
        refine XS.aloadN X1687.here hx rfl (hb hby d8_74) rfl rfl ?_
        refine st1708 _ ?_
        refine XS.iloadN X1708.here hx rfl (hb hby d8_78) rfl ?_
        refine XS.aloadN X1708.here hx rfl (hb hby d8_79) rfl rfl ?_
        show Steps p.tables e below (T1708.setTop (mkF m 80 #[.val (.ref st), .val (.int (0 : Int32)), .val (.int (0 : Int32)), .val (.long (x0 &&& m0)), .second] [(.ref st), (.int (0 : Int32)), (.ref sa)])) _
        refine st1709 _ ?_
        refine st1710.trans ?_
        refine st1711 _ ?_
        refine XS.aloadN X1711.here hx rfl (hb hby d8_87) rfl rfl ?_
        show Steps p.tables e below (T1711.setTop (mkF m 88 #[.val (.ref st), .val (.int (0 : Int32)), .val (.int (0 : Int32)), .val (.long (x0 &&& m0)), .second] [(.ref st)])) _
        refine st1739 _ ?_
        refine XS.iloadN X1739.here hx rfl (hb hby d8_91) rfl ?_
        refine XS.lloadN X1739.here hx rfl (hb hby d8_92) rfl ?_
        refine st1740 _ ?_
        show Steps p.tables e below (T1740.setTop (mkF m 94 #[.val (.ref st), .val (.int (0 : Int32)), .val (.int (0 : Int32)), .val (.long (x0 &&& m0)), .second] [])) _
        refine XS.lloadN X1740.here hx rfl (hb hby d8_94) rfl ?_
        refine XS.lconst X1740.here hx rfl (hb hby d8_95) ?_
        refine XS.lcmp X1740.here hx rfl (hb hby d8_96) rfl ?_
        exact hk)
      by_cases hc97 : (x0 &&& m0) = (0 : Int64)
      ·
        obtain ⟨cq1769, q1769, q1769'⟩ := E1755.cell
        obtain ⟨_, _, ⟨T1769, L1769, k1769, n1769⟩, -, X1769, ⟨Lc1769, hQ1769, l1769, y1769, z1769⟩, st1769⟩ := X1740.privateBack hx (y := (⟨"com/example/faultline/faultline/engine/ReversibleBitSet", "removeNonZero", "(I)V"⟩ : MethodName)) hown (mvT hZ (hw _ (List.mem_of_getElem? (i := 88) rfl))) (mvT hZ (hw _ (List.mem_of_getElem? (i := 89) rfl))) (own_selp (mvT hZ (hw _ (List.mem_of_getElem? (i := 24) rfl))) (Cond.privateMethod_at (mvP hZ (hw _ (List.mem_of_getElem? (i := 90) rfl)) (args := #[]))) (mvT hZ (hw _ (List.mem_of_getElem? (i := 89) rfl))) (by decide)) (Cond.privateMethod_at (mvP hZ (hw _ (List.mem_of_getElem? (i := 90) rfl)) (args := #[]))) (mvT hZ (hw _ (List.mem_of_getElem? (i := 91) rfl))) (by decide) (backOf (W := 0) (rm13 l Z a0 hw [] st (0 : Int32) tr ow ix sv lim wo sa nz ma (-1 : Int64) t1706 (2 : Int32) 2 0 1 (own_l2 (0 : Int32) (1 : Int32)) h1740 n0 Z1766 ⟨E1754, F1749, F1750, F1751, F1752, F1753, A1762, ⟨_, A1763⟩, ⟨_, A1764⟩⟩ hap hnew pt1706 (by omega) ⟨E1755, F1742, F1743, F1744, F1745, F1746, F1747, F1748⟩ hsn ⟨hnes.1, hnes.2.1, hnes.2.2.1, hnes.2.2.2.1, hnes.2.2.2.2.1, hnes.2.2.2.2.2.2.2.1, hnes.2.2.2.2.2.2.2.2.2.1, hnes.2.2.2.2.2.2.2.2.2.2.2.2.1, hnes.2.2.2.2.2.2.2.2.2.2.2.2.2.2.1, hnes.2.2.2.2.2.2.2.2.2.2.2.2.2.2.2.2.2.1, hnes.2.2.2.2.2.2.2.2.2.2.2.2.2.2.2.2.2.2.2.1, hnes.2.2.2.2.2.2.2.2.2.2.2.2.2.2.2.2.2.2.2.2.2.2.1, hnes.2.2.2.2.2.2.2.2.2.2.2.2.2.2.2.2.2.2.2.2.2.2.2.2.1, hnes.2.2.2.2.2.2.2.2.2.2.2.2.2.2.2.2.2.2.2.2.2.2.2.2.2.2.2.1, hnes.2.2.2.2.2.2.2.2.2.2.2.2.2.2.2.2.2.2.2.2.2.2.2.2.2.2.2.2.2.2.2.1⟩ E1756 A1758 A1760 ⟨by decide, rfl, by decide⟩ ⟨by decide, rfl, by decide⟩) hZ (hw _ (List.mem_of_getElem? (i := 91) rfl)) (hw _ (List.mem_of_getElem? (i := 25) rfl)) (by decide) (by decide)) (g := (mkF m 102 #[.val (.ref st), .val (.int (0 : Int32)), .val (.int (0 : Int32)), .val (.long (x0 &&& m0)), .second] [(.int (0 : Int32)), (.ref st)])) rfl (by rw [hml]; rfl) (Steps.refl _) (a := st) (by rw [e1740]; exact q1769) q1769' (argsL := [(.int (0 : Int32))]) (rest := []) (lenOf pd_7 rfl) rfl (by show 2 * 0 + _ ≤ _; exact Nat.le_of_eq rfl) (hb hby d8_102) (fun _ _ => ⟨rfl, e1740, (by decide : 0 + 0 ≤ _), (by decide : 0 + 0 ≤ _)⟩)
        dsimp only [Pt.U, Pt.locs, Pt.cells, Pt.slots] at X1769 l1769 y1769 z1769 st1769 hQ1769
        subst l1769 y1769 z1769
        obtain ⟨rfl, N1769q, K1769, hS1769, ⟨tt1769, pt1769, qt1769, hT1769⟩, Vn1769, Vl1769, El1769⟩ := hQ1769
        have N1769 := Fr.app N1767 N1769q
        have E1770 := E1754.keep K1769
        have E1771 := E1755.keep K1769
        have E1772 := E1756.keep K1769
        have E1773 := E1757.keep K1769
        have A1774 := A1741.keep K1769 (ninS (Ne.symm hnes.2.2.2.2.2.1) (ninS (Ne.symm hnes.2.2.2.2.2.2.2.2.2.2.1) (ninS (Ne.symm hnes.2.2.2.2.2.2.2.2.2.2.2.2.2.2.2.1) (ninS (Ne.symm hnes.2.2.2.2.2.2.2.2.2.2.2.2.2.2.2.2.2.2.2.2.1) (ninS (Ne.symm hnes.2.2.2.2.2.2.2.2.2.2.2.2.2.2.2.2.2.2.2.2.2.2.2.2.2.1) (ninS hnes.2.2.2.2.2.2.2.2.2.2.2.2.2.2.2.2.2.2.2.2.2.2.2.2.2.2.2.2.2.2.2.2.2.2.1 (ninS (Ne.symm hnes.2.2.2.2.2.2.2.2.2.2.2.2.2.2.2.2.2.2.2.2.2.2.2.2.2.2.2.2.2.1) nin0)))))))
        have A1775 := A1759.keep K1769 (ninS (Ne.symm hnes.2.2.2.2.2.2.1) (ninS (Ne.symm hnes.2.2.2.2.2.2.2.2.2.2.2.1) (ninS (Ne.symm hnes.2.2.2.2.2.2.2.2.2.2.2.2.2.2.2.2.1) (ninS (Ne.symm hnes.2.2.2.2.2.2.2.2.2.2.2.2.2.2.2.2.2.2.2.2.2.1) (ninS (Ne.symm hnes.2.2.2.2.2.2.2.2.2.2.2.2.2.2.2.2.2.2.2.2.2.2.2.2.2.2.1) (ninS hnes.2.2.2.2.2.2.2.2.2.2.2.2.2.2.2.2.2.2.2.2.2.2.2.2.2.2.2.2.2.2.2.2.2.2.2.2.1 (ninS (Ne.symm hnes.2.2.2.2.2.2.2.2.2.2.2.2.2.2.2.2.2.2.2.2.2.2.2.2.2.2.2.2.2.2.1) nin0)))))))
        have A1776 := A1761.keep K1769 (ninS (Ne.symm hnes.2.2.2.2.2.2.2.2.1) (ninS (Ne.symm hnes.2.2.2.2.2.2.2.2.2.2.2.2.2.1) (ninS (Ne.symm hnes.2.2.2.2.2.2.2.2.2.2.2.2.2.2.2.2.2.2.1) (ninS (Ne.symm hnes.2.2.2.2.2.2.2.2.2.2.2.2.2.2.2.2.2.2.2.2.2.2.2.1) (ninS (Ne.symm hnes.2.2.2.2.2.2.2.2.2.2.2.2.2.2.2.2.2.2.2.2.2.2.2.2.2.2.2.2.1) (ninS (Ne.symm hnes.2.2.2.2.2.2.2.2.2.2.2.2.2.2.2.2.2.2.2.2.2.2.2.2.2.2.2.2.2.2.2.2.2.2.2.2.2.2) (ninS (Ne.symm hnes.2.2.2.2.2.2.2.2.2.2.2.2.2.2.2.2.2.2.2.2.2.2.2.2.2.2.2.2.2.2.2.2.1) nin0)))))))
        have K1777 := K1765.trans K1769 (allS (Or.inl (List.mem_of_getElem? (i := 0) rfl)) (allS (Or.inl (List.mem_of_getElem? (i := 1) rfl)) (allS (Or.inl (List.mem_of_getElem? (i := 2) rfl)) (allS (Or.inl (List.mem_of_getElem? (i := 3) rfl)) (allS (Or.inl (List.mem_of_getElem? (i := 4) rfl)) (allS (Or.inl (List.mem_of_getElem? (i := 7) rfl)) (allS (Or.inl (List.mem_of_getElem? (i := 8) rfl)) all0)))))))
        have Z1778 : n0 ≤ T1769.heap.size := Nat.le_trans Z1766 K1769.1
        obtain ⟨u1779E, u1779a, u1779b, u1779c, u1779d, u1779e, u1779o, ⟨u1779fi, u1779x⟩, ⟨u1779fs, u1779s⟩⟩ := hT1769
        obtain ⟨u1780E, u1780a, u1780b, u1780c, u1780d, u1780e, u1780f, u1780g⟩ := hS1769
        have Vz1769 : OwnAV Z T1769.heap nz .int 2 (fun i => (.int (own_l2 (1 : Int32) (0 : Int32) i))) := Vn1769.congr (fun j hj => by
            have q : j = 0 ∨ j = 1 := by omega
            rcases q with rfl | rfl <;> rfl)
        have Vy1769 : OwnAV Z T1769.heap lim .int 1 (fun i => (.int (own_l2 (1 : Int32) (0 : Int32) i))) := Vl1769
        have k1781 : ∀ t, Steps p.tables e below (T1769.setTop (mkF m 111 #[.val (.ref st), .val (.int (-1 : Int32)), .val (.int (0 : Int32)), .val (.long (x0 &&& m0)), .second] [])) t → Steps p.tables e below (s₁.setTop (entryFrame m #[(.ref st)] 5)) t := fun t hk => k1768 t (by
          show Steps p.tables e below (T1740.setTop (mkF m 97 #[.val (.ref st), .val (.int (0 : Int32)), .val (.int (0 : Int32)), .val (.long (x0 &&& m0)), .second] [(.int (lcmpW (x0 &&& m0) (0 : Int64)))])) _
          refine XS.ifNo X1740.here hx rfl (hb hby d8_97) rfl ((if0 _ _).trans (teq ((lw_eq _ _).mpr hc97)).2) ?_
          refine XS.aloadN X1740.here hx rfl (hb hby d8_100) rfl rfl ?_
          refine XS.iloadN X1740.here hx rfl (hb hby d8_101) rfl ?_
          refine st1769.trans ?_
          show Steps p.tables e below (T1769.setTop (mkF m 105 #[.val (.ref st), .val (.int (0 : Int32)), .val (.int (0 : Int32)), .val (.long (x0 &&& m0)), .second] [])) _
          refine XS.iinc X1769.here hx rfl (hb hby d8_105) rfl (l' := #[.val (.ref st), .val (.int (-1 : Int32)), .val (.int (0 : Int32)), .val (.long (x0 &&& m0)), .second]) rfl ?_
          refine XS.goto X1769.here hx rfl (pc0 := 108) (pc' := 9) rfl (hb hby d8_108) (by decide) (by decide) ?_
          refine XS.iloadN X1769.here hx rfl (hb hby d8_9) rfl ?_
          refine XS.ifYes X1769.here hx rfl (pc0 := 10) (pc' := 111) rfl (hb hby d8_10) rfl ((if0 _ _).trans (tlt (by decide : (-1 : Int32) < (0 : Int32))).1) (by decide) (by decide) ?_
          exact hk)
        have Vfin : OwnAV Z T1769.heap wo .long 2 (fun i => (.long (own_l2 (x0 &&& m0) (x1 &&& m1) i))) := by
          rw [hc42]; exact A1774
        obtain ⟨fs, hr, hrun, hended, hW, hsame⟩ := X1769.leave (v := none) (fun _ => rfl)
        refine ⟨_, _, k1781 _ ?_, hrun, hended, _, _, rfl, ?_, ⟨_, rfl⟩, hW, hsame.mono (by decide) (by decide)⟩
        · show Steps p.tables e below (T1769.setTop (mkF m 111 #[.val (.ref st), .val (.int (-1 : Int32)), .val (.int (0 : Int32)), .val (.long (x0 &&& m0)), .second] [])) _
          exact X1769.returnOut hx Bd.returns (hb hby d8_111) hr
        · show Qx2 Z st tr ow ix sv lim wo sa nz ma x0 x1 y0 y1 m0 m1 h0 n0 _ T1769.heap _
          exact ⟨rfl, N1769, K1777, _, (1 : Int32), (1 : Int32), (0 : Int32), ⟨u1780E, u1780a, u1780b, u1780c, u1780d, u1780e, u1780f, u1780g⟩, Vfin, Vz1769, Vy1769, Or.inr (Or.inr (Or.inl ⟨rfl, rfl, hc97⟩))⟩
      ·
        have k1782 : ∀ t, Steps p.tables e below (T1740.setTop (mkF m 111 #[.val (.ref st), .val (.int (-1 : Int32)), .val (.int (0 : Int32)), .val (.long (x0 &&& m0)), .second] [])) t → Steps p.tables e below (s₁.setTop (entryFrame m #[(.ref st)] 5)) t := fun t hk => k1768 t (by
          show Steps p.tables e below (T1740.setTop (mkF m 97 #[.val (.ref st), .val (.int (0 : Int32)), .val (.int (0 : Int32)), .val (.long (x0 &&& m0)), .second] [(.int (lcmpW (x0 &&& m0) (0 : Int64)))])) _
          refine XS.ifYes X1740.here hx rfl (pc0 := 97) (pc' := 105) rfl (hb hby d8_97) rfl ((if0 _ _).trans (feq (fun q => hc97 ((lw_eq _ _).mp q))).2) (by decide) (by decide) ?_
          refine XS.iinc X1740.here hx rfl (hb hby d8_105) rfl (l' := #[.val (.ref st), .val (.int (-1 : Int32)), .val (.int (0 : Int32)), .val (.long (x0 &&& m0)), .second]) rfl ?_
          refine XS.goto X1740.here hx rfl (pc0 := 108) (pc' := 9) rfl (hb hby d8_108) (by decide) (by decide) ?_
          refine XS.iloadN X1740.here hx rfl (hb hby d8_9) rfl ?_
          show Steps p.tables e below (T1740.setTop (mkF m 10 #[.val (.ref st), .val (.int (-1 : Int32)), .val (.int (0 : Int32)), .val (.long (x0 &&& m0)), .second] [(.int (-1 : Int32))])) _
          refine XS.ifYes X1740.here hx rfl (pc0 := 10) (pc' := 111) rfl (hb hby d8_10) rfl ((if0 _ _).trans (tlt (by decide : (-1 : Int32) < (0 : Int32))).1) (by decide) (by decide) ?_
          exact hk)
        have Vfin : OwnAV Z h1740 wo .long 2 (fun i => (.long (own_l2 (x0 &&& m0) (x1 &&& m1) i))) := by
          rw [hc42]; exact A1741
        obtain ⟨fs, hr, hrun, hended, hW, hsame⟩ := X1740.leave (v := none) (fun _ => rfl)
        refine ⟨_, _, k1782 _ ?_, hrun, hended, _, _, rfl, ?_, ⟨_, rfl⟩, hW, hsame.mono (by decide) (by decide)⟩
        · show Steps p.tables e below (T1740.setTop (mkF m 111 #[.val (.ref st), .val (.int (-1 : Int32)), .val (.int (0 : Int32)), .val (.long (x0 &&& m0)), .second] [])) _
          exact X1740.returnOut hx Bd.returns (hb hby d8_111) hr
        · show Qx2 Z st tr ow ix sv lim wo sa nz ma x0 x1 y0 y1 m0 m1 h0 n0 _ T1740.heap _
          rw [e1740]
          exact ⟨rfl, N1767, K1765, _, (2 : Int32), (0 : Int32), (1 : Int32), ⟨E1755, F1742, F1743, F1744, F1745, F1746, F1747, F1748⟩, Vfin, A1760, A1758, Or.inl ⟨rfl, rfl, rfl⟩⟩
  ·
    obtain ⟨T1783, X1783, e1783, st1783⟩ := getF X1674 hx hZ hown (host := "") (Or.inl (hw _ (List.mem_of_getElem? (i := 48) rfl))) Via.refl e1674 u1669d (g := (mkF m 46 #[.val (.ref st), .val (.int (1 : Int32)), .val (.int (1 : Int32)), .val (.long (x1 &&& m1)), .second] [(.ref st)])) rfl rfl (hb hby d8_46)
    obtain ⟨T1784, X1784, e1784, st1784⟩ := getF X1783 hx hZ hown (host := "") (Or.inl (hw _ (List.mem_of_getElem? (i := 35) rfl))) Via.refl e1783 u1669a (g := (mkF m 52 #[.val (.ref st), .val (.int (1 : Int32)), .val (.int (1 : Int32)), .val (.long (x1 &&& m1)), .second] [(.ref st), (.long y1)])) rfl rfl (hb hby d8_52)
    obtain ⟨cq1785, kq1785, q1785a, q1785b, q1785c⟩ := isOf hZ e1784 u1668E
    obtain ⟨_, _, ⟨T1785, L1785, k1785, n1785⟩, -, X1785, ⟨Lc1785, hQ1785, l1785, y1785, z1785⟩, st1785⟩ := X1784.virtualBack hx (y := (⟨"com/example/faultline/faultline/engine/Trail", "world", "()J"⟩ : MethodName)) (z := (⟨"com/example/faultline/faultline/engine/Trail", "world", "()J"⟩ : MethodName)) hown (mvT hZ (hw _ (List.mem_of_getElem? (i := 69) rfl))) (mvT hZ (hw _ (List.mem_of_getElem? (i := 70) rfl))) (notFace_of_selects (args := #[]) (mvT hZ (hw _ (List.mem_of_getElem? (i := 72) rfl)))) (mvT hZ (hw _ (List.mem_of_getElem? (i := 72) rfl))) (mvT hZ (hw _ (List.mem_of_getElem? (i := 71) rfl))) (by decide) (backOf (W := 2) (rm10 l Z a0 hw [] tr (0 : Int64) h0 n0 Z0 u1668e) hZ (hw _ (List.mem_of_getElem? (i := 73) rfl)) (hw _ (List.mem_of_getElem? (i := 2) rfl)) (by decide) (by decide)) q1785a q1785c (g := (mkF m 55 #[.val (.ref st), .val (.int (1 : Int32)), .val (.int (1 : Int32)), .val (.long (x1 &&& m1)), .second] [(.ref tr), (.long y1)])) rfl (by rw [hml]; rfl) (Steps.refl _) (argsL := []) (rest := [(.long y1)]) (lenOf pd_2 rfl) rfl (by show 2 * 0 + _ ≤ _; exact Nat.le_of_eq rfl) (hb hby d8_55) (fun _ _ => ⟨rfl, e1784, (by decide : 0 + 0 ≤ _), (by decide : 0 + 0 ≤ _)⟩)
    dsimp only [Pt.U, Pt.locs, Pt.cells, Pt.slots] at X1785 l1785 y1785 z1785 st1785 hQ1785
    subst l1785 y1785 z1785
    obtain ⟨rfl, N1785q, e1785⟩ := hQ1785
    have N1785 := Fr.app N0 N1785q
    obtain ⟨T1786, X1786, e1786, st1786⟩ := getF X1785 hx hZ hown (host := "") (Or.inl (hw _ (List.mem_of_getElem? (i := 35) rfl))) Via.refl e1785 u1669a (g := (mkF m 63 #[.val (.ref st), .val (.int (1 : Int32)), .val (.int (1 : Int32)), .val (.long (x1 &&& m1)), .second] [(.ref st)])) rfl rfl (hb hby d8_63)
    obtain ⟨T1787, X1787, e1787, st1787⟩ := getF X1786 hx hZ hown (host := "") (Or.inl (hw _ (List.mem_of_getElem? (i := 46) rfl))) Via.refl e1786 u1669c (g := (mkF m 67 #[.val (.ref st), .val (.int (1 : Int32)), .val (.int (1 : Int32)), .val (.long (x1 &&& m1)), .second] [(.ref st), (.ref tr)])) rfl rfl (hb hby d8_67)
    obtain ⟨cq1788, kq1788, q1788a, q1788b, q1788c⟩ := isOf hZ e1787 u1668E
    obtain ⟨_, _, ⟨T1788, L1788, k1788, n1788⟩, -, X1788, ⟨Lc1788, hQ1788, l1788, y1788, z1788⟩, st1788⟩ := X1787.virtualBack hx (y := (⟨"com/example/faultline/faultline/engine/Trail", "save", "([JI)V"⟩ : MethodName)) (z := (⟨"com/example/faultline/faultline/engine/Trail", "save", "([JI)V"⟩ : MethodName)) hown (mvT hZ (hw _ (List.mem_of_getElem? (i := 76) rfl))) (mvT hZ (hw _ (List.mem_of_getElem? (i := 77) rfl))) (notFace_of_selects (args := #[]) (mvT hZ (hw _ (List.mem_of_getElem? (i := 79) rfl)))) (mvT hZ (hw _ (List.mem_of_getElem? (i := 79) rfl))) (mvT hZ (hw _ (List.mem_of_getElem? (i := 78) rfl))) (by decide) (backOf (W := 0) (rm11 l Z a0 hw [] tr wo (1 : Int32) ow ix sv (0 : Int32) 2 1 (own_l2 x0 x1) h0 n0 Z0 ⟨u1668E, u1668a, u1668b, u1668c, u1668d, u1668e, u1668o, ⟨_, u1668x⟩, ⟨_, u1668s⟩⟩ hap hnew (by decide : 0 ≤ (0 : Int32).toInt) (by decide) Eo Vo ⟨by decide, rfl, by decide⟩) hZ (hw _ (List.mem_of_getElem? (i := 80) rfl)) (hw _ (List.mem_of_getElem? (i := 2) rfl)) (by decide) (by decide)) q1788a q1788c (g := (mkF m 71 #[.val (.ref st), .val (.int (1 : Int32)), .val (.int (1 : Int32)), .val (.long (x1 &&& m1)), .second] [(.int (1 : Int32)), (.ref wo), (.ref tr)])) rfl (by rw [hml]; rfl) (Steps.refl _) (argsL := [(.ref wo), (.int (1 : Int32))]) (rest := []) (lenOf pd_6 rfl) rfl (by show 2 * 0 + _ ≤ _; exact Nat.le_of_eq rfl) (hb hby d8_71) (fun _ _ => ⟨rfl, e1787, (by decide : 0 + 0 ≤ _), (by decide : 0 + 0 ≤ _)⟩)
    dsimp only [Pt.U, Pt.locs, Pt.cells, Pt.slots] at X1788 l1788 y1788 z1788 st1788 hQ1788
    subst l1788 y1788 z1788
    obtain ⟨rfl, N1788q, K1788, hT1788⟩ := hQ1788
    have N1788 := Fr.app N1785 N1788q
    have F1789 := u1669a.keep K1788 (ninS hnes.1 (ninS hnes.2.1 (ninS hnes.2.2.1 (ninS hnes.2.2.2.1 nin0))))
    have F1790 := u1669b.keep K1788 (ninS hnes.1 (ninS hnes.2.1 (ninS hnes.2.2.1 (ninS hnes.2.2.2.1 nin0))))
    have F1791 := u1669c.keep K1788 (ninS hnes.1 (ninS hnes.2.1 (ninS hnes.2.2.1 (ninS hnes.2.2.2.1 nin0))))
    have F1792 := u1669d.keep K1788 (ninS hnes.1 (ninS hnes.2.1 (ninS hnes.2.2.1 (ninS hnes.2.2.2.1 nin0))))
    have F1793 := u1669e.keep K1788 (ninS hnes.1 (ninS hnes.2.1 (ninS hnes.2.2.1 (ninS hnes.2.2.2.1 nin0))))
    have F1794 := u1669f.keep K1788 (ninS hnes.1 (ninS hnes.2.1 (ninS hnes.2.2.1 (ninS hnes.2.2.2.1 nin0))))
    have F1795 := u1669g.keep K1788 (ninS hnes.1 (ninS hnes.2.1 (ninS hnes.2.2.1 (ninS hnes.2.2.2.1 nin0))))
    have E1796 := u1668E.keep K1788
    have E1797 := u1669E.keep K1788
    have E1798 := El.keep K1788
    have E1799 := Eo.keep K1788
    have A1800 := Vl.keep K1788 (ninS (Ne.symm hnes.2.2.2.2.2.2.2.2.2.1) (ninS (Ne.symm hnes.2.2.2.2.2.2.2.2.2.2.2.2.2.2.1) (ninS (Ne.symm hnes.2.2.2.2.2.2.2.2.2.2.2.2.2.2.2.2.2.2.2.1) (ninS (Ne.symm hnes.2.2.2.2.2.2.2.2.2.2.2.2.2.2.2.2.2.2.2.2.2.2.2.2.1) nin0))))
    have A1801 := Vo.keep K1788 (ninS (Ne.symm hnes.2.2.2.2.2.2.2.2.2.2.1) (ninS (Ne.symm hnes.2.2.2.2.2.2.2.2.2.2.2.2.2.2.2.1) (ninS (Ne.symm hnes.2.2.2.2.2.2.2.2.2.2.2.2.2.2.2.2.2.2.2.2.1) (ninS (Ne.symm hnes.2.2.2.2.2.2.2.2.2.2.2.2.2.2.2.2.2.2.2.2.2.2.2.2.2.1) nin0))))
    have A1802 := Vs.keep K1788 (ninS (Ne.symm hnes.2.2.2.2.2.2.2.2.2.2.2.1) (ninS (Ne.symm hnes.2.2.2.2.2.2.2.2.2.2.2.2.2.2.2.2.1) (ninS (Ne.symm hnes.2.2.2.2.2.2.2.2.2.2.2.2.2.2.2.2.2.2.2.2.2.1) (ninS (Ne.symm hnes.2.2.2.2.2.2.2.2.2.2.2.2.2.2.2.2.2.2.2.2.2.2.2.2.2.2.1) nin0))))
    have A1803 := Vn.keep K1788 (ninS (Ne.symm hnes.2.2.2.2.2.2.2.2.2.2.2.2.1) (ninS (Ne.symm hnes.2.2.2.2.2.2.2.2.2.2.2.2.2.2.2.2.2.1) (ninS (Ne.symm hnes.2.2.2.2.2.2.2.2.2.2.2.2.2.2.2.2.2.2.2.2.2.2.1) (ninS (Ne.symm hnes.2.2.2.2.2.2.2.2.2.2.2.2.2.2.2.2.2.2.2.2.2.2.2.2.2.2.2.1) nin0))))
    have A1804 := Vm.keep K1788 (ninS (Ne.symm hnes.2.2.2.2.2.2.2.2.2.2.2.2.2.1) (ninS (Ne.symm hnes.2.2.2.2.2.2.2.2.2.2.2.2.2.2.2.2.2.2.1) (ninS (Ne.symm hnes.2.2.2.2.2.2.2.2.2.2.2.2.2.2.2.2.2.2.2.2.2.2.2.1) (ninS (Ne.symm hnes.2.2.2.2.2.2.2.2.2.2.2.2.2.2.2.2.2.2.2.2.2.2.2.2.2.2.2.2.1) nin0))))
    have K1805 := (Keep.refl h0 [st, tr, ow, ix, sv, wo, sa, nz, lim]).trans K1788 (allS (Or.inl (List.mem_of_getElem? (i := 1) rfl)) (allS (Or.inl (List.mem_of_getElem? (i := 2) rfl)) (allS (Or.inl (List.mem_of_getElem? (i := 3) rfl)) (allS (Or.inl (List.mem_of_getElem? (i := 4) rfl)) all0))))
    have Z1806 : n0 ≤ T1788.heap.size := Nat.le_trans Z0 K1788.1
    obtain ⟨t1807, qt1807⟩ : ∃ z : Int32, z = (0 : Int32) + (1 : Int32) := ⟨_, rfl⟩
    rw [← qt1807] at hT1788
    obtain ⟨pt1807, rt1807⟩ := own_tick (0 : Int32) t1807 qt1807 (by decide : 0 ≤ (0 : Int32).toInt) (by decide)
    obtain ⟨u1808E, u1808a, u1808b, u1808c, u1808d, u1808e, u1808o, ⟨u1808fi, u1808x⟩, ⟨u1808fs, u1808s⟩⟩ := hT1788
    obtain ⟨T1809, X1809, e1809, st1809⟩ := getF X1788 hx hZ hown (host := "") (Or.inl (hw _ (List.mem_of_getElem? (i := 48) rfl))) Via.refl rfl F1792 (g := (mkF m 75 #[.val (.ref st), .val (.int (1 : Int32)), .val (.int (1 : Int32)), .val (.long (x1 &&& m1)), .second] [(.ref st)])) rfl rfl (hb hby d8_75)
    obtain ⟨T1810, X1810, e1810, st1810⟩ := getF X1809 hx hZ hown (host := "") (Or.inl (hw _ (List.mem_of_getElem? (i := 35) rfl))) Via.refl e1809 F1789 (g := (mkF m 80 #[.val (.ref st), .val (.int (1 : Int32)), .val (.int (1 : Int32)), .val (.long (x1 &&& m1)), .second] [(.ref st), (.int (1 : Int32)), (.ref sa)])) rfl rfl (hb hby d8_80)
    obtain ⟨cq1811, kq1811, q1811a, q1811b, q1811c⟩ := isOf hZ e1810 u1808E
    obtain ⟨_, _, ⟨T1811, L1811, k1811, n1811⟩, -, X1811, ⟨Lc1811, hQ1811, l1811, y1811, z1811⟩, st1811⟩ := X1810.virtualBack hx (y := (⟨"com/example/faultline/faultline/engine/Trail", "world", "()J"⟩ : MethodName)) (z := (⟨"com/example/faultline/faultline/engine/Trail", "world", "()J"⟩ : MethodName)) hown (mvT hZ (hw _ (List.mem_of_getElem? (i := 69) rfl))) (mvT hZ (hw _ (List.mem_of_getElem? (i := 70) rfl))) (notFace_of_selects (args := #[]) (mvT hZ (hw _ (List.mem_of_getElem? (i := 72) rfl)))) (mvT hZ (hw _ (List.mem_of_getElem? (i := 72) rfl))) (mvT hZ (hw _ (List.mem_of_getElem? (i := 71) rfl))) (by decide) (backOf (W := 2) (rm10 l Z a0 hw [] tr (0 : Int64) T1788.heap n0 Z1806 u1808e) hZ (hw _ (List.mem_of_getElem? (i := 73) rfl)) (hw _ (List.mem_of_getElem? (i := 2) rfl)) (by decide) (by decide)) q1811a q1811c (g := (mkF m 83 #[.val (.ref st), .val (.int (1 : Int32)), .val (.int (1 : Int32)), .val (.long (x1 &&& m1)), .second] [(.ref tr), (.int (1 : Int32)), (.ref sa)])) rfl (by rw [hml]; rfl) (Steps.refl _) (argsL := []) (rest := [(.int (1 : Int32)), (.ref sa)]) (lenOf pd_2 rfl) rfl (by show 2 * 0 + _ ≤ _; exact Nat.le_of_eq rfl) (hb hby d8_83) (fun _ _ => ⟨rfl, e1810, (by decide : 0 + 0 ≤ _), (by decide : 0 + 0 ≤ _)⟩)
    dsimp only [Pt.U, Pt.locs, Pt.cells, Pt.slots] at X1811 l1811 y1811 z1811 st1811 hQ1811
    subst l1811 y1811 z1811
    obtain ⟨rfl, N1811q, e1811⟩ := hQ1811
    have N1811 := Fr.app N1788 N1811q
    obtain ⟨T1812, h1812, X1812, e1812, W1812, st1812⟩ := own_last X1811 hx hZ e1811 A1802 (k := 1) ⟨by decide, rfl, by decide⟩ (g := (mkF m 86 #[.val (.ref st), .val (.int (1 : Int32)), .val (.int (1 : Int32)), .val (.long (x1 &&& m1)), .second] [(.long (0 : Int64)), (.int (1 : Int32)), (.ref sa)])) rfl rfl (hb hby d8_86)
    have A1813 : OwnAV Z h1812 sa .long 2 (fun i => (.long ((own_l2 y0 (0 : Int64)) i))) := (A1802.storeJ W1812).congr (fun j hj => by
        have q : j = 0 ∨ j = 1 := by omega
        rcases q with rfl | rfl <;> rfl)
    have F1814 := F1789.other W1812 (Or.inl hnes.2.2.2.2.2.2.1)
    have F1815 := F1790.other W1812 (Or.inl hnes.2.2.2.2.2.2.1)
    have F1816 := F1791.other W1812 (Or.inl hnes.2.2.2.2.2.2.1)
    have F1817 := F1792.other W1812 (Or.inl hnes.2.2.2.2.2.2.1)
    have F1818 := F1793.other W1812 (Or.inl hnes.2.2.2.2.2.2.1)
    have F1819 := F1794.other W1812 (Or.inl hnes.2.2.2.2.2.2.1)
    have F1820 := F1795.other W1812 (Or.inl hnes.2.2.2.2.2.2.1)
    have F1821 := u1808a.other W1812 (Or.inl hnes.2.2.2.2.2.2.2.2.2.2.2.1)
    have F1822 := u1808b.other W1812 (Or.inl hnes.2.2.2.2.2.2.2.2.2.2.2.1)
    have F1823 := u1808c.other W1812 (Or.inl hnes.2.2.2.2.2.2.2.2.2.2.2.1)
    have F1824 := u1808d.other W1812 (Or.inl hnes.2.2.2.2.2.2.2.2.2.2.2.1)
    have F1825 := u1808e.other W1812 (Or.inl hnes.2.2.2.2.2.2.2.2.2.2.2.1)
    have E1826 := u1808E.wr W1812
    have E1827 := E1797.wr W1812
    have E1828 := E1798.wr W1812
    have E1829 := E1799.wr W1812
    have A1830 := A1800.other W1812 hnes.2.2.2.2.2.2.2.2.2.2.2.2.2.2.2.2.2.2.2.2.2.2.2.2.2.2.2.2.2.2.1
    have A1831 := A1801.other W1812 hnes.2.2.2.2.2.2.2.2.2.2.2.2.2.2.2.2.2.2.2.2.2.2.2.2.2.2.2.2.2.2.2.2.2.1
    have A1832 := A1803.other W1812 (Ne.symm hnes.2.2.2.2.2.2.2.2.2.2.2.2.2.2.2.2.2.2.2.2.2.2.2.2.2.2.2.2.2.2.2.2.2.2.2.2.1)
    have A1833 := A1804.other W1812 (Ne.symm hnes.2.2.2.2.2.2.2.2.2.2.2.2.2.2.2.2.2.2.2.2.2.2.2.2.2.2.2.2.2.2.2.2.2.2.2.2.2.1)
    have A1834 := u1808o.other W1812 hnes.2.2.2.2.2.2.2.2.2.2.2.2.2.2.2.2.1
    have A1835 := u1808x.other W1812 hnes.2.2.2.2.2.2.2.2.2.2.2.2.2.2.2.2.2.2.2.2.2.1
    have A1836 := u1808s.other W1812 hnes.2.2.2.2.2.2.2.2.2.2.2.2.2.2.2.2.2.2.2.2.2.2.2.2.2.2.1
    have K1837 := K1805.wr W1812 (Or.inl (List.mem_of_getElem? (i := 6) rfl))
    have Z1838 : n0 ≤ h1812.size := W1812.size ▸ Z1806
    have N1839 := Fr.snoc X1812 N1811 gsa
    obtain ⟨T1840, X1840, e1840, st1840⟩ := getF X1812 hx hZ hown (host := "") (Or.inl (hw _ (List.mem_of_getElem? (i := 46) rfl))) Via.refl e1812 F1816 (g := (mkF m 88 #[.val (.ref st), .val (.int (1 : Int32)), .val (.int (1 : Int32)), .val (.long (x1 &&& m1)), .second] [(.ref st)])) rfl rfl (hb hby d8_88)
    obtain ⟨T1841, h1841, X1841, e1841, W1841, st1841⟩ := own_last X1840 hx hZ e1840 A1831 (k := 1) ⟨by decide, rfl, by decide⟩ (g := (mkF m 93 #[.val (.ref st), .val (.int (1 : Int32)), .val (.int (1 : Int32)), .val (.long (x1 &&& m1)), .second] [(.long (x1 &&& m1)), (.int (1 : Int32)), (.ref wo)])) rfl rfl (hb hby d8_93)
    have A1842 : OwnAV Z h1841 wo .long 2 (fun i => (.long ((own_l2 x0 (x1 &&& m1)) i))) := (A1831.storeJ W1841).congr (fun j hj => by
        have q : j = 0 ∨ j = 1 := by omega
        rcases q with rfl | rfl <;> rfl)
    have F1843 := F1814.other W1841 (Or.inl hnes.2.2.2.2.2.1)
    have F1844 := F1815.other W1841 (Or.inl hnes.2.2.2.2.2.1)
    have F1845 := F1816.other W1841 (Or.inl hnes.2.2.2.2.2.1)
    have F1846 := F1817.other W1841 (Or.inl hnes.2.2.2.2.2.1)
    have F1847 := F1818.other W1841 (Or.inl hnes.2.2.2.2.2.1)
    have F1848 := F1819.other W1841 (Or.inl hnes.2.2.2.2.2.1)
    have F1849 := F1820.other W1841 (Or.inl hnes.2.2.2.2.2.1)
    have F1850 := F1821.other W1841 (Or.inl hnes.2.2.2.2.2.2.2.2.2.2.1)
    have F1851 := F1822.other W1841 (Or.inl hnes.2.2.2.2.2.2.2.2.2.2.1)
    have F1852 := F1823.other W1841 (Or.inl hnes.2.2.2.2.2.2.2.2.2.2.1)
    have F1853 := F1824.other W1841 (Or.inl hnes.2.2.2.2.2.2.2.2.2.2.1)
    have F1854 := F1825.other W1841 (Or.inl hnes.2.2.2.2.2.2.2.2.2.2.1)
    have E1855 := E1826.wr W1841
    have E1856 := E1827.wr W1841
    have E1857 := E1828.wr W1841
    have E1858 := E1829.wr W1841
    have A1859 := A1830.other W1841 hnes.2.2.2.2.2.2.2.2.2.2.2.2.2.2.2.2.2.2.2.2.2.2.2.2.2.2.2.2.2.1
    have A1860 := A1813.other W1841 (Ne.symm hnes.2.2.2.2.2.2.2.2.2.2.2.2.2.2.2.2.2.2.2.2.2.2.2.2.2.2.2.2.2.2.2.2.2.1)
    have A1861 := A1832.other W1841 (Ne.symm hnes.2.2.2.2.2.2.2.2.2.2.2.2.2.2.2.2.2.2.2.2.2.2.2.2.2.2.2.2.2.2.2.2.2.2.1)
    have A1862 := A1833.other W1841 (Ne.symm hnes.2.2.2.2.2.2.2.2.2.2.2.2.2.2.2.2.2.2.2.2.2.2.2.2.2.2.2.2.2.2.2.2.2.2.2.1)
    have A1863 := A1834.other W1841 hnes.2.2.2.2.2.2.2.2.2.2.2.2.2.2.2.1
    have A1864 := A1835.other W1841 hnes.2.2.2.2.2.2.2.2.2.2.2.2.2.2.2.2.2.2.2.2.1
    have A1865 := A1836.other W1841 hnes.2.2.2.2.2.2.2.2.2.2.2.2.2.2.2.2.2.2.2.2.2.2.2.2.2.1
    have K1866 := K1837.wr W1841 (Or.inl (List.mem_of_getElem? (i := 5) rfl))
    have Z1867 : n0 ≤ h1841.size := W1841.size ▸ Z1838
    have N1868 := Fr.snoc X1841 N1839 gwo
    have k1869 : ∀ t, Steps p.tables e below (T1841.setTop (mkF m 97 #[.val (.ref st), .val (.int (1 : Int32)), .val (.int (1 : Int32)), .val (.long (x1 &&& m1)), .second] [(.int (lcmpW (x1 &&& m1) (0 : Int64)))])) t → Steps p.tables e below (s₁.setTop (entryFrame m #[(.ref st)] 5)) t := fun t hk => k1675 t (by
      show Steps p.tables e below (T1674.setTop (mkF m 42 #[.val (.ref st), .val (.int (1 : Int32)), .val (.int (1 : Int32)), .val (.long (x1 &&& m1)), .second] [(.int (lcmpW (x1 &&& m1) x1))])) _
      refine XS.ifNo X1674.here hx rfl (hb hby d8_42) rfl ((if0 _ _).trans (feq (fun q => hc42 ((lw_eq _ _).mp q))).1) ?_
      refine XS.aloadN X1674.here hx rfl (hb hby d8_45) rfl rfl ?_
      refine st1783 _ ?_
      refine XS.iloadN X1783.here hx rfl (hb hby d8_49) rfl ?_
      show Steps p.tables e below (T1783.setTop (mkF m 50 #[.val (.ref st), .val (.int (1 : Int32)), .val (.int (1 : Int32)), .val (.long (x1 &&& m1)), .second] [(.int (1 : Int32)), (.ref sa)])) _
      refine own_lald X1783 hx hZ e1783 Vs (k := 1) ⟨by decide, rfl, by decide⟩ rfl (g := (mkF m 50 #[.val (.ref st), .val (.int (1 : Int32)), .val (.int (1 : Int32)), .val (.long (x1 &&& m1)), .second] [(.int (1 : Int32)), (.ref sa)])) rfl rfl (hb hby d8_50) _ ?_
      refine XS.aloadN X1783.here hx rfl (hb hby d8_51) rfl rfl ?_
      refine st1784 _ ?_
      refine st1785.trans ?_
      show Steps p.tables e below (T1785.setTop (mkF m 58 #[.val (.ref st), .val (.int (1 : Int32)), .val (.int (1 : Int32)), .val (.long (x1 &&& m1)), .second] [(.long (0 : Int64)), (.long y1)])) _
      refine XS.lcmp X1785.here hx rfl (hb hby d8_58) rfl ?_
      refine XS.ifNo X1785.here hx rfl (hb hby d8_59) rfl ((if0 _ _).trans (feq (fun q => hys1 ((lw_eq _ _).mp q))).1) ?_
      refine XS.aloadN X1785.here hx rfl (hb hby d8_62) rfl rfl ?_
      refine st1786 _ ?_
      show Steps p.tables e below (T1786.setTop (mkF m 66 #[.val (.ref st), .val (.int (1 : Int32)), .val (.int (1 : Int32)), .val (.long (x1 &&& m1)), .second] [(.ref tr)])) _
      refine XS.aloadN X1786.here hx rfl (hb hby d8_66) rfl rfl ?_
      refine st1787 _ ?_
      refine XS.iloadN X1787.here hx rfl (hb hby d8_70) rfl ?_
      refine st1788.trans ?_
      show Steps p.tables e below (T1788.setTop (mkF m 74 #[.val (.ref st), .val (.int (1 : Int32)), .val (.int (1 : Int32)), .val (.long (x1 &&& m1)), .second] [])) _
      refine XS.aloadN X1788.here hx rfl (hb hby d8_74) rfl rfl ?_
      refine st1809 _ ?_
      refine XS.iloadN X1809.here hx rfl (hb hby d8_78) rfl ?_
      refine XS.aloadN X1809.here hx rfl (hb hby d8_79) rfl rfl ?_
      show Steps p.tables e below (T1809.setTop (mkF m 80 #[.val (.ref st), .val (.int (1 : Int32)), .val (.int (1 : Int32)), .val (.long (x1 &&& m1)), .second] [(.ref st), (.int (1 : Int32)), (.ref sa)])) _
      refine st1810 _ ?_
      refine st1811.trans ?_
      refine st1812 _ ?_
      refine XS.aloadN X1812.here hx rfl (hb hby d8_87) rfl rfl ?_
      show Steps p.tables e below (T1812.setTop (mkF m 88 #[.val (.ref st), .val (.int (1 : Int32)), .val (.int (1 : Int32)), .val (.long (x1 &&& m1)), .second] [(.ref st)])) _
      refine st1840 _ ?_
      refine XS.iloadN X1840.here hx rfl (hb hby d8_91) rfl ?_
      refine XS.lloadN X1840.here hx rfl (hb hby d8_92) rfl ?_
      refine st1841 _ ?_
      show Steps p.tables e below (T1841.setTop (mkF m 94 #[.val (.ref st), .val (.int (1 : Int32)), .val (.int (1 : Int32)), .val (.long (x1 &&& m1)), .second] [])) _
      refine XS.lloadN X1841.here hx rfl (hb hby d8_94) rfl ?_
      refine XS.lconst X1841.here hx rfl (hb hby d8_95) ?_
      refine XS.lcmp X1841.here hx rfl (hb hby d8_96) rfl ?_
      exact hk)
    by_cases hc97 : (x1 &&& m1) = (0 : Int64)
    ·
      obtain ⟨cq1870, q1870, q1870'⟩ := E1856.cell
      obtain ⟨_, _, ⟨T1870, L1870, k1870, n1870⟩, -, X1870, ⟨Lc1870, hQ1870, l1870, y1870, z1870⟩, st1870⟩ := X1841.privateBack hx (y := (⟨"com/example/faultline/faultline/engine/ReversibleBitSet", "removeNonZero", "(I)V"⟩ : MethodName)) hown (mvT hZ (hw _ (List.mem_of_getElem? (i := 88) rfl))) (mvT hZ (hw _ (List.mem_of_getElem? (i := 89) rfl))) (own_selp (mvT hZ (hw _ (List.mem_of_getElem? (i := 24) rfl))) (Cond.privateMethod_at (mvP hZ (hw _ (List.mem_of_getElem? (i := 90) rfl)) (args := #[]))) (mvT hZ (hw _ (List.mem_of_getElem? (i := 89) rfl))) (by decide)) (Cond.privateMethod_at (mvP hZ (hw _ (List.mem_of_getElem? (i := 90) rfl)) (args := #[]))) (mvT hZ (hw _ (List.mem_of_getElem? (i := 91) rfl))) (by decide) (backOf (W := 0) (rm13 l Z a0 hw [] st (1 : Int32) tr ow ix sv lim wo sa nz ma (-1 : Int64) t1807 (2 : Int32) 2 1 1 (own_l2 (0 : Int32) (1 : Int32)) h1841 n0 Z1867 ⟨E1855, F1850, F1851, F1852, F1853, F1854, A1863, ⟨_, A1864⟩, ⟨_, A1865⟩⟩ hap hnew pt1807 (by omega) ⟨E1856, F1843, F1844, F1845, F1846, F1847, F1848, F1849⟩ hsn ⟨hnes.1, hnes.2.1, hnes.2.2.1, hnes.2.2.2.1, hnes.2.2.2.2.1, hnes.2.2.2.2.2.2.2.1, hnes.2.2.2.2.2.2.2.2.2.1, hnes.2.2.2.2.2.2.2.2.2.2.2.2.1, hnes.2.2.2.2.2.2.2.2.2.2.2.2.2.2.1, hnes.2.2.2.2.2.2.2.2.2.2.2.2.2.2.2.2.2.1, hnes.2.2.2.2.2.2.2.2.2.2.2.2.2.2.2.2.2.2.2.1, hnes.2.2.2.2.2.2.2.2.2.2.2.2.2.2.2.2.2.2.2.2.2.2.1, hnes.2.2.2.2.2.2.2.2.2.2.2.2.2.2.2.2.2.2.2.2.2.2.2.2.1, hnes.2.2.2.2.2.2.2.2.2.2.2.2.2.2.2.2.2.2.2.2.2.2.2.2.2.2.2.1, hnes.2.2.2.2.2.2.2.2.2.2.2.2.2.2.2.2.2.2.2.2.2.2.2.2.2.2.2.2.2.2.2.1⟩ E1857 A1859 A1861 ⟨by decide, rfl, by decide⟩ ⟨by decide, rfl, by decide⟩) hZ (hw _ (List.mem_of_getElem? (i := 91) rfl)) (hw _ (List.mem_of_getElem? (i := 25) rfl)) (by decide) (by decide)) (g := (mkF m 102 #[.val (.ref st), .val (.int (1 : Int32)), .val (.int (1 : Int32)), .val (.long (x1 &&& m1)), .second] [(.int (1 : Int32)), (.ref st)])) rfl (by rw [hml]; rfl) (Steps.refl _) (a := st) (by rw [e1841]; exact q1870) q1870' (argsL := [(.int (1 : Int32))]) (rest := []) (lenOf pd_7 rfl) rfl (by show 2 * 0 + _ ≤ _; exact Nat.le_of_eq rfl) (hb hby d8_102) (fun _ _ => ⟨rfl, e1841, (by decide : 0 + 0 ≤ _), (by decide : 0 + 0 ≤ _)⟩)
      dsimp only [Pt.U, Pt.locs, Pt.cells, Pt.slots] at X1870 l1870 y1870 z1870 st1870 hQ1870
      subst l1870 y1870 z1870
      obtain ⟨rfl, N1870q, K1870, hS1870, ⟨tt1870, pt1870, qt1870, hT1870⟩, Vn1870, Vl1870, El1870⟩ := hQ1870
      have N1870 := Fr.app N1868 N1870q
      have E1871 := E1855.keep K1870
      have E1872 := E1856.keep K1870
      have E1873 := E1857.keep K1870
      have E1874 := E1858.keep K1870
      have A1875 := A1842.keep K1870 (ninS (Ne.symm hnes.2.2.2.2.2.1) (ninS (Ne.symm hnes.2.2.2.2.2.2.2.2.2.2.1) (ninS (Ne.symm hnes.2.2.2.2.2.2.2.2.2.2.2.2.2.2.2.1) (ninS (Ne.symm hnes.2.2.2.2.2.2.2.2.2.2.2.2.2.2.2.2.2.2.2.2.1) (ninS (Ne.symm hnes.2.2.2.2.2.2.2.2.2.2.2.2.2.2.2.2.2.2.2.2.2.2.2.2.2.1) (ninS hnes.2.2.2.2.2.2.2.2.2.2.2.2.2.2.2.2.2.2.2.2.2.2.2.2.2.2.2.2.2.2.2.2.2.2.1 (ninS (Ne.symm hnes.2.2.2.2.2.2.2.2.2.2.2.2.2.2.2.2.2.2.2.2.2.2.2.2.2.2.2.2.2.1) nin0)))))))
      have A1876 := A1860.keep K1870 (ninS (Ne.symm hnes.2.2.2.2.2.2.1) (ninS (Ne.symm hnes.2.2.2.2.2.2.2.2.2.2.2.1) (ninS (Ne.symm hnes.2.2.2.2.2.2.2.2.2.2.2.2.2.2.2.2.1) (ninS (Ne.symm hnes.2.2.2.2.2.2.2.2.2.2.2.2.2.2.2.2.2.2.2.2.2.1) (ninS (Ne.symm hnes.2.2.2.2.2.2.2.2.2.2.2.2.2.2.2.2.2.2.2.2.2.2.2.2.2.2.1) (ninS hnes.2.2.2.2.2.2.2.2.2.2.2.2.2.2.2.2.2.2.2.2.2.2.2.2.2.2.2.2.2.2.2.2.2.2.2.2.1 (ninS (Ne.symm hnes.2.2.2.2.2.2.2.2.2.2.2.2.2.2.2.2.2.2.2.2.2.2.2.2.2.2.2.2.2.2.1) nin0)))))))
      have A1877 := A1862.keep K1870 (ninS (Ne.symm hnes.2.2.2.2.2.2.2.2.1) (ninS (Ne.symm hnes.2.2.2.2.2.2.2.2.2.2.2.2.2.1) (ninS (Ne.symm hnes.2.2.2.2.2.2.2.2.2.2.2.2.2.2.2.2.2.2.1) (ninS (Ne.symm hnes.2.2.2.2.2.2.2.2.2.2.2.2.2.2.2.2.2.2.2.2.2.2.2.1) (ninS (Ne.symm hnes.2.2.2.2.2.2.2.2.2.2.2.2.2.2.2.2.2.2.2.2.2.2.2.2.2.2.2.2.1) (ninS (Ne.symm hnes.2.2.2.2.2.2.2.2.2.2.2.2.2.2.2.2.2.2.2.2.2.2.2.2.2.2.2.2.2.2.2.2.2.2.2.2.2.2) (ninS (Ne.symm hnes.2.2.2.2.2.2.2.2.2.2.2.2.2.2.2.2.2.2.2.2.2.2.2.2.2.2.2.2.2.2.2.2.1) nin0)))))))
      have K1878 := K1866.trans K1870 (allS (Or.inl (List.mem_of_getElem? (i := 0) rfl)) (allS (Or.inl (List.mem_of_getElem? (i := 1) rfl)) (allS (Or.inl (List.mem_of_getElem? (i := 2) rfl)) (allS (Or.inl (List.mem_of_getElem? (i := 3) rfl)) (allS (Or.inl (List.mem_of_getElem? (i := 4) rfl)) (allS (Or.inl (List.mem_of_getElem? (i := 7) rfl)) (allS (Or.inl (List.mem_of_getElem? (i := 8) rfl)) all0)))))))
      have Z1879 : n0 ≤ T1870.heap.size := Nat.le_trans Z1867 K1870.1
      obtain ⟨u1880E, u1880a, u1880b, u1880c, u1880d, u1880e, u1880o, ⟨u1880fi, u1880x⟩, ⟨u1880fs, u1880s⟩⟩ := hT1870
      obtain ⟨u1881E, u1881a, u1881b, u1881c, u1881d, u1881e, u1881f, u1881g⟩ := hS1870
      have Vz1870 : OwnAV Z T1870.heap nz .int 2 (fun i => (.int (own_l2 (0 : Int32) (1 : Int32) i))) := Vn1870.congr (fun j hj => by
          have q : j = 0 ∨ j = 1 := by omega
          rcases q with rfl | rfl <;> rfl)
      have Vy1870 : OwnAV Z T1870.heap lim .int 1 (fun i => (.int (own_l2 (1 : Int32) (0 : Int32) i))) := Vl1870
      obtain ⟨T1882, X1882, e1882, st1882⟩ := getF X1870 hx hZ hown (host := "") (Or.inl (hw _ (List.mem_of_getElem? (i := 50) rfl))) Via.refl rfl u1881e (g := (mkF m 14 #[.val (.ref st), .val (.int (0 : Int32)), .val (.int (1 : Int32)), .val (.long (x1 &&& m1)), .second] [(.ref st)])) rfl rfl (hb hby d8_14)
      obtain ⟨T1883, X1883, e1883, st1883⟩ := getF X1882 hx hZ hown (host := "") (Or.inl (hw _ (List.mem_of_getElem? (i := 46) rfl))) Via.refl e1882 u1881c (g := (mkF m 21 #[.val (.ref st), .val (.int (0 : Int32)), .val (.int (0 : Int32)), .val (.long (x1 &&& m1)), .second] [(.ref st)])) rfl rfl (hb hby d8_21)
      obtain ⟨T1884, X1884, e1884, st1884⟩ := getF X1883 hx hZ hown (host := "") (Or.inl (hw _ (List.mem_of_getElem? (i := 52) rfl))) Via.refl e1883 u1881f (g := (mkF m 27 #[.val (.ref st), .val (.int (0 : Int32)), .val (.int (0 : Int32)), .val (.long (x1 &&& m1)), .second] [(.ref st), (.long x0)])) rfl rfl (hb hby d8_27)
      obtain ⟨T1885, X1885, e1885, st1885⟩ := getF X1884 hx hZ hown (host := "") (Or.inl (hw _ (List.mem_of_getElem? (i := 46) rfl))) Via.refl e1884 u1881c (g := (mkF m 36 #[.val (.ref st), .val (.int (0 : Int32)), .val (.int (0 : Int32)), .val (.long (x0 &&& m0)), .second] [(.ref st), (.long (x0 &&& m0))])) rfl rfl (hb hby d8_36)
      have k1886 : ∀ t, Steps p.tables e below (T1885.setTop (mkF m 42 #[.val (.ref st), .val (.int (0 : Int32)), .val (.int (0 : Int32)), .val (.long (x0 &&& m0)), .second] [(.int (lcmpW (x0 &&& m0) x0))])) t → Steps p.tables e below (s₁.setTop (entryFrame m #[(.ref st)] 5)) t := fun t hk => k1869 t (by
        show Steps p.tables e below (T1841.setTop (mkF m 97 #[.val (.ref st), .val (.int (1 : Int32)), .val (.int (1 : Int32)), .val (.long (x1 &&& m1)), .second] [(.int (lcmpW (x1 &&& m1) (0 : Int64)))])) _
        refine XS.ifNo X1841.here hx rfl (hb hby d8_97) rfl ((if0 _ _).trans (teq ((lw_eq _ _).mpr hc97)).2) ?_
        refine XS.aloadN X1841.here hx rfl (hb hby d8_100) rfl rfl ?_
        refine XS.iloadN X1841.here hx rfl (hb hby d8_101) rfl ?_
        refine st1870.trans ?_
        show Steps p.tables e below (T1870.setTop (mkF m 105 #[.val (.ref st), .val (.int (1 : Int32)), .val (.int (1 : Int32)), .val (.long (x1 &&& m1)), .second] [])) _
        refine XS.iinc X1870.here hx rfl (hb hby d8_105) rfl (l' := #[.val (.ref st), .val (.int (0 : Int32)), .val (.int (1 : Int32)), .val (.long (x1 &&& m1)), .second]) rfl ?_
        refine XS.goto X1870.here hx rfl (pc0 := 108) (pc' := 9) rfl (hb hby d8_108) (by decide) (by decide) ?_
        refine XS.iloadN X1870.here hx rfl (hb hby d8_9) rfl ?_
        refine XS.ifNo X1870.here hx rfl (hb hby d8_10) rfl ((if0 _ _).trans (flt (by decide : ¬ ((0 : Int32) < (0 : Int32)))).1) ?_
        show Steps p.tables e below (T1870.setTop (mkF m 13 #[.val (.ref st), .val (.int (0 : Int32)), .val (.int (1 : Int32)), .val (.long (x1 &&& m1)), .second] [])) _
        refine XS.aloadN X1870.here hx rfl (hb hby d8_13) rfl rfl ?_
        refine st1882 _ ?_
        refine XS.iloadN X1882.here hx rfl (hb hby d8_17) rfl ?_
        refine own_iald X1882 hx hZ e1882 Vz1870 (k := 0) ⟨by decide, rfl, by decide⟩ rfl (g := (mkF m 18 #[.val (.ref st), .val (.int (0 : Int32)), .val (.int (1 : Int32)), .val (.long (x1 &&& m1)), .second] [(.int (0 : Int32)), (.ref nz)])) rfl rfl (hb hby d8_18) _ ?_
        show Steps p.tables e below (T1882.setTop (mkF m 19 #[.val (.ref st), .val (.int (0 : Int32)), .val (.int (1 : Int32)), .val (.long (x1 &&& m1)), .second] [(.int (0 : Int32))])) _
        refine XS.istoreN X1882.here hx rfl (hb hby d8_19) rfl (l' := #[.val (.ref st), .val (.int (0 : Int32)), .val (.int (0 : Int32)), .val (.long (x1 &&& m1)), .second]) rfl ?_
        refine XS.aloadN X1882.here hx rfl (hb hby d8_20) rfl rfl ?_
        refine st1883 _ ?_
        refine XS.iloadN X1883.here hx rfl (hb hby d8_24) rfl ?_
        show Steps p.tables e below (T1883.setTop (mkF m 25 #[.val (.ref st), .val (.int (0 : Int32)), .val (.int (0 : Int32)), .val (.long (x1 &&& m1)), .second] [(.int (0 : Int32)), (.ref wo)])) _
        refine own_lald X1883 hx hZ e1883 A1875 (k := 0) ⟨by decide, rfl, by decide⟩ rfl (g := (mkF m 25 #[.val (.ref st), .val (.int (0 : Int32)), .val (.int (0 : Int32)), .val (.long (x1 &&& m1)), .second] [(.int (0 : Int32)), (.ref wo)])) rfl rfl (hb hby d8_25) _ ?_
        refine XS.aloadN X1883.here hx rfl (hb hby d8_26) rfl rfl ?_
        refine st1884 _ ?_
        refine XS.iloadN X1884.here hx rfl (hb hby d8_30) rfl ?_
        show Steps p.tables e below (T1884.setTop (mkF m 31 #[.val (.ref st), .val (.int (0 : Int32)), .val (.int (0 : Int32)), .val (.long (x1 &&& m1)), .second] [(.int (0 : Int32)), (.ref ma), (.long x0)])) _
        refine own_lald X1884 hx hZ e1884 A1877 (k := 0) ⟨by decide, rfl, by decide⟩ rfl (g := (mkF m 31 #[.val (.ref st), .val (.int (0 : Int32)), .val (.int (0 : Int32)), .val (.long (x1 &&& m1)), .second] [(.int (0 : Int32)), (.ref ma), (.long x0)])) rfl rfl (hb hby d8_31) _ ?_
        refine XS.land X1884.here hx rfl (hb hby d8_32) rfl ?_
        refine XS.lstoreN X1884.here hx rfl (hb hby d8_33) rfl (l' := #[.val (.ref st), .val (.int (0 : Int32)), .val (.int (0 : Int32)), .val (.long (x0 &&& m0)), .second]) rfl ?_
        refine XS.lloadN X1884.here hx rfl (hb hby d8_34) rfl ?_
        show Steps p.tables e below (T1884.setTop (mkF m 35 #[.val (.ref st), .val (.int (0 : Int32)), .val (.int (0 : Int32)), .val (.long (x0 &&& m0)), .second] [(.long (x0 &&& m0))])) _
        refine XS.aloadN X1884.here hx rfl (hb hby d8_35) rfl rfl ?_
        refine st1885 _ ?_
        refine XS.iloadN X1885.here hx rfl (hb hby d8_39) rfl ?_
        refine own_lald X1885 hx hZ e1885 A1875 (k := 0) ⟨by decide, rfl, by decide⟩ rfl (g := (mkF m 40 #[.val (.ref st), .val (.int (0 : Int32)), .val (.int (0 : Int32)), .val (.long (x0 &&& m0)), .second] [(.int (0 : Int32)), (.ref wo), (.long (x0 &&& m0))])) rfl rfl (hb hby d8_40) _ ?_
        show Steps p.tables e below (T1885.setTop (mkF m 41 #[.val (.ref st), .val (.int (0 : Int32)), .val (.int (0 : Int32)), .val (.long (x0 &&& m0)), .second] [(.long x0), (.long (x0 &&& m0))])) _
        refine XS.lcmp X1885.here hx rfl (hb hby d8_41) rfl ?_
        exact hk)
      by_cases hc42' : (x0 &&& m0) = x0
      ·
        have k1887 : ∀ t, Steps p.tables e below (T1885.setTop (mkF m 111 #[.val (.ref st), .val (.int (-1 : Int32)), .val (.int (0 : Int32)), .val (.long (x0 &&& m0)), .second] [])) t → Steps p.tables e below (s₁.setTop (entryFrame m #[(.ref st)] 5)) t := fun t hk => k1886 t (by
          show Steps p.tables e below (T1885.setTop (mkF m 42 #[.val (.ref st), .val (.int (0 : Int32)), .val (.int (0 : Int32)), .val (.long (x0 &&& m0)), .second] [(.int (lcmpW (x0 &&& m0) x0))])) _
          refine XS.ifYes X1885.here hx rfl (pc0 := 42) (pc' := 105) rfl (hb hby d8_42) rfl ((if0 _ _).trans (teq ((lw_eq _ _).mpr hc42')).1) (by decide) (by decide) ?_
          refine XS.iinc X1885.here hx rfl (hb hby d8_105) rfl (l' := #[.val (.ref st), .val (.int (-1 : Int32)), .val (.int (0 : Int32)), .val (.long (x0 &&& m0)), .second]) rfl ?_
          refine XS.goto X1885.here hx rfl (pc0 := 108) (pc' := 9) rfl (hb hby d8_108) (by decide) (by decide) ?_
          refine XS.iloadN X1885.here hx rfl (hb hby d8_9) rfl ?_
          show Steps p.tables e below (T1885.setTop (mkF m 10 #[.val (.ref st), .val (.int (-1 : Int32)), .val (.int (0 : Int32)), .val (.long (x0 &&& m0)), .second] [(.int (-1 : Int32))])) _
          refine XS.ifYes X1885.here hx rfl (pc0 := 10) (pc' := 111) rfl (hb hby d8_10) rfl ((if0 _ _).trans (tlt (by decide : (-1 : Int32) < (0 : Int32))).1) (by decide) (by decide) ?_
          exact hk)
        have Vfin : OwnAV Z T1870.heap wo .long 2 (fun i => (.long (own_l2 (x0 &&& m0) (x1 &&& m1) i))) := by
          rw [hc42']; exact A1875
        obtain ⟨fs, hr, hrun, hended, hW, hsame⟩ := X1885.leave (v := none) (fun _ => rfl)
        refine ⟨_, _, k1887 _ ?_, hrun, hended, _, _, rfl, ?_, ⟨_, rfl⟩, hW, hsame.mono (by decide) (by decide)⟩
        · show Steps p.tables e below (T1885.setTop (mkF m 111 #[.val (.ref st), .val (.int (-1 : Int32)), .val (.int (0 : Int32)), .val (.long (x0 &&& m0)), .second] [])) _
          exact X1885.returnOut hx Bd.returns (hb hby d8_111) hr
        · show Qx2 Z st tr ow ix sv lim wo sa nz ma x0 x1 y0 y1 m0 m1 h0 n0 _ T1885.heap _
          rw [e1885]
          exact ⟨rfl, N1870, K1878, _, (1 : Int32), (0 : Int32), (1 : Int32), ⟨u1881E, u1881a, u1881b, u1881c, u1881d, u1881e, u1881f, u1881g⟩, Vfin, Vz1870, Vy1870, Or.inr (Or.inl ⟨rfl, rfl, hc97⟩)⟩
      ·
        obtain ⟨T1888, X1888, e1888, st1888⟩ := getF X1885 hx hZ hown (host := "") (Or.inl (hw _ (List.mem_of_getElem? (i := 48) rfl))) Via.refl e1885 u1881d (g := (mkF m 46 #[.val (.ref st), .val (.int (0 : Int32)), .val (.int (0 : Int32)), .val (.long (x0 &&& m0)), .second] [(.ref st)])) rfl rfl (hb hby d8_46)
        obtain ⟨T1889, X1889, e1889, st1889⟩ := getF X1888 hx hZ hown (host := "") (Or.inl (hw _ (List.mem_of_getElem? (i := 35) rfl))) Via.refl e1888 u1881a (g := (mkF m 52 #[.val (.ref st), .val (.int (0 : Int32)), .val (.int (0 : Int32)), .val (.long (x0 &&& m0)), .second] [(.ref st), (.long y0)])) rfl rfl (hb hby d8_52)
        obtain ⟨cq1890, kq1890, q1890a, q1890b, q1890c⟩ := isOf hZ e1889 u1880E
        obtain ⟨_, _, ⟨T1890, L1890, k1890, n1890⟩, -, X1890, ⟨Lc1890, hQ1890, l1890, y1890, z1890⟩, st1890⟩ := X1889.virtualBack hx (y := (⟨"com/example/faultline/faultline/engine/Trail", "world", "()J"⟩ : MethodName)) (z := (⟨"com/example/faultline/faultline/engine/Trail", "world", "()J"⟩ : MethodName)) hown (mvT hZ (hw _ (List.mem_of_getElem? (i := 69) rfl))) (mvT hZ (hw _ (List.mem_of_getElem? (i := 70) rfl))) (notFace_of_selects (args := #[]) (mvT hZ (hw _ (List.mem_of_getElem? (i := 72) rfl)))) (mvT hZ (hw _ (List.mem_of_getElem? (i := 72) rfl))) (mvT hZ (hw _ (List.mem_of_getElem? (i := 71) rfl))) (by decide) (backOf (W := 2) (rm10 l Z a0 hw [] tr (0 : Int64) T1870.heap n0 Z1879 u1880e) hZ (hw _ (List.mem_of_getElem? (i := 73) rfl)) (hw _ (List.mem_of_getElem? (i := 2) rfl)) (by decide) (by decide)) q1890a q1890c (g := (mkF m 55 #[.val (.ref st), .val (.int (0 : Int32)), .val (.int (0 : Int32)), .val (.long (x0 &&& m0)), .second] [(.ref tr), (.long y0)])) rfl (by rw [hml]; rfl) (Steps.refl _) (argsL := []) (rest := [(.long y0)]) (lenOf pd_2 rfl) rfl (by show 2 * 0 + _ ≤ _; exact Nat.le_of_eq rfl) (hb hby d8_55) (fun _ _ => ⟨rfl, e1889, (by decide : 0 + 0 ≤ _), (by decide : 0 + 0 ≤ _)⟩)
        dsimp only [Pt.U, Pt.locs, Pt.cells, Pt.slots] at X1890 l1890 y1890 z1890 st1890 hQ1890
        subst l1890 y1890 z1890
        obtain ⟨rfl, N1890q, e1890⟩ := hQ1890
        have N1890 := Fr.app N1870 N1890q
        obtain ⟨T1891, X1891, e1891, st1891⟩ := getF X1890 hx hZ hown (host := "") (Or.inl (hw _ (List.mem_of_getElem? (i := 35) rfl))) Via.refl e1890 u1881a (g := (mkF m 63 #[.val (.ref st), .val (.int (0 : Int32)), .val (.int (0 : Int32)), .val (.long (x0 &&& m0)), .second] [(.ref st)])) rfl rfl (hb hby d8_63)
        obtain ⟨T1892, X1892, e1892, st1892⟩ := getF X1891 hx hZ hown (host := "") (Or.inl (hw _ (List.mem_of_getElem? (i := 46) rfl))) Via.refl e1891 u1881c (g := (mkF m 67 #[.val (.ref st), .val (.int (0 : Int32)), .val (.int (0 : Int32)), .val (.long (x0 &&& m0)), .second] [(.ref st), (.ref tr)])) rfl rfl (hb hby d8_67)
        obtain ⟨cq1893, kq1893, q1893a, q1893b, q1893c⟩ := isOf hZ e1892 u1880E
        obtain ⟨_, _, ⟨T1893, L1893, k1893, n1893⟩, -, X1893, ⟨Lc1893, hQ1893, l1893, y1893, z1893⟩, st1893⟩ := X1892.virtualBack hx (y := (⟨"com/example/faultline/faultline/engine/Trail", "save", "([JI)V"⟩ : MethodName)) (z := (⟨"com/example/faultline/faultline/engine/Trail", "save", "([JI)V"⟩ : MethodName)) hown (mvT hZ (hw _ (List.mem_of_getElem? (i := 76) rfl))) (mvT hZ (hw _ (List.mem_of_getElem? (i := 77) rfl))) (notFace_of_selects (args := #[]) (mvT hZ (hw _ (List.mem_of_getElem? (i := 79) rfl)))) (mvT hZ (hw _ (List.mem_of_getElem? (i := 79) rfl))) (mvT hZ (hw _ (List.mem_of_getElem? (i := 78) rfl))) (by decide) (backOf (W := 0) (rm11 l Z a0 hw [] tr wo (0 : Int32) ow ix sv tt1870 2 0 (own_l2 x0 (x1 &&& m1)) T1870.heap n0 Z1879 ⟨u1880E, u1880a, u1880b, u1880c, u1880d, u1880e, u1880o, ⟨_, u1880x⟩, ⟨_, u1880s⟩⟩ hap hnew pt1870 (by omega) E1874 A1875 ⟨by decide, rfl, by decide⟩) hZ (hw _ (List.mem_of_getElem? (i := 80) rfl)) (hw _ (List.mem_of_getElem? (i := 2) rfl)) (by decide) (by decide)) q1893a q1893c (g := (mkF m 71 #[.val (.ref st), .val (.int (0 : Int32)), .val (.int (0 : Int32)), .val (.long (x0 &&& m0)), .second] [(.int (0 : Int32)), (.ref wo), (.ref tr)])) rfl (by rw [hml]; rfl) (Steps.refl _) (argsL := [(.ref wo), (.int (0 : Int32))]) (rest := []) (lenOf pd_6 rfl) rfl (by show 2 * 0 + _ ≤ _; exact Nat.le_of_eq rfl) (hb hby d8_71) (fun _ _ => ⟨rfl, e1892, (by decide : 0 + 0 ≤ _), (by decide : 0 + 0 ≤ _)⟩)
        dsimp only [Pt.U, Pt.locs, Pt.cells, Pt.slots] at X1893 l1893 y1893 z1893 st1893 hQ1893
        subst l1893 y1893 z1893
        obtain ⟨rfl, N1893q, K1893, hT1893⟩ := hQ1893
        have N1893 := Fr.app N1890 N1893q
        have F1894 := u1881a.keep K1893 (ninS hnes.1 (ninS hnes.2.1 (ninS hnes.2.2.1 (ninS hnes.2.2.2.1 nin0))))
        have F1895 := u1881b.keep K1893 (ninS hnes.1 (ninS hnes.2.1 (ninS hnes.2.2.1 (ninS hnes.2.2.2.1 nin0))))
        have F1896 := u1881c.keep K1893 (ninS hnes.1 (ninS hnes.2.1 (ninS hnes.2.2.1 (ninS hnes.2.2.2.1 nin0))))
        have F1897 := u1881d.keep K1893 (ninS hnes.1 (ninS hnes.2.1 (ninS hnes.2.2.1 (ninS hnes.2.2.2.1 nin0))))
        have F1898 := u1881e.keep K1893 (ninS hnes.1 (ninS hnes.2.1 (ninS hnes.2.2.1 (ninS hnes.2.2.2.1 nin0))))
        have F1899 := u1881f.keep K1893 (ninS hnes.1 (ninS hnes.2.1 (ninS hnes.2.2.1 (ninS hnes.2.2.2.1 nin0))))
        have F1900 := u1881g.keep K1893 (ninS hnes.1 (ninS hnes.2.1 (ninS hnes.2.2.1 (ninS hnes.2.2.2.1 nin0))))
        have E1901 := u1880E.keep K1893
        have E1902 := u1881E.keep K1893
        have E1903 := El1870.keep K1893
        have E1904 := E1874.keep K1893
        have A1905 := A1875.keep K1893 (ninS (Ne.symm hnes.2.2.2.2.2.2.2.2.2.2.1) (ninS (Ne.symm hnes.2.2.2.2.2.2.2.2.2.2.2.2.2.2.2.1) (ninS (Ne.symm hnes.2.2.2.2.2.2.2.2.2.2.2.2.2.2.2.2.2.2.2.2.1) (ninS (Ne.symm hnes.2.2.2.2.2.2.2.2.2.2.2.2.2.2.2.2.2.2.2.2.2.2.2.2.2.1) nin0))))
        have A1906 := A1876.keep K1893 (ninS (Ne.symm hnes.2.2.2.2.2.2.2.2.2.2.2.1) (ninS (Ne.symm hnes.2.2.2.2.2.2.2.2.2.2.2.2.2.2.2.2.1) (ninS (Ne.symm hnes.2.2.2.2.2.2.2.2.2.2.2.2.2.2.2.2.2.2.2.2.2.1) (ninS (Ne.symm hnes.2.2.2.2.2.2.2.2.2.2.2.2.2.2.2.2.2.2.2.2.2.2.2.2.2.2.1) nin0))))
        have A1907 := A1877.keep K1893 (ninS (Ne.symm hnes.2.2.2.2.2.2.2.2.2.2.2.2.2.1) (ninS (Ne.symm hnes.2.2.2.2.2.2.2.2.2.2.2.2.2.2.2.2.2.2.1) (ninS (Ne.symm hnes.2.2.2.2.2.2.2.2.2.2.2.2.2.2.2.2.2.2.2.2.2.2.2.1) (ninS (Ne.symm hnes.2.2.2.2.2.2.2.2.2.2.2.2.2.2.2.2.2.2.2.2.2.2.2.2.2.2.2.2.1) nin0))))
        have A1908 := Vz1870.keep K1893 (ninS (Ne.symm hnes.2.2.2.2.2.2.2.2.2.2.2.2.1) (ninS (Ne.symm hnes.2.2.2.2.2.2.2.2.2.2.2.2.2.2.2.2.2.1) (ninS (Ne.symm hnes.2.2.2.2.2.2.2.2.2.2.2.2.2.2.2.2.2.2.2.2.2.2.1) (ninS (Ne.symm hnes.2.2.2.2.2.2.2.2.2.2.2.2.2.2.2.2.2.2.2.2.2.2.2.2.2.2.2.1) nin0))))
        have A1909 := Vy1870.keep K1893 (ninS (Ne.symm hnes.2.2.2.2.2.2.2.2.2.1) (ninS (Ne.symm hnes.2.2.2.2.2.2.2.2.2.2.2.2.2.2.1) (ninS (Ne.symm hnes.2.2.2.2.2.2.2.2.2.2.2.2.2.2.2.2.2.2.2.1) (ninS (Ne.symm hnes.2.2.2.2.2.2.2.2.2.2.2.2.2.2.2.2.2.2.2.2.2.2.2.2.1) nin0))))
        have K1910 := K1878.trans K1893 (allS (Or.inl (List.mem_of_getElem? (i := 1) rfl)) (allS (Or.inl (List.mem_of_getElem? (i := 2) rfl)) (allS (Or.inl (List.mem_of_getElem? (i := 3) rfl)) (allS (Or.inl (List.mem_of_getElem? (i := 4) rfl)) all0))))
        have Z1911 : n0 ≤ T1893.heap.size := Nat.le_trans Z1879 K1893.1
        obtain ⟨t1912, qt1912⟩ : ∃ z : Int32, z = tt1870 + (1 : Int32) := ⟨_, rfl⟩
        rw [← qt1912] at hT1893
        obtain ⟨pt1912, rt1912⟩ := own_tick tt1870 t1912 qt1912 pt1870 (by omega)
        obtain ⟨u1913E, u1913a, u1913b, u1913c, u1913d, u1913e, u1913o, ⟨u1913fi, u1913x⟩, ⟨u1913fs, u1913s⟩⟩ := hT1893
        obtain ⟨T1914, X1914, e1914, st1914⟩ := getF X1893 hx hZ hown (host := "") (Or.inl (hw _ (List.mem_of_getElem? (i := 48) rfl))) Via.refl rfl F1897 (g := (mkF m 75 #[.val (.ref st), .val (.int (0 : Int32)), .val (.int (0 : Int32)), .val (.long (x0 &&& m0)), .second] [(.ref st)])) rfl rfl (hb hby d8_75)
        obtain ⟨T1915, X1915, e1915, st1915⟩ := getF X1914 hx hZ hown (host := "") (Or.inl (hw _ (List.mem_of_getElem? (i := 35) rfl))) Via.refl e1914 F1894 (g := (mkF m 80 #[.val (.ref st), .val (.int (0 : Int32)), .val (.int (0 : Int32)), .val (.long (x0 &&& m0)), .second] [(.ref st), (.int (0 : Int32)), (.ref sa)])) rfl rfl (hb hby d8_80)
        obtain ⟨cq1916, kq1916, q1916a, q1916b, q1916c⟩ := isOf hZ e1915 u1913E
        obtain ⟨_, _, ⟨T1916, L1916, k1916, n1916⟩, -, X1916, ⟨Lc1916, hQ1916, l1916, y1916, z1916⟩, st1916⟩ := X1915.virtualBack hx (y := (⟨"com/example/faultline/faultline/engine/Trail", "world", "()J"⟩ : MethodName)) (z := (⟨"com/example/faultline/faultline/engine/Trail", "world", "()J"⟩ : MethodName)) hown (mvT hZ (hw _ (List.mem_of_getElem? (i := 69) rfl))) (mvT hZ (hw _ (List.mem_of_getElem? (i := 70) rfl))) (notFace_of_selects (args := #[]) (mvT hZ (hw _ (List.mem_of_getElem? (i := 72) rfl)))) (mvT hZ (hw _ (List.mem_of_getElem? (i := 72) rfl))) (mvT hZ (hw _ (List.mem_of_getElem? (i := 71) rfl))) (by decide) (backOf (W := 2) (rm10 l Z a0 hw [] tr (0 : Int64) T1893.heap n0 Z1911 u1913e) hZ (hw _ (List.mem_of_getElem? (i := 73) rfl)) (hw _ (List.mem_of_getElem? (i := 2) rfl)) (by decide) (by decide)) q1916a q1916c (g := (mkF m 83 #[.val (.ref st), .val (.int (0 : Int32)), .val (.int (0 : Int32)), .val (.long (x0 &&& m0)), .second] [(.ref tr), (.int (0 : Int32)), (.ref sa)])) rfl (by rw [hml]; rfl) (Steps.refl _) (argsL := []) (rest := [(.int (0 : Int32)), (.ref sa)]) (lenOf pd_2 rfl) rfl (by show 2 * 0 + _ ≤ _; exact Nat.le_of_eq rfl) (hb hby d8_83) (fun _ _ => ⟨rfl, e1915, (by decide : 0 + 0 ≤ _), (by decide : 0 + 0 ≤ _)⟩)
        dsimp only [Pt.U, Pt.locs, Pt.cells, Pt.slots] at X1916 l1916 y1916 z1916 st1916 hQ1916
        subst l1916 y1916 z1916
        obtain ⟨rfl, N1916q, e1916⟩ := hQ1916
        have N1916 := Fr.app N1893 N1916q
        obtain ⟨T1917, h1917, X1917, e1917, W1917, st1917⟩ := own_last X1916 hx hZ e1916 A1906 (k := 0) ⟨by decide, rfl, by decide⟩ (g := (mkF m 86 #[.val (.ref st), .val (.int (0 : Int32)), .val (.int (0 : Int32)), .val (.long (x0 &&& m0)), .second] [(.long (0 : Int64)), (.int (0 : Int32)), (.ref sa)])) rfl rfl (hb hby d8_86)
        have A1918 : OwnAV Z h1917 sa .long 2 (fun i => (.long ((own_l2 (0 : Int64) (0 : Int64)) i))) := (A1906.storeJ W1917).congr (fun j hj => by
            have q : j = 0 ∨ j = 1 := by omega
            rcases q with rfl | rfl <;> rfl)
        have F1919 := F1894.other W1917 (Or.inl hnes.2.2.2.2.2.2.1)
        have F1920 := F1895.other W1917 (Or.inl hnes.2.2.2.2.2.2.1)
        have F1921 := F1896.other W1917 (Or.inl hnes.2.2.2.2.2.2.1)
        have F1922 := F1897.other W1917 (Or.inl hnes.2.2.2.2.2.2.1)
        have F1923 := F1898.other W1917 (Or.inl hnes.2.2.2.2.2.2.1)
        have F1924 := F1899.other W1917 (Or.inl hnes.2.2.2.2.2.2.1)
        have F1925 := F1900.other W1917 (Or.inl hnes.2.2.2.2.2.2.1)
        have F1926 := u1913a.other W1917 (Or.inl hnes.2.2.2.2.2.2.2.2.2.2.2.1)
        have F1927 := u1913b.other W1917 (Or.inl hnes.2.2.2.2.2.2.2.2.2.2.2.1)
        have F1928 := u1913c.other W1917 (Or.inl hnes.2.2.2.2.2.2.2.2.2.2.2.1)
        have F1929 := u1913d.other W1917 (Or.inl hnes.2.2.2.2.2.2.2.2.2.2.2.1)
        have F1930 := u1913e.other W1917 (Or.inl hnes.2.2.2.2.2.2.2.2.2.2.2.1)
        have E1931 := u1913E.wr W1917
        have E1932 := E1902.wr W1917
        have E1933 := E1903.wr W1917
        have E1934 := E1904.wr W1917
        have A1935 := A1905.other W1917 hnes.2.2.2.2.2.2.2.2.2.2.2.2.2.2.2.2.2.2.2.2.2.2.2.2.2.2.2.2.2.2.2.2.2.1
        have A1936 := A1907.other W1917 (Ne.symm hnes.2.2.2.2.2.2.2.2.2.2.2.2.2.2.2.2.2.2.2.2.2.2.2.2.2.2.2.2.2.2.2.2.2.2.2.2.2.1)
        have A1937 := A1908.other W1917 (Ne.symm hnes.2.2.2.2.2.2.2.2.2.2.2.2.2.2.2.2.2.2.2.2.2.2.2.2.2.2.2.2.2.2.2.2.2.2.2.2.1)
        have A1938 := A1909.other W1917 hnes.2.2.2.2.2.2.2.2.2.2.2.2.2.2.2.2.2.2.2.2.2.2.2.2.2.2.2.2.2.2.1
        have A1939 := u1913o.other W1917 hnes.2.2.2.2.2.2.2.2.2.2.2.2.2.2.2.2.1
        have A1940 := u1913x.other W1917 hnes.2.2.2.2.2.2.2.2.2.2.2.2.2.2.2.2.2.2.2.2.2.1
        have A1941 := u1913s.other W1917 hnes.2.2.2.2.2.2.2.2.2.2.2.2.2.2.2.2.2.2.2.2.2.2.2.2.2.2.1
        have K1942 := K1910.wr W1917 (Or.inl (List.mem_of_getElem? (i := 6) rfl))
        have Z1943 : n0 ≤ h1917.size := W1917.size ▸ Z1911
        have N1944 := Fr.snoc X1917 N1916 gsa
        obtain ⟨T1945, X1945, e1945, st1945⟩ := getF X1917 hx hZ hown (host := "") (Or.inl (hw _ (List.mem_of_getElem? (i := 46) rfl))) Via.refl e1917 F1921 (g := (mkF m 88 #[.val (.ref st), .val (.int (0 : Int32)), .val (.int (0 : Int32)), .val (.long (x0 &&& m0)), .second] [(.ref st)])) rfl rfl (hb hby d8_88)
        obtain ⟨T1946, h1946, X1946, e1946, W1946, st1946⟩ := own_last X1945 hx hZ e1945 A1935 (k := 0) ⟨by decide, rfl, by decide⟩ (g := (mkF m 93 #[.val (.ref st), .val (.int (0 : Int32)), .val (.int (0 : Int32)), .val (.long (x0 &&& m0)), .second] [(.long (x0 &&& m0)), (.int (0 : Int32)), (.ref wo)])) rfl rfl (hb hby d8_93)
        have A1947 : OwnAV Z h1946 wo .long 2 (fun i => (.long ((own_l2 (x0 &&& m0) (x1 &&& m1)) i))) := (A1935.storeJ W1946).congr (fun j hj => by
            have q : j = 0 ∨ j = 1 := by omega
            rcases q with rfl | rfl <;> rfl)
        have F1948 := F1919.other W1946 (Or.inl hnes.2.2.2.2.2.1)
        have F1949 := F1920.other W1946 (Or.inl hnes.2.2.2.2.2.1)
        have F1950 := F1921.other W1946 (Or.inl hnes.2.2.2.2.2.1)
        have F1951 := F1922.other W1946 (Or.inl hnes.2.2.2.2.2.1)
        have F1952 := F1923.other W1946 (Or.inl hnes.2.2.2.2.2.1)
        have F1953 := F1924.other W1946 (Or.inl hnes.2.2.2.2.2.1)
        have F1954 := F1925.other W1946 (Or.inl hnes.2.2.2.2.2.1)
        have F1955 := F1926.other W1946 (Or.inl hnes.2.2.2.2.2.2.2.2.2.2.1)
        have F1956 := F1927.other W1946 (Or.inl hnes.2.2.2.2.2.2.2.2.2.2.1)
        have F1957 := F1928.other W1946 (Or.inl hnes.2.2.2.2.2.2.2.2.2.2.1)
        have F1958 := F1929.other W1946 (Or.inl hnes.2.2.2.2.2.2.2.2.2.2.1)
        have F1959 := F1930.other W1946 (Or.inl hnes.2.2.2.2.2.2.2.2.2.2.1)
        have E1960 := E1931.wr W1946
        have E1961 := E1932.wr W1946
        have E1962 := E1933.wr W1946
        have E1963 := E1934.wr W1946
        have A1964 := A1918.other W1946 (Ne.symm hnes.2.2.2.2.2.2.2.2.2.2.2.2.2.2.2.2.2.2.2.2.2.2.2.2.2.2.2.2.2.2.2.2.2.1)
        have A1965 := A1936.other W1946 (Ne.symm hnes.2.2.2.2.2.2.2.2.2.2.2.2.2.2.2.2.2.2.2.2.2.2.2.2.2.2.2.2.2.2.2.2.2.2.2.1)
        have A1966 := A1937.other W1946 (Ne.symm hnes.2.2.2.2.2.2.2.2.2.2.2.2.2.2.2.2.2.2.2.2.2.2.2.2.2.2.2.2.2.2.2.2.2.2.1)
        have A1967 := A1938.other W1946 hnes.2.2.2.2.2.2.2.2.2.2.2.2.2.2.2.2.2.2.2.2.2.2.2.2.2.2.2.2.2.1
        have A1968 := A1939.other W1946 hnes.2.2.2.2.2.2.2.2.2.2.2.2.2.2.2.1
        have A1969 := A1940.other W1946 hnes.2.2.2.2.2.2.2.2.2.2.2.2.2.2.2.2.2.2.2.2.1
        have A1970 := A1941.other W1946 hnes.2.2.2.2.2.2.2.2.2.2.2.2.2.2.2.2.2.2.2.2.2.2.2.2.2.1
        have K1971 := K1942.wr W1946 (Or.inl (List.mem_of_getElem? (i := 5) rfl))
        have Z1972 : n0 ≤ h1946.size := W1946.size ▸ Z1943
        have N1973 := Fr.snoc X1946 N1944 gwo
        have k1974 : ∀ t, Steps p.tables e below (T1946.setTop (mkF m 97 #[.val (.ref st), .val (.int (0 : Int32)), .val (.int (0 : Int32)), .val (.long (x0 &&& m0)), .second] [(.int (lcmpW (x0 &&& m0) (0 : Int64)))])) t → Steps p.tables e below (s₁.setTop (entryFrame m #[(.ref st)] 5)) t := fun t hk => k1886 t (by
          show Steps p.tables e below (T1885.setTop (mkF m 42 #[.val (.ref st), .val (.int (0 : Int32)), .val (.int (0 : Int32)), .val (.long (x0 &&& m0)), .second] [(.int (lcmpW (x0 &&& m0) x0))])) _
          refine XS.ifNo X1885.here hx rfl (hb hby d8_42) rfl ((if0 _ _).trans (feq (fun q => hc42' ((lw_eq _ _).mp q))).1) ?_
          refine XS.aloadN X1885.here hx rfl (hb hby d8_45) rfl rfl ?_
          refine st1888 _ ?_
          refine XS.iloadN X1888.here hx rfl (hb hby d8_49) rfl ?_
          show Steps p.tables e below (T1888.setTop (mkF m 50 #[.val (.ref st), .val (.int (0 : Int32)), .val (.int (0 : Int32)), .val (.long (x0 &&& m0)), .second] [(.int (0 : Int32)), (.ref sa)])) _
          refine own_lald X1888 hx hZ e1888 A1876 (k := 0) ⟨by decide, rfl, by decide⟩ rfl (g := (mkF m 50 #[.val (.ref st), .val (.int (0 : Int32)), .val (.int (0 : Int32)), .val (.long (x0 &&& m0)), .second] [(.int (0 : Int32)), (.ref sa)])) rfl rfl (hb hby d8_50) _ ?_
          refine XS.aloadN X1888.here hx rfl (hb hby d8_51) rfl rfl ?_
          refine st1889 _ ?_
          refine st1890.trans ?_
          show Steps p.tables e below (T1890.setTop (mkF m 58 #[.val (.ref st), .val (.int (0 : Int32)), .val (.int (0 : Int32)), .val (.long (x0 &&& m0)), .second] [(.long (0 : Int64)), (.long y0)])) _
          refine XS.lcmp X1890.here hx rfl (hb hby d8_58) rfl ?_
          refine XS.ifNo X1890.here hx rfl (hb hby d8_59) rfl ((if0 _ _).trans (feq (fun q => hys0 ((lw_eq _ _).mp q))).1) ?_
          refine XS.aloadN X1890.here hx rfl (hb hby d8_62) rfl rfl ?_
          refine st1891 _ ?_
          show Steps p.tables e below (T1891.setTop (mkF m 66 #[.val (.ref st), .val (.int (0 : Int32)), .val (.int (0 : Int32)), .val (.long (x0 &&& m0)), .second] [(.ref tr)])) _
          refine XS.aloadN X1891.here hx rfl (hb hby d8_66) rfl rfl ?_
          refine st1892 _ ?_
          refine XS.iloadN X1892.here hx rfl (hb hby d8_70) rfl ?_
          refine st1893.trans ?_
          show Steps p.tables e below (T1893.setTop (mkF m 74 #[.val (.ref st), .val (.int (0 : Int32)), .val (.int (0 : Int32)), .val (.long (x0 &&& m0)), .second] [])) _
          refine XS.aloadN X1893.here hx rfl (hb hby d8_74) rfl rfl ?_
          refine st1914 _ ?_
          refine XS.iloadN X1914.here hx rfl (hb hby d8_78) rfl ?_
          refine XS.aloadN X1914.here hx rfl (hb hby d8_79) rfl rfl ?_
          show Steps p.tables e below (T1914.setTop (mkF m 80 #[.val (.ref st), .val (.int (0 : Int32)), .val (.int (0 : Int32)), .val (.long (x0 &&& m0)), .second] [(.ref st), (.int (0 : Int32)), (.ref sa)])) _
          refine st1915 _ ?_
          refine st1916.trans ?_
          refine st1917 _ ?_
          refine XS.aloadN X1917.here hx rfl (hb hby d8_87) rfl rfl ?_
          show Steps p.tables e below (T1917.setTop (mkF m 88 #[.val (.ref st), .val (.int (0 : Int32)), .val (.int (0 : Int32)), .val (.long (x0 &&& m0)), .second] [(.ref st)])) _
          refine st1945 _ ?_
          refine XS.iloadN X1945.here hx rfl (hb hby d8_91) rfl ?_
          refine XS.lloadN X1945.here hx rfl (hb hby d8_92) rfl ?_
          refine st1946 _ ?_
          show Steps p.tables e below (T1946.setTop (mkF m 94 #[.val (.ref st), .val (.int (0 : Int32)), .val (.int (0 : Int32)), .val (.long (x0 &&& m0)), .second] [])) _
          refine XS.lloadN X1946.here hx rfl (hb hby d8_94) rfl ?_
          refine XS.lconst X1946.here hx rfl (hb hby d8_95) ?_
          refine XS.lcmp X1946.here hx rfl (hb hby d8_96) rfl ?_
          exact hk)
        by_cases hc97' : (x0 &&& m0) = (0 : Int64)
        ·
          obtain ⟨cq1975, q1975, q1975'⟩ := E1961.cell
          obtain ⟨_, _, ⟨T1975, L1975, k1975, n1975⟩, -, X1975, ⟨Lc1975, hQ1975, l1975, y1975, z1975⟩, st1975⟩ := X1946.privateBack hx (y := (⟨"com/example/faultline/faultline/engine/ReversibleBitSet", "removeNonZero", "(I)V"⟩ : MethodName)) hown (mvT hZ (hw _ (List.mem_of_getElem? (i := 88) rfl))) (mvT hZ (hw _ (List.mem_of_getElem? (i := 89) rfl))) (own_selp (mvT hZ (hw _ (List.mem_of_getElem? (i := 24) rfl))) (Cond.privateMethod_at (mvP hZ (hw _ (List.mem_of_getElem? (i := 90) rfl)) (args := #[]))) (mvT hZ (hw _ (List.mem_of_getElem? (i := 89) rfl))) (by decide)) (Cond.privateMethod_at (mvP hZ (hw _ (List.mem_of_getElem? (i := 90) rfl)) (args := #[]))) (mvT hZ (hw _ (List.mem_of_getElem? (i := 91) rfl))) (by decide) (backOf (W := 0) (rm13 l Z a0 hw [] st (0 : Int32) tr ow ix sv lim wo sa nz ma (0 : Int64) t1912 (1 : Int32) 2 0 0 (own_l2 (0 : Int32) (1 : Int32)) h1946 n0 Z1972 ⟨E1960, F1955, F1956, F1957, F1958, F1959, A1968, ⟨_, A1969⟩, ⟨_, A1970⟩⟩ hap hnew pt1912 (by omega) ⟨E1961, F1948, F1949, F1950, F1951, F1952, F1953, F1954⟩ hsn ⟨hnes.1, hnes.2.1, hnes.2.2.1, hnes.2.2.2.1, hnes.2.2.2.2.1, hnes.2.2.2.2.2.2.2.1, hnes.2.2.2.2.2.2.2.2.2.1, hnes.2.2.2.2.2.2.2.2.2.2.2.2.1, hnes.2.2.2.2.2.2.2.2.2.2.2.2.2.2.1, hnes.2.2.2.2.2.2.2.2.2.2.2.2.2.2.2.2.2.1, hnes.2.2.2.2.2.2.2.2.2.2.2.2.2.2.2.2.2.2.2.1, hnes.2.2.2.2.2.2.2.2.2.2.2.2.2.2.2.2.2.2.2.2.2.2.1, hnes.2.2.2.2.2.2.2.2.2.2.2.2.2.2.2.2.2.2.2.2.2.2.2.2.1, hnes.2.2.2.2.2.2.2.2.2.2.2.2.2.2.2.2.2.2.2.2.2.2.2.2.2.2.2.1, hnes.2.2.2.2.2.2.2.2.2.2.2.2.2.2.2.2.2.2.2.2.2.2.2.2.2.2.2.2.2.2.2.1⟩ E1962 A1967 A1966 ⟨by decide, rfl, by decide⟩ ⟨by decide, rfl, by decide⟩) hZ (hw _ (List.mem_of_getElem? (i := 91) rfl)) (hw _ (List.mem_of_getElem? (i := 25) rfl)) (by decide) (by decide)) (g := (mkF m 102 #[.val (.ref st), .val (.int (0 : Int32)), .val (.int (0 : Int32)), .val (.long (x0 &&& m0)), .second] [(.int (0 : Int32)), (.ref st)])) rfl (by rw [hml]; rfl) (Steps.refl _) (a := st) (by rw [e1946]; exact q1975) q1975' (argsL := [(.int (0 : Int32))]) (rest := []) (lenOf pd_7 rfl) rfl (by show 2 * 0 + _ ≤ _; exact Nat.le_of_eq rfl) (hb hby d8_102) (fun _ _ => ⟨rfl, e1946, (by decide : 0 + 0 ≤ _), (by decide : 0 + 0 ≤ _)⟩)
          dsimp only [Pt.U, Pt.locs, Pt.cells, Pt.slots] at X1975 l1975 y1975 z1975 st1975 hQ1975
          subst l1975 y1975 z1975
          obtain ⟨rfl, N1975q, K1975, hS1975, ⟨tt1975, pt1975, qt1975, hT1975⟩, Vn1975, Vl1975, El1975⟩ := hQ1975
          have N1975 := Fr.app N1973 N1975q
          have E1976 := E1960.keep K1975
          have E1977 := E1961.keep K1975
          have E1978 := E1962.keep K1975
          have E1979 := E1963.keep K1975
          have A1980 := A1947.keep K1975 (ninS (Ne.symm hnes.2.2.2.2.2.1) (ninS (Ne.symm hnes.2.2.2.2.2.2.2.2.2.2.1) (ninS (Ne.symm hnes.2.2.2.2.2.2.2.2.2.2.2.2.2.2.2.1) (ninS (Ne.symm hnes.2.2.2.2.2.2.2.2.2.2.2.2.2.2.2.2.2.2.2.2.1) (ninS (Ne.symm hnes.2.2.2.2.2.2.2.2.2.2.2.2.2.2.2.2.2.2.2.2.2.2.2.2.2.1) (ninS hnes.2.2.2.2.2.2.2.2.2.2.2.2.2.2.2.2.2.2.2.2.2.2.2.2.2.2.2.2.2.2.2.2.2.2.1 (ninS (Ne.symm hnes.2.2.2.2.2.2.2.2.2.2.2.2.2.2.2.2.2.2.2.2.2.2.2.2.2.2.2.2.2.1) nin0)))))))
          have A1981 := A1964.keep K1975 (ninS (Ne.symm hnes.2.2.2.2.2.2.1) (ninS (Ne.symm hnes.2.2.2.2.2.2.2.2.2.2.2.1) (ninS (Ne.symm hnes.2.2.2.2.2.2.2.2.2.2.2.2.2.2.2.2.1) (ninS (Ne.symm hnes.2.2.2.2.2.2.2.2.2.2.2.2.2.2.2.2.2.2.2.2.2.1) (ninS (Ne.symm hnes.2.2.2.2.2.2.2.2.2.2.2.2.2.2.2.2.2.2.2.2.2.2.2.2.2.2.1) (ninS hnes.2.2.2.2.2.2.2.2.2.2.2.2.2.2.2.2.2.2.2.2.2.2.2.2.2.2.2.2.2.2.2.2.2.2.2.2.1 (ninS (Ne.symm hnes.2.2.2.2.2.2.2.2.2.2.2.2.2.2.2.2.2.2.2.2.2.2.2.2.2.2.2.2.2.2.1) nin0)))))))
          have A1982 := A1965.keep K1975 (ninS (Ne.symm hnes.2.2.2.2.2.2.2.2.1) (ninS (Ne.symm hnes.2.2.2.2.2.2.2.2.2.2.2.2.2.1) (ninS (Ne.symm hnes.2.2.2.2.2.2.2.2.2.2.2.2.2.2.2.2.2.2.1) (ninS (Ne.symm hnes.2.2.2.2.2.2.2.2.2.2.2.2.2.2.2.2.2.2.2.2.2.2.2.1) (ninS (Ne.symm hnes.2.2.2.2.2.2.2.2.2.2.2.2.2.2.2.2.2.2.2.2.2.2.2.2.2.2.2.2.1) (ninS (Ne.symm hnes.2.2.2.2.2.2.2.2.2.2.2.2.2.2.2.2.2.2.2.2.2.2.2.2.2.2.2.2.2.2.2.2.2.2.2.2.2.2) (ninS (Ne.symm hnes.2.2.2.2.2.2.2.2.2.2.2.2.2.2.2.2.2.2.2.2.2.2.2.2.2.2.2.2.2.2.2.2.1) nin0)))))))
          have K1983 := K1971.trans K1975 (allS (Or.inl (List.mem_of_getElem? (i := 0) rfl)) (allS (Or.inl (List.mem_of_getElem? (i := 1) rfl)) (allS (Or.inl (List.mem_of_getElem? (i := 2) rfl)) (allS (Or.inl (List.mem_of_getElem? (i := 3) rfl)) (allS (Or.inl (List.mem_of_getElem? (i := 4) rfl)) (allS (Or.inl (List.mem_of_getElem? (i := 7) rfl)) (allS (Or.inl (List.mem_of_getElem? (i := 8) rfl)) all0)))))))
          have Z1984 : n0 ≤ T1975.heap.size := Nat.le_trans Z1972 K1975.1
          obtain ⟨u1985E, u1985a, u1985b, u1985c, u1985d, u1985e, u1985o, ⟨u1985fi, u1985x⟩, ⟨u1985fs, u1985s⟩⟩ := hT1975
          obtain ⟨u1986E, u1986a, u1986b, u1986c, u1986d, u1986e, u1986f, u1986g⟩ := hS1975
          have Vz1975 : OwnAV Z T1975.heap nz .int 2 (fun i => (.int (own_l2 (0 : Int32) (1 : Int32) i))) := Vn1975.congr (fun j hj => by
              have q : j = 0 ∨ j = 1 := by omega
              rcases q with rfl | rfl <;> rfl)
          have Vy1975 : OwnAV Z T1975.heap lim .int 1 (fun i => (.int (own_l2 (0 : Int32) (0 : Int32) i))) := Vl1975
          have k1987 : ∀ t, Steps p.tables e below (T1975.setTop (mkF m 111 #[.val (.ref st), .val (.int (-1 : Int32)), .val (.int (0 : Int32)), .val (.long (x0 &&& m0)), .second] [])) t → Steps p.tables e below (s₁.setTop (entryFrame m #[(.ref st)] 5)) t := fun t hk => k1974 t (by
            show Steps p.tables e below (T1946.setTop (mkF m 97 #[.val (.ref st), .val (.int (0 : Int32)), .val (.int (0 : Int32)), .val (.long (x0 &&& m0)), .second] [(.int (lcmpW (x0 &&& m0) (0 : Int64)))])) _
            refine XS.ifNo X1946.here hx rfl (hb hby d8_97) rfl ((if0 _ _).trans (teq ((lw_eq _ _).mpr hc97')).2) ?_
            refine XS.aloadN X1946.here hx rfl (hb hby d8_100) rfl rfl ?_
            refine XS.iloadN X1946.here hx rfl (hb hby d8_101) rfl ?_
            refine st1975.trans ?_
            show Steps p.tables e below (T1975.setTop (mkF m 105 #[.val (.ref st), .val (.int (0 : Int32)), .val (.int (0 : Int32)), .val (.long (x0 &&& m0)), .second] [])) _
            refine XS.iinc X1975.here hx rfl (hb hby d8_105) rfl (l' := #[.val (.ref st), .val (.int (-1 : Int32)), .val (.int (0 : Int32)), .val (.long (x0 &&& m0)), .second]) rfl ?_
            refine XS.goto X1975.here hx rfl (pc0 := 108) (pc' := 9) rfl (hb hby d8_108) (by decide) (by decide) ?_
            refine XS.iloadN X1975.here hx rfl (hb hby d8_9) rfl ?_
            refine XS.ifYes X1975.here hx rfl (pc0 := 10) (pc' := 111) rfl (hb hby d8_10) rfl ((if0 _ _).trans (tlt (by decide : (-1 : Int32) < (0 : Int32))).1) (by decide) (by decide) ?_
            exact hk)
          obtain ⟨fs, hr, hrun, hended, hW, hsame⟩ := X1975.leave (v := none) (fun _ => rfl)
          refine ⟨_, _, k1987 _ ?_, hrun, hended, _, _, rfl, ?_, ⟨_, rfl⟩, hW, hsame.mono (by decide) (by decide)⟩
          · show Steps p.tables e below (T1975.setTop (mkF m 111 #[.val (.ref st), .val (.int (-1 : Int32)), .val (.int (0 : Int32)), .val (.long (x0 &&& m0)), .second] [])) _
            exact X1975.returnOut hx Bd.returns (hb hby d8_111) hr
          · show Qx2 Z st tr ow ix sv lim wo sa nz ma x0 x1 y0 y1 m0 m1 h0 n0 _ T1975.heap _
            exact ⟨rfl, N1975, K1983, _, (0 : Int32), (0 : Int32), (1 : Int32), ⟨u1986E, u1986a, u1986b, u1986c, u1986d, u1986e, u1986f, u1986g⟩, A1980, Vz1975, Vy1975, Or.inr (Or.inr (Or.inr ⟨rfl, hc97', hc97⟩))⟩
        ·
          have k1988 : ∀ t, Steps p.tables e below (T1946.setTop (mkF m 111 #[.val (.ref st), .val (.int (-1 : Int32)), .val (.int (0 : Int32)), .val (.long (x0 &&& m0)), .second] [])) t → Steps p.tables e below (s₁.setTop (entryFrame m #[(.ref st)] 5)) t := fun t hk => k1974 t (by
            show Steps p.tables e below (T1946.setTop (mkF m 97 #[.val (.ref st), .val (.int (0 : Int32)), .val (.int (0 : Int32)), .val (.long (x0 &&& m0)), .second] [(.int (lcmpW (x0 &&& m0) (0 : Int64)))])) _
            refine XS.ifYes X1946.here hx rfl (pc0 := 97) (pc' := 105) rfl (hb hby d8_97) rfl ((if0 _ _).trans (feq (fun q => hc97' ((lw_eq _ _).mp q))).2) (by decide) (by decide) ?_
            refine XS.iinc X1946.here hx rfl (hb hby d8_105) rfl (l' := #[.val (.ref st), .val (.int (-1 : Int32)), .val (.int (0 : Int32)), .val (.long (x0 &&& m0)), .second]) rfl ?_
            refine XS.goto X1946.here hx rfl (pc0 := 108) (pc' := 9) rfl (hb hby d8_108) (by decide) (by decide) ?_
            refine XS.iloadN X1946.here hx rfl (hb hby d8_9) rfl ?_
            show Steps p.tables e below (T1946.setTop (mkF m 10 #[.val (.ref st), .val (.int (-1 : Int32)), .val (.int (0 : Int32)), .val (.long (x0 &&& m0)), .second] [(.int (-1 : Int32))])) _
            refine XS.ifYes X1946.here hx rfl (pc0 := 10) (pc' := 111) rfl (hb hby d8_10) rfl ((if0 _ _).trans (tlt (by decide : (-1 : Int32) < (0 : Int32))).1) (by decide) (by decide) ?_
            exact hk)
          obtain ⟨fs, hr, hrun, hended, hW, hsame⟩ := X1946.leave (v := none) (fun _ => rfl)
          refine ⟨_, _, k1988 _ ?_, hrun, hended, _, _, rfl, ?_, ⟨_, rfl⟩, hW, hsame.mono (by decide) (by decide)⟩
          · show Steps p.tables e below (T1946.setTop (mkF m 111 #[.val (.ref st), .val (.int (-1 : Int32)), .val (.int (0 : Int32)), .val (.long (x0 &&& m0)), .second] [])) _
            exact X1946.returnOut hx Bd.returns (hb hby d8_111) hr
          · show Qx2 Z st tr ow ix sv lim wo sa nz ma x0 x1 y0 y1 m0 m1 h0 n0 _ T1946.heap _
            rw [e1946]
            exact ⟨rfl, N1973, K1971, _, (1 : Int32), (0 : Int32), (1 : Int32), ⟨E1961, F1948, F1949, F1950, F1951, F1952, F1953, F1954⟩, A1947, A1966, A1967, Or.inr (Or.inl ⟨rfl, rfl, hc97⟩)⟩
    ·
      obtain ⟨T1989, X1989, e1989, st1989⟩ := getF X1841 hx hZ hown (host := "") (Or.inl (hw _ (List.mem_of_getElem? (i := 50) rfl))) Via.refl e1841 F1847 (g := (mkF m 14 #[.val (.ref st), .val (.int (0 : Int32)), .val (.int (1 : Int32)), .val (.long (x1 &&& m1)), .second] [(.ref st)])) rfl rfl (hb hby d8_14)
      obtain ⟨T1990, X1990, e1990, st1990⟩ := getF X1989 hx hZ hown (host := "") (Or.inl (hw _ (List.mem_of_getElem? (i := 46) rfl))) Via.refl e1989 F1845 (g := (mkF m 21 #[.val (.ref st), .val (.int (0 : Int32)), .val (.int (0 : Int32)), .val (.long (x1 &&& m1)), .second] [(.ref st)])) rfl rfl (hb hby d8_21)
      obtain ⟨T1991, X1991, e1991, st1991⟩ := getF X1990 hx hZ hown (host := "") (Or.inl (hw _ (List.mem_of_getElem? (i := 52) rfl))) Via.refl e1990 F1848 (g := (mkF m 27 #[.val (.ref st), .val (.int (0 : Int32)), .val (.int (0 : Int32)), .val (.long (x1 &&& m1)), .second] [(.ref st), (.long x0)])) rfl rfl (hb hby d8_27)
      obtain ⟨T1992, X1992, e1992, st1992⟩ := getF X1991 hx hZ hown (host := "") (Or.inl (hw _ (List.mem_of_getElem? (i := 46) rfl))) Via.refl e1991 F1845 (g := (mkF m 36 #[.val (.ref st), .val (.int (0 : Int32)), .val (.int (0 : Int32)), .val (.long (x0 &&& m0)), .second] [(.ref st), (.long (x0 &&& m0))])) rfl rfl (hb hby d8_36)
      have k1993 : ∀ t, Steps p.tables e below (T1992.setTop (mkF m 42 #[.val (.ref st), .val (.int (0 : Int32)), .val (.int (0 : Int32)), .val (.long (x0 &&& m0)), .second] [(.int (lcmpW (x0 &&& m0) x0))])) t → Steps p.tables e below (s₁.setTop (entryFrame m #[(.ref st)] 5)) t := fun t hk => k1869 t (by
        show Steps p.tables e below (T1841.setTop (mkF m 97 #[.val (.ref st), .val (.int (1 : Int32)), .val (.int (1 : Int32)), .val (.long (x1 &&& m1)), .second] [(.int (lcmpW (x1 &&& m1) (0 : Int64)))])) _
        refine XS.ifYes X1841.here hx rfl (pc0 := 97) (pc' := 105) rfl (hb hby d8_97) rfl ((if0 _ _).trans (feq (fun q => hc97 ((lw_eq _ _).mp q))).2) (by decide) (by decide) ?_
        refine XS.iinc X1841.here hx rfl (hb hby d8_105) rfl (l' := #[.val (.ref st), .val (.int (0 : Int32)), .val (.int (1 : Int32)), .val (.long (x1 &&& m1)), .second]) rfl ?_
        refine XS.goto X1841.here hx rfl (pc0 := 108) (pc' := 9) rfl (hb hby d8_108) (by decide) (by decide) ?_
        refine XS.iloadN X1841.here hx rfl (hb hby d8_9) rfl ?_
        show Steps p.tables e below (T1841.setTop (mkF m 10 #[.val (.ref st), .val (.int (0 : Int32)), .val (.int (1 : Int32)), .val (.long (x1 &&& m1)), .second] [(.int (0 : Int32))])) _
        refine XS.ifNo X1841.here hx rfl (hb hby d8_10) rfl ((if0 _ _).trans (flt (by decide : ¬ ((0 : Int32) < (0 : Int32)))).1) ?_
        refine XS.aloadN X1841.here hx rfl (hb hby d8_13) rfl rfl ?_
        refine st1989 _ ?_
        refine XS.iloadN X1989.here hx rfl (hb hby d8_17) rfl ?_
        show Steps p.tables e below (T1989.setTop (mkF m 18 #[.val (.ref st), .val (.int (0 : Int32)), .val (.int (1 : Int32)), .val (.long (x1 &&& m1)), .second] [(.int (0 : Int32)), (.ref nz)])) _
        refine own_iald X1989 hx hZ e1989 A1861 (k := 0) ⟨by decide, rfl, by decide⟩ rfl (g := (mkF m 18 #[.val (.ref st), .val (.int (0 : Int32)), .val (.int (1 : Int32)), .val (.long (x1 &&& m1)), .second] [(.int (0 : Int32)), (.ref nz)])) rfl rfl (hb hby d8_18) _ ?_
        refine XS.istoreN X1989.here hx rfl (hb hby d8_19) rfl (l' := #[.val (.ref st), .val (.int (0 : Int32)), .val (.int (0 : Int32)), .val (.long (x1 &&& m1)), .second]) rfl ?_
        refine XS.aloadN X1989.here hx rfl (hb hby d8_20) rfl rfl ?_
        refine st1990 _ ?_
        show Steps p.tables e below (T1990.setTop (mkF m 24 #[.val (.ref st), .val (.int (0 : Int32)), .val (.int (0 : Int32)), .val (.long (x1 &&& m1)), .second] [(.ref wo)])) _
        refine XS.iloadN X1990.here hx rfl (hb hby d8_24) rfl ?_
        refine own_lald X1990 hx hZ e1990 A1842 (k := 0) ⟨by decide, rfl, by decide⟩ rfl (g := (mkF m 25 #[.val (.ref st), .val (.int (0 : Int32)), .val (.int (0 : Int32)), .val (.long (x1 &&& m1)), .second] [(.int (0 : Int32)), (.ref wo)])) rfl rfl (hb hby d8_25) _ ?_
        refine XS.aloadN X1990.here hx rfl (hb hby d8_26) rfl rfl ?_
        refine st1991 _ ?_
        show Steps p.tables e below (T1991.setTop (mkF m 30 #[.val (.ref st), .val (.int (0 : Int32)), .val (.int (0 : Int32)), .val (.long (x1 &&& m1)), .second] [(.ref ma), (.long x0)])) _
        refine XS.iloadN X1991.here hx rfl (hb hby d8_30) rfl ?_
        refine own_lald X1991 hx hZ e1991 A1862 (k := 0) ⟨by decide, rfl, by decide⟩ rfl (g := (mkF m 31 #[.val (.ref st), .val (.int (0 : Int32)), .val (.int (0 : Int32)), .val (.long (x1 &&& m1)), .second] [(.int (0 : Int32)), (.ref ma), (.long x0)])) rfl rfl (hb hby d8_31) _ ?_
        refine XS.land X1991.here hx rfl (hb hby d8_32) rfl ?_
        refine XS.lstoreN X1991.here hx rfl (hb hby d8_33) rfl (l' := #[.val (.ref st), .val (.int (0 : Int32)), .val (.int (0 : Int32)), .val (.long (x0 &&& m0)), .second]) rfl ?_
        show Steps p.tables e below (T1991.setTop (mkF m 34 #[.val (.ref st), .val (.int (0 : Int32)), .val (.int (0 : Int32)), .val (.long (x0 &&& m0)), .second] [])) _
        refine XS.lloadN X1991.here hx rfl (hb hby d8_34) rfl ?_
        refine XS.aloadN X1991.here hx rfl (hb hby d8_35) rfl rfl ?_
        refine st1992 _ ?_
        refine XS.iloadN X1992.here hx rfl (hb hby d8_39) rfl ?_
        show Steps p.tables e below (T1992.setTop (mkF m 40 #[.val (.ref st), .val (.int (0 : Int32)), .val (.int (0 : Int32)), .val (.long (x0 &&& m0)), .second] [(.int (0 : Int32)), (.ref wo), (.long (x0 &&& m0))])) _
        refine own_lald X1992 hx hZ e1992 A1842 (k := 0) ⟨by decide, rfl, by decide⟩ rfl (g := (mkF m 40 #[.val (.ref st), .val (.int (0 : Int32)), .val (.int (0 : Int32)), .val (.long (x0 &&& m0)), .second] [(.int (0 : Int32)), (.ref wo), (.long (x0 &&& m0))])) rfl rfl (hb hby d8_40) _ ?_
        refine XS.lcmp X1992.here hx rfl (hb hby d8_41) rfl ?_
        exact hk)
      by_cases hc42' : (x0 &&& m0) = x0
      ·
        have k1994 : ∀ t, Steps p.tables e below (T1992.setTop (mkF m 111 #[.val (.ref st), .val (.int (-1 : Int32)), .val (.int (0 : Int32)), .val (.long (x0 &&& m0)), .second] [])) t → Steps p.tables e below (s₁.setTop (entryFrame m #[(.ref st)] 5)) t := fun t hk => k1993 t (by
          show Steps p.tables e below (T1992.setTop (mkF m 42 #[.val (.ref st), .val (.int (0 : Int32)), .val (.int (0 : Int32)), .val (.long (x0 &&& m0)), .second] [(.int (lcmpW (x0 &&& m0) x0))])) _
          refine XS.ifYes X1992.here hx rfl (pc0 := 42) (pc' := 105) rfl (hb hby d8_42) rfl ((if0 _ _).trans (teq ((lw_eq _ _).mpr hc42')).1) (by decide) (by decide) ?_
          refine XS.iinc X1992.here hx rfl (hb hby d8_105) rfl (l' := #[.val (.ref st), .val (.int (-1 : Int32)), .val (.int (0 : Int32)), .val (.long (x0 &&& m0)), .second]) rfl ?_
          refine XS.goto X1992.here hx rfl (pc0 := 108) (pc' := 9) rfl (hb hby d8_108) (by decide) (by decide) ?_
          refine XS.iloadN X1992.here hx rfl (hb hby d8_9) rfl ?_
          show Steps p.tables e below (T1992.setTop (mkF m 10 #[.val (.ref st), .val (.int (-1 : Int32)), .val (.int (0 : Int32)), .val (.long (x0 &&& m0)), .second] [(.int (-1 : Int32))])) _
          refine XS.ifYes X1992.here hx rfl (pc0 := 10) (pc' := 111) rfl (hb hby d8_10) rfl ((if0 _ _).trans (tlt (by decide : (-1 : Int32) < (0 : Int32))).1) (by decide) (by decide) ?_
          exact hk)
        have Vfin : OwnAV Z h1841 wo .long 2 (fun i => (.long (own_l2 (x0 &&& m0) (x1 &&& m1) i))) := by
          rw [hc42']; exact A1842
        obtain ⟨fs, hr, hrun, hended, hW, hsame⟩ := X1992.leave (v := none) (fun _ => rfl)
        refine ⟨_, _, k1994 _ ?_, hrun, hended, _, _, rfl, ?_, ⟨_, rfl⟩, hW, hsame.mono (by decide) (by decide)⟩
        · show Steps p.tables e below (T1992.setTop (mkF m 111 #[.val (.ref st), .val (.int (-1 : Int32)), .val (.int (0 : Int32)), .val (.long (x0 &&& m0)), .second] [])) _
          exact X1992.returnOut hx Bd.returns (hb hby d8_111) hr
        · show Qx2 Z st tr ow ix sv lim wo sa nz ma x0 x1 y0 y1 m0 m1 h0 n0 _ T1992.heap _
          rw [e1992]
          exact ⟨rfl, N1868, K1866, _, (2 : Int32), (0 : Int32), (1 : Int32), ⟨E1856, F1843, F1844, F1845, F1846, F1847, F1848, F1849⟩, Vfin, A1861, A1859, Or.inl ⟨rfl, rfl, rfl⟩⟩
      ·
        obtain ⟨T1995, X1995, e1995, st1995⟩ := getF X1992 hx hZ hown (host := "") (Or.inl (hw _ (List.mem_of_getElem? (i := 48) rfl))) Via.refl e1992 F1846 (g := (mkF m 46 #[.val (.ref st), .val (.int (0 : Int32)), .val (.int (0 : Int32)), .val (.long (x0 &&& m0)), .second] [(.ref st)])) rfl rfl (hb hby d8_46)
        obtain ⟨T1996, X1996, e1996, st1996⟩ := getF X1995 hx hZ hown (host := "") (Or.inl (hw _ (List.mem_of_getElem? (i := 35) rfl))) Via.refl e1995 F1843 (g := (mkF m 52 #[.val (.ref st), .val (.int (0 : Int32)), .val (.int (0 : Int32)), .val (.long (x0 &&& m0)), .second] [(.ref st), (.long y0)])) rfl rfl (hb hby d8_52)
        obtain ⟨cq1997, kq1997, q1997a, q1997b, q1997c⟩ := isOf hZ e1996 E1855
        obtain ⟨_, _, ⟨T1997, L1997, k1997, n1997⟩, -, X1997, ⟨Lc1997, hQ1997, l1997, y1997, z1997⟩, st1997⟩ := X1996.virtualBack hx (y := (⟨"com/example/faultline/faultline/engine/Trail", "world", "()J"⟩ : MethodName)) (z := (⟨"com/example/faultline/faultline/engine/Trail", "world", "()J"⟩ : MethodName)) hown (mvT hZ (hw _ (List.mem_of_getElem? (i := 69) rfl))) (mvT hZ (hw _ (List.mem_of_getElem? (i := 70) rfl))) (notFace_of_selects (args := #[]) (mvT hZ (hw _ (List.mem_of_getElem? (i := 72) rfl)))) (mvT hZ (hw _ (List.mem_of_getElem? (i := 72) rfl))) (mvT hZ (hw _ (List.mem_of_getElem? (i := 71) rfl))) (by decide) (backOf (W := 2) (rm10 l Z a0 hw [] tr (0 : Int64) h1841 n0 Z1867 F1854) hZ (hw _ (List.mem_of_getElem? (i := 73) rfl)) (hw _ (List.mem_of_getElem? (i := 2) rfl)) (by decide) (by decide)) q1997a q1997c (g := (mkF m 55 #[.val (.ref st), .val (.int (0 : Int32)), .val (.int (0 : Int32)), .val (.long (x0 &&& m0)), .second] [(.ref tr), (.long y0)])) rfl (by rw [hml]; rfl) (Steps.refl _) (argsL := []) (rest := [(.long y0)]) (lenOf pd_2 rfl) rfl (by show 2 * 0 + _ ≤ _; exact Nat.le_of_eq rfl) (hb hby d8_55) (fun _ _ => ⟨rfl, e1996, (by decide : 0 + 0 ≤ _), (by decide : 0 + 0 ≤ _)⟩)
        dsimp only [Pt.U, Pt.locs, Pt.cells, Pt.slots] at X1997 l1997 y1997 z1997 st1997 hQ1997
        subst l1997 y1997 z1997
        obtain ⟨rfl, N1997q, e1997⟩ := hQ1997
        have N1997 := Fr.app N1868 N1997q
        obtain ⟨T1998, X1998, e1998, st1998⟩ := getF X1997 hx hZ hown (host := "") (Or.inl (hw _ (List.mem_of_getElem? (i := 35) rfl))) Via.refl e1997 F1843 (g := (mkF m 63 #[.val (.ref st), .val (.int (0 : Int32)), .val (.int (0 : Int32)), .val (.long (x0 &&& m0)), .second] [(.ref st)])) rfl rfl (hb hby d8_63)
        obtain ⟨T1999, X1999, e1999, st1999⟩ := getF X1998 hx hZ hown (host := "") (Or.inl (hw _ (List.mem_of_getElem? (i := 46) rfl))) Via.refl e1998 F1845 (g := (mkF m 67 #[.val (.ref st), .val (.int (0 : Int32)), .val (.int (0 : Int32)), .val (.long (x0 &&& m0)), .second] [(.ref st), (.ref tr)])) rfl rfl (hb hby d8_67)
        obtain ⟨cq2000, kq2000, q2000a, q2000b, q2000c⟩ := isOf hZ e1999 E1855
        obtain ⟨_, _, ⟨T2000, L2000, k2000, n2000⟩, -, X2000, ⟨Lc2000, hQ2000, l2000, y2000, z2000⟩, st2000⟩ := X1999.virtualBack hx (y := (⟨"com/example/faultline/faultline/engine/Trail", "save", "([JI)V"⟩ : MethodName)) (z := (⟨"com/example/faultline/faultline/engine/Trail", "save", "([JI)V"⟩ : MethodName)) hown (mvT hZ (hw _ (List.mem_of_getElem? (i := 76) rfl))) (mvT hZ (hw _ (List.mem_of_getElem? (i := 77) rfl))) (notFace_of_selects (args := #[]) (mvT hZ (hw _ (List.mem_of_getElem? (i := 79) rfl)))) (mvT hZ (hw _ (List.mem_of_getElem? (i := 79) rfl))) (mvT hZ (hw _ (List.mem_of_getElem? (i := 78) rfl))) (by decide) (backOf (W := 0) (rm11 l Z a0 hw [] tr wo (0 : Int32) ow ix sv t1807 2 0 (own_l2 x0 (x1 &&& m1)) h1841 n0 Z1867 ⟨E1855, F1850, F1851, F1852, F1853, F1854, A1863, ⟨_, A1864⟩, ⟨_, A1865⟩⟩ hap hnew pt1807 (by omega) E1858 A1842 ⟨by decide, rfl, by decide⟩) hZ (hw _ (List.mem_of_getElem? (i := 80) rfl)) (hw _ (List.mem_of_getElem? (i := 2) rfl)) (by decide) (by decide)) q2000a q2000c (g := (mkF m 71 #[.val (.ref st), .val (.int (0 : Int32)), .val (.int (0 : Int32)), .val (.long (x0 &&& m0)), .second] [(.int (0 : Int32)), (.ref wo), (.ref tr)])) rfl (by rw [hml]; rfl) (Steps.refl _) (argsL := [(.ref wo), (.int (0 : Int32))]) (rest := []) (lenOf pd_6 rfl) rfl (by show 2 * 0 + _ ≤ _; exact Nat.le_of_eq rfl) (hb hby d8_71) (fun _ _ => ⟨rfl, e1999, (by decide : 0 + 0 ≤ _), (by decide : 0 + 0 ≤ _)⟩)
        dsimp only [Pt.U, Pt.locs, Pt.cells, Pt.slots] at X2000 l2000 y2000 z2000 st2000 hQ2000
        subst l2000 y2000 z2000
        obtain ⟨rfl, N2000q, K2000, hT2000⟩ := hQ2000
        have N2000 := Fr.app N1997 N2000q
        have F2001 := F1843.keep K2000 (ninS hnes.1 (ninS hnes.2.1 (ninS hnes.2.2.1 (ninS hnes.2.2.2.1 nin0))))
        have F2002 := F1844.keep K2000 (ninS hnes.1 (ninS hnes.2.1 (ninS hnes.2.2.1 (ninS hnes.2.2.2.1 nin0))))
        have F2003 := F1845.keep K2000 (ninS hnes.1 (ninS hnes.2.1 (ninS hnes.2.2.1 (ninS hnes.2.2.2.1 nin0))))
        have F2004 := F1846.keep K2000 (ninS hnes.1 (ninS hnes.2.1 (ninS hnes.2.2.1 (ninS hnes.2.2.2.1 nin0))))
        have F2005 := F1847.keep K2000 (ninS hnes.1 (ninS hnes.2.1 (ninS hnes.2.2.1 (ninS hnes.2.2.2.1 nin0))))
        have F2006 := F1848.keep K2000 (ninS hnes.1 (ninS hnes.2.1 (ninS hnes.2.2.1 (ninS hnes.2.2.2.1 nin0))))
        have F2007 := F1849.keep K2000 (ninS hnes.1 (ninS hnes.2.1 (ninS hnes.2.2.1 (ninS hnes.2.2.2.1 nin0))))
        have E2008 := E1855.keep K2000
        have E2009 := E1856.keep K2000
        have E2010 := E1857.keep K2000
        have E2011 := E1858.keep K2000
        have A2012 := A1859.keep K2000 (ninS (Ne.symm hnes.2.2.2.2.2.2.2.2.2.1) (ninS (Ne.symm hnes.2.2.2.2.2.2.2.2.2.2.2.2.2.2.1) (ninS (Ne.symm hnes.2.2.2.2.2.2.2.2.2.2.2.2.2.2.2.2.2.2.2.1) (ninS (Ne.symm hnes.2.2.2.2.2.2.2.2.2.2.2.2.2.2.2.2.2.2.2.2.2.2.2.2.1) nin0))))
        have A2013 := A1842.keep K2000 (ninS (Ne.symm hnes.2.2.2.2.2.2.2.2.2.2.1) (ninS (Ne.symm hnes.2.2.2.2.2.2.2.2.2.2.2.2.2.2.2.1) (ninS (Ne.symm hnes.2.2.2.2.2.2.2.2.2.2.2.2.2.2.2.2.2.2.2.2.1) (ninS (Ne.symm hnes.2.2.2.2.2.2.2.2.2.2.2.2.2.2.2.2.2.2.2.2.2.2.2.2.2.1) nin0))))
        have A2014 := A1860.keep K2000 (ninS (Ne.symm hnes.2.2.2.2.2.2.2.2.2.2.2.1) (ninS (Ne.symm hnes.2.2.2.2.2.2.2.2.2.2.2.2.2.2.2.2.1) (ninS (Ne.symm hnes.2.2.2.2.2.2.2.2.2.2.2.2.2.2.2.2.2.2.2.2.2.1) (ninS (Ne.symm hnes.2.2.2.2.2.2.2.2.2.2.2.2.2.2.2.2.2.2.2.2.2.2.2.2.2.2.1) nin0))))
        have A2015 := A1861.keep K2000 (ninS (Ne.symm hnes.2.2.2.2.2.2.2.2.2.2.2.2.1) (ninS (Ne.symm hnes.2.2.2.2.2.2.2.2.2.2.2.2.2.2.2.2.2.1) (ninS (Ne.symm hnes.2.2.2.2.2.2.2.2.2.2.2.2.2.2.2.2.2.2.2.2.2.2.1) (ninS (Ne.symm hnes.2.2.2.2.2.2.2.2.2.2.2.2.2.2.2.2.2.2.2.2.2.2.2.2.2.2.2.1) nin0))))
        have A2016 := A1862.keep K2000 (ninS (Ne.symm hnes.2.2.2.2.2.2.2.2.2.2.2.2.2.1) (ninS (Ne.symm hnes.2.2.2.2.2.2.2.2.2.2.2.2.2.2.2.2.2.2.1) (ninS (Ne.symm hnes.2.2.2.2.2.2.2.2.2.2.2.2.2.2.2.2.2.2.2.2.2.2.2.1) (ninS (Ne.symm hnes.2.2.2.2.2.2.2.2.2.2.2.2.2.2.2.2.2.2.2.2.2.2.2.2.2.2.2.2.1) nin0))))
        have K2017 := K1866.trans K2000 (allS (Or.inl (List.mem_of_getElem? (i := 1) rfl)) (allS (Or.inl (List.mem_of_getElem? (i := 2) rfl)) (allS (Or.inl (List.mem_of_getElem? (i := 3) rfl)) (allS (Or.inl (List.mem_of_getElem? (i := 4) rfl)) all0))))
        have Z2018 : n0 ≤ T2000.heap.size := Nat.le_trans Z1867 K2000.1
        obtain ⟨t2019, qt2019⟩ : ∃ z : Int32, z = t1807 + (1 : Int32) := ⟨_, rfl⟩
        rw [← qt2019] at hT2000
        obtain ⟨pt2019, rt2019⟩ := own_tick t1807 t2019 qt2019 pt1807 (by omega)
        obtain ⟨u2020E, u2020a, u2020b, u2020c, u2020d, u2020e, u2020o, ⟨u2020fi, u2020x⟩, ⟨u2020fs, u2020s⟩⟩ := hT2000
        obtain ⟨T2021, X2021, e2021, st2021⟩ := getF X2000 hx hZ hown (host := "") (Or.inl (hw _ (List.mem_of_getElem? (i := 48) rfl))) Via.refl rfl F2004 (g := (mkF m 75 #[.val (.ref st), .val (.int (0 : Int32)), .val (.int (0 : Int32)), .val (.long (x0 &&& m0)), .second] [(.ref st)])) rfl rfl (hb hby d8_75)
        obtain ⟨T2022, X2022, e2022, st2022⟩ := getF X2021 hx hZ hown (host := "") (Or.inl (hw _ (List.mem_of_getElem? (i := 35) rfl))) Via.refl e2021 F2001 (g := (mkF m 80 #[.val (.ref st), .val (.int (0 : Int32)), .val (.int (0 : Int32)), .val (.long (x0 &&& m0)), .second] [(.ref st), (.int (0 : Int32)), (.ref sa)])) rfl rfl (hb hby d8_80)
        obtain ⟨cq2023, kq2023, q2023a, q2023b, q2023c⟩ := isOf hZ e2022 u2020E
        obtain ⟨_, _, ⟨T2023, L2023, k2023, n2023⟩, -, X2023, ⟨Lc2023, hQ2023, l2023, y2023, z2023⟩, st2023⟩ := X2022.virtualBack hx (y := (⟨"com/example/faultline/faultline/engine/Trail", "world", "()J"⟩ : MethodName)) (z := (⟨"com/example/faultline/faultline/engine/Trail", "world", "()J"⟩ : MethodName)) hown (mvT hZ (hw _ (List.mem_of_getElem? (i := 69) rfl))) (mvT hZ (hw _ (List.mem_of_getElem? (i := 70) rfl))) (notFace_of_selects (args := #[]) (mvT hZ (hw _ (List.mem_of_getElem? (i := 72) rfl)))) (mvT hZ (hw _ (List.mem_of_getElem? (i := 72) rfl))) (mvT hZ (hw _ (List.mem_of_getElem? (i := 71) rfl))) (by decide) (backOf (W := 2) (rm10 l Z a0 hw [] tr (0 : Int64) T2000.heap n0 Z2018 u2020e) hZ (hw _ (List.mem_of_getElem? (i := 73) rfl)) (hw _ (List.mem_of_getElem? (i := 2) rfl)) (by decide) (by decide)) q2023a q2023c (g := (mkF m 83 #[.val (.ref st), .val (.int (0 : Int32)), .val (.int (0 : Int32)), .val (.long (x0 &&& m0)), .second] [(.ref tr), (.int (0 : Int32)), (.ref sa)])) rfl (by rw [hml]; rfl) (Steps.refl _) (argsL := []) (rest := [(.int (0 : Int32)), (.ref sa)]) (lenOf pd_2 rfl) rfl (by show 2 * 0 + _ ≤ _; exact Nat.le_of_eq rfl) (hb hby d8_83) (fun _ _ => ⟨rfl, e2022, (by decide : 0 + 0 ≤ _), (by decide : 0 + 0 ≤ _)⟩)
        dsimp only [Pt.U, Pt.locs, Pt.cells, Pt.slots] at X2023 l2023 y2023 z2023 st2023 hQ2023
        subst l2023 y2023 z2023
        obtain ⟨rfl, N2023q, e2023⟩ := hQ2023
        have N2023 := Fr.app N2000 N2023q
        obtain ⟨T2024, h2024, X2024, e2024, W2024, st2024⟩ := own_last X2023 hx hZ e2023 A2014 (k := 0) ⟨by decide, rfl, by decide⟩ (g := (mkF m 86 #[.val (.ref st), .val (.int (0 : Int32)), .val (.int (0 : Int32)), .val (.long (x0 &&& m0)), .second] [(.long (0 : Int64)), (.int (0 : Int32)), (.ref sa)])) rfl rfl (hb hby d8_86)
        have A2025 : OwnAV Z h2024 sa .long 2 (fun i => (.long ((own_l2 (0 : Int64) (0 : Int64)) i))) := (A2014.storeJ W2024).congr (fun j hj => by
            have q : j = 0 ∨ j = 1 := by omega
            rcases q with rfl | rfl <;> rfl)
        have F2026 := F2001.other W2024 (Or.inl hnes.2.2.2.2.2.2.1)
        have F2027 := F2002.other W2024 (Or.inl hnes.2.2.2.2.2.2.1)
        have F2028 := F2003.other W2024 (Or.inl hnes.2.2.2.2.2.2.1)
        have F2029 := F2004.other W2024 (Or.inl hnes.2.2.2.2.2.2.1)
        have F2030 := F2005.other W2024 (Or.inl hnes.2.2.2.2.2.2.1)
        have F2031 := F2006.other W2024 (Or.inl hnes.2.2.2.2.2.2.1)
        have F2032 := F2007.other W2024 (Or.inl hnes.2.2.2.2.2.2.1)
        have F2033 := u2020a.other W2024 (Or.inl hnes.2.2.2.2.2.2.2.2.2.2.2.1)
        have F2034 := u2020b.other W2024 (Or.inl hnes.2.2.2.2.2.2.2.2.2.2.2.1)
        have F2035 := u2020c.other W2024 (Or.inl hnes.2.2.2.2.2.2.2.2.2.2.2.1)
        have F2036 := u2020d.other W2024 (Or.inl hnes.2.2.2.2.2.2.2.2.2.2.2.1)
        have F2037 := u2020e.other W2024 (Or.inl hnes.2.2.2.2.2.2.2.2.2.2.2.1)
        have E2038 := u2020E.wr W2024
        have E2039 := E2009.wr W2024
        have E2040 := E2010.wr W2024
        have E2041 := E2011.wr W2024
        have A2042 := A2012.other W2024 hnes.2.2.2.2.2.2.2.2.2.2.2.2.2.2.2.2.2.2.2.2.2.2.2.2.2.2.2.2.2.2.1
        have A2043 := A2013.other W2024 hnes.2.2.2.2.2.2.2.2.2.2.2.2.2.2.2.2.2.2.2.2.2.2.2.2.2.2.2.2.2.2.2.2.2.1
        have A2044 := A2015.other W2024 (Ne.symm hnes.2.2.2.2.2.2.2.2.2.2.2.2.2.2.2.2.2.2.2.2.2.2.2.2.2.2.2.2.2.2.2.2.2.2.2.2.1)
        have A2045 := A2016.other W2024 (Ne.symm hnes.2.2.2.2.2.2.2.2.2.2.2.2.2.2.2.2.2.2.2.2.2.2.2.2.2.2.2.2.2.2.2.2.2.2.2.2.2.1)
        have A2046 := u2020o.other W2024 hnes.2.2.2.2.2.2.2.2.2.2.2.2.2.2.2.2.1
        have A2047 := u2020x.other W2024 hnes.2.2.2.2.2.2.2.2.2.2.2.2.2.2.2.2.2.2.2.2.2.1
        have A2048 := u2020s.other W2024 hnes.2.2.2.2.2.2.2.2.2.2.2.2.2.2.2.2.2.2.2.2.2.2.2.2.2.2.1
        have K2049 := K2017.wr W2024 (Or.inl (List.mem_of_getElem? (i := 6) rfl))
        have Z2050 : n0 ≤ h2024.size := W2024.size ▸ Z2018
        have N2051 := Fr.snoc X2024 N2023 gsa
        obtain ⟨T2052, X2052, e2052, st2052⟩ := getF X2024 hx hZ hown (host := "") (Or.inl (hw _ (List.mem_of_getElem? (i := 46) rfl))) Via.refl e2024 F2028 (g := (mkF m 88 #[.val (.ref st), .val (.int (0 : Int32)), .val (.int (0 : Int32)), .val (.long (x0 &&& m0)), .second] [(.ref st)])) rfl rfl (hb hby d8_88)
        obtain ⟨T2053, h2053, X2053, e2053, W2053, st2053⟩ := own_last X2052 hx hZ e2052 A2043 (k := 0) ⟨by decide, rfl, by decide⟩ (g := (mkF m 93 #[.val (.ref st), .val (.int (0 : Int32)), .val (.int (0 : Int32)), .val (.long (x0 &&& m0)), .second] [(.long (x0 &&& m0)), (.int (0 : Int32)), (.ref wo)])) rfl rfl (hb hby d8_93)
        have A2054 : OwnAV Z h2053 wo .long 2 (fun i => (.long ((own_l2 (x0 &&& m0) (x1 &&& m1)) i))) := (A2043.storeJ W2053).congr (fun j hj => by
            have q : j = 0 ∨ j = 1 := by omega
            rcases q with rfl | rfl <;> rfl)
        have F2055 := F2026.other W2053 (Or.inl hnes.2.2.2.2.2.1)
        have F2056 := F2027.other W2053 (Or.inl hnes.2.2.2.2.2.1)
        have F2057 := F2028.other W2053 (Or.inl hnes.2.2.2.2.2.1)
        have F2058 := F2029.other W2053 (Or.inl hnes.2.2.2.2.2.1)
        have F2059 := F2030.other W2053 (Or.inl hnes.2.2.2.2.2.1)
        have F2060 := F2031.other W2053 (Or.inl hnes.2.2.2.2.2.1)
        have F2061 := F2032.other W2053 (Or.inl hnes.2.2.2.2.2.1)
        have F2062 := F2033.other W2053 (Or.inl hnes.2.2.2.2.2.2.2.2.2.2.1)
        have F2063 := F2034.other W2053 (Or.inl hnes.2.2.2.2.2.2.2.2.2.2.1)
        have F2064 := F2035.other W2053 (Or.inl hnes.2.2.2.2.2.2.2.2.2.2.1)
        have F2065 := F2036.other W2053 (Or.inl hnes.2.2.2.2.2.2.2.2.2.2.1)
        have F2066 := F2037.other W2053 (Or.inl hnes.2.2.2.2.2.2.2.2.2.2.1)
        have E2067 := E2038.wr W2053
        have E2068 := E2039.wr W2053
        have E2069 := E2040.wr W2053
        have E2070 := E2041.wr W2053
        have A2071 := A2042.other W2053 hnes.2.2.2.2.2.2.2.2.2.2.2.2.2.2.2.2.2.2.2.2.2.2.2.2.2.2.2.2.2.1
        have A2072 := A2025.other W2053 (Ne.symm hnes.2.2.2.2.2.2.2.2.2.2.2.2.2.2.2.2.2.2.2.2.2.2.2.2.2.2.2.2.2.2.2.2.2.1)
        have A2073 := A2044.other W2053 (Ne.symm hnes.2.2.2.2.2.2.2.2.2.2.2.2.2.2.2.2.2.2.2.2.2.2.2.2.2.2.2.2.2.2.2.2.2.2.1)
        have A2074 := A2045.other W2053 (Ne.symm hnes.2.2.2.2.2.2.2.2.2.2.2.2.2.2.2.2.2.2.2.2.2.2.2.2.2.2.2.2.2.2.2.2.2.2.2.1)
        have A2075 := A2046.other W2053 hnes.2.2.2.2.2.2.2.2.2.2.2.2.2.2.2.1
        have A2076 := A2047.other W2053 hnes.2.2.2.2.2.2.2.2.2.2.2.2.2.2.2.2.2.2.2.2.1
        have A2077 := A2048.other W2053 hnes.2.2.2.2.2.2.2.2.2.2.2.2.2.2.2.2.2.2.2.2.2.2.2.2.2.1
        have K2078 := K2049.wr W2053 (Or.inl (List.mem_of_getElem? (i := 5) rfl))
        have Z2079 : n0 ≤ h2053.size := W2053.size ▸ Z2050
        have N2080 := Fr.snoc X2053 N2051 gwo
        have k2081 : ∀ t, Steps p.tables e below (T2053.setTop (mkF m 97 #[.val (.ref st), .val (.int (0 : Int32)), .val (.int (0 : Int32)), .val (.long (x0 &&& m0)), .second] [(.int (lcmpW (x0 &&& m0) (0 : Int64)))])) t → Steps p.tables e below (s₁.setTop (entryFrame m #[(.ref st)] 5)) t := fun t hk => k1993 t (by
          show Steps p.tables e below (T1992.setTop (mkF m 42 #[.val (.ref st), .val (.int (0 : Int32)), .val (.int (0 : Int32)), .val (.long (x0 &&& m0)), .second] [(.int (lcmpW (x0 &&& m0) x0))])) _
          refine XS.ifNo X1992.here hx rfl (hb hby d8_42) rfl ((if0 _ _).trans (feq (fun q => hc42' ((lw_eq _ _).mp q))).1) ?_
          refine XS.aloadN X1992.here hx rfl (hb hby d8_45) rfl rfl ?_
          refine st1995 _ ?_
          refine XS.iloadN X1995.here hx rfl (hb hby d8_49) rfl ?_
          show Steps p.tables e below (T1995.setTop (mkF m 50 #[.val (.ref st), .val (.int (0 : Int32)), .val (.int (0 : Int32)), .val (.long (x0 &&& m0)), .second] [(.int (0 : Int32)), (.ref sa)])) _
          refine own_lald X1995 hx hZ e1995 A1860 (k := 0) ⟨by decide, rfl, by decide⟩ rfl (g := (mkF m 50 #[.val (.ref st), .val (.int (0 : Int32)), .val (.int (0 : Int32)), .val (.long (x0 &&& m0)), .second] [(.int (0 : Int32)), (.ref sa)])) rfl rfl (hb hby d8_50) _ ?_
          refine XS.aloadN X1995.here hx rfl (hb hby d8_51) rfl rfl ?_
          refine st1996 _ ?_
          refine st1997.trans ?_
          show Steps p.tables e below (T1997.setTop (mkF m 58 #[.val (.ref st), .val (.int (0 : Int32)), .val (.int (0 : Int32)), .val (.long (x0 &&& m0)), .second] [(.long (0 : Int64)), (.long y0)])) _
          refine XS.lcmp X1997.here hx rfl (hb hby d8_58) rfl ?_
          refine XS.ifNo X1997.here hx rfl (hb hby d8_59) rfl ((if0 _ _).trans (feq (fun q => hys0 ((lw_eq _ _).mp q))).1) ?_
          refine XS.aloadN X1997.here hx rfl (hb hby d8_62) rfl rfl ?_
          refine st1998 _ ?_
          show Steps p.tables e below (T1998.setTop (mkF m 66 #[.val (.ref st), .val (.int (0 : Int32)), .val (.int (0 : Int32)), .val (.long (x0 &&& m0)), .second] [(.ref tr)])) _
          refine XS.aloadN X1998.here hx rfl (hb hby d8_66) rfl rfl ?_
          refine st1999 _ ?_
          refine XS.iloadN X1999.here hx rfl (hb hby d8_70) rfl ?_
          refine st2000.trans ?_
          show Steps p.tables e below (T2000.setTop (mkF m 74 #[.val (.ref st), .val (.int (0 : Int32)), .val (.int (0 : Int32)), .val (.long (x0 &&& m0)), .second] [])) _
          refine XS.aloadN X2000.here hx rfl (hb hby d8_74) rfl rfl ?_
          refine st2021 _ ?_
          refine XS.iloadN X2021.here hx rfl (hb hby d8_78) rfl ?_
          refine XS.aloadN X2021.here hx rfl (hb hby d8_79) rfl rfl ?_
          show Steps p.tables e below (T2021.setTop (mkF m 80 #[.val (.ref st), .val (.int (0 : Int32)), .val (.int (0 : Int32)), .val (.long (x0 &&& m0)), .second] [(.ref st), (.int (0 : Int32)), (.ref sa)])) _
          refine st2022 _ ?_
          refine st2023.trans ?_
          refine st2024 _ ?_
          refine XS.aloadN X2024.here hx rfl (hb hby d8_87) rfl rfl ?_
          show Steps p.tables e below (T2024.setTop (mkF m 88 #[.val (.ref st), .val (.int (0 : Int32)), .val (.int (0 : Int32)), .val (.long (x0 &&& m0)), .second] [(.ref st)])) _
          refine st2052 _ ?_
          refine XS.iloadN X2052.here hx rfl (hb hby d8_91) rfl ?_
          refine XS.lloadN X2052.here hx rfl (hb hby d8_92) rfl ?_
          refine st2053 _ ?_
          show Steps p.tables e below (T2053.setTop (mkF m 94 #[.val (.ref st), .val (.int (0 : Int32)), .val (.int (0 : Int32)), .val (.long (x0 &&& m0)), .second] [])) _
          refine XS.lloadN X2053.here hx rfl (hb hby d8_94) rfl ?_
          refine XS.lconst X2053.here hx rfl (hb hby d8_95) ?_
          refine XS.lcmp X2053.here hx rfl (hb hby d8_96) rfl ?_
          exact hk)
        by_cases hc97' : (x0 &&& m0) = (0 : Int64)
        ·
          obtain ⟨cq2082, q2082, q2082'⟩ := E2068.cell
          obtain ⟨_, _, ⟨T2082, L2082, k2082, n2082⟩, -, X2082, ⟨Lc2082, hQ2082, l2082, y2082, z2082⟩, st2082⟩ := X2053.privateBack hx (y := (⟨"com/example/faultline/faultline/engine/ReversibleBitSet", "removeNonZero", "(I)V"⟩ : MethodName)) hown (mvT hZ (hw _ (List.mem_of_getElem? (i := 88) rfl))) (mvT hZ (hw _ (List.mem_of_getElem? (i := 89) rfl))) (own_selp (mvT hZ (hw _ (List.mem_of_getElem? (i := 24) rfl))) (Cond.privateMethod_at (mvP hZ (hw _ (List.mem_of_getElem? (i := 90) rfl)) (args := #[]))) (mvT hZ (hw _ (List.mem_of_getElem? (i := 89) rfl))) (by decide)) (Cond.privateMethod_at (mvP hZ (hw _ (List.mem_of_getElem? (i := 90) rfl)) (args := #[]))) (mvT hZ (hw _ (List.mem_of_getElem? (i := 91) rfl))) (by decide) (backOf (W := 0) (rm13 l Z a0 hw [] st (0 : Int32) tr ow ix sv lim wo sa nz ma (-1 : Int64) t2019 (2 : Int32) 2 0 1 (own_l2 (0 : Int32) (1 : Int32)) h2053 n0 Z2079 ⟨E2067, F2062, F2063, F2064, F2065, F2066, A2075, ⟨_, A2076⟩, ⟨_, A2077⟩⟩ hap hnew pt2019 (by omega) ⟨E2068, F2055, F2056, F2057, F2058, F2059, F2060, F2061⟩ hsn ⟨hnes.1, hnes.2.1, hnes.2.2.1, hnes.2.2.2.1, hnes.2.2.2.2.1, hnes.2.2.2.2.2.2.2.1, hnes.2.2.2.2.2.2.2.2.2.1, hnes.2.2.2.2.2.2.2.2.2.2.2.2.1, hnes.2.2.2.2.2.2.2.2.2.2.2.2.2.2.1, hnes.2.2.2.2.2.2.2.2.2.2.2.2.2.2.2.2.2.1, hnes.2.2.2.2.2.2.2.2.2.2.2.2.2.2.2.2.2.2.2.1, hnes.2.2.2.2.2.2.2.2.2.2.2.2.2.2.2.2.2.2.2.2.2.2.1, hnes.2.2.2.2.2.2.2.2.2.2.2.2.2.2.2.2.2.2.2.2.2.2.2.2.1, hnes.2.2.2.2.2.2.2.2.2.2.2.2.2.2.2.2.2.2.2.2.2.2.2.2.2.2.2.1, hnes.2.2.2.2.2.2.2.2.2.2.2.2.2.2.2.2.2.2.2.2.2.2.2.2.2.2.2.2.2.2.2.1⟩ E2069 A2071 A2073 ⟨by decide, rfl, by decide⟩ ⟨by decide, rfl, by decide⟩) hZ (hw _ (List.mem_of_getElem? (i := 91) rfl)) (hw _ (List.mem_of_getElem? (i := 25) rfl)) (by decide) (by decide)) (g := (mkF m 102 #[.val (.ref st), .val (.int (0 : Int32)), .val (.int (0 : Int32)), .val (.long (x0 &&& m0)), .second] [(.int (0 : Int32)), (.ref st)])) rfl (by rw [hml]; rfl) (Steps.refl _) (a := st) (by rw [e2053]; exact q2082) q2082' (argsL := [(.int (0 : Int32))]) (rest := []) (lenOf pd_7 rfl) rfl (by show 2 * 0 + _ ≤ _; exact Nat.le_of_eq rfl) (hb hby d8_102) (fun _ _ => ⟨rfl, e2053, (by decide : 0 + 0 ≤ _), (by decide : 0 + 0 ≤ _)⟩)
          dsimp only [Pt.U, Pt.locs, Pt.cells, Pt.slots] at X2082 l2082 y2082 z2082 st2082 hQ2082
          subst l2082 y2082 z2082
          obtain ⟨rfl, N2082q, K2082, hS2082, ⟨tt2082, pt2082, qt2082, hT2082⟩, Vn2082, Vl2082, El2082⟩ := hQ2082
          have N2082 := Fr.app N2080 N2082q
          have E2083 := E2067.keep K2082
          have E2084 := E2068.keep K2082
          have E2085 := E2069.keep K2082
          have E2086 := E2070.keep K2082
          have A2087 := A2054.keep K2082 (ninS (Ne.symm hnes.2.2.2.2.2.1) (ninS (Ne.symm hnes.2.2.2.2.2.2.2.2.2.2.1) (ninS (Ne.symm hnes.2.2.2.2.2.2.2.2.2.2.2.2.2.2.2.1) (ninS (Ne.symm hnes.2.2.2.2.2.2.2.2.2.2.2.2.2.2.2.2.2.2.2.2.1) (ninS (Ne.symm hnes.2.2.2.2.2.2.2.2.2.2.2.2.2.2.2.2.2.2.2.2.2.2.2.2.2.1) (ninS hnes.2.2.2.2.2.2.2.2.2.2.2.2.2.2.2.2.2.2.2.2.2.2.2.2.2.2.2.2.2.2.2.2.2.2.1 (ninS (Ne.symm hnes.2.2.2.2.2.2.2.2.2.2.2.2.2.2.2.2.2.2.2.2.2.2.2.2.2.2.2.2.2.1) nin0)))))))
          have A2088 := A2072.keep K2082 (ninS (Ne.symm hnes.2.2.2.2.2.2.1) (ninS (Ne.symm hnes.2.2.2.2.2.2.2.2.2.2.2.1) (ninS (Ne.symm hnes.2.2.2.2.2.2.2.2.2.2.2.2.2.2.2.2.1) (ninS (Ne.symm hnes.2.2.2.2.2.2.2.2.2.2.2.2.2.2.2.2.2.2.2.2.2.1) (ninS (Ne.symm hnes.2.2.2.2.2.2.2.2.2.2.2.2.2.2.2.2.2.2.2.2.2.2.2.2.2.2.1) (ninS hnes.2.2.2.2.2.2.2.2.2.2.2.2.2.2.2.2.2.2.2.2.2.2.2.2.2.2.2.2.2.2.2.2.2.2.2.2.1 (ninS (Ne.symm hnes.2.2.2.2.2.2.2.2.2.2.2.2.2.2.2.2.2.2.2.2.2.2.2.2.2.2.2.2.2.2.1) nin0)))))))
          have A2089 := A2074.keep K2082 (ninS (Ne.symm hnes.2.2.2.2.2.2.2.2.1) (ninS (Ne.symm hnes.2.2.2.2.2.2.2.2.2.2.2.2.2.1) (ninS (Ne.symm hnes.2.2.2.2.2.2.2.2.2.2.2.2.2.2.2.2.2.2.1) (ninS (Ne.symm hnes.2.2.2.2.2.2.2.2.2.2.2.2.2.2.2.2.2.2.2.2.2.2.2.1) (ninS (Ne.symm hnes.2.2.2.2.2.2.2.2.2.2.2.2.2.2.2.2.2.2.2.2.2.2.2.2.2.2.2.2.1) (ninS (Ne.symm hnes.2.2.2.2.2.2.2.2.2.2.2.2.2.2.2.2.2.2.2.2.2.2.2.2.2.2.2.2.2.2.2.2.2.2.2.2.2.2) (ninS (Ne.symm hnes.2.2.2.2.2.2.2.2.2.2.2.2.2.2.2.2.2.2.2.2.2.2.2.2.2.2.2.2.2.2.2.2.1) nin0)))))))
          have K2090 := K2078.trans K2082 (allS (Or.inl (List.mem_of_getElem? (i := 0) rfl)) (allS (Or.inl (List.mem_of_getElem? (i := 1) rfl)) (allS (Or.inl (List.mem_of_getElem? (i := 2) rfl)) (allS (Or.inl (List.mem_of_getElem? (i := 3) rfl)) (allS (Or.inl (List.mem_of_getElem? (i := 4) rfl)) (allS (Or.inl (List.mem_of_getElem? (i := 7) rfl)) (allS (Or.inl (List.mem_of_getElem? (i := 8) rfl)) all0)))))))
          have Z2091 : n0 ≤ T2082.heap.size := Nat.le_trans Z2079 K2082.1
          obtain ⟨u2092E, u2092a, u2092b, u2092c, u2092d, u2092e, u2092o, ⟨u2092fi, u2092x⟩, ⟨u2092fs, u2092s⟩⟩ := hT2082
          obtain ⟨u2093E, u2093a, u2093b, u2093c, u2093d, u2093e, u2093f, u2093g⟩ := hS2082
          have Vz2082 : OwnAV Z T2082.heap nz .int 2 (fun i => (.int (own_l2 (1 : Int32) (0 : Int32) i))) := Vn2082.congr (fun j hj => by
              have q : j = 0 ∨ j = 1 := by omega
              rcases q with rfl | rfl <;> rfl)
          have Vy2082 : OwnAV Z T2082.heap lim .int 1 (fun i => (.int (own_l2 (1 : Int32) (0 : Int32) i))) := Vl2082
          have k2094 : ∀ t, Steps p.tables e below (T2082.setTop (mkF m 111 #[.val (.ref st), .val (.int (-1 : Int32)), .val (.int (0 : Int32)), .val (.long (x0 &&& m0)), .second] [])) t → Steps p.tables e below (s₁.setTop (entryFrame m #[(.ref st)] 5)) t := fun t hk => k2081 t (by
            show Steps p.tables e below (T2053.setTop (mkF m 97 #[.val (.ref st), .val (.int (0 : Int32)), .val (.int (0 : Int32)), .val (.long (x0 &&& m0)), .second] [(.int (lcmpW (x0 &&& m0) (0 : Int64)))])) _
            refine XS.ifNo X2053.here hx rfl (hb hby d8_97) rfl ((if0 _ _).trans (teq ((lw_eq _ _).mpr hc97')).2) ?_
            refine XS.aloadN X2053.here hx rfl (hb hby d8_100) rfl rfl ?_
            refine XS.iloadN X2053.here hx rfl (hb hby d8_101) rfl ?_
            refine st2082.trans ?_
            show Steps p.tables e below (T2082.setTop (mkF m 105 #[.val (.ref st), .val (.int (0 : Int32)), .val (.int (0 : Int32)), .val (.long (x0 &&& m0)), .second] [])) _
            refine XS.iinc X2082.here hx rfl (hb hby d8_105) rfl (l' := #[.val (.ref st), .val (.int (-1 : Int32)), .val (.int (0 : Int32)), .val (.long (x0 &&& m0)), .second]) rfl ?_
            refine XS.goto X2082.here hx rfl (pc0 := 108) (pc' := 9) rfl (hb hby d8_108) (by decide) (by decide) ?_
            refine XS.iloadN X2082.here hx rfl (hb hby d8_9) rfl ?_
            refine XS.ifYes X2082.here hx rfl (pc0 := 10) (pc' := 111) rfl (hb hby d8_10) rfl ((if0 _ _).trans (tlt (by decide : (-1 : Int32) < (0 : Int32))).1) (by decide) (by decide) ?_
            exact hk)
          obtain ⟨fs, hr, hrun, hended, hW, hsame⟩ := X2082.leave (v := none) (fun _ => rfl)
          refine ⟨_, _, k2094 _ ?_, hrun, hended, _, _, rfl, ?_, ⟨_, rfl⟩, hW, hsame.mono (by decide) (by decide)⟩
          · show Steps p.tables e below (T2082.setTop (mkF m 111 #[.val (.ref st), .val (.int (-1 : Int32)), .val (.int (0 : Int32)), .val (.long (x0 &&& m0)), .second] [])) _
            exact X2082.returnOut hx Bd.returns (hb hby d8_111) hr
          · show Qx2 Z st tr ow ix sv lim wo sa nz ma x0 x1 y0 y1 m0 m1 h0 n0 _ T2082.heap _
            exact ⟨rfl, N2082, K2090, _, (1 : Int32), (1 : Int32), (0 : Int32), ⟨u2093E, u2093a, u2093b, u2093c, u2093d, u2093e, u2093f, u2093g⟩, A2087, Vz2082, Vy2082, Or.inr (Or.inr (Or.inl ⟨rfl, rfl, hc97'⟩))⟩
        ·
          have k2095 : ∀ t, Steps p.tables e below (T2053.setTop (mkF m 111 #[.val (.ref st), .val (.int (-1 : Int32)), .val (.int (0 : Int32)), .val (.long (x0 &&& m0)), .second] [])) t → Steps p.tables e below (s₁.setTop (entryFrame m #[(.ref st)] 5)) t := fun t hk => k2081 t (by
            show Steps p.tables e below (T2053.setTop (mkF m 97 #[.val (.ref st), .val (.int (0 : Int32)), .val (.int (0 : Int32)), .val (.long (x0 &&& m0)), .second] [(.int (lcmpW (x0 &&& m0) (0 : Int64)))])) _
            refine XS.ifYes X2053.here hx rfl (pc0 := 97) (pc' := 105) rfl (hb hby d8_97) rfl ((if0 _ _).trans (feq (fun q => hc97' ((lw_eq _ _).mp q))).2) (by decide) (by decide) ?_
            refine XS.iinc X2053.here hx rfl (hb hby d8_105) rfl (l' := #[.val (.ref st), .val (.int (-1 : Int32)), .val (.int (0 : Int32)), .val (.long (x0 &&& m0)), .second]) rfl ?_
            refine XS.goto X2053.here hx rfl (pc0 := 108) (pc' := 9) rfl (hb hby d8_108) (by decide) (by decide) ?_
            refine XS.iloadN X2053.here hx rfl (hb hby d8_9) rfl ?_
            show Steps p.tables e below (T2053.setTop (mkF m 10 #[.val (.ref st), .val (.int (-1 : Int32)), .val (.int (0 : Int32)), .val (.long (x0 &&& m0)), .second] [(.int (-1 : Int32))])) _
            refine XS.ifYes X2053.here hx rfl (pc0 := 10) (pc' := 111) rfl (hb hby d8_10) rfl ((if0 _ _).trans (tlt (by decide : (-1 : Int32) < (0 : Int32))).1) (by decide) (by decide) ?_
            exact hk)
          obtain ⟨fs, hr, hrun, hended, hW, hsame⟩ := X2053.leave (v := none) (fun _ => rfl)
          refine ⟨_, _, k2095 _ ?_, hrun, hended, _, _, rfl, ?_, ⟨_, rfl⟩, hW, hsame.mono (by decide) (by decide)⟩
          · show Steps p.tables e below (T2053.setTop (mkF m 111 #[.val (.ref st), .val (.int (-1 : Int32)), .val (.int (0 : Int32)), .val (.long (x0 &&& m0)), .second] [])) _
            exact X2053.returnOut hx Bd.returns (hb hby d8_111) hr
          · show Qx2 Z st tr ow ix sv lim wo sa nz ma x0 x1 y0 y1 m0 m1 h0 n0 _ T2053.heap _
            rw [e2053]
            exact ⟨rfl, N2080, K2078, _, (2 : Int32), (0 : Int32), (1 : Int32), ⟨E2068, F2055, F2056, F2057, F2058, F2059, F2060, F2061⟩, A2054, A2073, A2071, Or.inl ⟨rfl, rfl, rfl⟩⟩
def Qy2 (Z : State) (st : Addr) (qu : Addr) (tr : Addr) (lim : Addr) (wo : Addr) (sa : Addr) (nz : Addr) (ma : Addr) (ls : Int64) (x0 : Int64) (x1 : Int64) (q0 : Int64) (q1 : Int64) (lm : Int32) (z0 : Int32) (z1 : Int32) (h0 : Heap) (n0 : Nat) (v : Option Value) (h : Heap) (L : List Loc) : Prop := ∃ rr : Int32, v = some (.int rr) ∧ (((rr = (-1 : Int32) ∧ (x0 &&& q0) = (0 : Int64) ∧ (x1 &&& q1) = (0 : Int64)) ∨ (rr = (0 : Int32) ∧ ¬ (x0 &&& q0) = (0 : Int64)) ∨ (rr = (1 : Int32) ∧ ¬ (x1 &&& q1) = (0 : Int64)))) ∧ Fr n0 L ∧ h = h0
set_option maxRecDepth 65536 in
set_option maxHeartbeats 40000000 in
theorem rmy2 (l : Launch) (Z : State) (a0 : Array Value) (hw : ∀ d ∈ tables_1, d.before a0 Z = true) (ws : List Jvm.Cond) (st : Addr) (qu : Addr) (tr : Addr) (lim : Addr) (wo : Addr) (sa : Addr) (nz : Addr) (ma : Addr) (ls : Int64) (x0 : Int64) (x1 : Int64) (q0 : Int64) (q1 : Int64) (lm : Int32) (z0 : Int32) (z1 : Int32) (h0 : Heap) (n0 : Nat) (Z0 : n0 ≤ h0.size) (hS : OwnSet Z h0 st tr lim wo sa nz ma ls) (Vl : OwnAV Z h0 lim .int 1 (fun i => (.int (own_l2 lm (0 : Int32) i)))) (Vo : OwnAV Z h0 wo .long 2 (fun i => (.long (own_l2 x0 x1 i)))) (Vn : OwnAV Z h0 nz .int 2 (fun i => (.int (own_l2 z0 z1 i)))) (Vq : OwnAV Z h0 qu .long 2 (fun i => (.long (own_l2 q0 q1 i)))) (hpr : (lm = (2 : Int32) ∧ z0 = (0 : Int32) ∧ z1 = (1 : Int32)) ∨ (lm = (1 : Int32) ∧ z0 = (0 : Int32) ∧ x1 = (0 : Int64)) ∨ (lm = (1 : Int32) ∧ z0 = (1 : Int32) ∧ x0 = (0 : Int64)) ∨ (lm = (0 : Int32) ∧ x0 = (0 : Int64) ∧ x1 = (0 : Int64))) :
    MetFree l (⟨"com/example/faultline/faultline/engine/ReversibleBitSet", "intersectIndex", "([J)I"⟩ : MethodName) (head1 (Jvm.Cond.code (⟨"com/example/faultline/faultline/engine/ReversibleBitSet", "intersectIndex", "([J)I"⟩ : MethodName) prog_44_method_13_code 4 (some .int) :: ws) ({ frames := 0, cells := 0, slots := 0, locals := 0 } : Room)) (fun a U => a = #[(.ref st), (.ref qu)] ∧ Z.Warmed39 U.vm ∧ U.heap = h0) (fun _ _ _ _ _ => True) (fun _ U o U' => ∃ v L, o = .returned v ∧ Qy2 Z st qu tr lim wo sa nz ma ls x0 x1 q0 q1 lm z0 z1 h0 n0 v U'.heap L ∧ FrameEnd U o U' L ({ frames := 0, cells := 0, slots := 0, locals := 0 } : Room).cells ({ frames := 0, cells := 0, slots := 0, locals := 0 } : Room).slots) := by
  refine MetFree.of_bodySF (plainFor_of_name pn_9) hisR ?_
  intro p e s m args below meth c s₁ Bd hml0 hP hK
  obtain ⟨rfl, hZ, hh⟩ := hP
  have hx := Bd.exec
  have hby := Bd.bytes
  have hml : c.maxLocals = 4 := hml0
  have hown : s.vm.findClass "com/example/faultline/faultline/engine/ReversibleBitSet" = some m.cls := findClass_of_methodNamed Bd.named
  have hnm := (name_of_methodNamed Bd.named Bd.method).1
  have X0 : Stand p l e ({ frames := 0, cells := 0, slots := 0, locals := 0 } : Room) s m #[(.ref st), (.ref qu)] below meth c s₁ [] 0 0 := Stand.of_body Bd
  have e0 : s₁.heap = h0 := by rw [← hh, Bd.state]; rfl
  have N0 := Fr.nil n0
  have pre0 : ∀ t, Steps p.tables e below (s₁.setTop (mkF m 0 #[.val (.ref st), .val (.ref qu), .unset, .unset] [])) t → Steps p.tables e below (s₁.setTop (entryFrame m #[(.ref st), (.ref qu)] 4)) t := fun t k => castTop (ef_9 m st qu) k
  rcases hpr with ⟨rfl, rfl, rfl⟩ | ⟨rfl, rfl, w1⟩ | ⟨rfl, rfl, w0⟩ | ⟨rfl, w0, w1⟩
  ·
    obtain ⟨u2096E, u2096a, u2096b, u2096c, u2096d, u2096e, u2096f, u2096g⟩ := hS
    obtain ⟨T2097, X2097, e2097, st2097⟩ := getF X0 hx hZ hown (host := "") (Or.inl (hw _ (List.mem_of_getElem? (i := 30) rfl))) Via.refl e0 u2096b (g := (mkF m 4 #[.val (.ref st), .val (.ref qu), .val (.int (0 : Int32)), .unset] [(.ref st), (.int (0 : Int32))])) rfl rfl (hb hby d9_4)
    obtain ⟨T2098, X2098, e2098, st2098⟩ := getF X2097 hx hZ hown (host := "") (Or.inl (hw _ (List.mem_of_getElem? (i := 50) rfl))) Via.refl e2097 u2096e (g := (mkF m 13 #[.val (.ref st), .val (.ref qu), .val (.int (0 : Int32)), .unset] [(.ref st)])) rfl rfl (hb hby d9_13)
    obtain ⟨T2099, X2099, e2099, st2099⟩ := getF X2098 hx hZ hown (host := "") (Or.inl (hw _ (List.mem_of_getElem? (i := 46) rfl))) Via.refl e2098 u2096c (g := (mkF m 20 #[.val (.ref st), .val (.ref qu), .val (.int (0 : Int32)), .val (.int (0 : Int32))] [(.ref st)])) rfl rfl (hb hby d9_20)
    have k2100 : ∀ t, Steps p.tables e below (T2099.setTop (mkF m 31 #[.val (.ref st), .val (.ref qu), .val (.int (0 : Int32)), .val (.int (0 : Int32))] [(.int (lcmpW (x0 &&& q0) (0 : Int64)))])) t → Steps p.tables e below (s₁.setTop (entryFrame m #[(.ref st), (.ref qu)] 4)) t := fun t hk => pre0 t (by
      show Steps p.tables e below (s₁.setTop (mkF m 0 #[.val (.ref st), .val (.ref qu), .unset, .unset] [])) _
      refine XS.iconst X0.here hx rfl (hb hby d9_0) ?_
      refine XS.istoreN X0.here hx rfl (hb hby d9_1) rfl (l' := #[.val (.ref st), .val (.ref qu), .val (.int (0 : Int32)), .unset]) rfl ?_
      refine XS.iloadN X0.here hx rfl (hb hby d9_2) rfl ?_
      refine XS.aloadN X0.here hx rfl (hb hby d9_3) rfl rfl ?_
      show Steps p.tables e below (s₁.setTop (mkF m 4 #[.val (.ref st), .val (.ref qu), .val (.int (0 : Int32)), .unset] [(.ref st), (.int (0 : Int32))])) _
      refine st2097 _ ?_
      refine XS.iconst X2097.here hx rfl (hb hby d9_7) ?_
      refine own_iald X2097 hx hZ e2097 Vl (k := 0) ⟨by decide, rfl, by decide⟩ rfl (g := (mkF m 8 #[.val (.ref st), .val (.ref qu), .val (.int (0 : Int32)), .unset] [(.int (0 : Int32)), (.ref lim), (.int (0 : Int32))])) rfl rfl (hb hby d9_8) _ ?_
      refine XS.icmpNo X2097.here hx rfl (hb hby d9_9) rfl (tlt (by decide : (0 : Int32) < (2 : Int32))).2.1 ?_
      show Steps p.tables e below (T2097.setTop (mkF m 12 #[.val (.ref st), .val (.ref qu), .val (.int (0 : Int32)), .unset] [])) _
      refine XS.aloadN X2097.here hx rfl (hb hby d9_12) rfl rfl ?_
      refine st2098 _ ?_
      refine XS.iloadN X2098.here hx rfl (hb hby d9_16) rfl ?_
      refine own_iald X2098 hx hZ e2098 Vn (k := 0) ⟨by decide, rfl, by decide⟩ rfl (g := (mkF m 17 #[.val (.ref st), .val (.ref qu), .val (.int (0 : Int32)), .unset] [(.int (0 : Int32)), (.ref nz)])) rfl rfl (hb hby d9_17) _ ?_
      show Steps p.tables e below (T2098.setTop (mkF m 18 #[.val (.ref st), .val (.ref qu), .val (.int (0 : Int32)), .unset] [(.int (0 : Int32))])) _
      refine XS.istoreN X2098.here hx rfl (hb hby d9_18) rfl (l' := #[.val (.ref st), .val (.ref qu), .val (.int (0 : Int32)), .val (.int (0 : Int32))]) rfl ?_
      refine XS.aloadN X2098.here hx rfl (hb hby d9_19) rfl rfl ?_
      refine st2099 _ ?_
      refine XS.iloadN X2099.here hx rfl (hb hby d9_23) rfl ?_
      show Steps p.tables e below (T2099.setTop (mkF m 24 #[.val (.ref st), .val (.ref qu), .val (.int (0 : Int32)), .val (.int (0 : Int32))] [(.int (0 : Int32)), (.ref wo)])) _
      refine own_lald X2099 hx hZ e2099 Vo (k := 0) ⟨by decide, rfl, by decide⟩ rfl (g := (mkF m 24 #[.val (.ref st), .val (.ref qu), .val (.int (0 : Int32)), .val (.int (0 : Int32))] [(.int (0 : Int32)), (.ref wo)])) rfl rfl (hb hby d9_24) _ ?_
      refine XS.aloadN X2099.here hx rfl (hb hby d9_25) rfl rfl ?_
      refine XS.iloadN X2099.here hx rfl (hb hby d9_26) rfl ?_
      refine own_lald X2099 hx hZ e2099 Vq (k := 0) ⟨by decide, rfl, by decide⟩ rfl (g := (mkF m 27 #[.val (.ref st), .val (.ref qu), .val (.int (0 : Int32)), .val (.int (0 : Int32))] [(.int (0 : Int32)), (.ref qu), (.long x0)])) rfl rfl (hb hby d9_27) _ ?_
      show Steps p.tables e below (T2099.setTop (mkF m 28 #[.val (.ref st), .val (.ref qu), .val (.int (0 : Int32)), .val (.int (0 : Int32))] [(.long q0), (.long x0)])) _
      refine XS.land X2099.here hx rfl (hb hby d9_28) rfl ?_
      refine XS.lconst X2099.here hx rfl (hb hby d9_29) ?_
      refine XS.lcmp X2099.here hx rfl (hb hby d9_30) rfl ?_
      exact hk)
    by_cases hc31 : (x0 &&& q0) = (0 : Int64)
    ·
      obtain ⟨T2101, X2101, e2101, st2101⟩ := getF X2099 hx hZ hown (host := "") (Or.inl (hw _ (List.mem_of_getElem? (i := 30) rfl))) Via.refl e2099 u2096b (g := (mkF m 4 #[.val (.ref st), .val (.ref qu), .val (.int (1 : Int32)), .val (.int (0 : Int32))] [(.ref st), (.int (1 : Int32))])) rfl rfl (hb hby d9_4)
      obtain ⟨T2102, X2102, e2102, st2102⟩ := getF X2101 hx hZ hown (host := "") (Or.inl (hw _ (List.mem_of_getElem? (i := 50) rfl))) Via.refl e2101 u2096e (g := (mkF m 13 #[.val (.ref st), .val (.ref qu), .val (.int (1 : Int32)), .val (.int (0 : Int32))] [(.ref st)])) rfl rfl (hb hby d9_13)
      obtain ⟨T2103, X2103, e2103, st2103⟩ := getF X2102 hx hZ hown (host := "") (Or.inl (hw _ (List.mem_of_getElem? (i := 46) rfl))) Via.refl e2102 u2096c (g := (mkF m 20 #[.val (.ref st), .val (.ref qu), .val (.int (1 : Int32)), .val (.int (1 : Int32))] [(.ref st)])) rfl rfl (hb hby d9_20)
      have k2104 : ∀ t, Steps p.tables e below (T2103.setTop (mkF m 31 #[.val (.ref st), .val (.ref qu), .val (.int (1 : Int32)), .val (.int (1 : Int32))] [(.int (lcmpW (x1 &&& q1) (0 : Int64)))])) t → Steps p.tables e below (s₁.setTop (entryFrame m #[(.ref st), (.ref qu)] 4)) t := fun t hk => k2100 t (by
        show Steps p.tables e below (T2099.setTop (mkF m 31 #[.val (.ref st), .val (.ref qu), .val (.int (0 : Int32)), .val (.int (0 : Int32))] [(.int (lcmpW (x0 &&& q0) (0 : Int64)))])) _
        refine XS.ifYes X2099.here hx rfl (pc0 := 31) (pc' := 36) rfl (hb hby d9_31) rfl ((if0 _ _).trans (teq ((lw_eq _ _).mpr hc31)).1) (by decide) (by decide) ?_
        refine XS.iinc X2099.here hx rfl (hb hby d9_36) rfl (l' := #[.val (.ref st), .val (.ref qu), .val (.int (1 : Int32)), .val (.int (0 : Int32))]) rfl ?_
        refine XS.goto X2099.here hx rfl (pc0 := 39) (pc' := 2) rfl (hb hby d9_39) (by decide) (by decide) ?_
        refine XS.iloadN X2099.here hx rfl (hb hby d9_2) rfl ?_
        show Steps p.tables e below (T2099.setTop (mkF m 3 #[.val (.ref st), .val (.ref qu), .val (.int (1 : Int32)), .val (.int (0 : Int32))] [(.int (1 : Int32))])) _
        refine XS.aloadN X2099.here hx rfl (hb hby d9_3) rfl rfl ?_
        refine st2101 _ ?_
        refine XS.iconst X2101.here hx rfl (hb hby d9_7) ?_
        refine own_iald X2101 hx hZ e2101 Vl (k := 0) ⟨by decide, rfl, by decide⟩ rfl (g := (mkF m 8 #[.val (.ref st), .val (.ref qu), .val (.int (1 : Int32)), .val (.int (0 : Int32))] [(.int (0 : Int32)), (.ref lim), (.int (1 : Int32))])) rfl rfl (hb hby d9_8) _ ?_
        show Steps p.tables e below (T2101.setTop (mkF m 9 #[.val (.ref st), .val (.ref qu), .val (.int (1 : Int32)), .val (.int (0 : Int32))] [(.int (2 : Int32)), (.int (1 : Int32))])) _
        refine XS.icmpNo X2101.here hx rfl (hb hby d9_9) rfl (tlt (by decide : (1 : Int32) < (2 : Int32))).2.1 ?_
        refine XS.aloadN X2101.here hx rfl (hb hby d9_12) rfl rfl ?_
        refine st2102 _ ?_
        refine XS.iloadN X2102.here hx rfl (hb hby d9_16) rfl ?_
        show Steps p.tables e below (T2102.setTop (mkF m 17 #[.val (.ref st), .val (.ref qu), .val (.int (1 : Int32)), .val (.int (0 : Int32))] [(.int (1 : Int32)), (.ref nz)])) _
        refine own_iald X2102 hx hZ e2102 Vn (k := 1) ⟨by decide, rfl, by decide⟩ rfl (g := (mkF m 17 #[.val (.ref st), .val (.ref qu), .val (.int (1 : Int32)), .val (.int (0 : Int32))] [(.int (1 : Int32)), (.ref nz)])) rfl rfl (hb hby d9_17) _ ?_
        refine XS.istoreN X2102.here hx rfl (hb hby d9_18) rfl (l' := #[.val (.ref st), .val (.ref qu), .val (.int (1 : Int32)), .val (.int (1 : Int32))]) rfl ?_
        refine XS.aloadN X2102.here hx rfl (hb hby d9_19) rfl rfl ?_
        refine st2103 _ ?_
        show Steps p.tables e below (T2103.setTop (mkF m 23 #[.val (.ref st), .val (.ref qu), .val (.int (1 : Int32)), .val (.int (1 : Int32))] [(.ref wo)])) _
        refine XS.iloadN X2103.here hx rfl (hb hby d9_23) rfl ?_
        refine own_lald X2103 hx hZ e2103 Vo (k := 1) ⟨by decide, rfl, by decide⟩ rfl (g := (mkF m 24 #[.val (.ref st), .val (.ref qu), .val (.int (1 : Int32)), .val (.int (1 : Int32))] [(.int (1 : Int32)), (.ref wo)])) rfl rfl (hb hby d9_24) _ ?_
        refine XS.aloadN X2103.here hx rfl (hb hby d9_25) rfl rfl ?_
        refine XS.iloadN X2103.here hx rfl (hb hby d9_26) rfl ?_
        show Steps p.tables e below (T2103.setTop (mkF m 27 #[.val (.ref st), .val (.ref qu), .val (.int (1 : Int32)), .val (.int (1 : Int32))] [(.int (1 : Int32)), (.ref qu), (.long x1)])) _
        refine own_lald X2103 hx hZ e2103 Vq (k := 1) ⟨by decide, rfl, by decide⟩ rfl (g := (mkF m 27 #[.val (.ref st), .val (.ref qu), .val (.int (1 : Int32)), .val (.int (1 : Int32))] [(.int (1 : Int32)), (.ref qu), (.long x1)])) rfl rfl (hb hby d9_27) _ ?_
        refine XS.land X2103.here hx rfl (hb hby d9_28) rfl ?_
        refine XS.lconst X2103.here hx rfl (hb hby d9_29) ?_
        refine XS.lcmp X2103.here hx rfl (hb hby d9_30) rfl ?_
        exact hk)
      by_cases hc31' : (x1 &&& q1) = (0 : Int64)
      ·
        obtain ⟨T2105, X2105, e2105, st2105⟩ := getF X2103 hx hZ hown (host := "") (Or.inl (hw _ (List.mem_of_getElem? (i := 30) rfl))) Via.refl e2103 u2096b (g := (mkF m 4 #[.val (.ref st), .val (.ref qu), .val (.int (2 : Int32)), .val (.int (1 : Int32))] [(.ref st), (.int (2 : Int32))])) rfl rfl (hb hby d9_4)
        have k2106 : ∀ t, Steps p.tables e below (T2105.setTop (mkF m 43 #[.val (.ref st), .val (.ref qu), .val (.int (2 : Int32)), .val (.int (1 : Int32))] [(.int (-1 : Int32))])) t → Steps p.tables e below (s₁.setTop (entryFrame m #[(.ref st), (.ref qu)] 4)) t := fun t hk => k2104 t (by
          show Steps p.tables e below (T2103.setTop (mkF m 31 #[.val (.ref st), .val (.ref qu), .val (.int (1 : Int32)), .val (.int (1 : Int32))] [(.int (lcmpW (x1 &&& q1) (0 : Int64)))])) _
          refine XS.ifYes X2103.here hx rfl (pc0 := 31) (pc' := 36) rfl (hb hby d9_31) rfl ((if0 _ _).trans (teq ((lw_eq _ _).mpr hc31')).1) (by decide) (by decide) ?_
          refine XS.iinc X2103.here hx rfl (hb hby d9_36) rfl (l' := #[.val (.ref st), .val (.ref qu), .val (.int (2 : Int32)), .val (.int (1 : Int32))]) rfl ?_
          refine XS.goto X2103.here hx rfl (pc0 := 39) (pc' := 2) rfl (hb hby d9_39) (by decide) (by decide) ?_
          refine XS.iloadN X2103.here hx rfl (hb hby d9_2) rfl ?_
          show Steps p.tables e below (T2103.setTop (mkF m 3 #[.val (.ref st), .val (.ref qu), .val (.int (2 : Int32)), .val (.int (1 : Int32))] [(.int (2 : Int32))])) _
          refine XS.aloadN X2103.here hx rfl (hb hby d9_3) rfl rfl ?_
          refine st2105 _ ?_
          refine XS.iconst X2105.here hx rfl (hb hby d9_7) ?_
          refine own_iald X2105 hx hZ e2105 Vl (k := 0) ⟨by decide, rfl, by decide⟩ rfl (g := (mkF m 8 #[.val (.ref st), .val (.ref qu), .val (.int (2 : Int32)), .val (.int (1 : Int32))] [(.int (0 : Int32)), (.ref lim), (.int (2 : Int32))])) rfl rfl (hb hby d9_8) _ ?_
          show Steps p.tables e below (T2105.setTop (mkF m 9 #[.val (.ref st), .val (.ref qu), .val (.int (2 : Int32)), .val (.int (1 : Int32))] [(.int (2 : Int32)), (.int (2 : Int32))])) _
          refine XS.icmpYes X2105.here hx rfl (pc0 := 9) (pc' := 42) rfl (hb hby d9_9) rfl (flt (by decide : ¬ ((2 : Int32) < (2 : Int32)))).2.1 (by decide) (by decide) ?_
          refine XS.iconst X2105.here hx rfl (hb hby d9_42) ?_
          exact hk)
        obtain ⟨fs, hr, hrun, hended, hW, hsame⟩ := X2105.leave (v := some (.int (-1 : Int32))) (fun h => by rw [Bd.returns] at h; cases h)
        refine ⟨_, _, k2106 _ ?_, hrun, hended, _, _, rfl, ?_, ⟨_, rfl⟩, hW, hsame.mono (by decide) (by decide)⟩
        · show Steps p.tables e below (T2105.setTop (mkF m 43 #[.val (.ref st), .val (.ref qu), .val (.int (2 : Int32)), .val (.int (1 : Int32))] [(.int (-1 : Int32))])) _
          exact retI X2105 hx Bd.returns (hb hby d9_43) hr
        · show Qy2 Z st qu tr lim wo sa nz ma ls x0 x1 q0 q1 (2 : Int32) (0 : Int32) (1 : Int32) h0 n0 _ T2105.heap _
          rw [e2105]
          exact ⟨_, rfl, Or.inl ⟨rfl, hc31, hc31'⟩, N0, rfl⟩
      ·
        have k2107 : ∀ t, Steps p.tables e below (T2103.setTop (mkF m 35 #[.val (.ref st), .val (.ref qu), .val (.int (1 : Int32)), .val (.int (1 : Int32))] [(.int (1 : Int32))])) t → Steps p.tables e below (s₁.setTop (entryFrame m #[(.ref st), (.ref qu)] 4)) t := fun t hk => k2104 t (by
          show Steps p.tables e below (T2103.setTop (mkF m 31 #[.val (.ref st), .val (.ref qu), .val (.int (1 : Int32)), .val (.int (1 : Int32))] [(.int (lcmpW (x1 &&& q1) (0 : Int64)))])) _
          refine XS.ifNo X2103.here hx rfl (hb hby d9_31) rfl ((if0 _ _).trans (feq (fun q => hc31' ((lw_eq _ _).mp q))).1) ?_
          refine XS.iloadN X2103.here hx rfl (hb hby d9_34) rfl ?_
          exact hk)
        obtain ⟨fs, hr, hrun, hended, hW, hsame⟩ := X2103.leave (v := some (.int (1 : Int32))) (fun h => by rw [Bd.returns] at h; cases h)
        refine ⟨_, _, k2107 _ ?_, hrun, hended, _, _, rfl, ?_, ⟨_, rfl⟩, hW, hsame.mono (by decide) (by decide)⟩
        · show Steps p.tables e below (T2103.setTop (mkF m 35 #[.val (.ref st), .val (.ref qu), .val (.int (1 : Int32)), .val (.int (1 : Int32))] [(.int (1 : Int32))])) _
          exact retI X2103 hx Bd.returns (hb hby d9_35) hr
        · show Qy2 Z st qu tr lim wo sa nz ma ls x0 x1 q0 q1 (2 : Int32) (0 : Int32) (1 : Int32) h0 n0 _ T2103.heap _
          rw [e2103]
          exact ⟨_, rfl, Or.inr (Or.inr ⟨rfl, hc31'⟩), N0, rfl⟩
    ·
      have k2108 : ∀ t, Steps p.tables e below (T2099.setTop (mkF m 35 #[.val (.ref st), .val (.ref qu), .val (.int (0 : Int32)), .val (.int (0 : Int32))] [(.int (0 : Int32))])) t → Steps p.tables e below (s₁.setTop (entryFrame m #[(.ref st), (.ref qu)] 4)) t := fun t hk => k2100 t (by
        show Steps p.tables e below (T2099.setTop (mkF m 31 #[.val (.ref st), .val (.ref qu), .val (.int (0 : Int32)), .val (.int (0 : Int32))] [(.int (lcmpW (x0 &&& q0) (0 : Int64)))])) _
        refine XS.ifNo X2099.here hx rfl (hb hby d9_31) rfl ((if0 _ _).trans (feq (fun q => hc31 ((lw_eq _ _).mp q))).1) ?_
        refine XS.iloadN X2099.here hx rfl (hb hby d9_34) rfl ?_
        exact hk)
      obtain ⟨fs, hr, hrun, hended, hW, hsame⟩ := X2099.leave (v := some (.int (0 : Int32))) (fun h => by rw [Bd.returns] at h; cases h)
      refine ⟨_, _, k2108 _ ?_, hrun, hended, _, _, rfl, ?_, ⟨_, rfl⟩, hW, hsame.mono (by decide) (by decide)⟩
      · show Steps p.tables e below (T2099.setTop (mkF m 35 #[.val (.ref st), .val (.ref qu), .val (.int (0 : Int32)), .val (.int (0 : Int32))] [(.int (0 : Int32))])) _
        exact retI X2099 hx Bd.returns (hb hby d9_35) hr
      · show Qy2 Z st qu tr lim wo sa nz ma ls x0 x1 q0 q1 (2 : Int32) (0 : Int32) (1 : Int32) h0 n0 _ T2099.heap _
        rw [e2099]
        exact ⟨_, rfl, Or.inr (Or.inl ⟨rfl, hc31⟩), N0, rfl⟩
  ·
    obtain ⟨u2109E, u2109a, u2109b, u2109c, u2109d, u2109e, u2109f, u2109g⟩ := hS
    obtain ⟨T2110, X2110, e2110, st2110⟩ := getF X0 hx hZ hown (host := "") (Or.inl (hw _ (List.mem_of_getElem? (i := 30) rfl))) Via.refl e0 u2109b (g := (mkF m 4 #[.val (.ref st), .val (.ref qu), .val (.int (0 : Int32)), .unset] [(.ref st), (.int (0 : Int32))])) rfl rfl (hb hby d9_4)
    obtain ⟨T2111, X2111, e2111, st2111⟩ := getF X2110 hx hZ hown (host := "") (Or.inl (hw _ (List.mem_of_getElem? (i := 50) rfl))) Via.refl e2110 u2109e (g := (mkF m 13 #[.val (.ref st), .val (.ref qu), .val (.int (0 : Int32)), .unset] [(.ref st)])) rfl rfl (hb hby d9_13)
    obtain ⟨T2112, X2112, e2112, st2112⟩ := getF X2111 hx hZ hown (host := "") (Or.inl (hw _ (List.mem_of_getElem? (i := 46) rfl))) Via.refl e2111 u2109c (g := (mkF m 20 #[.val (.ref st), .val (.ref qu), .val (.int (0 : Int32)), .val (.int (0 : Int32))] [(.ref st)])) rfl rfl (hb hby d9_20)
    have k2113 : ∀ t, Steps p.tables e below (T2112.setTop (mkF m 31 #[.val (.ref st), .val (.ref qu), .val (.int (0 : Int32)), .val (.int (0 : Int32))] [(.int (lcmpW (x0 &&& q0) (0 : Int64)))])) t → Steps p.tables e below (s₁.setTop (entryFrame m #[(.ref st), (.ref qu)] 4)) t := fun t hk => pre0 t (by
      show Steps p.tables e below (s₁.setTop (mkF m 0 #[.val (.ref st), .val (.ref qu), .unset, .unset] [])) _
      refine XS.iconst X0.here hx rfl (hb hby d9_0) ?_
      refine XS.istoreN X0.here hx rfl (hb hby d9_1) rfl (l' := #[.val (.ref st), .val (.ref qu), .val (.int (0 : Int32)), .unset]) rfl ?_
      refine XS.iloadN X0.here hx rfl (hb hby d9_2) rfl ?_
      refine XS.aloadN X0.here hx rfl (hb hby d9_3) rfl rfl ?_
      show Steps p.tables e below (s₁.setTop (mkF m 4 #[.val (.ref st), .val (.ref qu), .val (.int (0 : Int32)), .unset] [(.ref st), (.int (0 : Int32))])) _
      refine st2110 _ ?_
      refine XS.iconst X2110.here hx rfl (hb hby d9_7) ?_
      refine own_iald X2110 hx hZ e2110 Vl (k := 0) ⟨by decide, rfl, by decide⟩ rfl (g := (mkF m 8 #[.val (.ref st), .val (.ref qu), .val (.int (0 : Int32)), .unset] [(.int (0 : Int32)), (.ref lim), (.int (0 : Int32))])) rfl rfl (hb hby d9_8) _ ?_
      refine XS.icmpNo X2110.here hx rfl (hb hby d9_9) rfl (tlt (by decide : (0 : Int32) < (1 : Int32))).2.1 ?_
      show Steps p.tables e below (T2110.setTop (mkF m 12 #[.val (.ref st), .val (.ref qu), .val (.int (0 : Int32)), .unset] [])) _
      refine XS.aloadN X2110.here hx rfl (hb hby d9_12) rfl rfl ?_
      refine st2111 _ ?_
      refine XS.iloadN X2111.here hx rfl (hb hby d9_16) rfl ?_
      refine own_iald X2111 hx hZ e2111 Vn (k := 0) ⟨by decide, rfl, by decide⟩ rfl (g := (mkF m 17 #[.val (.ref st), .val (.ref qu), .val (.int (0 : Int32)), .unset] [(.int (0 : Int32)), (.ref nz)])) rfl rfl (hb hby d9_17) _ ?_
      show Steps p.tables e below (T2111.setTop (mkF m 18 #[.val (.ref st), .val (.ref qu), .val (.int (0 : Int32)), .unset] [(.int (0 : Int32))])) _
      refine XS.istoreN X2111.here hx rfl (hb hby d9_18) rfl (l' := #[.val (.ref st), .val (.ref qu), .val (.int (0 : Int32)), .val (.int (0 : Int32))]) rfl ?_
      refine XS.aloadN X2111.here hx rfl (hb hby d9_19) rfl rfl ?_
      refine st2112 _ ?_
      refine XS.iloadN X2112.here hx rfl (hb hby d9_23) rfl ?_
      show Steps p.tables e below (T2112.setTop (mkF m 24 #[.val (.ref st), .val (.ref qu), .val (.int (0 : Int32)), .val (.int (0 : Int32))] [(.int (0 : Int32)), (.ref wo)])) _
      refine own_lald X2112 hx hZ e2112 Vo (k := 0) ⟨by decide, rfl, by decide⟩ rfl (g := (mkF m 24 #[.val (.ref st), .val (.ref qu), .val (.int (0 : Int32)), .val (.int (0 : Int32))] [(.int (0 : Int32)), (.ref wo)])) rfl rfl (hb hby d9_24) _ ?_
      refine XS.aloadN X2112.here hx rfl (hb hby d9_25) rfl rfl ?_
      refine XS.iloadN X2112.here hx rfl (hb hby d9_26) rfl ?_
      refine own_lald X2112 hx hZ e2112 Vq (k := 0) ⟨by decide, rfl, by decide⟩ rfl (g := (mkF m 27 #[.val (.ref st), .val (.ref qu), .val (.int (0 : Int32)), .val (.int (0 : Int32))] [(.int (0 : Int32)), (.ref qu), (.long x0)])) rfl rfl (hb hby d9_27) _ ?_
      show Steps p.tables e below (T2112.setTop (mkF m 28 #[.val (.ref st), .val (.ref qu), .val (.int (0 : Int32)), .val (.int (0 : Int32))] [(.long q0), (.long x0)])) _
      refine XS.land X2112.here hx rfl (hb hby d9_28) rfl ?_
      refine XS.lconst X2112.here hx rfl (hb hby d9_29) ?_
      refine XS.lcmp X2112.here hx rfl (hb hby d9_30) rfl ?_
      exact hk)
    by_cases hc31 : (x0 &&& q0) = (0 : Int64)
    ·
      obtain ⟨T2114, X2114, e2114, st2114⟩ := getF X2112 hx hZ hown (host := "") (Or.inl (hw _ (List.mem_of_getElem? (i := 30) rfl))) Via.refl e2112 u2109b (g := (mkF m 4 #[.val (.ref st), .val (.ref qu), .val (.int (1 : Int32)), .val (.int (0 : Int32))] [(.ref st), (.int (1 : Int32))])) rfl rfl (hb hby d9_4)
      have k2115 : ∀ t, Steps p.tables e below (T2114.setTop (mkF m 43 #[.val (.ref st), .val (.ref qu), .val (.int (1 : Int32)), .val (.int (0 : Int32))] [(.int (-1 : Int32))])) t → Steps p.tables e below (s₁.setTop (entryFrame m #[(.ref st), (.ref qu)] 4)) t := fun t hk => k2113 t (by
        show Steps p.tables e below (T2112.setTop (mkF m 31 #[.val (.ref st), .val (.ref qu), .val (.int (0 : Int32)), .val (.int (0 : Int32))] [(.int (lcmpW (x0 &&& q0) (0 : Int64)))])) _
        refine XS.ifYes X2112.here hx rfl (pc0 := 31) (pc' := 36) rfl (hb hby d9_31) rfl ((if0 _ _).trans (teq ((lw_eq _ _).mpr hc31)).1) (by decide) (by decide) ?_
        refine XS.iinc X2112.here hx rfl (hb hby d9_36) rfl (l' := #[.val (.ref st), .val (.ref qu), .val (.int (1 : Int32)), .val (.int (0 : Int32))]) rfl ?_
        refine XS.goto X2112.here hx rfl (pc0 := 39) (pc' := 2) rfl (hb hby d9_39) (by decide) (by decide) ?_
        refine XS.iloadN X2112.here hx rfl (hb hby d9_2) rfl ?_
        show Steps p.tables e below (T2112.setTop (mkF m 3 #[.val (.ref st), .val (.ref qu), .val (.int (1 : Int32)), .val (.int (0 : Int32))] [(.int (1 : Int32))])) _
        refine XS.aloadN X2112.here hx rfl (hb hby d9_3) rfl rfl ?_
        refine st2114 _ ?_
        refine XS.iconst X2114.here hx rfl (hb hby d9_7) ?_
        refine own_iald X2114 hx hZ e2114 Vl (k := 0) ⟨by decide, rfl, by decide⟩ rfl (g := (mkF m 8 #[.val (.ref st), .val (.ref qu), .val (.int (1 : Int32)), .val (.int (0 : Int32))] [(.int (0 : Int32)), (.ref lim), (.int (1 : Int32))])) rfl rfl (hb hby d9_8) _ ?_
        show Steps p.tables e below (T2114.setTop (mkF m 9 #[.val (.ref st), .val (.ref qu), .val (.int (1 : Int32)), .val (.int (0 : Int32))] [(.int (1 : Int32)), (.int (1 : Int32))])) _
        refine XS.icmpYes X2114.here hx rfl (pc0 := 9) (pc' := 42) rfl (hb hby d9_9) rfl (flt (by decide : ¬ ((1 : Int32) < (1 : Int32)))).2.1 (by decide) (by decide) ?_
        refine XS.iconst X2114.here hx rfl (hb hby d9_42) ?_
        exact hk)
      obtain ⟨fs, hr, hrun, hended, hW, hsame⟩ := X2114.leave (v := some (.int (-1 : Int32))) (fun h => by rw [Bd.returns] at h; cases h)
      refine ⟨_, _, k2115 _ ?_, hrun, hended, _, _, rfl, ?_, ⟨_, rfl⟩, hW, hsame.mono (by decide) (by decide)⟩
      · show Steps p.tables e below (T2114.setTop (mkF m 43 #[.val (.ref st), .val (.ref qu), .val (.int (1 : Int32)), .val (.int (0 : Int32))] [(.int (-1 : Int32))])) _
        exact retI X2114 hx Bd.returns (hb hby d9_43) hr
      · show Qy2 Z st qu tr lim wo sa nz ma ls x0 x1 q0 q1 (1 : Int32) (0 : Int32) z1 h0 n0 _ T2114.heap _
        rw [e2114]
        exact ⟨_, rfl, Or.inl ⟨rfl, hc31, (by rw [w1]; exact own_zand q1)⟩, N0, rfl⟩
    ·
      have k2116 : ∀ t, Steps p.tables e below (T2112.setTop (mkF m 35 #[.val (.ref st), .val (.ref qu), .val (.int (0 : Int32)), .val (.int (0 : Int32))] [(.int (0 : Int32))])) t → Steps p.tables e below (s₁.setTop (entryFrame m #[(.ref st), (.ref qu)] 4)) t := fun t hk => k2113 t (by
        show Steps p.tables e below (T2112.setTop (mkF m 31 #[.val (.ref st), .val (.ref qu), .val (.int (0 : Int32)), .val (.int (0 : Int32))] [(.int (lcmpW (x0 &&& q0) (0 : Int64)))])) _
        refine XS.ifNo X2112.here hx rfl (hb hby d9_31) rfl ((if0 _ _).trans (feq (fun q => hc31 ((lw_eq _ _).mp q))).1) ?_
        refine XS.iloadN X2112.here hx rfl (hb hby d9_34) rfl ?_
        exact hk)
      obtain ⟨fs, hr, hrun, hended, hW, hsame⟩ := X2112.leave (v := some (.int (0 : Int32))) (fun h => by rw [Bd.returns] at h; cases h)
      refine ⟨_, _, k2116 _ ?_, hrun, hended, _, _, rfl, ?_, ⟨_, rfl⟩, hW, hsame.mono (by decide) (by decide)⟩
      · show Steps p.tables e below (T2112.setTop (mkF m 35 #[.val (.ref st), .val (.ref qu), .val (.int (0 : Int32)), .val (.int (0 : Int32))] [(.int (0 : Int32))])) _
        exact retI X2112 hx Bd.returns (hb hby d9_35) hr
      · show Qy2 Z st qu tr lim wo sa nz ma ls x0 x1 q0 q1 (1 : Int32) (0 : Int32) z1 h0 n0 _ T2112.heap _
        rw [e2112]
        exact ⟨_, rfl, Or.inr (Or.inl ⟨rfl, hc31⟩), N0, rfl⟩
  ·
    obtain ⟨u2117E, u2117a, u2117b, u2117c, u2117d, u2117e, u2117f, u2117g⟩ := hS
    obtain ⟨T2118, X2118, e2118, st2118⟩ := getF X0 hx hZ hown (host := "") (Or.inl (hw _ (List.mem_of_getElem? (i := 30) rfl))) Via.refl e0 u2117b (g := (mkF m 4 #[.val (.ref st), .val (.ref qu), .val (.int (0 : Int32)), .unset] [(.ref st), (.int (0 : Int32))])) rfl rfl (hb hby d9_4)
    obtain ⟨T2119, X2119, e2119, st2119⟩ := getF X2118 hx hZ hown (host := "") (Or.inl (hw _ (List.mem_of_getElem? (i := 50) rfl))) Via.refl e2118 u2117e (g := (mkF m 13 #[.val (.ref st), .val (.ref qu), .val (.int (0 : Int32)), .unset] [(.ref st)])) rfl rfl (hb hby d9_13)
    obtain ⟨T2120, X2120, e2120, st2120⟩ := getF X2119 hx hZ hown (host := "") (Or.inl (hw _ (List.mem_of_getElem? (i := 46) rfl))) Via.refl e2119 u2117c (g := (mkF m 20 #[.val (.ref st), .val (.ref qu), .val (.int (0 : Int32)), .val (.int (1 : Int32))] [(.ref st)])) rfl rfl (hb hby d9_20)
    have k2121 : ∀ t, Steps p.tables e below (T2120.setTop (mkF m 31 #[.val (.ref st), .val (.ref qu), .val (.int (0 : Int32)), .val (.int (1 : Int32))] [(.int (lcmpW (x1 &&& q1) (0 : Int64)))])) t → Steps p.tables e below (s₁.setTop (entryFrame m #[(.ref st), (.ref qu)] 4)) t := fun t hk => pre0 t (by
      show Steps p.tables e below (s₁.setTop (mkF m 0 #[.val (.ref st), .val (.ref qu), .unset, .unset] [])) _
      refine XS.iconst X0.here hx rfl (hb hby d9_0) ?_
      refine XS.istoreN X0.here hx rfl (hb hby d9_1) rfl (l' := #[.val (.ref st), .val (.ref qu), .val (.int (0 : Int32)), .unset]) rfl ?_
      refine XS.iloadN X0.here hx rfl (hb hby d9_2) rfl ?_
      refine XS.aloadN X0.here hx rfl (hb hby d9_3) rfl rfl ?_
      show Steps p.tables e below (s₁.setTop (mkF m 4 #[.val (.ref st), .val (.ref qu), .val (.int (0 : Int32)), .unset] [(.ref st), (.int (0 : Int32))])) _
      refine st2118 _ ?_
      refine XS.iconst X2118.here hx rfl (hb hby d9_7) ?_
      refine own_iald X2118 hx hZ e2118 Vl (k := 0) ⟨by decide, rfl, by decide⟩ rfl (g := (mkF m 8 #[.val (.ref st), .val (.ref qu), .val (.int (0 : Int32)), .unset] [(.int (0 : Int32)), (.ref lim), (.int (0 : Int32))])) rfl rfl (hb hby d9_8) _ ?_
      refine XS.icmpNo X2118.here hx rfl (hb hby d9_9) rfl (tlt (by decide : (0 : Int32) < (1 : Int32))).2.1 ?_
      show Steps p.tables e below (T2118.setTop (mkF m 12 #[.val (.ref st), .val (.ref qu), .val (.int (0 : Int32)), .unset] [])) _
      refine XS.aloadN X2118.here hx rfl (hb hby d9_12) rfl rfl ?_
      refine st2119 _ ?_
      refine XS.iloadN X2119.here hx rfl (hb hby d9_16) rfl ?_
      refine own_iald X2119 hx hZ e2119 Vn (k := 0) ⟨by decide, rfl, by decide⟩ rfl (g := (mkF m 17 #[.val (.ref st), .val (.ref qu), .val (.int (0 : Int32)), .unset] [(.int (0 : Int32)), (.ref nz)])) rfl rfl (hb hby d9_17) _ ?_
      show Steps p.tables e below (T2119.setTop (mkF m 18 #[.val (.ref st), .val (.ref qu), .val (.int (0 : Int32)), .unset] [(.int (1 : Int32))])) _
      refine XS.istoreN X2119.here hx rfl (hb hby d9_18) rfl (l' := #[.val (.ref st), .val (.ref qu), .val (.int (0 : Int32)), .val (.int (1 : Int32))]) rfl ?_
      refine XS.aloadN X2119.here hx rfl (hb hby d9_19) rfl rfl ?_
      refine st2120 _ ?_
      refine XS.iloadN X2120.here hx rfl (hb hby d9_23) rfl ?_
      show Steps p.tables e below (T2120.setTop (mkF m 24 #[.val (.ref st), .val (.ref qu), .val (.int (0 : Int32)), .val (.int (1 : Int32))] [(.int (1 : Int32)), (.ref wo)])) _
      refine own_lald X2120 hx hZ e2120 Vo (k := 1) ⟨by decide, rfl, by decide⟩ rfl (g := (mkF m 24 #[.val (.ref st), .val (.ref qu), .val (.int (0 : Int32)), .val (.int (1 : Int32))] [(.int (1 : Int32)), (.ref wo)])) rfl rfl (hb hby d9_24) _ ?_
      refine XS.aloadN X2120.here hx rfl (hb hby d9_25) rfl rfl ?_
      refine XS.iloadN X2120.here hx rfl (hb hby d9_26) rfl ?_
      refine own_lald X2120 hx hZ e2120 Vq (k := 1) ⟨by decide, rfl, by decide⟩ rfl (g := (mkF m 27 #[.val (.ref st), .val (.ref qu), .val (.int (0 : Int32)), .val (.int (1 : Int32))] [(.int (1 : Int32)), (.ref qu), (.long x1)])) rfl rfl (hb hby d9_27) _ ?_
      show Steps p.tables e below (T2120.setTop (mkF m 28 #[.val (.ref st), .val (.ref qu), .val (.int (0 : Int32)), .val (.int (1 : Int32))] [(.long q1), (.long x1)])) _
      refine XS.land X2120.here hx rfl (hb hby d9_28) rfl ?_
      refine XS.lconst X2120.here hx rfl (hb hby d9_29) ?_
      refine XS.lcmp X2120.here hx rfl (hb hby d9_30) rfl ?_
      exact hk)
    by_cases hc31 : (x1 &&& q1) = (0 : Int64)
    ·
      obtain ⟨T2122, X2122, e2122, st2122⟩ := getF X2120 hx hZ hown (host := "") (Or.inl (hw _ (List.mem_of_getElem? (i := 30) rfl))) Via.refl e2120 u2117b (g := (mkF m 4 #[.val (.ref st), .val (.ref qu), .val (.int (1 : Int32)), .val (.int (1 : Int32))] [(.ref st), (.int (1 : Int32))])) rfl rfl (hb hby d9_4)
      have k2123 : ∀ t, Steps p.tables e below (T2122.setTop (mkF m 43 #[.val (.ref st), .val (.ref qu), .val (.int (1 : Int32)), .val (.int (1 : Int32))] [(.int (-1 : Int32))])) t → Steps p.tables e below (s₁.setTop (entryFrame m #[(.ref st), (.ref qu)] 4)) t := fun t hk => k2121 t (by
        show Steps p.tables e below (T2120.setTop (mkF m 31 #[.val (.ref st), .val (.ref qu), .val (.int (0 : Int32)), .val (.int (1 : Int32))] [(.int (lcmpW (x1 &&& q1) (0 : Int64)))])) _
        refine XS.ifYes X2120.here hx rfl (pc0 := 31) (pc' := 36) rfl (hb hby d9_31) rfl ((if0 _ _).trans (teq ((lw_eq _ _).mpr hc31)).1) (by decide) (by decide) ?_
        refine XS.iinc X2120.here hx rfl (hb hby d9_36) rfl (l' := #[.val (.ref st), .val (.ref qu), .val (.int (1 : Int32)), .val (.int (1 : Int32))]) rfl ?_
        refine XS.goto X2120.here hx rfl (pc0 := 39) (pc' := 2) rfl (hb hby d9_39) (by decide) (by decide) ?_
        refine XS.iloadN X2120.here hx rfl (hb hby d9_2) rfl ?_
        show Steps p.tables e below (T2120.setTop (mkF m 3 #[.val (.ref st), .val (.ref qu), .val (.int (1 : Int32)), .val (.int (1 : Int32))] [(.int (1 : Int32))])) _
        refine XS.aloadN X2120.here hx rfl (hb hby d9_3) rfl rfl ?_
        refine st2122 _ ?_
        refine XS.iconst X2122.here hx rfl (hb hby d9_7) ?_
        refine own_iald X2122 hx hZ e2122 Vl (k := 0) ⟨by decide, rfl, by decide⟩ rfl (g := (mkF m 8 #[.val (.ref st), .val (.ref qu), .val (.int (1 : Int32)), .val (.int (1 : Int32))] [(.int (0 : Int32)), (.ref lim), (.int (1 : Int32))])) rfl rfl (hb hby d9_8) _ ?_
        show Steps p.tables e below (T2122.setTop (mkF m 9 #[.val (.ref st), .val (.ref qu), .val (.int (1 : Int32)), .val (.int (1 : Int32))] [(.int (1 : Int32)), (.int (1 : Int32))])) _
        refine XS.icmpYes X2122.here hx rfl (pc0 := 9) (pc' := 42) rfl (hb hby d9_9) rfl (flt (by decide : ¬ ((1 : Int32) < (1 : Int32)))).2.1 (by decide) (by decide) ?_
        refine XS.iconst X2122.here hx rfl (hb hby d9_42) ?_
        exact hk)
      obtain ⟨fs, hr, hrun, hended, hW, hsame⟩ := X2122.leave (v := some (.int (-1 : Int32))) (fun h => by rw [Bd.returns] at h; cases h)
      refine ⟨_, _, k2123 _ ?_, hrun, hended, _, _, rfl, ?_, ⟨_, rfl⟩, hW, hsame.mono (by decide) (by decide)⟩
      · show Steps p.tables e below (T2122.setTop (mkF m 43 #[.val (.ref st), .val (.ref qu), .val (.int (1 : Int32)), .val (.int (1 : Int32))] [(.int (-1 : Int32))])) _
        exact retI X2122 hx Bd.returns (hb hby d9_43) hr
      · show Qy2 Z st qu tr lim wo sa nz ma ls x0 x1 q0 q1 (1 : Int32) (1 : Int32) z1 h0 n0 _ T2122.heap _
        rw [e2122]
        exact ⟨_, rfl, Or.inl ⟨rfl, (by rw [w0]; exact own_zand q0), hc31⟩, N0, rfl⟩
    ·
      have k2124 : ∀ t, Steps p.tables e below (T2120.setTop (mkF m 35 #[.val (.ref st), .val (.ref qu), .val (.int (0 : Int32)), .val (.int (1 : Int32))] [(.int (1 : Int32))])) t → Steps p.tables e below (s₁.setTop (entryFrame m #[(.ref st), (.ref qu)] 4)) t := fun t hk => k2121 t (by
        show Steps p.tables e below (T2120.setTop (mkF m 31 #[.val (.ref st), .val (.ref qu), .val (.int (0 : Int32)), .val (.int (1 : Int32))] [(.int (lcmpW (x1 &&& q1) (0 : Int64)))])) _
        refine XS.ifNo X2120.here hx rfl (hb hby d9_31) rfl ((if0 _ _).trans (feq (fun q => hc31 ((lw_eq _ _).mp q))).1) ?_
        refine XS.iloadN X2120.here hx rfl (hb hby d9_34) rfl ?_
        exact hk)
      obtain ⟨fs, hr, hrun, hended, hW, hsame⟩ := X2120.leave (v := some (.int (1 : Int32))) (fun h => by rw [Bd.returns] at h; cases h)
      refine ⟨_, _, k2124 _ ?_, hrun, hended, _, _, rfl, ?_, ⟨_, rfl⟩, hW, hsame.mono (by decide) (by decide)⟩
      · show Steps p.tables e below (T2120.setTop (mkF m 35 #[.val (.ref st), .val (.ref qu), .val (.int (0 : Int32)), .val (.int (1 : Int32))] [(.int (1 : Int32))])) _
        exact retI X2120 hx Bd.returns (hb hby d9_35) hr
      · show Qy2 Z st qu tr lim wo sa nz ma ls x0 x1 q0 q1 (1 : Int32) (1 : Int32) z1 h0 n0 _ T2120.heap _
        rw [e2120]
        exact ⟨_, rfl, Or.inr (Or.inr ⟨rfl, hc31⟩), N0, rfl⟩
  ·
    obtain ⟨u2125E, u2125a, u2125b, u2125c, u2125d, u2125e, u2125f, u2125g⟩ := hS
    obtain ⟨T2126, X2126, e2126, st2126⟩ := getF X0 hx hZ hown (host := "") (Or.inl (hw _ (List.mem_of_getElem? (i := 30) rfl))) Via.refl e0 u2125b (g := (mkF m 4 #[.val (.ref st), .val (.ref qu), .val (.int (0 : Int32)), .unset] [(.ref st), (.int (0 : Int32))])) rfl rfl (hb hby d9_4)
    have k2127 : ∀ t, Steps p.tables e below (T2126.setTop (mkF m 43 #[.val (.ref st), .val (.ref qu), .val (.int (0 : Int32)), .unset] [(.int (-1 : Int32))])) t → Steps p.tables e below (s₁.setTop (entryFrame m #[(.ref st), (.ref qu)] 4)) t := fun t hk => pre0 t (by
      show Steps p.tables e below (s₁.setTop (mkF m 0 #[.val (.ref st), .val (.ref qu), .unset, .unset] [])) _
      refine XS.iconst X0.here hx rfl (hb hby d9_0) ?_
      refine XS.istoreN X0.here hx rfl (hb hby d9_1) rfl (l' := #[.val (.ref st), .val (.ref qu), .val (.int (0 : Int32)), .unset]) rfl ?_
      refine XS.iloadN X0.here hx rfl (hb hby d9_2) rfl ?_
      refine XS.aloadN X0.here hx rfl (hb hby d9_3) rfl rfl ?_
      show Steps p.tables e below (s₁.setTop (mkF m 4 #[.val (.ref st), .val (.ref qu), .val (.int (0 : Int32)), .unset] [(.ref st), (.int (0 : Int32))])) _
      refine st2126 _ ?_
      refine XS.iconst X2126.here hx rfl (hb hby d9_7) ?_
      refine own_iald X2126 hx hZ e2126 Vl (k := 0) ⟨by decide, rfl, by decide⟩ rfl (g := (mkF m 8 #[.val (.ref st), .val (.ref qu), .val (.int (0 : Int32)), .unset] [(.int (0 : Int32)), (.ref lim), (.int (0 : Int32))])) rfl rfl (hb hby d9_8) _ ?_
      refine XS.icmpYes X2126.here hx rfl (pc0 := 9) (pc' := 42) rfl (hb hby d9_9) rfl (flt (by decide : ¬ ((0 : Int32) < (0 : Int32)))).2.1 (by decide) (by decide) ?_
      show Steps p.tables e below (T2126.setTop (mkF m 42 #[.val (.ref st), .val (.ref qu), .val (.int (0 : Int32)), .unset] [])) _
      refine XS.iconst X2126.here hx rfl (hb hby d9_42) ?_
      exact hk)
    obtain ⟨fs, hr, hrun, hended, hW, hsame⟩ := X2126.leave (v := some (.int (-1 : Int32))) (fun h => by rw [Bd.returns] at h; cases h)
    refine ⟨_, _, k2127 _ ?_, hrun, hended, _, _, rfl, ?_, ⟨_, rfl⟩, hW, hsame.mono (by decide) (by decide)⟩
    · show Steps p.tables e below (T2126.setTop (mkF m 43 #[.val (.ref st), .val (.ref qu), .val (.int (0 : Int32)), .unset] [(.int (-1 : Int32))])) _
      exact retI X2126 hx Bd.returns (hb hby d9_43) hr
    · show Qy2 Z st qu tr lim wo sa nz ma ls x0 x1 q0 q1 (0 : Int32) z0 z1 h0 n0 _ T2126.heap _
      rw [e2126]
      exact ⟨_, rfl, Or.inl ⟨rfl, (by rw [w0]; exact own_zand q0), (by rw [w1]; exact own_zand q1)⟩, N0, rfl⟩
theorem own_bits (pp bits : Int32) (h : bits = ((pp &&& (255 : Int32)) % (129 : Int32))) : 0 ≤ bits.toInt ∧ bits.toInt ≤ 128 := by
  have a1 : (pp &&& (255 : Int32)).toInt = pp.toInt % (2 ^ 8 : Nat) := c_mask pp _ 8 (by decide) (by decide)
  have a2 : ((pp &&& (255 : Int32)) % (129 : Int32)).toInt = (pp &&& (255 : Int32)).toInt % 129 := by
    rw [Int32.toInt_mod]; exact (tr _ _).1 (by rw [a1]; omega)
  rw [h]; omega
theorem own_split (bits : Int32) (h0 : 0 ≤ bits.toInt) (h1 : bits.toInt ≤ 128) : ((((bits + (64 : Int32)) - (1 : Int32)) / (64 : Int32)) = (0 : Int32) ∧ 0 ≤ bits.toInt ∧ bits.toInt ≤ 0) ∨ ((((bits + (64 : Int32)) - (1 : Int32)) / (64 : Int32)) = (1 : Int32) ∧ 1 ≤ bits.toInt ∧ bits.toInt ≤ 64) ∨ ((((bits + (64 : Int32)) - (1 : Int32)) / (64 : Int32)) = (2 : Int32) ∧ 65 ≤ bits.toInt ∧ bits.toInt ≤ 128) := by
  have b1 := c_iadd bits 64
  have b2 := rng32 (bits + 64)
  have z64 : (64 : Int32).toInt = 64 := by decide
  have z1 : (1 : Int32).toInt = 1 := by decide
  have z0 : (0 : Int32).toInt = 0 := by decide
  have z2 : (2 : Int32).toInt = 2 := by decide
  rw [z64] at b1
  have b3 := c_isub (bits + 64) 1
  have b4 := rng32 (bits + 64 - 1)
  rw [z1] at b3
  have b5 := (c_idiv (bits + 64 - 1) 64 64 z64 (by decide)).1 (by omega)
  rw [← Int32.toInt_inj, ← Int32.toInt_inj, ← Int32.toInt_inj, b5, z0, z1, z2]
  omega
theorem own_or0 (x : Int64) : ((0 : Int64) ||| x) = x := by rw [Int64.zero_or]
theorem own_pow : ∀ k : Fin 63, ¬ (((1 : Int64) <<< ((Int32.ofNat (k.val + 1)) &&& 0x3f).toInt64) - (1 : Int64)) = (0 : Int64) := by decide +kernel
theorem own_powz (z : Int32) (h0 : 1 ≤ z.toInt) (h1 : z.toInt ≤ 63) : ¬ (((1 : Int64) <<< (z &&& 0x3f).toInt64) - (1 : Int64)) = (0 : Int64) := by
  have e : z = Int32.ofNat (z.toInt.toNat - 1 + 1) := by
    rw [← Int32.toInt_inj, Int32.toInt_ofNat_of_lt (by omega)]; omega
  have q := own_pow ⟨z.toInt.toNat - 1, by omega⟩
  simp only at q
  rw [← e] at q; exact q
theorem own_nzw0 (bits : Int32) (x0 : Int64) (h0 : 1 ≤ bits.toInt) (h1 : bits.toInt ≤ 128) (hx : x0 = (if (bits - (0 : Int32)) < (64 : Int32) then (((1 : Int64) <<< ((bits - (0 : Int32)) &&& 0x3f).toInt64) - (1 : Int64)) else (-1 : Int64))) : ¬ x0 = (0 : Int64) := by
  have z64 : (64 : Int32).toInt = 64 := by decide
  rw [hx, Int32.sub_zero]
  by_cases q : bits < (64 : Int32)
  · rw [if_pos q]; rw [Int32.lt_iff_toInt_lt, z64] at q; exact own_powz bits h0 (by omega)
  · rw [if_neg q]; decide
theorem own_nzw1 (bits : Int32) (x1 : Int64) (h0 : 65 ≤ bits.toInt) (h1 : bits.toInt ≤ 128) (hx : x1 = (if (bits - (64 : Int32)) < (64 : Int32) then (((1 : Int64) <<< ((bits - (64 : Int32)) &&& 0x3f).toInt64) - (1 : Int64)) else (-1 : Int64))) : ¬ x1 = (0 : Int64) := by
  have z64 : (64 : Int32).toInt = 64 := by decide
  have b1 := c_isub bits 64
  have b2 := rng32 (bits - 64)
  rw [z64] at b1
  have b3 : (bits - (64 : Int32)).toInt = bits.toInt - 64 := by omega
  rw [hx]
  by_cases q : (bits - (64 : Int32)) < (64 : Int32)
  · rw [if_pos q]; rw [Int32.lt_iff_toInt_lt, z64, b3] at q; exact own_powz _ (by omega) (by omega)
  · rw [if_neg q]; decide
theorem own_plain0 (bits : Int32) (m0 m1 q0 q1 f0 f1 s0 s1 x0 x1 : Int64) (t0 t1 rr : Int32) (hb0 : 0 ≤ bits.toInt) (hb1 : bits.toInt ≤ 128) (hbl : 0 ≤ bits.toInt) (hbh : bits.toInt ≤ 0) (hf0 : f0 = (if bits < (64 : Int32) then (((1 : Int64) <<< (bits &&& 0x3f).toInt64) - (1 : Int64)) else (-1 : Int64))) (hf1 : f1 = (if bits < (128 : Int32) then (if (64 : Int32) < bits then (((1 : Int64) <<< ((bits - (64 : Int32)) &&& 0x3f).toInt64) - (1 : Int64)) else (0 : Int64)) else (-1 : Int64))) (hs0 : s0 = (f0 &&& m0)) (hs1 : s1 = (f1 &&& m1)) (ht0 : t0 = (if (s0 &&& q0) = (0 : Int64) then (0 : Int32) else (1 : Int32))) (ht1 : t1 = (if (s1 &&& q1) = (0 : Int64) then (0 : Int32) else (1 : Int32))) (hrr : (((rr = (-1 : Int32))))) : (rr = (-1 : Int32) ∧ t0 = (0 : Int32) ∧ t1 = (0 : Int32)) ∨ (rr = (0 : Int32) ∧ ¬ t0 = (0 : Int32)) ∨ (rr = (1 : Int32) ∧ ¬ t1 = (0 : Int32)) := by
  have z0 : (0 : Int32).toInt = 0 := by decide
  have z64 : (64 : Int32).toInt = 64 := by decide
  have z128 : (128 : Int32).toInt = 128 := by decide
  have eq0 : f0 = 0 := by
    have hbz : bits = 0 := by rw [← Int32.toInt_inj, z0]; omega
    rw [hf0, hbz]; decide
  have eq1 : f1 = 0 := by
    have q : bits < (128 : Int32) := by rw [Int32.lt_iff_toInt_lt, z128]; omega
    have q2 : ¬ (64 : Int32) < bits := by rw [Int32.lt_iff_toInt_lt, z64]; omega
    rw [hf1, if_pos q, if_neg q2]
  have r0 : (s0 &&& q0) = 0 := by rw [hs0, eq0, own_zand, own_zand]
  have r1 : (s1 &&& q1) = 0 := by rw [hs1, eq1, own_zand, own_zand]
  refine Or.inl ⟨hrr, ?_, ?_⟩
  · rw [ht0, if_pos r0]
  · rw [ht1, if_pos r1]
theorem own_plain1 (bits : Int32) (m0 m1 q0 q1 f0 f1 s0 s1 x0 x1 : Int64) (t0 t1 rr : Int32) (hb0 : 0 ≤ bits.toInt) (hb1 : bits.toInt ≤ 128) (hbl : 1 ≤ bits.toInt) (hbh : bits.toInt ≤ 64) (hf0 : f0 = (if bits < (64 : Int32) then (((1 : Int64) <<< (bits &&& 0x3f).toInt64) - (1 : Int64)) else (-1 : Int64))) (hf1 : f1 = (if bits < (128 : Int32) then (if (64 : Int32) < bits then (((1 : Int64) <<< ((bits - (64 : Int32)) &&& 0x3f).toInt64) - (1 : Int64)) else (0 : Int64)) else (-1 : Int64))) (hs0 : s0 = (f0 &&& m0)) (hs1 : s1 = (f1 &&& m1)) (hx0 : x0 = (if (bits - (0 : Int32)) < (64 : Int32) then (((1 : Int64) <<< ((bits - (0 : Int32)) &&& 0x3f).toInt64) - (1 : Int64)) else (-1 : Int64))) (ht0 : t0 = (if (s0 &&& q0) = (0 : Int64) then (0 : Int32) else (1 : Int32))) (ht1 : t1 = (if (s1 &&& q1) = (0 : Int64) then (0 : Int32) else (1 : Int32))) (hrr : (((rr = (-1 : Int32) ∧ ((x0 &&& ((0 : Int64) ||| m0)) &&& q0) = (0 : Int64)) ∨ (rr = (0 : Int32) ∧ ¬ ((x0 &&& ((0 : Int64) ||| m0)) &&& q0) = (0 : Int64))))) : (rr = (-1 : Int32) ∧ t0 = (0 : Int32) ∧ t1 = (0 : Int32)) ∨ (rr = (0 : Int32) ∧ ¬ t0 = (0 : Int32)) ∨ (rr = (1 : Int32) ∧ ¬ t1 = (0 : Int32)) := by
  have z0 : (0 : Int32).toInt = 0 := by decide
  have z64 : (64 : Int32).toInt = 64 := by decide
  have z128 : (128 : Int32).toInt = 128 := by decide
  have eq0 : x0 = f0 := by
    rw [hx0, hf0, Int32.sub_zero]
  have eq1 : f1 = 0 := by
    have q : bits < (128 : Int32) := by rw [Int32.lt_iff_toInt_lt, z128]; omega
    have q2 : ¬ (64 : Int32) < bits := by rw [Int32.lt_iff_toInt_lt, z64]; omega
    rw [hf1, if_pos q, if_neg q2]
  have r0 : (s0 &&& q0) = ((x0 &&& ((0 : Int64) ||| m0)) &&& q0) := by rw [hs0, ← eq0, own_or0]
  have r1 : (s1 &&& q1) = 0 := by rw [hs1, eq1, own_zand, own_zand]
  rcases hrr with ⟨a1, a2⟩ | ⟨a1, a2⟩
  · exact Or.inl ⟨a1, by rw [ht0, if_pos (r0.trans a2)], by rw [ht1, if_pos r1]⟩
  · exact Or.inr (Or.inl ⟨a1, by rw [ht0, if_neg (fun q => a2 (r0.symm.trans q))]; decide⟩)
theorem own_plain2 (bits : Int32) (m0 m1 q0 q1 f0 f1 s0 s1 x0 x1 : Int64) (t0 t1 rr : Int32) (hb0 : 0 ≤ bits.toInt) (hb1 : bits.toInt ≤ 128) (hbl : 65 ≤ bits.toInt) (hbh : bits.toInt ≤ 128) (hf0 : f0 = (if bits < (64 : Int32) then (((1 : Int64) <<< (bits &&& 0x3f).toInt64) - (1 : Int64)) else (-1 : Int64))) (hf1 : f1 = (if bits < (128 : Int32) then (if (64 : Int32) < bits then (((1 : Int64) <<< ((bits - (64 : Int32)) &&& 0x3f).toInt64) - (1 : Int64)) else (0 : Int64)) else (-1 : Int64))) (hs0 : s0 = (f0 &&& m0)) (hs1 : s1 = (f1 &&& m1)) (hx0 : x0 = (if (bits - (0 : Int32)) < (64 : Int32) then (((1 : Int64) <<< ((bits - (0 : Int32)) &&& 0x3f).toInt64) - (1 : Int64)) else (-1 : Int64))) (hx1 : x1 = (if (bits - (64 : Int32)) < (64 : Int32) then (((1 : Int64) <<< ((bits - (64 : Int32)) &&& 0x3f).toInt64) - (1 : Int64)) else (-1 : Int64))) (ht0 : t0 = (if (s0 &&& q0) = (0 : Int64) then (0 : Int32) else (1 : Int32))) (ht1 : t1 = (if (s1 &&& q1) = (0 : Int64) then (0 : Int32) else (1 : Int32))) (hrr : (((rr = (-1 : Int32) ∧ ((x0 &&& ((0 : Int64) ||| m0)) &&& q0) = (0 : Int64) ∧ ((x1 &&& ((0 : Int64) ||| m1)) &&& q1) = (0 : Int64)) ∨ (rr = (0 : Int32) ∧ ¬ ((x0 &&& ((0 : Int64) ||| m0)) &&& q0) = (0 : Int64)) ∨ (rr = (1 : Int32) ∧ ¬ ((x1 &&& ((0 : Int64) ||| m1)) &&& q1) = (0 : Int64))))) : (rr = (-1 : Int32) ∧ t0 = (0 : Int32) ∧ t1 = (0 : Int32)) ∨ (rr = (0 : Int32) ∧ ¬ t0 = (0 : Int32)) ∨ (rr = (1 : Int32) ∧ ¬ t1 = (0 : Int32)) := by
  have z0 : (0 : Int32).toInt = 0 := by decide
  have z64 : (64 : Int32).toInt = 64 := by decide
  have z128 : (128 : Int32).toInt = 128 := by decide
  have eq0 : x0 = f0 := by
    rw [hx0, hf0, Int32.sub_zero]
  have eq1 : x1 = f1 := by
    have b1 := c_isub bits 64
    have b2 := rng32 (bits - 64)
    rw [z64] at b1
    have b3 : (bits - (64 : Int32)).toInt = bits.toInt - 64 := by omega
    rw [hx1, hf1]
    by_cases q : bits < (128 : Int32)
    · have q1 : (bits - (64 : Int32)) < (64 : Int32) := by rw [Int32.lt_iff_toInt_lt, z128] at q; rw [Int32.lt_iff_toInt_lt, z64, b3]; omega
      have q2 : (64 : Int32) < bits := by rw [Int32.lt_iff_toInt_lt, z64]; omega
      rw [if_pos q, if_pos q2, if_pos q1]
    · have q1 : ¬ (bits - (64 : Int32)) < (64 : Int32) := by rw [Int32.lt_iff_toInt_lt, z128] at q; rw [Int32.lt_iff_toInt_lt, z64, b3]; omega
      rw [if_neg q, if_neg q1]
  have r0 : (s0 &&& q0) = ((x0 &&& ((0 : Int64) ||| m0)) &&& q0) := by rw [hs0, ← eq0, own_or0]
  have r1 : (s1 &&& q1) = ((x1 &&& ((0 : Int64) ||| m1)) &&& q1) := by rw [hs1, ← eq1, own_or0]
  rcases hrr with ⟨a1, a2, a3⟩ | ⟨a1, a2⟩ | ⟨a1, a2⟩
  · exact Or.inl ⟨a1, by rw [ht0, if_pos (r0.trans a2)], by rw [ht1, if_pos (r1.trans a3)]⟩
  · exact Or.inr (Or.inl ⟨a1, by rw [ht0, if_neg (fun q => a2 (r0.symm.trans q))]; decide⟩)
  · exact Or.inr (Or.inr ⟨a1, by rw [ht1, if_neg (fun q => a2 (r1.symm.trans q))]; decide⟩)
theorem pn_0 : plainName "com/example/faultline/faultline/engine/ReversibleBitSetIntersectIndexPinLaw" = true := by first | (simp [plainName, overriddenIn]; done) | decide +kernel
theorem ef_0 (m : MethodId) (pp : Int32) (m0 : Int64) (m1 : Int64) (q0 : Int64) (q1 : Int64) : entryFrame m #[(.int pp), (.long m0), (.long m1), (.long q0), (.long q1)] maxLocals = (mkF m 0 #[.val (.int pp), .val (.long m0), .second, .val (.long m1), .second, .val (.long q0), .second, .val (.long q1), .second, .unset, .unset, .unset, .unset, .unset, .unset, .unset, .unset, .unset, .unset, .unset, .unset, .unset, .unset, .unset, .unset] []) := by first | (simp [entryFrame, mkF, argsToLocals, Value.category, maxLocals]; done) | rfl
def Q0 (Z : State) (pp : Int32) (m0 : Int64) (m1 : Int64) (q0 : Int64) (q1 : Int64) (h0 : Heap) (n0 : Nat) (v : Option Value) (h : Heap) (L : List Loc) : Prop := v = some (.int 1) ∧ Fr n0 L
set_option maxRecDepth 65536 in
set_option maxHeartbeats 40000000 in
theorem rm0 (l : Launch) (Z : State) (a0 : Array Value) (hw : ∀ d ∈ tables_1, d.before a0 Z = true) (ws : List Jvm.Cond) (pp : Int32) (m0 : Int64) (m1 : Int64) (q0 : Int64) (q1 : Int64) (h0 : Heap) (n0 : Nat) (Z0 : n0 ≤ h0.size)  :
    MetFree l x (head1 (Jvm.Cond.code x code maxLocals ret :: ws) room_1) (fun a U => a = #[(.int pp), (.long m0), (.long m1), (.long q0), (.long q1)] ∧ Z.Warmed39 U.vm ∧ U.heap = h0) (fun _ _ _ _ _ => True) (fun _ U o U' => ∃ v L, o = .returned v ∧ Q0 Z pp m0 m1 q0 q1 h0 n0 v U'.heap L ∧ FrameEnd U o U' L room_1.cells room_1.slots) := by
  refine MetFree.of_bodySF (plainFor_of_name pn_0) hisR ?_
  intro p e s m args below meth c s₁ Bd hml0 hP hK
  obtain ⟨rfl, hZ, hh⟩ := hP
  have hx := Bd.exec
  have hby := Bd.bytes
  have hml : c.maxLocals = 25 := hml0
  have hown : s.vm.findClass "com/example/faultline/faultline/engine/ReversibleBitSetIntersectIndexPinLaw" = some m.cls := findClass_of_methodNamed Bd.named
  have hnm := (name_of_methodNamed Bd.named Bd.method).1
  have X0 : Stand p l e room_1 s m #[(.int pp), (.long m0), (.long m1), (.long q0), (.long q1)] below meth c s₁ [] 0 0 := Stand.of_body Bd
  have e0 : s₁.heap = h0 := by rw [← hh, Bd.state]; rfl
  have N0 := Fr.nil n0
  have pre0 : ∀ t, Steps p.tables e below (s₁.setTop (mkF m 0 #[.val (.int pp), .val (.long m0), .second, .val (.long m1), .second, .val (.long q0), .second, .val (.long q1), .second, .unset, .unset, .unset, .unset, .unset, .unset, .unset, .unset, .unset, .unset, .unset, .unset, .unset, .unset, .unset, .unset] [])) t → Steps p.tables e below (s₁.setTop (entryFrame m #[(.int pp), (.long m0), (.long m1), (.long q0), (.long q1)] maxLocals)) t := fun t k => castTop (ef_0 m pp m0 m1 q0 q1) k
  have k2128 : ∀ t, Steps p.tables e below (s₁.setTop (mkF m 11 #[.val (.int pp), .val (.long m0), .second, .val (.long m1), .second, .val (.long q0), .second, .val (.long q1), .second, .val (.int ((pp &&& (255 : Int32)) % (129 : Int32))), .unset, .unset, .unset, .unset, .unset, .unset, .unset, .unset, .unset, .unset, .unset, .unset, .unset, .unset, .unset] [])) t → Steps p.tables e below (s₁.setTop (entryFrame m #[(.int pp), (.long m0), (.long m1), (.long q0), (.long q1)] maxLocals)) t := fun t hk => pre0 t (by
    show Steps p.tables e below (s₁.setTop (mkF m 0 #[.val (.int pp), .val (.long m0), .second, .val (.long m1), .second, .val (.long q0), .second, .val (.long q1), .second, .unset, .unset, .unset, .unset, .unset, .unset, .unset, .unset, .unset, .unset, .unset, .unset, .unset, .unset, .unset, .unset] [])) _
    refine XS.iloadN X0.here hx rfl (hb hby at_0) rfl ?_
    refine XS.sipush X0.here hx rfl (hb hby at_1) ?_
    refine XS.iand X0.here hx rfl (hb hby at_4) rfl ?_
    refine XS.sipush X0.here hx rfl (hb hby at_5) ?_
    show Steps p.tables e below (s₁.setTop (mkF m 8 #[.val (.int pp), .val (.long m0), .second, .val (.long m1), .second, .val (.long q0), .second, .val (.long q1), .second, .unset, .unset, .unset, .unset, .unset, .unset, .unset, .unset, .unset, .unset, .unset, .unset, .unset, .unset, .unset, .unset] [(.int (129 : Int32)), (.int (pp &&& (255 : Int32)))])) _
    refine iremM X0 hx rfl (hb hby at_8) rfl (by decide) ?_
    refine XS.istore X0.here hx rfl (hb hby at_9) rfl (l' := #[.val (.int pp), .val (.long m0), .second, .val (.long m1), .second, .val (.long q0), .second, .val (.long q1), .second, .val (.int ((pp &&& (255 : Int32)) % (129 : Int32))), .unset, .unset, .unset, .unset, .unset, .unset, .unset, .unset, .unset, .unset, .unset, .unset, .unset, .unset, .unset]) rfl ?_
    exact hk)
  obtain ⟨bits, hbits, k2129⟩ : ∃ (bits : Int32), bits = ((pp &&& (255 : Int32)) % (129 : Int32)) ∧ ∀ t, Steps p.tables e below (s₁.setTop (mkF m 11 #[.val (.int pp), .val (.long m0), .second, .val (.long m1), .second, .val (.long q0), .second, .val (.long q1), .second, .val (.int bits), .unset, .unset, .unset, .unset, .unset, .unset, .unset, .unset, .unset, .unset, .unset, .unset, .unset, .unset, .unset] [])) t → Steps p.tables e below (s₁.setTop (entryFrame m #[(.int pp), (.long m0), (.long m1), (.long q0), (.long q1)] maxLocals)) t := ⟨((pp &&& (255 : Int32)) % (129 : Int32)), rfl, k2128⟩
  obtain ⟨hb0, hb1⟩ := own_bits pp bits hbits
  have k2130 : ∀ t, Steps p.tables e below (s₁.setTop (mkF m 15 #[.val (.int pp), .val (.long m0), .second, .val (.long m1), .second, .val (.long q0), .second, .val (.long q1), .second, .val (.int bits), .unset, .unset, .unset, .unset, .unset, .unset, .unset, .unset, .unset, .unset, .unset, .unset, .unset, .unset, .unset] [(.int (64 : Int32)), (.int bits)])) t → Steps p.tables e below (s₁.setTop (entryFrame m #[(.int pp), (.long m0), (.long m1), (.long q0), (.long q1)] maxLocals)) t := fun t hk => k2129 t (by
    show Steps p.tables e below (s₁.setTop (mkF m 11 #[.val (.int pp), .val (.long m0), .second, .val (.long m1), .second, .val (.long q0), .second, .val (.long q1), .second, .val (.int bits), .unset, .unset, .unset, .unset, .unset, .unset, .unset, .unset, .unset, .unset, .unset, .unset, .unset, .unset, .unset] [])) _
    refine XS.iload X0.here hx rfl (hb hby at_11) rfl ?_
    refine XS.bipush X0.here hx rfl (hb hby at_13) ?_
    exact hk)
  obtain ⟨f0, hf0, k2131⟩ : ∃ (f0 : Int64), (f0 = (if bits < (64 : Int32) then (((1 : Int64) <<< (bits &&& 0x3f).toInt64) - (1 : Int64)) else (-1 : Int64))) ∧ ∀ t, Steps p.tables e below (s₁.setTop (mkF m 30 #[.val (.int pp), .val (.long m0), .second, .val (.long m1), .second, .val (.long q0), .second, .val (.long q1), .second, .val (.int bits), .unset, .unset, .unset, .unset, .unset, .unset, .unset, .unset, .unset, .unset, .unset, .unset, .unset, .unset, .unset] [(.long f0)])) t → Steps p.tables e below (s₁.setTop (entryFrame m #[(.int pp), (.long m0), (.long m1), (.long q0), (.long q1)] maxLocals)) t := by
    by_cases hc15 : bits < (64 : Int32)
    ·
      refine ⟨(((1 : Int64) <<< (bits &&& 0x3f).toInt64) - (1 : Int64)), ((if_pos hc15).trans rfl).symm, fun t hk => k2130 t ?_⟩
      show Steps p.tables e below (s₁.setTop (mkF m 15 #[.val (.int pp), .val (.long m0), .second, .val (.long m1), .second, .val (.long q0), .second, .val (.long q1), .second, .val (.int bits), .unset, .unset, .unset, .unset, .unset, .unset, .unset, .unset, .unset, .unset, .unset, .unset, .unset, .unset, .unset] [(.int (64 : Int32)), (.int bits)])) _
      refine XS.icmpYes X0.here hx rfl (pc0 := 15) (pc' := 24) rfl (hb hby at_15) rfl (tlt hc15).1 (by decide) (by decide) ?_
      refine XS.lconst X0.here hx rfl (hb hby at_24) ?_
      refine XS.iload X0.here hx rfl (hb hby at_25) rfl ?_
      refine XS.lshl X0.here hx rfl (hb hby at_27) rfl ?_
      show Steps p.tables e below (s₁.setTop (mkF m 28 #[.val (.int pp), .val (.long m0), .second, .val (.long m1), .second, .val (.long q0), .second, .val (.long q1), .second, .val (.int bits), .unset, .unset, .unset, .unset, .unset, .unset, .unset, .unset, .unset, .unset, .unset, .unset, .unset, .unset, .unset] [(.long ((1 : Int64) <<< (bits &&& 0x3f).toInt64))])) _
      refine XS.lconst X0.here hx rfl (hb hby at_28) ?_
      refine XS.lsub X0.here hx rfl (hb hby at_29) rfl ?_
      exact hk
    ·
      refine ⟨(-1 : Int64), ((if_neg hc15).trans rfl).symm, fun t hk => k2130 t ?_⟩
      show Steps p.tables e below (s₁.setTop (mkF m 15 #[.val (.int pp), .val (.long m0), .second, .val (.long m1), .second, .val (.long q0), .second, .val (.long q1), .second, .val (.int bits), .unset, .unset, .unset, .unset, .unset, .unset, .unset, .unset, .unset, .unset, .unset, .unset, .unset, .unset, .unset] [(.int (64 : Int32)), (.int bits)])) _
      refine XS.icmpNo X0.here hx rfl (hb hby at_15) rfl (flt hc15).1 ?_
      refine X0.ldc2Long hx hown (mvT hZ (hw _ (List.mem_of_getElem? (i := 98) rfl))) (g := (mkF m 18 #[.val (.int pp), .val (.long m0), .second, .val (.long m1), .second, .val (.long q0), .second, .val (.long q1), .second, .val (.int bits), .unset, .unset, .unset, .unset, .unset, .unset, .unset, .unset, .unset, .unset, .unset, .unset, .unset, .unset, .unset] [])) rfl (hb hby at_18) _ ?_
      refine XS.goto X0.here hx rfl (pc0 := 21) (pc' := 30) rfl (hb hby at_21) (by decide) (by decide) ?_
      exact hk
  have k2132 : ∀ t, Steps p.tables e below (s₁.setTop (mkF m 37 #[.val (.int pp), .val (.long m0), .second, .val (.long m1), .second, .val (.long q0), .second, .val (.long q1), .second, .val (.int bits), .val (.long f0), .second, .unset, .unset, .unset, .unset, .unset, .unset, .unset, .unset, .unset, .unset, .unset, .unset, .unset] [(.int (128 : Int32)), (.int bits)])) t → Steps p.tables e below (s₁.setTop (entryFrame m #[(.int pp), (.long m0), (.long m1), (.long q0), (.long q1)] maxLocals)) t := fun t hk => k2131 t (by
    show Steps p.tables e below (s₁.setTop (mkF m 30 #[.val (.int pp), .val (.long m0), .second, .val (.long m1), .second, .val (.long q0), .second, .val (.long q1), .second, .val (.int bits), .unset, .unset, .unset, .unset, .unset, .unset, .unset, .unset, .unset, .unset, .unset, .unset, .unset, .unset, .unset] [(.long f0)])) _
    refine XS.lstore X0.here hx rfl (hb hby at_30) rfl (l' := #[.val (.int pp), .val (.long m0), .second, .val (.long m1), .second, .val (.long q0), .second, .val (.long q1), .second, .val (.int bits), .val (.long f0), .second, .unset, .unset, .unset, .unset, .unset, .unset, .unset, .unset, .unset, .unset, .unset, .unset, .unset]) rfl ?_
    refine XS.iload X0.here hx rfl (hb hby at_32) rfl ?_
    refine XS.sipush X0.here hx rfl (hb hby at_34) ?_
    exact hk)
  obtain ⟨f1, hf1, k2133⟩ : ∃ (f1 : Int64), (f1 = (if bits < (128 : Int32) then (if (64 : Int32) < bits then (((1 : Int64) <<< ((bits - (64 : Int32)) &&& 0x3f).toInt64) - (1 : Int64)) else (0 : Int64)) else (-1 : Int64))) ∧ ∀ t, Steps p.tables e below (s₁.setTop (mkF m 66 #[.val (.int pp), .val (.long m0), .second, .val (.long m1), .second, .val (.long q0), .second, .val (.long q1), .second, .val (.int bits), .val (.long f0), .second, .unset, .unset, .unset, .unset, .unset, .unset, .unset, .unset, .unset, .unset, .unset, .unset, .unset] [(.long f1)])) t → Steps p.tables e below (s₁.setTop (entryFrame m #[(.int pp), (.long m0), (.long m1), (.long q0), (.long q1)] maxLocals)) t := by
    by_cases hc37 : bits < (128 : Int32)
    ·
      by_cases hc50 : (64 : Int32) < bits
      ·
        refine ⟨(((1 : Int64) <<< ((bits - (64 : Int32)) &&& 0x3f).toInt64) - (1 : Int64)), ((if_pos hc37).trans ((if_pos hc50).trans rfl)).symm, fun t hk => k2132 t ?_⟩
        show Steps p.tables e below (s₁.setTop (mkF m 37 #[.val (.int pp), .val (.long m0), .second, .val (.long m1), .second, .val (.long q0), .second, .val (.long q1), .second, .val (.int bits), .val (.long f0), .second, .unset, .unset, .unset, .unset, .unset, .unset, .unset, .unset, .unset, .unset, .unset, .unset, .unset] [(.int (128 : Int32)), (.int bits)])) _
        refine XS.icmpYes X0.here hx rfl (pc0 := 37) (pc' := 46) rfl (hb hby at_37) rfl (tlt hc37).1 (by decide) (by decide) ?_
        refine XS.iload X0.here hx rfl (hb hby at_46) rfl ?_
        refine XS.bipush X0.here hx rfl (hb hby at_48) ?_
        refine XS.icmpYes X0.here hx rfl (pc0 := 50) (pc' := 57) rfl (hb hby at_50) rfl (tlt hc50).2.2.1 (by decide) (by decide) ?_
        refine XS.lconst X0.here hx rfl (hb hby at_57) ?_
        refine XS.iload X0.here hx rfl (hb hby at_58) rfl ?_
        refine XS.bipush X0.here hx rfl (hb hby at_60) ?_
        show Steps p.tables e below (s₁.setTop (mkF m 62 #[.val (.int pp), .val (.long m0), .second, .val (.long m1), .second, .val (.long q0), .second, .val (.long q1), .second, .val (.int bits), .val (.long f0), .second, .unset, .unset, .unset, .unset, .unset, .unset, .unset, .unset, .unset, .unset, .unset, .unset, .unset] [(.int (64 : Int32)), (.int bits), (.long (1 : Int64))])) _
        refine XS.isub X0.here hx rfl (hb hby at_62) rfl ?_
        refine XS.lshl X0.here hx rfl (hb hby at_63) rfl ?_
        refine XS.lconst X0.here hx rfl (hb hby at_64) ?_
        refine XS.lsub X0.here hx rfl (hb hby at_65) rfl ?_
        exact hk
      ·
        refine ⟨(0 : Int64), ((if_pos hc37).trans ((if_neg hc50).trans rfl)).symm, fun t hk => k2132 t ?_⟩
        show Steps p.tables e below (s₁.setTop (mkF m 37 #[.val (.int pp), .val (.long m0), .second, .val (.long m1), .second, .val (.long q0), .second, .val (.long q1), .second, .val (.int bits), .val (.long f0), .second, .unset, .unset, .unset, .unset, .unset, .unset, .unset, .unset, .unset, .unset, .unset, .unset, .unset] [(.int (128 : Int32)), (.int bits)])) _
        refine XS.icmpYes X0.here hx rfl (pc0 := 37) (pc' := 46) rfl (hb hby at_37) rfl (tlt hc37).1 (by decide) (by decide) ?_
        refine XS.iload X0.here hx rfl (hb hby at_46) rfl ?_
        refine XS.bipush X0.here hx rfl (hb hby at_48) ?_
        show Steps p.tables e below (s₁.setTop (mkF m 50 #[.val (.int pp), .val (.long m0), .second, .val (.long m1), .second, .val (.long q0), .second, .val (.long q1), .second, .val (.int bits), .val (.long f0), .second, .unset, .unset, .unset, .unset, .unset, .unset, .unset, .unset, .unset, .unset, .unset, .unset, .unset] [(.int (64 : Int32)), (.int bits)])) _
        refine XS.icmpNo X0.here hx rfl (hb hby at_50) rfl (flt hc50).2.2.1 ?_
        show Steps p.tables e below (s₁.setTop (mkF m 53 #[.val (.int pp), .val (.long m0), .second, .val (.long m1), .second, .val (.long q0), .second, .val (.long q1), .second, .val (.int bits), .val (.long f0), .second, .unset, .unset, .unset, .unset, .unset, .unset, .unset, .unset, .unset, .unset, .unset, .unset, .unset] [])) _
        refine XS.lconst X0.here hx rfl (hb hby at_53) ?_
        refine XS.goto X0.here hx rfl (pc0 := 54) (pc' := 66) rfl (hb hby at_54) (by decide) (by decide) ?_
        exact hk
    ·
      refine ⟨(-1 : Int64), ((if_neg hc37).trans rfl).symm, fun t hk => k2132 t ?_⟩
      show Steps p.tables e below (s₁.setTop (mkF m 37 #[.val (.int pp), .val (.long m0), .second, .val (.long m1), .second, .val (.long q0), .second, .val (.long q1), .second, .val (.int bits), .val (.long f0), .second, .unset, .unset, .unset, .unset, .unset, .unset, .unset, .unset, .unset, .unset, .unset, .unset, .unset] [(.int (128 : Int32)), (.int bits)])) _
      refine XS.icmpNo X0.here hx rfl (hb hby at_37) rfl (flt hc37).1 ?_
      refine X0.ldc2Long hx hown (mvT hZ (hw _ (List.mem_of_getElem? (i := 98) rfl))) (g := (mkF m 40 #[.val (.int pp), .val (.long m0), .second, .val (.long m1), .second, .val (.long q0), .second, .val (.long q1), .second, .val (.int bits), .val (.long f0), .second, .unset, .unset, .unset, .unset, .unset, .unset, .unset, .unset, .unset, .unset, .unset, .unset, .unset] [])) rfl (hb hby at_40) _ ?_
      refine XS.goto X0.here hx rfl (pc0 := 43) (pc' := 66) rfl (hb hby at_43) (by decide) (by decide) ?_
      exact hk
  have k2134 : ∀ t, Steps p.tables e below (s₁.setTop (mkF m 74 #[.val (.int pp), .val (.long m0), .second, .val (.long m1), .second, .val (.long q0), .second, .val (.long q1), .second, .val (.int bits), .val (.long f0), .second, .val (.long f1), .second, .val (.long (f0 &&& m0)), .second, .unset, .unset, .unset, .unset, .unset, .unset, .unset, .unset, .unset] [])) t → Steps p.tables e below (s₁.setTop (entryFrame m #[(.int pp), (.long m0), (.long m1), (.long q0), (.long q1)] maxLocals)) t := fun t hk => k2133 t (by
    show Steps p.tables e below (s₁.setTop (mkF m 66 #[.val (.int pp), .val (.long m0), .second, .val (.long m1), .second, .val (.long q0), .second, .val (.long q1), .second, .val (.int bits), .val (.long f0), .second, .unset, .unset, .unset, .unset, .unset, .unset, .unset, .unset, .unset, .unset, .unset, .unset, .unset] [(.long f1)])) _
    refine XS.lstore X0.here hx rfl (hb hby at_66) rfl (l' := #[.val (.int pp), .val (.long m0), .second, .val (.long m1), .second, .val (.long q0), .second, .val (.long q1), .second, .val (.int bits), .val (.long f0), .second, .val (.long f1), .second, .unset, .unset, .unset, .unset, .unset, .unset, .unset, .unset, .unset, .unset, .unset]) rfl ?_
    refine XS.lload X0.here hx rfl (hb hby at_68) rfl ?_
    refine XS.lloadN X0.here hx rfl (hb hby at_70) rfl ?_
    refine XS.land X0.here hx rfl (hb hby at_71) rfl ?_
    show Steps p.tables e below (s₁.setTop (mkF m 72 #[.val (.int pp), .val (.long m0), .second, .val (.long m1), .second, .val (.long q0), .second, .val (.long q1), .second, .val (.int bits), .val (.long f0), .second, .val (.long f1), .second, .unset, .unset, .unset, .unset, .unset, .unset, .unset, .unset, .unset, .unset, .unset] [(.long (f0 &&& m0))])) _
    refine XS.lstore X0.here hx rfl (hb hby at_72) rfl (l' := #[.val (.int pp), .val (.long m0), .second, .val (.long m1), .second, .val (.long q0), .second, .val (.long q1), .second, .val (.int bits), .val (.long f0), .second, .val (.long f1), .second, .val (.long (f0 &&& m0)), .second, .unset, .unset, .unset, .unset, .unset, .unset, .unset, .unset, .unset]) rfl ?_
    exact hk)
  obtain ⟨s0, hs0, k2135⟩ : ∃ (s0 : Int64), s0 = (f0 &&& m0) ∧ ∀ t, Steps p.tables e below (s₁.setTop (mkF m 74 #[.val (.int pp), .val (.long m0), .second, .val (.long m1), .second, .val (.long q0), .second, .val (.long q1), .second, .val (.int bits), .val (.long f0), .second, .val (.long f1), .second, .val (.long s0), .second, .unset, .unset, .unset, .unset, .unset, .unset, .unset, .unset, .unset] [])) t → Steps p.tables e below (s₁.setTop (entryFrame m #[(.int pp), (.long m0), (.long m1), (.long q0), (.long q1)] maxLocals)) t := ⟨(f0 &&& m0), rfl, k2134⟩
  have k2136 : ∀ t, Steps p.tables e below (s₁.setTop (mkF m 80 #[.val (.int pp), .val (.long m0), .second, .val (.long m1), .second, .val (.long q0), .second, .val (.long q1), .second, .val (.int bits), .val (.long f0), .second, .val (.long f1), .second, .val (.long s0), .second, .val (.long (f1 &&& m1)), .second, .unset, .unset, .unset, .unset, .unset, .unset, .unset] [])) t → Steps p.tables e below (s₁.setTop (entryFrame m #[(.int pp), (.long m0), (.long m1), (.long q0), (.long q1)] maxLocals)) t := fun t hk => k2135 t (by
    show Steps p.tables e below (s₁.setTop (mkF m 74 #[.val (.int pp), .val (.long m0), .second, .val (.long m1), .second, .val (.long q0), .second, .val (.long q1), .second, .val (.int bits), .val (.long f0), .second, .val (.long f1), .second, .val (.long s0), .second, .unset, .unset, .unset, .unset, .unset, .unset, .unset, .unset, .unset] [])) _
    refine XS.lload X0.here hx rfl (hb hby at_74) rfl ?_
    refine XS.lloadN X0.here hx rfl (hb hby at_76) rfl ?_
    refine XS.land X0.here hx rfl (hb hby at_77) rfl ?_
    refine XS.lstore X0.here hx rfl (hb hby at_78) rfl (l' := #[.val (.int pp), .val (.long m0), .second, .val (.long m1), .second, .val (.long q0), .second, .val (.long q1), .second, .val (.int bits), .val (.long f0), .second, .val (.long f1), .second, .val (.long s0), .second, .val (.long (f1 &&& m1)), .second, .unset, .unset, .unset, .unset, .unset, .unset, .unset]) rfl ?_
    exact hk)
  obtain ⟨s1, hs1, k2137⟩ : ∃ (s1 : Int64), s1 = (f1 &&& m1) ∧ ∀ t, Steps p.tables e below (s₁.setTop (mkF m 80 #[.val (.int pp), .val (.long m0), .second, .val (.long m1), .second, .val (.long q0), .second, .val (.long q1), .second, .val (.int bits), .val (.long f0), .second, .val (.long f1), .second, .val (.long s0), .second, .val (.long s1), .second, .unset, .unset, .unset, .unset, .unset, .unset, .unset] [])) t → Steps p.tables e below (s₁.setTop (entryFrame m #[(.int pp), (.long m0), (.long m1), (.long q0), (.long q1)] maxLocals)) t := ⟨(f1 &&& m1), rfl, k2136⟩
  obtain ⟨T2138, h2138, X2138, e2138, E2138, A2138, D2138, -, st2138⟩ := newO X0 hx hZ hown (hw _ (List.mem_of_getElem? (i := 0) rfl)) (hw _ (List.mem_of_getElem? (i := 1) rfl)) (hw _ (List.mem_of_getElem? (i := 2) rfl)) e0 (g := (mkF m 80 #[.val (.int pp), .val (.long m0), .second, .val (.long m1), .second, .val (.long q0), .second, .val (.long q1), .second, .val (.int bits), .val (.long f0), .second, .val (.long f1), .second, .val (.long s0), .second, .val (.long s1), .second, .unset, .unset, .unset, .unset, .unset, .unset, .unset] [])) rfl (hb hby at_80) (by decide) (by decide)
  obtain ⟨b2138, g2138⟩ : ∃ z, z = h0.size := ⟨_, rfl⟩
  have g2139 : n0 ≤ b2138 := g2138 ▸ Z0
  rw [← g2138] at A2138 D2138 st2138
  have Z2140 : n0 ≤ h2138.size := Nat.le_trans Z0 E2138.1
  have F2141 : Fld Z h2138 b2138 "com/example/faultline/faultline/engine/Trail" "owners" "[Ljava/lang/Object;" .null := D2138 (Or.inl (hw _ (List.mem_of_getElem? (i := 12) rfl))) (ty := (.array (.object "java/lang/Object"))) (by decide)
  have F2142 : Fld Z h2138 b2138 "com/example/faultline/faultline/engine/Trail" "indexes" "[I" .null := D2138 (Or.inl (hw _ (List.mem_of_getElem? (i := 15) rfl))) (ty := (.array .int)) (by decide)
  have F2143 : Fld Z h2138 b2138 "com/example/faultline/faultline/engine/Trail" "saved" "[J" .null := D2138 (Or.inl (hw _ (List.mem_of_getElem? (i := 18) rfl))) (ty := (.array .long)) (by decide)
  have F2144 : Fld Z h2138 b2138 "com/example/faultline/faultline/engine/Trail" "marks" "[I" .null := D2138 (Or.inl (hw _ (List.mem_of_getElem? (i := 20) rfl))) (ty := (.array .int)) (by decide)
  have F2145 : Fld Z h2138 b2138 "com/example/faultline/faultline/engine/Trail" "outerWorlds" "[J" .null := D2138 (Or.inl (hw _ (List.mem_of_getElem? (i := 22) rfl))) (ty := (.array .long)) (by decide)
  have F2146 : Fld Z h2138 b2138 "com/example/faultline/faultline/engine/Trail" "world" "J" (.long (0 : Int64)) := D2138 (Or.inl (hw _ (List.mem_of_getElem? (i := 75) rfl))) (ty := .long) (by decide)
  have F2147 : Fld Z h2138 b2138 "com/example/faultline/faultline/engine/Trail" "top" "I" (.int (0 : Int32)) := D2138 (Or.inl (hw _ (List.mem_of_getElem? (i := 86) rfl))) (ty := .int) (by decide)
  obtain ⟨_, _, ⟨T2148, L2148, k2148, n2148⟩, -, X2148, ⟨Lc2148, hQ2148, l2148, y2148, z2148⟩, st2148⟩ := X2138.specialBack hx (y := (⟨"com/example/faultline/faultline/engine/Trail", "<init>", "()V"⟩ : MethodName)) rfl hown (mvT hZ (hw _ (List.mem_of_getElem? (i := 3) rfl))) (mvT hZ (hw _ (List.mem_of_getElem? (i := 4) rfl))) (mvT hZ (hw _ (List.mem_of_getElem? (i := 5) rfl))) (by decide) (backOf (W := 1) (rm1 l Z a0 hw [] b2138  h2138 n0 Z2140 A2138 g2139 F2141 F2142 F2143 F2144 F2145 F2147 F2146) hZ (hw _ (List.mem_of_getElem? (i := 5) rfl)) (hw _ (List.mem_of_getElem? (i := 2) rfl)) (by decide) (by decide)) (g := (mkF m 84 #[.val (.int pp), .val (.long m0), .second, .val (.long m1), .second, .val (.long q0), .second, .val (.long q1), .second, .val (.int bits), .val (.long f0), .second, .val (.long f1), .second, .val (.long s0), .second, .val (.long s1), .second, .unset, .unset, .unset, .unset, .unset, .unset, .unset] [(.ref b2138), (.ref b2138)])) rfl (by rw [hml]; rfl) (Steps.refl _) (a := b2138) (argsL := []) (rest := [(.ref b2138)]) (lenOf pd_8 rfl) rfl (by show 2 * 0 + _ ≤ _; exact Nat.le_of_eq rfl) (hb hby at_84) (fun _ _ => ⟨rfl, e2138, (by decide : 1 + 5 ≤ _), (by decide : 9 + 800 ≤ _)⟩)
  dsimp only [Pt.U, Pt.locs, Pt.cells, Pt.slots] at X2148 l2148 y2148 z2148 st2148 hQ2148
  subst l2148 y2148 z2148
  obtain ⟨rfl, N2148q, K2148, ow, ix, sv, so1, so2, so3, hT2148⟩ := hQ2148
  have N2148 := Fr.app N0 N2148q
  have sow : n0 ≤ ow := Nat.le_trans Z2140 so1
  have tlt : @LT.lt Nat instLTNat b2138 ow := Nat.lt_of_lt_of_le A2138.lt so1
  have E2149 := A2138.keep K2148
  have Z2150 : n0 ≤ T2148.heap.size := Nat.le_trans Z2140 K2148.1
  obtain ⟨u2151E, u2151a, u2151b, u2151c, u2151d, u2151e, u2151o, ⟨u2151fi, u2151x⟩, ⟨u2151fs, u2151s⟩⟩ := hT2148
  have hap : OwnApart b2138 ow ix sv := ⟨by show @Ne Nat b2138 ow; omega, by show @Ne Nat b2138 ix; omega, by show @Ne Nat b2138 sv; omega, by show @Ne Nat ow ix; omega, by show @Ne Nat ow sv; omega, by show @Ne Nat ix sv; omega⟩
  have hnew : OwnNew n0 b2138 ow ix sv := ⟨g2139, sow, by show @LE.le Nat instLENat n0 ix; omega, by show @LE.le Nat instLENat n0 sv; omega⟩
  obtain ⟨T2152, h2152, X2152, e2152, E2152, A2152, D2152, -, st2152⟩ := newO X2148 hx hZ hown (hw _ (List.mem_of_getElem? (i := 23) rfl)) (hw _ (List.mem_of_getElem? (i := 24) rfl)) (hw _ (List.mem_of_getElem? (i := 25) rfl)) rfl (g := (mkF m 89 #[.val (.int pp), .val (.long m0), .second, .val (.long m1), .second, .val (.long q0), .second, .val (.long q1), .second, .val (.int bits), .val (.long f0), .second, .val (.long f1), .second, .val (.long s0), .second, .val (.long s1), .second, .val (.ref b2138), .unset, .unset, .unset, .unset, .unset, .unset] [])) rfl (hb hby at_89) (by decide) (by decide)
  obtain ⟨b2152, g2152⟩ : ∃ z, z = T2148.heap.size := ⟨_, rfl⟩
  have ne2153 : b2138 ≠ b2152 := fun q => absurd u2151E.lt (by rw [q, g2152]; exact Nat.lt_irrefl _)
  have ne2154 : ow ≠ b2152 := fun q => absurd u2151o.lt (by rw [q, g2152]; exact Nat.lt_irrefl _)
  have ne2155 : ix ≠ b2152 := fun q => absurd u2151x.lt (by rw [q, g2152]; exact Nat.lt_irrefl _)
  have ne2156 : sv ≠ b2152 := fun q => absurd u2151s.lt (by rw [q, g2152]; exact Nat.lt_irrefl _)
  have g2157 : n0 ≤ b2152 := g2152 ▸ Z2150
  rw [← g2152] at A2152 D2152 st2152
  have F2158 := u2151a.ext E2152
  have F2159 := u2151b.ext E2152
  have F2160 := u2151c.ext E2152
  have F2161 := u2151d.ext E2152
  have F2162 := u2151e.ext E2152
  have E2163 := u2151E.ext E2152
  have A2164 := u2151o.ext E2152
  have A2165 := u2151x.ext E2152
  have A2166 := u2151s.ext E2152
  have Z2167 : n0 ≤ h2152.size := Nat.le_trans Z2150 E2152.1
  have F2168 : Fld Z h2152 b2152 "com/example/faultline/faultline/engine/ReversibleBitSet" "limit" "[I" .null := D2152 (Or.inr (hw _ (List.mem_of_getElem? (i := 31) rfl))) (ty := (.array .int)) (by decide)
  have F2169 : Fld Z h2152 b2152 "com/example/faultline/faultline/engine/ReversibleBitSet" "limitSavedIn" "J" (.long (0 : Int64)) := D2152 (Or.inl (hw _ (List.mem_of_getElem? (i := 34) rfl))) (ty := .long) (by decide)
  have F2170 : Fld Z h2152 b2152 "com/example/faultline/faultline/engine/ReversibleBitSet" "trail" "Lcom/example/faultline/faultline/engine/Trail;" .null := D2152 (Or.inr (hw _ (List.mem_of_getElem? (i := 36) rfl))) (ty := (.object "com/example/faultline/faultline/engine/Trail")) (by decide)
  have F2171 : Fld Z h2152 b2152 "com/example/faultline/faultline/engine/ReversibleBitSet" "words" "[J" .null := D2152 (Or.inr (hw _ (List.mem_of_getElem? (i := 47) rfl))) (ty := (.array .long)) (by decide)
  have F2172 : Fld Z h2152 b2152 "com/example/faultline/faultline/engine/ReversibleBitSet" "savedIn" "[J" .null := D2152 (Or.inr (hw _ (List.mem_of_getElem? (i := 49) rfl))) (ty := (.array .long)) (by decide)
  have F2173 : Fld Z h2152 b2152 "com/example/faultline/faultline/engine/ReversibleBitSet" "nonZero" "[I" .null := D2152 (Or.inr (hw _ (List.mem_of_getElem? (i := 51) rfl))) (ty := (.array .int)) (by decide)
  have F2174 : Fld Z h2152 b2152 "com/example/faultline/faultline/engine/ReversibleBitSet" "mask" "[J" .null := D2152 (Or.inr (hw _ (List.mem_of_getElem? (i := 53) rfl))) (ty := (.array .long)) (by decide)
  have k2175 : ∀ t, Steps p.tables e below (T2152.setTop (mkF m 97 #[.val (.int pp), .val (.long m0), .second, .val (.long m1), .second, .val (.long q0), .second, .val (.long q1), .second, .val (.int bits), .val (.long f0), .second, .val (.long f1), .second, .val (.long s0), .second, .val (.long s1), .second, .val (.ref b2138), .unset, .unset, .unset, .unset, .unset, .unset] [(.int bits), (.ref b2138), (.ref b2152), (.ref b2152)])) t → Steps p.tables e below (s₁.setTop (entryFrame m #[(.int pp), (.long m0), (.long m1), (.long q0), (.long q1)] maxLocals)) t := fun t hk => k2137 t (by
    show Steps p.tables e below (s₁.setTop (mkF m 80 #[.val (.int pp), .val (.long m0), .second, .val (.long m1), .second, .val (.long q0), .second, .val (.long q1), .second, .val (.int bits), .val (.long f0), .second, .val (.long f1), .second, .val (.long s0), .second, .val (.long s1), .second, .unset, .unset, .unset, .unset, .unset, .unset, .unset] [])) _
    refine st2138 _ ?_
    refine XS.dup X2138.here hx rfl (hb hby at_83) rfl rfl ?_
    refine st2148.trans ?_
    refine XS.astore X2148.here hx rfl (hb hby at_87) rfl rfl (l' := #[.val (.int pp), .val (.long m0), .second, .val (.long m1), .second, .val (.long q0), .second, .val (.long q1), .second, .val (.int bits), .val (.long f0), .second, .val (.long f1), .second, .val (.long s0), .second, .val (.long s1), .second, .val (.ref b2138), .unset, .unset, .unset, .unset, .unset, .unset]) rfl ?_
    show Steps p.tables e below (T2148.setTop (mkF m 89 #[.val (.int pp), .val (.long m0), .second, .val (.long m1), .second, .val (.long q0), .second, .val (.long q1), .second, .val (.int bits), .val (.long f0), .second, .val (.long f1), .second, .val (.long s0), .second, .val (.long s1), .second, .val (.ref b2138), .unset, .unset, .unset, .unset, .unset, .unset] [])) _
    refine st2152 _ ?_
    refine XS.dup X2152.here hx rfl (hb hby at_92) rfl rfl ?_
    refine XS.aload X2152.here hx rfl (hb hby at_93) rfl rfl ?_
    refine XS.iload X2152.here hx rfl (hb hby at_95) rfl ?_
    exact hk)
  rcases own_split bits hb0 hb1 with ⟨hwc, hbl, hbh⟩ | ⟨hwc, hbl, hbh⟩ | ⟨hwc, hbl, hbh⟩
  ·
    have szst : h2152.size ≤ h2152.size := Nat.le_refl _
    obtain ⟨_, _, ⟨T2176, L2176, k2176, n2176⟩, -, X2176, ⟨Lc2176, hQ2176, l2176, y2176, z2176⟩, st2176⟩ := X2152.specialBack hx (y := (⟨"com/example/faultline/faultline/engine/ReversibleBitSet", "<init>", "(Lcom/example/faultline/faultline/engine/Trail;I)V"⟩ : MethodName)) rfl hown (mvT hZ (hw _ (List.mem_of_getElem? (i := 26) rfl))) (mvT hZ (hw _ (List.mem_of_getElem? (i := 27) rfl))) (mvT hZ (hw _ (List.mem_of_getElem? (i := 28) rfl))) (by decide) (backOf (W := 1) (rmi0 l Z a0 hw [] b2152 b2138 bits  h2152 n0 Z2167 hwc A2152 g2157 F2170 F2168 F2171 F2172 F2173 F2174 F2169) hZ (hw _ (List.mem_of_getElem? (i := 28) rfl)) (hw _ (List.mem_of_getElem? (i := 25) rfl)) (by decide) (by decide)) (g := (mkF m 97 #[.val (.int pp), .val (.long m0), .second, .val (.long m1), .second, .val (.long q0), .second, .val (.long q1), .second, .val (.int bits), .val (.long f0), .second, .val (.long f1), .second, .val (.long s0), .second, .val (.long s1), .second, .val (.ref b2138), .unset, .unset, .unset, .unset, .unset, .unset] [(.int bits), (.ref b2138), (.ref b2152), (.ref b2152)])) rfl (by rw [hml]; rfl) (Steps.refl _) (a := b2152) (argsL := [(.ref b2138), (.int bits)]) (rest := [(.ref b2152)]) (lenOf pd_9 rfl) rfl (by show 2 * 0 + _ ≤ _; exact Nat.le_of_eq rfl) (hb hby at_97) (fun _ _ => ⟨rfl, e2152, (by decide : 7 + 5 ≤ _), (by decide : 816 + 1 ≤ _)⟩)
    dsimp only [Pt.U, Pt.locs, Pt.cells, Pt.slots] at X2176 l2176 y2176 z2176 st2176 hQ2176
    subst l2176 y2176 z2176
    obtain ⟨rfl, N2176q, K2176, lim, wo, sa, nz, ma, x0, x1, y0, y1, o1, o2, o3, o4, o5, hS, Vl, Vo, Vs, Vn, Vm, El, Eo⟩ := hQ2176
    have N2176 := Fr.app N2148 N2176q
    have u_b2152 : @LT.lt Nat instLTNat b2152 (h2152.size) := A2152.lt
    have v_b2152_lim : b2152 ≠ lim := by show @Ne Nat b2152 lim; omega
    have v_b2152_wo : b2152 ≠ wo := by show @Ne Nat b2152 wo; omega
    have v_b2152_sa : b2152 ≠ sa := by show @Ne Nat b2152 sa; omega
    have v_b2152_nz : b2152 ≠ nz := by show @Ne Nat b2152 nz; omega
    have v_b2152_ma : b2152 ≠ ma := by show @Ne Nat b2152 ma; omega
    have u_b2138 : @LT.lt Nat instLTNat b2138 (h2152.size) := E2163.lt
    have v_b2138_lim : b2138 ≠ lim := by show @Ne Nat b2138 lim; omega
    have v_b2138_wo : b2138 ≠ wo := by show @Ne Nat b2138 wo; omega
    have v_b2138_sa : b2138 ≠ sa := by show @Ne Nat b2138 sa; omega
    have v_b2138_nz : b2138 ≠ nz := by show @Ne Nat b2138 nz; omega
    have v_b2138_ma : b2138 ≠ ma := by show @Ne Nat b2138 ma; omega
    have u_ow : @LT.lt Nat instLTNat ow (h2152.size) := A2164.lt
    have v_ow_lim : ow ≠ lim := by show @Ne Nat ow lim; omega
    have v_ow_wo : ow ≠ wo := by show @Ne Nat ow wo; omega
    have v_ow_sa : ow ≠ sa := by show @Ne Nat ow sa; omega
    have v_ow_nz : ow ≠ nz := by show @Ne Nat ow nz; omega
    have v_ow_ma : ow ≠ ma := by show @Ne Nat ow ma; omega
    have u_ix : @LT.lt Nat instLTNat ix (h2152.size) := A2165.lt
    have v_ix_lim : ix ≠ lim := by show @Ne Nat ix lim; omega
    have v_ix_wo : ix ≠ wo := by show @Ne Nat ix wo; omega
    have v_ix_sa : ix ≠ sa := by show @Ne Nat ix sa; omega
    have v_ix_nz : ix ≠ nz := by show @Ne Nat ix nz; omega
    have v_ix_ma : ix ≠ ma := by show @Ne Nat ix ma; omega
    have u_sv : @LT.lt Nat instLTNat sv (h2152.size) := A2166.lt
    have v_sv_lim : sv ≠ lim := by show @Ne Nat sv lim; omega
    have v_sv_wo : sv ≠ wo := by show @Ne Nat sv wo; omega
    have v_sv_sa : sv ≠ sa := by show @Ne Nat sv sa; omega
    have v_sv_nz : sv ≠ nz := by show @Ne Nat sv nz; omega
    have v_sv_ma : sv ≠ ma := by show @Ne Nat sv ma; omega
    have gl0 : n0 ≤ lim := Nat.le_trans Z2167 o1
    have gl_wo : n0 ≤ wo := by show @LE.le Nat instLENat n0 wo; omega
    have gl_sa : n0 ≤ sa := by show @LE.le Nat instLENat n0 sa; omega
    have gl_nz : n0 ≤ nz := by show @LE.le Nat instLENat n0 nz; omega
    have gl_ma : n0 ≤ ma := by show @LE.le Nat instLENat n0 ma; omega
    have v_lim_wo : lim ≠ wo := by show @Ne Nat lim wo; omega
    have v_lim_sa : lim ≠ sa := by show @Ne Nat lim sa; omega
    have v_lim_nz : lim ≠ nz := by show @Ne Nat lim nz; omega
    have v_lim_ma : lim ≠ ma := by show @Ne Nat lim ma; omega
    have v_wo_sa : wo ≠ sa := by show @Ne Nat wo sa; omega
    have v_wo_nz : wo ≠ nz := by show @Ne Nat wo nz; omega
    have v_wo_ma : wo ≠ ma := by show @Ne Nat wo ma; omega
    have v_sa_nz : sa ≠ nz := by show @Ne Nat sa nz; omega
    have v_sa_ma : sa ≠ ma := by show @Ne Nat sa ma; omega
    have v_nz_ma : nz ≠ ma := by show @Ne Nat nz ma; omega
    have F2177 := F2158.keep K2176 (ninS ne2153 nin0)
    have F2178 := F2159.keep K2176 (ninS ne2153 nin0)
    have F2179 := F2160.keep K2176 (ninS ne2153 nin0)
    have F2180 := F2161.keep K2176 (ninS ne2153 nin0)
    have F2181 := F2162.keep K2176 (ninS ne2153 nin0)
    have E2182 := E2163.keep K2176
    have E2183 := A2152.keep K2176
    have A2184 := A2164.keep K2176 (ninS ne2154 nin0)
    have A2185 := A2165.keep K2176 (ninS ne2155 nin0)
    have A2186 := A2166.keep K2176 (ninS ne2156 nin0)
    have Z2187 : n0 ≤ T2176.heap.size := Nat.le_trans Z2167 K2176.1
    obtain ⟨u2188E, u2188a, u2188b, u2188c, u2188d, u2188e, u2188f, u2188g⟩ := hS
    obtain ⟨T2189, h2189, k2189, X2189, e2189, E2189, A2189, Y2189, st2189⟩ := newPE X2176 hx hZ (hw _ (List.mem_of_getElem? (i := 16) rfl)) rfl (g := (mkF m 103 #[.val (.int pp), .val (.long m0), .second, .val (.long m1), .second, .val (.long q0), .second, .val (.long q1), .second, .val (.int bits), .val (.long f0), .second, .val (.long f1), .second, .val (.long s0), .second, .val (.long s1), .second, .val (.ref b2138), .val (.ref b2152), .unset, .unset, .unset, .unset, .unset] [(.int (2 : Int32))])) rfl (hb hby at_103) rfl (by decide) (cap := 2) (by decide) (by decide) (by decide) (by decide) (ad := "[J") (by decide)
    obtain ⟨b2189, g2189⟩ : ∃ z, z = T2176.heap.size := ⟨_, rfl⟩
    have ne2190 : b2138 ≠ b2189 := fun q => absurd E2182.lt (by rw [q, g2189]; exact Nat.lt_irrefl _)
    have ne2191 : b2152 ≠ b2189 := fun q => absurd u2188E.lt (by rw [q, g2189]; exact Nat.lt_irrefl _)
    have ne2192 : lim ≠ b2189 := fun q => absurd El.lt (by rw [q, g2189]; exact Nat.lt_irrefl _)
    have ne2193 : wo ≠ b2189 := fun q => absurd Eo.lt (by rw [q, g2189]; exact Nat.lt_irrefl _)
    have ne2194 : ow ≠ b2189 := fun q => absurd A2184.lt (by rw [q, g2189]; exact Nat.lt_irrefl _)
    have ne2195 : ix ≠ b2189 := fun q => absurd A2185.lt (by rw [q, g2189]; exact Nat.lt_irrefl _)
    have ne2196 : sv ≠ b2189 := fun q => absurd A2186.lt (by rw [q, g2189]; exact Nat.lt_irrefl _)
    have ne2197 : sa ≠ b2189 := fun q => absurd Vs.lt (by rw [q, g2189]; exact Nat.lt_irrefl _)
    have ne2198 : nz ≠ b2189 := fun q => absurd Vn.lt (by rw [q, g2189]; exact Nat.lt_irrefl _)
    have ne2199 : ma ≠ b2189 := fun q => absurd Vm.lt (by rw [q, g2189]; exact Nat.lt_irrefl _)
    have g2200 : n0 ≤ b2189 := g2189 ▸ Z2187
    rw [← g2189] at A2189 Y2189 st2189
    have F2201 := F2177.ext E2189
    have F2202 := F2178.ext E2189
    have F2203 := F2179.ext E2189
    have F2204 := F2180.ext E2189
    have F2205 := F2181.ext E2189
    have F2206 := u2188a.ext E2189
    have F2207 := u2188b.ext E2189
    have F2208 := u2188c.ext E2189
    have F2209 := u2188d.ext E2189
    have F2210 := u2188e.ext E2189
    have F2211 := u2188f.ext E2189
    have F2212 := u2188g.ext E2189
    have E2213 := E2182.ext E2189
    have E2214 := u2188E.ext E2189
    have E2215 := El.ext E2189
    have E2216 := Eo.ext E2189
    have A2217 := A2184.ext E2189
    have A2218 := A2185.ext E2189
    have A2219 := A2186.ext E2189
    have A2220 := Vl.ext E2189
    have A2221 := Vo.ext E2189
    have A2222 := Vs.ext E2189
    have A2223 := Vn.ext E2189
    have A2224 := Vm.ext E2189
    have Z2225 : n0 ≤ h2189.size := Nat.le_trans Z2187 E2189.1
    have A2226 : OwnAV Z h2189 b2189 .long 2 (fun i => (.long ((fun _ => (0 : Int64)) i))) := OwnAV.new A2189 rfl (by decide)
    have A2227 : OwnAV Z h2189 b2189 .long 2 (fun i => (.long ((own_l2 (0 : Int64) (0 : Int64)) i))) := A2226.congr (fun j hj => by
        have q : j = 0 ∨ j = 1 := by omega
        rcases q with rfl | rfl <;> rfl)
    obtain ⟨T2228, h2228, X2228, e2228, W2228, st2228⟩ := own_last X2189 hx hZ e2189 A2227 (k := 0) ⟨by decide, rfl, by decide⟩ (g := (mkF m 108 #[.val (.int pp), .val (.long m0), .second, .val (.long m1), .second, .val (.long q0), .second, .val (.long q1), .second, .val (.int bits), .val (.long f0), .second, .val (.long f1), .second, .val (.long s0), .second, .val (.long s1), .second, .val (.ref b2138), .val (.ref b2152), .unset, .unset, .unset, .unset, .unset] [(.long m0), (.int (0 : Int32)), (.ref b2189), (.ref b2189)])) rfl rfl (hb hby at_108)
    have A2229 : OwnAV Z h2228 b2189 .long 2 (fun i => (.long ((own_l2 m0 (0 : Int64)) i))) := (A2227.storeJ W2228).congr (fun j hj => by
        have q : j = 0 ∨ j = 1 := by omega
        rcases q with rfl | rfl <;> rfl)
    have F2230 := F2201.other W2228 (Or.inl ne2190)
    have F2231 := F2202.other W2228 (Or.inl ne2190)
    have F2232 := F2203.other W2228 (Or.inl ne2190)
    have F2233 := F2204.other W2228 (Or.inl ne2190)
    have F2234 := F2205.other W2228 (Or.inl ne2190)
    have F2235 := F2206.other W2228 (Or.inl ne2191)
    have F2236 := F2207.other W2228 (Or.inl ne2191)
    have F2237 := F2208.other W2228 (Or.inl ne2191)
    have F2238 := F2209.other W2228 (Or.inl ne2191)
    have F2239 := F2210.other W2228 (Or.inl ne2191)
    have F2240 := F2211.other W2228 (Or.inl ne2191)
    have F2241 := F2212.other W2228 (Or.inl ne2191)
    have E2242 := E2213.wr W2228
    have E2243 := E2214.wr W2228
    have E2244 := E2215.wr W2228
    have E2245 := E2216.wr W2228
    have E2246 := Y2189.wr W2228
    have A2247 := A2217.other W2228 ne2194
    have A2248 := A2218.other W2228 ne2195
    have A2249 := A2219.other W2228 ne2196
    have A2250 := A2220.other W2228 ne2192
    have A2251 := A2221.other W2228 ne2193
    have A2252 := A2222.other W2228 ne2197
    have A2253 := A2223.other W2228 ne2198
    have A2254 := A2224.other W2228 ne2199
    have Z2255 : n0 ≤ h2228.size := W2228.size ▸ Z2225
    have N2256 := Fr.snoc X2228 N2176 g2200
    obtain ⟨T2257, h2257, X2257, e2257, W2257, st2257⟩ := own_last X2228 hx hZ e2228 A2229 (k := 1) ⟨by decide, rfl, by decide⟩ (g := (mkF m 112 #[.val (.int pp), .val (.long m0), .second, .val (.long m1), .second, .val (.long q0), .second, .val (.long q1), .second, .val (.int bits), .val (.long f0), .second, .val (.long f1), .second, .val (.long s0), .second, .val (.long s1), .second, .val (.ref b2138), .val (.ref b2152), .unset, .unset, .unset, .unset, .unset] [(.long m1), (.int (1 : Int32)), (.ref b2189), (.ref b2189)])) rfl rfl (hb hby at_112)
    have A2258 : OwnAV Z h2257 b2189 .long 2 (fun i => (.long ((own_l2 m0 m1) i))) := (A2229.storeJ W2257).congr (fun j hj => by
        have q : j = 0 ∨ j = 1 := by omega
        rcases q with rfl | rfl <;> rfl)
    have F2259 := F2230.other W2257 (Or.inl ne2190)
    have F2260 := F2231.other W2257 (Or.inl ne2190)
    have F2261 := F2232.other W2257 (Or.inl ne2190)
    have F2262 := F2233.other W2257 (Or.inl ne2190)
    have F2263 := F2234.other W2257 (Or.inl ne2190)
    have F2264 := F2235.other W2257 (Or.inl ne2191)
    have F2265 := F2236.other W2257 (Or.inl ne2191)
    have F2266 := F2237.other W2257 (Or.inl ne2191)
    have F2267 := F2238.other W2257 (Or.inl ne2191)
    have F2268 := F2239.other W2257 (Or.inl ne2191)
    have F2269 := F2240.other W2257 (Or.inl ne2191)
    have F2270 := F2241.other W2257 (Or.inl ne2191)
    have E2271 := E2242.wr W2257
    have E2272 := E2243.wr W2257
    have E2273 := E2244.wr W2257
    have E2274 := E2245.wr W2257
    have E2275 := E2246.wr W2257
    have A2276 := A2247.other W2257 ne2194
    have A2277 := A2248.other W2257 ne2195
    have A2278 := A2249.other W2257 ne2196
    have A2279 := A2250.other W2257 ne2192
    have A2280 := A2251.other W2257 ne2193
    have A2281 := A2252.other W2257 ne2197
    have A2282 := A2253.other W2257 ne2198
    have A2283 := A2254.other W2257 ne2199
    have Z2284 : n0 ≤ h2257.size := W2257.size ▸ Z2255
    have N2285 := Fr.snoc X2257 N2256 g2200
    obtain ⟨T2286, h2286, k2286, X2286, e2286, E2286, A2286, Y2286, st2286⟩ := newPE X2257 hx hZ (hw _ (List.mem_of_getElem? (i := 16) rfl)) e2257 (g := (mkF m 116 #[.val (.int pp), .val (.long m0), .second, .val (.long m1), .second, .val (.long q0), .second, .val (.long q1), .second, .val (.int bits), .val (.long f0), .second, .val (.long f1), .second, .val (.long s0), .second, .val (.long s1), .second, .val (.ref b2138), .val (.ref b2152), .val (.ref b2189), .unset, .unset, .unset, .unset] [(.int (2 : Int32))])) rfl (hb hby at_116) rfl (by decide) (cap := 2) (by decide) (by decide) (by decide) (by decide) (ad := "[J") (by decide)
    obtain ⟨b2286, g2286⟩ : ∃ z, z = h2257.size := ⟨_, rfl⟩
    have ne2287 : b2138 ≠ b2286 := fun q => absurd E2271.lt (by rw [q, g2286]; exact Nat.lt_irrefl _)
    have ne2288 : b2152 ≠ b2286 := fun q => absurd E2272.lt (by rw [q, g2286]; exact Nat.lt_irrefl _)
    have ne2289 : lim ≠ b2286 := fun q => absurd E2273.lt (by rw [q, g2286]; exact Nat.lt_irrefl _)
    have ne2290 : wo ≠ b2286 := fun q => absurd E2274.lt (by rw [q, g2286]; exact Nat.lt_irrefl _)
    have ne2291 : b2189 ≠ b2286 := fun q => absurd E2275.lt (by rw [q, g2286]; exact Nat.lt_irrefl _)
    have ne2292 : ow ≠ b2286 := fun q => absurd A2276.lt (by rw [q, g2286]; exact Nat.lt_irrefl _)
    have ne2293 : ix ≠ b2286 := fun q => absurd A2277.lt (by rw [q, g2286]; exact Nat.lt_irrefl _)
    have ne2294 : sv ≠ b2286 := fun q => absurd A2278.lt (by rw [q, g2286]; exact Nat.lt_irrefl _)
    have ne2295 : sa ≠ b2286 := fun q => absurd A2281.lt (by rw [q, g2286]; exact Nat.lt_irrefl _)
    have ne2296 : nz ≠ b2286 := fun q => absurd A2282.lt (by rw [q, g2286]; exact Nat.lt_irrefl _)
    have ne2297 : ma ≠ b2286 := fun q => absurd A2283.lt (by rw [q, g2286]; exact Nat.lt_irrefl _)
    have g2298 : n0 ≤ b2286 := g2286 ▸ Z2284
    rw [← g2286] at A2286 Y2286 st2286
    have F2299 := F2259.ext E2286
    have F2300 := F2260.ext E2286
    have F2301 := F2261.ext E2286
    have F2302 := F2262.ext E2286
    have F2303 := F2263.ext E2286
    have F2304 := F2264.ext E2286
    have F2305 := F2265.ext E2286
    have F2306 := F2266.ext E2286
    have F2307 := F2267.ext E2286
    have F2308 := F2268.ext E2286
    have F2309 := F2269.ext E2286
    have F2310 := F2270.ext E2286
    have E2311 := E2271.ext E2286
    have E2312 := E2272.ext E2286
    have E2313 := E2273.ext E2286
    have E2314 := E2274.ext E2286
    have E2315 := E2275.ext E2286
    have A2316 := A2276.ext E2286
    have A2317 := A2277.ext E2286
    have A2318 := A2278.ext E2286
    have A2319 := A2279.ext E2286
    have A2320 := A2280.ext E2286
    have A2321 := A2281.ext E2286
    have A2322 := A2282.ext E2286
    have A2323 := A2283.ext E2286
    have A2324 := A2258.ext E2286
    have Z2325 : n0 ≤ h2286.size := Nat.le_trans Z2284 E2286.1
    have A2326 : OwnAV Z h2286 b2286 .long 2 (fun i => (.long ((fun _ => (0 : Int64)) i))) := OwnAV.new A2286 rfl (by decide)
    have A2327 : OwnAV Z h2286 b2286 .long 2 (fun i => (.long ((own_l2 (0 : Int64) (0 : Int64)) i))) := A2326.congr (fun j hj => by
        have q : j = 0 ∨ j = 1 := by omega
        rcases q with rfl | rfl <;> rfl)
    obtain ⟨T2328, h2328, X2328, e2328, W2328, st2328⟩ := own_last X2286 hx hZ e2286 A2327 (k := 0) ⟨by decide, rfl, by decide⟩ (g := (mkF m 122 #[.val (.int pp), .val (.long m0), .second, .val (.long m1), .second, .val (.long q0), .second, .val (.long q1), .second, .val (.int bits), .val (.long f0), .second, .val (.long f1), .second, .val (.long s0), .second, .val (.long s1), .second, .val (.ref b2138), .val (.ref b2152), .val (.ref b2189), .unset, .unset, .unset, .unset] [(.long q0), (.int (0 : Int32)), (.ref b2286), (.ref b2286)])) rfl rfl (hb hby at_122)
    have A2329 : OwnAV Z h2328 b2286 .long 2 (fun i => (.long ((own_l2 q0 (0 : Int64)) i))) := (A2327.storeJ W2328).congr (fun j hj => by
        have q : j = 0 ∨ j = 1 := by omega
        rcases q with rfl | rfl <;> rfl)
    have F2330 := F2299.other W2328 (Or.inl ne2287)
    have F2331 := F2300.other W2328 (Or.inl ne2287)
    have F2332 := F2301.other W2328 (Or.inl ne2287)
    have F2333 := F2302.other W2328 (Or.inl ne2287)
    have F2334 := F2303.other W2328 (Or.inl ne2287)
    have F2335 := F2304.other W2328 (Or.inl ne2288)
    have F2336 := F2305.other W2328 (Or.inl ne2288)
    have F2337 := F2306.other W2328 (Or.inl ne2288)
    have F2338 := F2307.other W2328 (Or.inl ne2288)
    have F2339 := F2308.other W2328 (Or.inl ne2288)
    have F2340 := F2309.other W2328 (Or.inl ne2288)
    have F2341 := F2310.other W2328 (Or.inl ne2288)
    have E2342 := E2311.wr W2328
    have E2343 := E2312.wr W2328
    have E2344 := E2313.wr W2328
    have E2345 := E2314.wr W2328
    have E2346 := E2315.wr W2328
    have E2347 := Y2286.wr W2328
    have A2348 := A2316.other W2328 ne2292
    have A2349 := A2317.other W2328 ne2293
    have A2350 := A2318.other W2328 ne2294
    have A2351 := A2319.other W2328 ne2289
    have A2352 := A2320.other W2328 ne2290
    have A2353 := A2321.other W2328 ne2295
    have A2354 := A2322.other W2328 ne2296
    have A2355 := A2323.other W2328 ne2297
    have A2356 := A2324.other W2328 ne2291
    have Z2357 : n0 ≤ h2328.size := W2328.size ▸ Z2325
    have N2358 := Fr.snoc X2328 N2285 g2298
    obtain ⟨T2359, h2359, X2359, e2359, W2359, st2359⟩ := own_last X2328 hx hZ e2328 A2329 (k := 1) ⟨by decide, rfl, by decide⟩ (g := (mkF m 127 #[.val (.int pp), .val (.long m0), .second, .val (.long m1), .second, .val (.long q0), .second, .val (.long q1), .second, .val (.int bits), .val (.long f0), .second, .val (.long f1), .second, .val (.long s0), .second, .val (.long s1), .second, .val (.ref b2138), .val (.ref b2152), .val (.ref b2189), .unset, .unset, .unset, .unset] [(.long q1), (.int (1 : Int32)), (.ref b2286), (.ref b2286)])) rfl rfl (hb hby at_127)
    have A2360 : OwnAV Z h2359 b2286 .long 2 (fun i => (.long ((own_l2 q0 q1) i))) := (A2329.storeJ W2359).congr (fun j hj => by
        have q : j = 0 ∨ j = 1 := by omega
        rcases q with rfl | rfl <;> rfl)
    have F2361 := F2330.other W2359 (Or.inl ne2287)
    have F2362 := F2331.other W2359 (Or.inl ne2287)
    have F2363 := F2332.other W2359 (Or.inl ne2287)
    have F2364 := F2333.other W2359 (Or.inl ne2287)
    have F2365 := F2334.other W2359 (Or.inl ne2287)
    have F2366 := F2335.other W2359 (Or.inl ne2288)
    have F2367 := F2336.other W2359 (Or.inl ne2288)
    have F2368 := F2337.other W2359 (Or.inl ne2288)
    have F2369 := F2338.other W2359 (Or.inl ne2288)
    have F2370 := F2339.other W2359 (Or.inl ne2288)
    have F2371 := F2340.other W2359 (Or.inl ne2288)
    have F2372 := F2341.other W2359 (Or.inl ne2288)
    have E2373 := E2342.wr W2359
    have E2374 := E2343.wr W2359
    have E2375 := E2344.wr W2359
    have E2376 := E2345.wr W2359
    have E2377 := E2346.wr W2359
    have E2378 := E2347.wr W2359
    have A2379 := A2348.other W2359 ne2292
    have A2380 := A2349.other W2359 ne2293
    have A2381 := A2350.other W2359 ne2294
    have A2382 := A2351.other W2359 ne2289
    have A2383 := A2352.other W2359 ne2290
    have A2384 := A2353.other W2359 ne2295
    have A2385 := A2354.other W2359 ne2296
    have A2386 := A2355.other W2359 ne2297
    have A2387 := A2356.other W2359 ne2291
    have Z2388 : n0 ≤ h2359.size := W2359.size ▸ Z2357
    have N2389 := Fr.snoc X2359 N2358 g2298
    obtain ⟨cq2390, kq2390, q2390a, q2390b, q2390c⟩ := isOf hZ e2359 E2374
    obtain ⟨_, _, ⟨T2390, L2390, k2390, n2390⟩, -, X2390, ⟨Lc2390, hQ2390, l2390, y2390, z2390⟩, st2390⟩ := X2359.virtualBack hx (y := (⟨"com/example/faultline/faultline/engine/ReversibleBitSet", "addToMask", "([J)V"⟩ : MethodName)) (z := (⟨"com/example/faultline/faultline/engine/ReversibleBitSet", "addToMask", "([J)V"⟩ : MethodName)) hown (mvT hZ (hw _ (List.mem_of_getElem? (i := 54) rfl))) (mvT hZ (hw _ (List.mem_of_getElem? (i := 55) rfl))) (notFace_of_selects (args := #[]) (mvT hZ (hw _ (List.mem_of_getElem? (i := 57) rfl)))) (mvT hZ (hw _ (List.mem_of_getElem? (i := 57) rfl))) (mvT hZ (hw _ (List.mem_of_getElem? (i := 56) rfl))) (by decide) (backOf (W := 0) (rmm0 l Z a0 hw [] b2152 b2189 b2138 lim wo sa nz ma (-1 : Int64) (0 : Int64) (0 : Int64) m0 m1 h2359 n0 Z2388 ⟨E2374, F2366, F2367, F2368, F2369, F2370, F2371, F2372⟩ gl_ma ⟨v_b2152_ma, v_lim_ma, v_nz_ma, (Ne.symm ne2199)⟩ A2382 A2385 A2386 A2387) hZ (hw _ (List.mem_of_getElem? (i := 58) rfl)) (hw _ (List.mem_of_getElem? (i := 25) rfl)) (by decide) (by decide)) q2390a q2390c (g := (mkF m 134 #[.val (.int pp), .val (.long m0), .second, .val (.long m1), .second, .val (.long q0), .second, .val (.long q1), .second, .val (.int bits), .val (.long f0), .second, .val (.long f1), .second, .val (.long s0), .second, .val (.long s1), .second, .val (.ref b2138), .val (.ref b2152), .val (.ref b2189), .val (.ref b2286), .unset, .unset, .unset] [(.ref b2189), (.ref b2152)])) rfl (by rw [hml]; rfl) (Steps.refl _) (argsL := [(.ref b2189)]) (rest := []) (lenOf pd_10 rfl) rfl (by show 2 * 0 + _ ≤ _; exact Nat.le_of_eq rfl) (hb hby at_134) (fun _ _ => ⟨rfl, e2359, (by decide : 14 + 0 ≤ _), (by decide : 821 + 0 ≤ _)⟩)
    dsimp only [Pt.U, Pt.locs, Pt.cells, Pt.slots] at X2390 l2390 y2390 z2390 st2390 hQ2390
    subst l2390 y2390 z2390
    obtain ⟨rfl, N2390q, K2390, Vm2390⟩ := hQ2390
    have N2390 := Fr.app N2389 N2390q
    have F2391 := F2361.keep K2390 (ninS v_b2138_ma nin0)
    have F2392 := F2362.keep K2390 (ninS v_b2138_ma nin0)
    have F2393 := F2363.keep K2390 (ninS v_b2138_ma nin0)
    have F2394 := F2364.keep K2390 (ninS v_b2138_ma nin0)
    have F2395 := F2365.keep K2390 (ninS v_b2138_ma nin0)
    have F2396 := F2366.keep K2390 (ninS v_b2152_ma nin0)
    have F2397 := F2367.keep K2390 (ninS v_b2152_ma nin0)
    have F2398 := F2368.keep K2390 (ninS v_b2152_ma nin0)
    have F2399 := F2369.keep K2390 (ninS v_b2152_ma nin0)
    have F2400 := F2370.keep K2390 (ninS v_b2152_ma nin0)
    have F2401 := F2371.keep K2390 (ninS v_b2152_ma nin0)
    have F2402 := F2372.keep K2390 (ninS v_b2152_ma nin0)
    have E2403 := E2373.keep K2390
    have E2404 := E2374.keep K2390
    have E2405 := E2375.keep K2390
    have E2406 := E2376.keep K2390
    have E2407 := E2377.keep K2390
    have E2408 := E2378.keep K2390
    have A2409 := A2379.keep K2390 (ninS v_ow_ma nin0)
    have A2410 := A2380.keep K2390 (ninS v_ix_ma nin0)
    have A2411 := A2381.keep K2390 (ninS v_sv_ma nin0)
    have A2412 := A2382.keep K2390 (ninS v_lim_ma nin0)
    have A2413 := A2383.keep K2390 (ninS v_wo_ma nin0)
    have A2414 := A2384.keep K2390 (ninS v_sa_ma nin0)
    have A2415 := A2385.keep K2390 (ninS v_nz_ma nin0)
    have A2416 := A2387.keep K2390 (ninS (Ne.symm ne2199) nin0)
    have A2417 := A2360.keep K2390 (ninS (Ne.symm ne2297) nin0)
    have Z2418 : n0 ≤ T2390.heap.size := Nat.le_trans Z2388 K2390.1
    obtain ⟨cq2419, kq2419, q2419a, q2419b, q2419c⟩ := isOf hZ rfl E2404
    obtain ⟨_, _, ⟨T2419, L2419, k2419, n2419⟩, -, X2419, ⟨Lc2419, hQ2419, l2419, y2419, z2419⟩, st2419⟩ := X2390.virtualBack hx (y := (⟨"com/example/faultline/faultline/engine/ReversibleBitSet", "intersectWithMask", "()V"⟩ : MethodName)) (z := (⟨"com/example/faultline/faultline/engine/ReversibleBitSet", "intersectWithMask", "()V"⟩ : MethodName)) hown (mvT hZ (hw _ (List.mem_of_getElem? (i := 59) rfl))) (mvT hZ (hw _ (List.mem_of_getElem? (i := 60) rfl))) (notFace_of_selects (args := #[]) (mvT hZ (hw _ (List.mem_of_getElem? (i := 62) rfl)))) (mvT hZ (hw _ (List.mem_of_getElem? (i := 62) rfl))) (mvT hZ (hw _ (List.mem_of_getElem? (i := 61) rfl))) (by decide) (backOf (W := 0) (rmx0 l Z a0 hw [] b2152 b2138 ow ix sv lim wo sa nz ma x0 x1 y0 y1 (0 : Int64) (0 : Int64) T2390.heap n0 Z2418 ⟨E2403, F2391, F2392, F2393, F2394, F2395, A2409, ⟨_, A2410⟩, ⟨_, A2411⟩⟩ hap hnew ⟨E2404, F2396, F2397, F2398, F2399, F2400, F2401, F2402⟩ ⟨g2157, gl_nz, gl0⟩ gl_wo gl_sa ⟨(Ne.symm ne2153), (Ne.symm ne2154), (Ne.symm ne2155), (Ne.symm ne2156), v_b2152_lim, v_b2152_wo, v_b2152_sa, v_b2152_nz, v_b2152_ma, v_b2138_lim, v_b2138_wo, v_b2138_sa, v_b2138_nz, v_b2138_ma, v_ow_lim, v_ow_wo, v_ow_sa, v_ow_nz, v_ow_ma, v_ix_lim, v_ix_wo, v_ix_sa, v_ix_nz, v_ix_ma, v_sv_lim, v_sv_wo, v_sv_sa, v_sv_nz, v_sv_ma, v_lim_wo, v_lim_sa, v_lim_nz, v_lim_ma, v_wo_sa, v_wo_nz, v_wo_ma, v_sa_nz, v_sa_ma, v_nz_ma⟩ A2412 A2413 A2414 A2415 Vm2390 E2405 E2406) hZ (hw _ (List.mem_of_getElem? (i := 63) rfl)) (hw _ (List.mem_of_getElem? (i := 25) rfl)) (by decide) (by decide)) q2419a q2419c (g := (mkF m 139 #[.val (.int pp), .val (.long m0), .second, .val (.long m1), .second, .val (.long q0), .second, .val (.long q1), .second, .val (.int bits), .val (.long f0), .second, .val (.long f1), .second, .val (.long s0), .second, .val (.long s1), .second, .val (.ref b2138), .val (.ref b2152), .val (.ref b2189), .val (.ref b2286), .unset, .unset, .unset] [(.ref b2152)])) rfl (by rw [hml]; rfl) (Steps.refl _) (argsL := []) (rest := []) (lenOf pd_8 rfl) rfl (by show 2 * 0 + _ ≤ _; exact Nat.le_of_eq rfl) (hb hby at_139) (fun _ _ => ⟨rfl, rfl, (by decide : 14 + 0 ≤ _), (by decide : 821 + 0 ≤ _)⟩)
    dsimp only [Pt.U, Pt.locs, Pt.cells, Pt.slots] at X2419 l2419 y2419 z2419 st2419 hQ2419
    subst l2419 y2419 z2419
    obtain ⟨rfl, N2419q, K2419, ls1, lm, z0, z1, hS2419, Vo2419, Vn2419, Vl2419, hpr⟩ := hQ2419
    have N2419 := Fr.app N2390 N2419q
    have E2420 := E2403.keep K2419
    have E2421 := E2404.keep K2419
    have E2422 := E2405.keep K2419
    have E2423 := E2406.keep K2419
    have E2424 := E2407.keep K2419
    have E2425 := E2408.keep K2419
    have A2426 := A2416.keep K2419 (ninS (Ne.symm ne2191) (ninS (Ne.symm ne2190) (ninS (Ne.symm ne2194) (ninS (Ne.symm ne2195) (ninS (Ne.symm ne2196) (ninS (Ne.symm ne2193) (ninS (Ne.symm ne2197) (ninS (Ne.symm ne2198) (ninS (Ne.symm ne2192) nin0)))))))))
    have A2427 := A2417.keep K2419 (ninS (Ne.symm ne2288) (ninS (Ne.symm ne2287) (ninS (Ne.symm ne2292) (ninS (Ne.symm ne2293) (ninS (Ne.symm ne2294) (ninS (Ne.symm ne2290) (ninS (Ne.symm ne2295) (ninS (Ne.symm ne2296) (ninS (Ne.symm ne2289) nin0)))))))))
    have A2428 := Vm2390.keep K2419 (ninS (Ne.symm v_b2152_ma) (ninS (Ne.symm v_b2138_ma) (ninS (Ne.symm v_ow_ma) (ninS (Ne.symm v_ix_ma) (ninS (Ne.symm v_sv_ma) (ninS (Ne.symm v_wo_ma) (ninS (Ne.symm v_sa_ma) (ninS (Ne.symm v_nz_ma) (ninS (Ne.symm v_lim_ma) nin0)))))))))
    have Z2429 : n0 ≤ T2419.heap.size := Nat.le_trans Z2418 K2419.1
    obtain ⟨cq2430, kq2430, q2430a, q2430b, q2430c⟩ := isOf hZ rfl E2421
    obtain ⟨_, _, ⟨T2430, L2430, k2430, n2430⟩, -, X2430, ⟨Lc2430, hQ2430, l2430, y2430, z2430⟩, st2430⟩ := X2419.virtualBack hx (y := (⟨"com/example/faultline/faultline/engine/ReversibleBitSet", "intersectIndex", "([J)I"⟩ : MethodName)) (z := (⟨"com/example/faultline/faultline/engine/ReversibleBitSet", "intersectIndex", "([J)I"⟩ : MethodName)) hown (mvT hZ (hw _ (List.mem_of_getElem? (i := 64) rfl))) (mvT hZ (hw _ (List.mem_of_getElem? (i := 65) rfl))) (notFace_of_selects (args := #[]) (mvT hZ (hw _ (List.mem_of_getElem? (i := 67) rfl)))) (mvT hZ (hw _ (List.mem_of_getElem? (i := 67) rfl))) (mvT hZ (hw _ (List.mem_of_getElem? (i := 66) rfl))) (by decide) (backOf (W := 0) (rmy0 l Z a0 hw [] b2152 b2286 b2138 lim wo sa nz ma ls1 x0 x1 q0 q1 lm z0 z1 T2419.heap n0 Z2429 hS2419 Vl2419 Vo2419 Vn2419 A2427 hpr) hZ (hw _ (List.mem_of_getElem? (i := 68) rfl)) (hw _ (List.mem_of_getElem? (i := 25) rfl)) (by decide) (by decide)) q2430a q2430c (g := (mkF m 146 #[.val (.int pp), .val (.long m0), .second, .val (.long m1), .second, .val (.long q0), .second, .val (.long q1), .second, .val (.int bits), .val (.long f0), .second, .val (.long f1), .second, .val (.long s0), .second, .val (.long s1), .second, .val (.ref b2138), .val (.ref b2152), .val (.ref b2189), .val (.ref b2286), .unset, .unset, .unset] [(.ref b2286), (.ref b2152)])) rfl (by rw [hml]; rfl) (Steps.refl _) (argsL := [(.ref b2286)]) (rest := []) (lenOf pd_11 rfl) rfl (by show 2 * 0 + _ ≤ _; exact Nat.le_of_eq rfl) (hb hby at_146) (fun _ _ => ⟨rfl, rfl, (by decide : 14 + 0 ≤ _), (by decide : 821 + 0 ≤ _)⟩)
    dsimp only [Pt.U, Pt.locs, Pt.cells, Pt.slots] at X2430 l2430 y2430 z2430 st2430 hQ2430
    subst l2430 y2430 z2430
    obtain ⟨rr, rfl, hrr, N2430q, e2430⟩ := hQ2430
    have N2430 := Fr.app N2419 N2430q
    have k2431 : ∀ t, Steps p.tables e below (T2430.setTop (mkF m 158 #[.val (.int pp), .val (.long m0), .second, .val (.long m1), .second, .val (.long q0), .second, .val (.long q1), .second, .val (.int bits), .val (.long f0), .second, .val (.long f1), .second, .val (.long s0), .second, .val (.long s1), .second, .val (.ref b2138), .val (.ref b2152), .val (.ref b2189), .val (.ref b2286), .val (.int rr), .unset, .unset] [(.int (lcmpW (s0 &&& q0) (0 : Int64)))])) t → Steps p.tables e below (s₁.setTop (entryFrame m #[(.int pp), (.long m0), (.long m1), (.long q0), (.long q1)] maxLocals)) t := fun t hk => k2175 t (by
      show Steps p.tables e below (T2152.setTop (mkF m 97 #[.val (.int pp), .val (.long m0), .second, .val (.long m1), .second, .val (.long q0), .second, .val (.long q1), .second, .val (.int bits), .val (.long f0), .second, .val (.long f1), .second, .val (.long s0), .second, .val (.long s1), .second, .val (.ref b2138), .unset, .unset, .unset, .unset, .unset, .unset] [(.int bits), (.ref b2138), (.ref b2152), (.ref b2152)])) _
      refine st2176.trans ?_
      refine XS.astore X2176.here hx rfl (hb hby at_100) rfl rfl (l' := #[.val (.int pp), .val (.long m0), .second, .val (.long m1), .second, .val (.long q0), .second, .val (.long q1), .second, .val (.int bits), .val (.long f0), .second, .val (.long f1), .second, .val (.long s0), .second, .val (.long s1), .second, .val (.ref b2138), .val (.ref b2152), .unset, .unset, .unset, .unset, .unset]) rfl ?_
      refine XS.iconst X2176.here hx rfl (hb hby at_102) ?_
      refine st2189 _ ?_
      show Steps p.tables e below (T2189.setTop (mkF m 105 #[.val (.int pp), .val (.long m0), .second, .val (.long m1), .second, .val (.long q0), .second, .val (.long q1), .second, .val (.int bits), .val (.long f0), .second, .val (.long f1), .second, .val (.long s0), .second, .val (.long s1), .second, .val (.ref b2138), .val (.ref b2152), .unset, .unset, .unset, .unset, .unset] [(.ref b2189)])) _
      refine XS.dup X2189.here hx rfl (hb hby at_105) rfl rfl ?_
      refine XS.iconst X2189.here hx rfl (hb hby at_106) ?_
      refine XS.lloadN X2189.here hx rfl (hb hby at_107) rfl ?_
      refine st2228 _ ?_
      show Steps p.tables e below (T2228.setTop (mkF m 109 #[.val (.int pp), .val (.long m0), .second, .val (.long m1), .second, .val (.long q0), .second, .val (.long q1), .second, .val (.int bits), .val (.long f0), .second, .val (.long f1), .second, .val (.long s0), .second, .val (.long s1), .second, .val (.ref b2138), .val (.ref b2152), .unset, .unset, .unset, .unset, .unset] [(.ref b2189)])) _
      refine XS.dup X2228.here hx rfl (hb hby at_109) rfl rfl ?_
      refine XS.iconst X2228.here hx rfl (hb hby at_110) ?_
      refine XS.lloadN X2228.here hx rfl (hb hby at_111) rfl ?_
      refine st2257 _ ?_
      show Steps p.tables e below (T2257.setTop (mkF m 113 #[.val (.int pp), .val (.long m0), .second, .val (.long m1), .second, .val (.long q0), .second, .val (.long q1), .second, .val (.int bits), .val (.long f0), .second, .val (.long f1), .second, .val (.long s0), .second, .val (.long s1), .second, .val (.ref b2138), .val (.ref b2152), .unset, .unset, .unset, .unset, .unset] [(.ref b2189)])) _
      refine XS.astore X2257.here hx rfl (hb hby at_113) rfl rfl (l' := #[.val (.int pp), .val (.long m0), .second, .val (.long m1), .second, .val (.long q0), .second, .val (.long q1), .second, .val (.int bits), .val (.long f0), .second, .val (.long f1), .second, .val (.long s0), .second, .val (.long s1), .second, .val (.ref b2138), .val (.ref b2152), .val (.ref b2189), .unset, .unset, .unset, .unset]) rfl ?_
      refine XS.iconst X2257.here hx rfl (hb hby at_115) ?_
      refine st2286 _ ?_
      refine XS.dup X2286.here hx rfl (hb hby at_118) rfl rfl ?_
      show Steps p.tables e below (T2286.setTop (mkF m 119 #[.val (.int pp), .val (.long m0), .second, .val (.long m1), .second, .val (.long q0), .second, .val (.long q1), .second, .val (.int bits), .val (.long f0), .second, .val (.long f1), .second, .val (.long s0), .second, .val (.long s1), .second, .val (.ref b2138), .val (.ref b2152), .val (.ref b2189), .unset, .unset, .unset, .unset] [(.ref b2286), (.ref b2286)])) _
      refine XS.iconst X2286.here hx rfl (hb hby at_119) ?_
      refine XS.lload X2286.here hx rfl (hb hby at_120) rfl ?_
      refine st2328 _ ?_
      refine XS.dup X2328.here hx rfl (hb hby at_123) rfl rfl ?_
      show Steps p.tables e below (T2328.setTop (mkF m 124 #[.val (.int pp), .val (.long m0), .second, .val (.long m1), .second, .val (.long q0), .second, .val (.long q1), .second, .val (.int bits), .val (.long f0), .second, .val (.long f1), .second, .val (.long s0), .second, .val (.long s1), .second, .val (.ref b2138), .val (.ref b2152), .val (.ref b2189), .unset, .unset, .unset, .unset] [(.ref b2286), (.ref b2286)])) _
      refine XS.iconst X2328.here hx rfl (hb hby at_124) ?_
      refine XS.lload X2328.here hx rfl (hb hby at_125) rfl ?_
      refine st2359 _ ?_
      refine XS.astore X2359.here hx rfl (hb hby at_128) rfl rfl (l' := #[.val (.int pp), .val (.long m0), .second, .val (.long m1), .second, .val (.long q0), .second, .val (.long q1), .second, .val (.int bits), .val (.long f0), .second, .val (.long f1), .second, .val (.long s0), .second, .val (.long s1), .second, .val (.ref b2138), .val (.ref b2152), .val (.ref b2189), .val (.ref b2286), .unset, .unset, .unset]) rfl ?_
      show Steps p.tables e below (T2359.setTop (mkF m 130 #[.val (.int pp), .val (.long m0), .second, .val (.long m1), .second, .val (.long q0), .second, .val (.long q1), .second, .val (.int bits), .val (.long f0), .second, .val (.long f1), .second, .val (.long s0), .second, .val (.long s1), .second, .val (.ref b2138), .val (.ref b2152), .val (.ref b2189), .val (.ref b2286), .unset, .unset, .unset] [])) _
      refine XS.aload X2359.here hx rfl (hb hby at_130) rfl rfl ?_
      refine XS.aload X2359.here hx rfl (hb hby at_132) rfl rfl ?_
      refine st2390.trans ?_
      refine XS.aload X2390.here hx rfl (hb hby at_137) rfl rfl ?_
      show Steps p.tables e below (T2390.setTop (mkF m 139 #[.val (.int pp), .val (.long m0), .second, .val (.long m1), .second, .val (.long q0), .second, .val (.long q1), .second, .val (.int bits), .val (.long f0), .second, .val (.long f1), .second, .val (.long s0), .second, .val (.long s1), .second, .val (.ref b2138), .val (.ref b2152), .val (.ref b2189), .val (.ref b2286), .unset, .unset, .unset] [(.ref b2152)])) _
      refine st2419.trans ?_
      refine XS.aload X2419.here hx rfl (hb hby at_142) rfl rfl ?_
      refine XS.aload X2419.here hx rfl (hb hby at_144) rfl rfl ?_
      refine st2430.trans ?_
      show Steps p.tables e below (T2430.setTop (mkF m 149 #[.val (.int pp), .val (.long m0), .second, .val (.long m1), .second, .val (.long q0), .second, .val (.long q1), .second, .val (.int bits), .val (.long f0), .second, .val (.long f1), .second, .val (.long s0), .second, .val (.long s1), .second, .val (.ref b2138), .val (.ref b2152), .val (.ref b2189), .val (.ref b2286), .unset, .unset, .unset] [(.int rr)])) _
      refine XS.istore X2430.here hx rfl (hb hby at_149) rfl (l' := #[.val (.int pp), .val (.long m0), .second, .val (.long m1), .second, .val (.long q0), .second, .val (.long q1), .second, .val (.int bits), .val (.long f0), .second, .val (.long f1), .second, .val (.long s0), .second, .val (.long s1), .second, .val (.ref b2138), .val (.ref b2152), .val (.ref b2189), .val (.ref b2286), .val (.int rr), .unset, .unset]) rfl ?_
      refine XS.lload X2430.here hx rfl (hb hby at_151) rfl ?_
      refine XS.lload X2430.here hx rfl (hb hby at_153) rfl ?_
      refine XS.land X2430.here hx rfl (hb hby at_155) rfl ?_
      show Steps p.tables e below (T2430.setTop (mkF m 156 #[.val (.int pp), .val (.long m0), .second, .val (.long m1), .second, .val (.long q0), .second, .val (.long q1), .second, .val (.int bits), .val (.long f0), .second, .val (.long f1), .second, .val (.long s0), .second, .val (.long s1), .second, .val (.ref b2138), .val (.ref b2152), .val (.ref b2189), .val (.ref b2286), .val (.int rr), .unset, .unset] [(.long (s0 &&& q0))])) _
      refine XS.lconst X2430.here hx rfl (hb hby at_156) ?_
      refine XS.lcmp X2430.here hx rfl (hb hby at_157) rfl ?_
      exact hk)
    obtain ⟨t0, ht0, k2432⟩ : ∃ (t0 : Int32), (t0 = (if (s0 &&& q0) = (0 : Int64) then (0 : Int32) else (1 : Int32))) ∧ ∀ t, Steps p.tables e below (T2430.setTop (mkF m 166 #[.val (.int pp), .val (.long m0), .second, .val (.long m1), .second, .val (.long q0), .second, .val (.long q1), .second, .val (.int bits), .val (.long f0), .second, .val (.long f1), .second, .val (.long s0), .second, .val (.long s1), .second, .val (.ref b2138), .val (.ref b2152), .val (.ref b2189), .val (.ref b2286), .val (.int rr), .unset, .unset] [(.int t0)])) t → Steps p.tables e below (s₁.setTop (entryFrame m #[(.int pp), (.long m0), (.long m1), (.long q0), (.long q1)] maxLocals)) t := by
      by_cases hc158 : (s0 &&& q0) = (0 : Int64)
      ·
        refine ⟨(0 : Int32), ((if_pos hc158).trans rfl).symm, fun t hk => k2431 t ?_⟩
        show Steps p.tables e below (T2430.setTop (mkF m 158 #[.val (.int pp), .val (.long m0), .second, .val (.long m1), .second, .val (.long q0), .second, .val (.long q1), .second, .val (.int bits), .val (.long f0), .second, .val (.long f1), .second, .val (.long s0), .second, .val (.long s1), .second, .val (.ref b2138), .val (.ref b2152), .val (.ref b2189), .val (.ref b2286), .val (.int rr), .unset, .unset] [(.int (lcmpW (s0 &&& q0) (0 : Int64)))])) _
        refine XS.ifYes X2430.here hx rfl (pc0 := 158) (pc' := 165) rfl (hb hby at_158) rfl ((if0 _ _).trans (teq ((lw_eq _ _).mpr hc158)).1) (by decide) (by decide) ?_
        refine XS.iconst X2430.here hx rfl (hb hby at_165) ?_
        exact hk
      ·
        refine ⟨(1 : Int32), ((if_neg hc158).trans rfl).symm, fun t hk => k2431 t ?_⟩
        show Steps p.tables e below (T2430.setTop (mkF m 158 #[.val (.int pp), .val (.long m0), .second, .val (.long m1), .second, .val (.long q0), .second, .val (.long q1), .second, .val (.int bits), .val (.long f0), .second, .val (.long f1), .second, .val (.long s0), .second, .val (.long s1), .second, .val (.ref b2138), .val (.ref b2152), .val (.ref b2189), .val (.ref b2286), .val (.int rr), .unset, .unset] [(.int (lcmpW (s0 &&& q0) (0 : Int64)))])) _
        refine XS.ifNo X2430.here hx rfl (hb hby at_158) rfl ((if0 _ _).trans (feq (fun q => hc158 ((lw_eq _ _).mp q))).1) ?_
        refine XS.iconst X2430.here hx rfl (hb hby at_161) ?_
        refine XS.goto X2430.here hx rfl (pc0 := 162) (pc' := 166) rfl (hb hby at_162) (by decide) (by decide) ?_
        exact hk
    have k2433 : ∀ t, Steps p.tables e below (T2430.setTop (mkF m 175 #[.val (.int pp), .val (.long m0), .second, .val (.long m1), .second, .val (.long q0), .second, .val (.long q1), .second, .val (.int bits), .val (.long f0), .second, .val (.long f1), .second, .val (.long s0), .second, .val (.long s1), .second, .val (.ref b2138), .val (.ref b2152), .val (.ref b2189), .val (.ref b2286), .val (.int rr), .val (.int t0), .unset] [(.int (lcmpW (s1 &&& q1) (0 : Int64)))])) t → Steps p.tables e below (s₁.setTop (entryFrame m #[(.int pp), (.long m0), (.long m1), (.long q0), (.long q1)] maxLocals)) t := fun t hk => k2432 t (by
      show Steps p.tables e below (T2430.setTop (mkF m 166 #[.val (.int pp), .val (.long m0), .second, .val (.long m1), .second, .val (.long q0), .second, .val (.long q1), .second, .val (.int bits), .val (.long f0), .second, .val (.long f1), .second, .val (.long s0), .second, .val (.long s1), .second, .val (.ref b2138), .val (.ref b2152), .val (.ref b2189), .val (.ref b2286), .val (.int rr), .unset, .unset] [(.int t0)])) _
      refine XS.istore X2430.here hx rfl (hb hby at_166) rfl (l' := #[.val (.int pp), .val (.long m0), .second, .val (.long m1), .second, .val (.long q0), .second, .val (.long q1), .second, .val (.int bits), .val (.long f0), .second, .val (.long f1), .second, .val (.long s0), .second, .val (.long s1), .second, .val (.ref b2138), .val (.ref b2152), .val (.ref b2189), .val (.ref b2286), .val (.int rr), .val (.int t0), .unset]) rfl ?_
      refine XS.lload X2430.here hx rfl (hb hby at_168) rfl ?_
      refine XS.lload X2430.here hx rfl (hb hby at_170) rfl ?_
      refine XS.land X2430.here hx rfl (hb hby at_172) rfl ?_
      show Steps p.tables e below (T2430.setTop (mkF m 173 #[.val (.int pp), .val (.long m0), .second, .val (.long m1), .second, .val (.long q0), .second, .val (.long q1), .second, .val (.int bits), .val (.long f0), .second, .val (.long f1), .second, .val (.long s0), .second, .val (.long s1), .second, .val (.ref b2138), .val (.ref b2152), .val (.ref b2189), .val (.ref b2286), .val (.int rr), .val (.int t0), .unset] [(.long (s1 &&& q1))])) _
      refine XS.lconst X2430.here hx rfl (hb hby at_173) ?_
      refine XS.lcmp X2430.here hx rfl (hb hby at_174) rfl ?_
      exact hk)
    obtain ⟨t1, ht1, k2434⟩ : ∃ (t1 : Int32), (t1 = (if (s1 &&& q1) = (0 : Int64) then (0 : Int32) else (1 : Int32))) ∧ ∀ t, Steps p.tables e below (T2430.setTop (mkF m 183 #[.val (.int pp), .val (.long m0), .second, .val (.long m1), .second, .val (.long q0), .second, .val (.long q1), .second, .val (.int bits), .val (.long f0), .second, .val (.long f1), .second, .val (.long s0), .second, .val (.long s1), .second, .val (.ref b2138), .val (.ref b2152), .val (.ref b2189), .val (.ref b2286), .val (.int rr), .val (.int t0), .unset] [(.int t1)])) t → Steps p.tables e below (s₁.setTop (entryFrame m #[(.int pp), (.long m0), (.long m1), (.long q0), (.long q1)] maxLocals)) t := by
      by_cases hc175 : (s1 &&& q1) = (0 : Int64)
      ·
        refine ⟨(0 : Int32), ((if_pos hc175).trans rfl).symm, fun t hk => k2433 t ?_⟩
        show Steps p.tables e below (T2430.setTop (mkF m 175 #[.val (.int pp), .val (.long m0), .second, .val (.long m1), .second, .val (.long q0), .second, .val (.long q1), .second, .val (.int bits), .val (.long f0), .second, .val (.long f1), .second, .val (.long s0), .second, .val (.long s1), .second, .val (.ref b2138), .val (.ref b2152), .val (.ref b2189), .val (.ref b2286), .val (.int rr), .val (.int t0), .unset] [(.int (lcmpW (s1 &&& q1) (0 : Int64)))])) _
        refine XS.ifYes X2430.here hx rfl (pc0 := 175) (pc' := 182) rfl (hb hby at_175) rfl ((if0 _ _).trans (teq ((lw_eq _ _).mpr hc175)).1) (by decide) (by decide) ?_
        refine XS.iconst X2430.here hx rfl (hb hby at_182) ?_
        exact hk
      ·
        refine ⟨(1 : Int32), ((if_neg hc175).trans rfl).symm, fun t hk => k2433 t ?_⟩
        show Steps p.tables e below (T2430.setTop (mkF m 175 #[.val (.int pp), .val (.long m0), .second, .val (.long m1), .second, .val (.long q0), .second, .val (.long q1), .second, .val (.int bits), .val (.long f0), .second, .val (.long f1), .second, .val (.long s0), .second, .val (.long s1), .second, .val (.ref b2138), .val (.ref b2152), .val (.ref b2189), .val (.ref b2286), .val (.int rr), .val (.int t0), .unset] [(.int (lcmpW (s1 &&& q1) (0 : Int64)))])) _
        refine XS.ifNo X2430.here hx rfl (hb hby at_175) rfl ((if0 _ _).trans (feq (fun q => hc175 ((lw_eq _ _).mp q))).1) ?_
        refine XS.iconst X2430.here hx rfl (hb hby at_178) ?_
        refine XS.goto X2430.here hx rfl (pc0 := 179) (pc' := 183) rfl (hb hby at_179) (by decide) (by decide) ?_
        exact hk
    have k2435 : ∀ t, Steps p.tables e below (T2430.setTop (mkF m 185 #[.val (.int pp), .val (.long m0), .second, .val (.long m1), .second, .val (.long q0), .second, .val (.long q1), .second, .val (.int bits), .val (.long f0), .second, .val (.long f1), .second, .val (.long s0), .second, .val (.long s1), .second, .val (.ref b2138), .val (.ref b2152), .val (.ref b2189), .val (.ref b2286), .val (.int rr), .val (.int t0), .val (.int t1)] [])) t → Steps p.tables e below (s₁.setTop (entryFrame m #[(.int pp), (.long m0), (.long m1), (.long q0), (.long q1)] maxLocals)) t := fun t hk => k2434 t (by
      show Steps p.tables e below (T2430.setTop (mkF m 183 #[.val (.int pp), .val (.long m0), .second, .val (.long m1), .second, .val (.long q0), .second, .val (.long q1), .second, .val (.int bits), .val (.long f0), .second, .val (.long f1), .second, .val (.long s0), .second, .val (.long s1), .second, .val (.ref b2138), .val (.ref b2152), .val (.ref b2189), .val (.ref b2286), .val (.int rr), .val (.int t0), .unset] [(.int t1)])) _
      refine XS.istore X2430.here hx rfl (hb hby at_183) rfl (l' := #[.val (.int pp), .val (.long m0), .second, .val (.long m1), .second, .val (.long q0), .second, .val (.long q1), .second, .val (.int bits), .val (.long f0), .second, .val (.long f1), .second, .val (.long s0), .second, .val (.long s1), .second, .val (.ref b2138), .val (.ref b2152), .val (.ref b2189), .val (.ref b2286), .val (.int rr), .val (.int t0), .val (.int t1)]) rfl ?_
      exact hk)
    rcases own_plain0 bits m0 m1 q0 q1 f0 f1 s0 s1 x0 x1 t0 t1 rr hb0 hb1 hbl hbh hf0 hf1 hs0 hs1 ht0 ht1 hrr with ⟨er, e0, e1⟩ | ⟨er, e0⟩ | ⟨er, e1⟩
    ·
      have k2436 : ∀ t, Steps p.tables e below (T2430.setTop (mkF m 206 #[.val (.int pp), .val (.long m0), .second, .val (.long m1), .second, .val (.long q0), .second, .val (.long q1), .second, .val (.int bits), .val (.long f0), .second, .val (.long f1), .second, .val (.long s0), .second, .val (.long s1), .second, .val (.ref b2138), .val (.ref b2152), .val (.ref b2189), .val (.ref b2286), .val (.int rr), .val (.int t0), .val (.int t1)] [(.int (1 : Int32))])) t → Steps p.tables e below (s₁.setTop (entryFrame m #[(.int pp), (.long m0), (.long m1), (.long q0), (.long q1)] maxLocals)) t := fun t hk => k2435 t (by
        show Steps p.tables e below (T2430.setTop (mkF m 185 #[.val (.int pp), .val (.long m0), .second, .val (.long m1), .second, .val (.long q0), .second, .val (.long q1), .second, .val (.int bits), .val (.long f0), .second, .val (.long f1), .second, .val (.long s0), .second, .val (.long s1), .second, .val (.ref b2138), .val (.ref b2152), .val (.ref b2189), .val (.ref b2286), .val (.int rr), .val (.int t0), .val (.int t1)] [])) _
        refine XS.iload X2430.here hx rfl (hb hby at_185) rfl ?_
        refine XS.ifNo X2430.here hx rfl (hb hby at_187) rfl ((if0 _ _).trans (teq e0).2) ?_
        refine XS.iload X2430.here hx rfl (hb hby at_190) rfl ?_
        refine XS.ifNo X2430.here hx rfl (hb hby at_192) rfl ((if0 _ _).trans (teq e1).2) ?_
        show Steps p.tables e below (T2430.setTop (mkF m 195 #[.val (.int pp), .val (.long m0), .second, .val (.long m1), .second, .val (.long q0), .second, .val (.long q1), .second, .val (.int bits), .val (.long f0), .second, .val (.long f1), .second, .val (.long s0), .second, .val (.long s1), .second, .val (.ref b2138), .val (.ref b2152), .val (.ref b2189), .val (.ref b2286), .val (.int rr), .val (.int t0), .val (.int t1)] [])) _
        refine XS.iload X2430.here hx rfl (hb hby at_195) rfl ?_
        refine XS.iconst X2430.here hx rfl (hb hby at_197) ?_
        refine XS.icmpNo X2430.here hx rfl (hb hby at_198) rfl (teq er).2 ?_
        refine XS.iconst X2430.here hx rfl (hb hby at_201) ?_
        show Steps p.tables e below (T2430.setTop (mkF m 202 #[.val (.int pp), .val (.long m0), .second, .val (.long m1), .second, .val (.long q0), .second, .val (.long q1), .second, .val (.int bits), .val (.long f0), .second, .val (.long f1), .second, .val (.long s0), .second, .val (.long s1), .second, .val (.ref b2138), .val (.ref b2152), .val (.ref b2189), .val (.ref b2286), .val (.int rr), .val (.int t0), .val (.int t1)] [(.int (1 : Int32))])) _
        refine XS.goto X2430.here hx rfl (pc0 := 202) (pc' := 206) rfl (hb hby at_202) (by decide) (by decide) ?_
        exact hk)
      obtain ⟨fs, hr, hrun, hended, hW, hsame⟩ := X2430.leave (v := some (.int (nar .boolean (1 : Int32)))) (fun h => by rw [Bd.returns] at h; cases h)
      refine ⟨_, _, k2436 _ ?_, hrun, hended, _, _, rfl, ?_, ⟨_, rfl⟩, hW, hsame.mono (by decide) (by decide)⟩
      · show Steps p.tables e below (T2430.setTop (mkF m 206 #[.val (.int pp), .val (.long m0), .second, .val (.long m1), .second, .val (.long q0), .second, .val (.long q1), .second, .val (.int bits), .val (.long f0), .second, .val (.long f1), .second, .val (.long s0), .second, .val (.long s1), .second, .val (.ref b2138), .val (.ref b2152), .val (.ref b2189), .val (.ref b2286), .val (.int rr), .val (.int t0), .val (.int t1)] [(.int (1 : Int32))])) _
        exact retN X2430 hx (t := .boolean) Bd.returns (by simp) (hb hby at_206) hr
      · show Q0 Z pp m0 m1 q0 q1 h0 n0 _ T2430.heap _
        rw [e2430]
        exact ⟨rfl, N2430⟩
    ·
      have k2437 : ∀ t, Steps p.tables e below (T2430.setTop (mkF m 233 #[.val (.int pp), .val (.long m0), .second, .val (.long m1), .second, .val (.long q0), .second, .val (.long q1), .second, .val (.int bits), .val (.long f0), .second, .val (.long f1), .second, .val (.long s0), .second, .val (.long s1), .second, .val (.ref b2138), .val (.ref b2152), .val (.ref b2189), .val (.ref b2286), .val (.int rr), .val (.int t0), .val (.int t1)] [(.int (1 : Int32))])) t → Steps p.tables e below (s₁.setTop (entryFrame m #[(.int pp), (.long m0), (.long m1), (.long q0), (.long q1)] maxLocals)) t := fun t hk => k2435 t (by
        show Steps p.tables e below (T2430.setTop (mkF m 185 #[.val (.int pp), .val (.long m0), .second, .val (.long m1), .second, .val (.long q0), .second, .val (.long q1), .second, .val (.int bits), .val (.long f0), .second, .val (.long f1), .second, .val (.long s0), .second, .val (.long s1), .second, .val (.ref b2138), .val (.ref b2152), .val (.ref b2189), .val (.ref b2286), .val (.int rr), .val (.int t0), .val (.int t1)] [])) _
        refine XS.iload X2430.here hx rfl (hb hby at_185) rfl ?_
        refine XS.ifYes X2430.here hx rfl (pc0 := 187) (pc' := 207) rfl (hb hby at_187) rfl ((if0 _ _).trans (feq e0).2) (by decide) (by decide) ?_
        refine XS.iload X2430.here hx rfl (hb hby at_207) rfl ?_
        refine XS.ifNo X2430.here hx rfl (hb hby at_209) rfl ((if0 _ _).trans (teq er).2) ?_
        show Steps p.tables e below (T2430.setTop (mkF m 212 #[.val (.int pp), .val (.long m0), .second, .val (.long m1), .second, .val (.long q0), .second, .val (.long q1), .second, .val (.int bits), .val (.long f0), .second, .val (.long f1), .second, .val (.long s0), .second, .val (.long s1), .second, .val (.ref b2138), .val (.ref b2152), .val (.ref b2189), .val (.ref b2286), .val (.int rr), .val (.int t0), .val (.int t1)] [])) _
        refine XS.iload X2430.here hx rfl (hb hby at_212) rfl ?_
        refine XS.ifYes X2430.here hx rfl (pc0 := 214) (pc' := 228) rfl (hb hby at_214) rfl ((if0 _ _).trans (feq e0).2) (by decide) (by decide) ?_
        refine XS.iconst X2430.here hx rfl (hb hby at_228) ?_
        refine XS.goto X2430.here hx rfl (pc0 := 229) (pc' := 233) rfl (hb hby at_229) (by decide) (by decide) ?_
        exact hk)
      obtain ⟨fs, hr, hrun, hended, hW, hsame⟩ := X2430.leave (v := some (.int (nar .boolean (1 : Int32)))) (fun h => by rw [Bd.returns] at h; cases h)
      refine ⟨_, _, k2437 _ ?_, hrun, hended, _, _, rfl, ?_, ⟨_, rfl⟩, hW, hsame.mono (by decide) (by decide)⟩
      · show Steps p.tables e below (T2430.setTop (mkF m 233 #[.val (.int pp), .val (.long m0), .second, .val (.long m1), .second, .val (.long q0), .second, .val (.long q1), .second, .val (.int bits), .val (.long f0), .second, .val (.long f1), .second, .val (.long s0), .second, .val (.long s1), .second, .val (.ref b2138), .val (.ref b2152), .val (.ref b2189), .val (.ref b2286), .val (.int rr), .val (.int t0), .val (.int t1)] [(.int (1 : Int32))])) _
        exact retN X2430 hx (t := .boolean) Bd.returns (by simp) (hb hby at_233) hr
      · show Q0 Z pp m0 m1 q0 q1 h0 n0 _ T2430.heap _
        rw [e2430]
        exact ⟨rfl, N2430⟩
    ·
      have er0 : ¬ rr = (0 : Int32) := by rw [er]; decide
      have k2438 : ∀ t, Steps p.tables e below (T2430.setTop (mkF m 187 #[.val (.int pp), .val (.long m0), .second, .val (.long m1), .second, .val (.long q0), .second, .val (.long q1), .second, .val (.int bits), .val (.long f0), .second, .val (.long f1), .second, .val (.long s0), .second, .val (.long s1), .second, .val (.ref b2138), .val (.ref b2152), .val (.ref b2189), .val (.ref b2286), .val (.int rr), .val (.int t0), .val (.int t1)] [(.int t0)])) t → Steps p.tables e below (s₁.setTop (entryFrame m #[(.int pp), (.long m0), (.long m1), (.long q0), (.long q1)] maxLocals)) t := fun t hk => k2435 t (by
        show Steps p.tables e below (T2430.setTop (mkF m 185 #[.val (.int pp), .val (.long m0), .second, .val (.long m1), .second, .val (.long q0), .second, .val (.long q1), .second, .val (.int bits), .val (.long f0), .second, .val (.long f1), .second, .val (.long s0), .second, .val (.long s1), .second, .val (.ref b2138), .val (.ref b2152), .val (.ref b2189), .val (.ref b2286), .val (.int rr), .val (.int t0), .val (.int t1)] [])) _
        refine XS.iload X2430.here hx rfl (hb hby at_185) rfl ?_
        exact hk)
      by_cases hc187 : t0 = (0 : Int32)
      ·
        have k2439 : ∀ t, Steps p.tables e below (T2430.setTop (mkF m 233 #[.val (.int pp), .val (.long m0), .second, .val (.long m1), .second, .val (.long q0), .second, .val (.long q1), .second, .val (.int bits), .val (.long f0), .second, .val (.long f1), .second, .val (.long s0), .second, .val (.long s1), .second, .val (.ref b2138), .val (.ref b2152), .val (.ref b2189), .val (.ref b2286), .val (.int rr), .val (.int t0), .val (.int t1)] [(.int (1 : Int32))])) t → Steps p.tables e below (s₁.setTop (entryFrame m #[(.int pp), (.long m0), (.long m1), (.long q0), (.long q1)] maxLocals)) t := fun t hk => k2438 t (by
          show Steps p.tables e below (T2430.setTop (mkF m 187 #[.val (.int pp), .val (.long m0), .second, .val (.long m1), .second, .val (.long q0), .second, .val (.long q1), .second, .val (.int bits), .val (.long f0), .second, .val (.long f1), .second, .val (.long s0), .second, .val (.long s1), .second, .val (.ref b2138), .val (.ref b2152), .val (.ref b2189), .val (.ref b2286), .val (.int rr), .val (.int t0), .val (.int t1)] [(.int t0)])) _
          refine XS.ifNo X2430.here hx rfl (hb hby at_187) rfl ((if0 _ _).trans (teq hc187).2) ?_
          refine XS.iload X2430.here hx rfl (hb hby at_190) rfl ?_
          refine XS.ifYes X2430.here hx rfl (pc0 := 192) (pc' := 207) rfl (hb hby at_192) rfl ((if0 _ _).trans (feq e1).2) (by decide) (by decide) ?_
          refine XS.iload X2430.here hx rfl (hb hby at_207) rfl ?_
          show Steps p.tables e below (T2430.setTop (mkF m 209 #[.val (.int pp), .val (.long m0), .second, .val (.long m1), .second, .val (.long q0), .second, .val (.long q1), .second, .val (.int bits), .val (.long f0), .second, .val (.long f1), .second, .val (.long s0), .second, .val (.long s1), .second, .val (.ref b2138), .val (.ref b2152), .val (.ref b2189), .val (.ref b2286), .val (.int rr), .val (.int t0), .val (.int t1)] [(.int rr)])) _
          refine XS.ifYes X2430.here hx rfl (pc0 := 209) (pc' := 217) rfl (hb hby at_209) rfl ((if0 _ _).trans (feq er0).2) (by decide) (by decide) ?_
          refine XS.iload X2430.here hx rfl (hb hby at_217) rfl ?_
          refine XS.iconst X2430.here hx rfl (hb hby at_219) ?_
          refine XS.icmpNo X2430.here hx rfl (hb hby at_220) rfl (teq er).2 ?_
          show Steps p.tables e below (T2430.setTop (mkF m 223 #[.val (.int pp), .val (.long m0), .second, .val (.long m1), .second, .val (.long q0), .second, .val (.long q1), .second, .val (.int bits), .val (.long f0), .second, .val (.long f1), .second, .val (.long s0), .second, .val (.long s1), .second, .val (.ref b2138), .val (.ref b2152), .val (.ref b2189), .val (.ref b2286), .val (.int rr), .val (.int t0), .val (.int t1)] [])) _
          refine XS.iload X2430.here hx rfl (hb hby at_223) rfl ?_
          refine XS.ifNo X2430.here hx rfl (hb hby at_225) rfl ((if0 _ _).trans (feq e1).1) ?_
          refine XS.iconst X2430.here hx rfl (hb hby at_228) ?_
          refine XS.goto X2430.here hx rfl (pc0 := 229) (pc' := 233) rfl (hb hby at_229) (by decide) (by decide) ?_
          exact hk)
        obtain ⟨fs, hr, hrun, hended, hW, hsame⟩ := X2430.leave (v := some (.int (nar .boolean (1 : Int32)))) (fun h => by rw [Bd.returns] at h; cases h)
        refine ⟨_, _, k2439 _ ?_, hrun, hended, _, _, rfl, ?_, ⟨_, rfl⟩, hW, hsame.mono (by decide) (by decide)⟩
        · show Steps p.tables e below (T2430.setTop (mkF m 233 #[.val (.int pp), .val (.long m0), .second, .val (.long m1), .second, .val (.long q0), .second, .val (.long q1), .second, .val (.int bits), .val (.long f0), .second, .val (.long f1), .second, .val (.long s0), .second, .val (.long s1), .second, .val (.ref b2138), .val (.ref b2152), .val (.ref b2189), .val (.ref b2286), .val (.int rr), .val (.int t0), .val (.int t1)] [(.int (1 : Int32))])) _
          exact retN X2430 hx (t := .boolean) Bd.returns (by simp) (hb hby at_233) hr
        · show Q0 Z pp m0 m1 q0 q1 h0 n0 _ T2430.heap _
          rw [e2430]
          exact ⟨rfl, N2430⟩
      ·
        have k2440 : ∀ t, Steps p.tables e below (T2430.setTop (mkF m 233 #[.val (.int pp), .val (.long m0), .second, .val (.long m1), .second, .val (.long q0), .second, .val (.long q1), .second, .val (.int bits), .val (.long f0), .second, .val (.long f1), .second, .val (.long s0), .second, .val (.long s1), .second, .val (.ref b2138), .val (.ref b2152), .val (.ref b2189), .val (.ref b2286), .val (.int rr), .val (.int t0), .val (.int t1)] [(.int (1 : Int32))])) t → Steps p.tables e below (s₁.setTop (entryFrame m #[(.int pp), (.long m0), (.long m1), (.long q0), (.long q1)] maxLocals)) t := fun t hk => k2438 t (by
          show Steps p.tables e below (T2430.setTop (mkF m 187 #[.val (.int pp), .val (.long m0), .second, .val (.long m1), .second, .val (.long q0), .second, .val (.long q1), .second, .val (.int bits), .val (.long f0), .second, .val (.long f1), .second, .val (.long s0), .second, .val (.long s1), .second, .val (.ref b2138), .val (.ref b2152), .val (.ref b2189), .val (.ref b2286), .val (.int rr), .val (.int t0), .val (.int t1)] [(.int t0)])) _
          refine XS.ifYes X2430.here hx rfl (pc0 := 187) (pc' := 207) rfl (hb hby at_187) rfl ((if0 _ _).trans (feq hc187).2) (by decide) (by decide) ?_
          refine XS.iload X2430.here hx rfl (hb hby at_207) rfl ?_
          refine XS.ifYes X2430.here hx rfl (pc0 := 209) (pc' := 217) rfl (hb hby at_209) rfl ((if0 _ _).trans (feq er0).2) (by decide) (by decide) ?_
          refine XS.iload X2430.here hx rfl (hb hby at_217) rfl ?_
          show Steps p.tables e below (T2430.setTop (mkF m 219 #[.val (.int pp), .val (.long m0), .second, .val (.long m1), .second, .val (.long q0), .second, .val (.long q1), .second, .val (.int bits), .val (.long f0), .second, .val (.long f1), .second, .val (.long s0), .second, .val (.long s1), .second, .val (.ref b2138), .val (.ref b2152), .val (.ref b2189), .val (.ref b2286), .val (.int rr), .val (.int t0), .val (.int t1)] [(.int rr)])) _
          refine XS.iconst X2430.here hx rfl (hb hby at_219) ?_
          refine XS.icmpNo X2430.here hx rfl (hb hby at_220) rfl (teq er).2 ?_
          refine XS.iload X2430.here hx rfl (hb hby at_223) rfl ?_
          refine XS.ifNo X2430.here hx rfl (hb hby at_225) rfl ((if0 _ _).trans (feq e1).1) ?_
          show Steps p.tables e below (T2430.setTop (mkF m 228 #[.val (.int pp), .val (.long m0), .second, .val (.long m1), .second, .val (.long q0), .second, .val (.long q1), .second, .val (.int bits), .val (.long f0), .second, .val (.long f1), .second, .val (.long s0), .second, .val (.long s1), .second, .val (.ref b2138), .val (.ref b2152), .val (.ref b2189), .val (.ref b2286), .val (.int rr), .val (.int t0), .val (.int t1)] [])) _
          refine XS.iconst X2430.here hx rfl (hb hby at_228) ?_
          refine XS.goto X2430.here hx rfl (pc0 := 229) (pc' := 233) rfl (hb hby at_229) (by decide) (by decide) ?_
          exact hk)
        obtain ⟨fs, hr, hrun, hended, hW, hsame⟩ := X2430.leave (v := some (.int (nar .boolean (1 : Int32)))) (fun h => by rw [Bd.returns] at h; cases h)
        refine ⟨_, _, k2440 _ ?_, hrun, hended, _, _, rfl, ?_, ⟨_, rfl⟩, hW, hsame.mono (by decide) (by decide)⟩
        · show Steps p.tables e below (T2430.setTop (mkF m 233 #[.val (.int pp), .val (.long m0), .second, .val (.long m1), .second, .val (.long q0), .second, .val (.long q1), .second, .val (.int bits), .val (.long f0), .second, .val (.long f1), .second, .val (.long s0), .second, .val (.long s1), .second, .val (.ref b2138), .val (.ref b2152), .val (.ref b2189), .val (.ref b2286), .val (.int rr), .val (.int t0), .val (.int t1)] [(.int (1 : Int32))])) _
          exact retN X2430 hx (t := .boolean) Bd.returns (by simp) (hb hby at_233) hr
        · show Q0 Z pp m0 m1 q0 q1 h0 n0 _ T2430.heap _
          rw [e2430]
          exact ⟨rfl, N2430⟩
  ·
    have szst : h2152.size ≤ h2152.size := Nat.le_refl _
    obtain ⟨_, _, ⟨T2441, L2441, k2441, n2441⟩, -, X2441, ⟨Lc2441, hQ2441, l2441, y2441, z2441⟩, st2441⟩ := X2152.specialBack hx (y := (⟨"com/example/faultline/faultline/engine/ReversibleBitSet", "<init>", "(Lcom/example/faultline/faultline/engine/Trail;I)V"⟩ : MethodName)) rfl hown (mvT hZ (hw _ (List.mem_of_getElem? (i := 26) rfl))) (mvT hZ (hw _ (List.mem_of_getElem? (i := 27) rfl))) (mvT hZ (hw _ (List.mem_of_getElem? (i := 28) rfl))) (by decide) (backOf (W := 1) (rmi1 l Z a0 hw [] b2152 b2138 bits  h2152 n0 Z2167 hwc A2152 g2157 F2170 F2168 F2171 F2172 F2173 F2174 F2169) hZ (hw _ (List.mem_of_getElem? (i := 28) rfl)) (hw _ (List.mem_of_getElem? (i := 25) rfl)) (by decide) (by decide)) (g := (mkF m 97 #[.val (.int pp), .val (.long m0), .second, .val (.long m1), .second, .val (.long q0), .second, .val (.long q1), .second, .val (.int bits), .val (.long f0), .second, .val (.long f1), .second, .val (.long s0), .second, .val (.long s1), .second, .val (.ref b2138), .unset, .unset, .unset, .unset, .unset, .unset] [(.int bits), (.ref b2138), (.ref b2152), (.ref b2152)])) rfl (by rw [hml]; rfl) (Steps.refl _) (a := b2152) (argsL := [(.ref b2138), (.int bits)]) (rest := [(.ref b2152)]) (lenOf pd_9 rfl) rfl (by show 2 * 0 + _ ≤ _; exact Nat.le_of_eq rfl) (hb hby at_97) (fun _ _ => ⟨rfl, e2152, (by decide : 7 + 5 ≤ _), (by decide : 816 + 5 ≤ _)⟩)
    dsimp only [Pt.U, Pt.locs, Pt.cells, Pt.slots] at X2441 l2441 y2441 z2441 st2441 hQ2441
    subst l2441 y2441 z2441
    obtain ⟨rfl, N2441q, K2441, lim, wo, sa, nz, ma, x0, x1, y0, y1, o1, o2, o3, o4, o5, hS, Vl, Vo, Vs, Vn, Vm, El, Eo, hx0, hy0⟩ := hQ2441
    have N2441 := Fr.app N2148 N2441q
    have u_b2152 : @LT.lt Nat instLTNat b2152 (h2152.size) := A2152.lt
    have v_b2152_lim : b2152 ≠ lim := by show @Ne Nat b2152 lim; omega
    have v_b2152_wo : b2152 ≠ wo := by show @Ne Nat b2152 wo; omega
    have v_b2152_sa : b2152 ≠ sa := by show @Ne Nat b2152 sa; omega
    have v_b2152_nz : b2152 ≠ nz := by show @Ne Nat b2152 nz; omega
    have v_b2152_ma : b2152 ≠ ma := by show @Ne Nat b2152 ma; omega
    have u_b2138 : @LT.lt Nat instLTNat b2138 (h2152.size) := E2163.lt
    have v_b2138_lim : b2138 ≠ lim := by show @Ne Nat b2138 lim; omega
    have v_b2138_wo : b2138 ≠ wo := by show @Ne Nat b2138 wo; omega
    have v_b2138_sa : b2138 ≠ sa := by show @Ne Nat b2138 sa; omega
    have v_b2138_nz : b2138 ≠ nz := by show @Ne Nat b2138 nz; omega
    have v_b2138_ma : b2138 ≠ ma := by show @Ne Nat b2138 ma; omega
    have u_ow : @LT.lt Nat instLTNat ow (h2152.size) := A2164.lt
    have v_ow_lim : ow ≠ lim := by show @Ne Nat ow lim; omega
    have v_ow_wo : ow ≠ wo := by show @Ne Nat ow wo; omega
    have v_ow_sa : ow ≠ sa := by show @Ne Nat ow sa; omega
    have v_ow_nz : ow ≠ nz := by show @Ne Nat ow nz; omega
    have v_ow_ma : ow ≠ ma := by show @Ne Nat ow ma; omega
    have u_ix : @LT.lt Nat instLTNat ix (h2152.size) := A2165.lt
    have v_ix_lim : ix ≠ lim := by show @Ne Nat ix lim; omega
    have v_ix_wo : ix ≠ wo := by show @Ne Nat ix wo; omega
    have v_ix_sa : ix ≠ sa := by show @Ne Nat ix sa; omega
    have v_ix_nz : ix ≠ nz := by show @Ne Nat ix nz; omega
    have v_ix_ma : ix ≠ ma := by show @Ne Nat ix ma; omega
    have u_sv : @LT.lt Nat instLTNat sv (h2152.size) := A2166.lt
    have v_sv_lim : sv ≠ lim := by show @Ne Nat sv lim; omega
    have v_sv_wo : sv ≠ wo := by show @Ne Nat sv wo; omega
    have v_sv_sa : sv ≠ sa := by show @Ne Nat sv sa; omega
    have v_sv_nz : sv ≠ nz := by show @Ne Nat sv nz; omega
    have v_sv_ma : sv ≠ ma := by show @Ne Nat sv ma; omega
    have gl0 : n0 ≤ lim := Nat.le_trans Z2167 o1
    have gl_wo : n0 ≤ wo := by show @LE.le Nat instLENat n0 wo; omega
    have gl_sa : n0 ≤ sa := by show @LE.le Nat instLENat n0 sa; omega
    have gl_nz : n0 ≤ nz := by show @LE.le Nat instLENat n0 nz; omega
    have gl_ma : n0 ≤ ma := by show @LE.le Nat instLENat n0 ma; omega
    have v_lim_wo : lim ≠ wo := by show @Ne Nat lim wo; omega
    have v_lim_sa : lim ≠ sa := by show @Ne Nat lim sa; omega
    have v_lim_nz : lim ≠ nz := by show @Ne Nat lim nz; omega
    have v_lim_ma : lim ≠ ma := by show @Ne Nat lim ma; omega
    have v_wo_sa : wo ≠ sa := by show @Ne Nat wo sa; omega
    have v_wo_nz : wo ≠ nz := by show @Ne Nat wo nz; omega
    have v_wo_ma : wo ≠ ma := by show @Ne Nat wo ma; omega
    have v_sa_nz : sa ≠ nz := by show @Ne Nat sa nz; omega
    have v_sa_ma : sa ≠ ma := by show @Ne Nat sa ma; omega
    have v_nz_ma : nz ≠ ma := by show @Ne Nat nz ma; omega
    have F2442 := F2158.keep K2441 (ninS ne2153 nin0)
    have F2443 := F2159.keep K2441 (ninS ne2153 nin0)
    have F2444 := F2160.keep K2441 (ninS ne2153 nin0)
    have F2445 := F2161.keep K2441 (ninS ne2153 nin0)
    have F2446 := F2162.keep K2441 (ninS ne2153 nin0)
    have E2447 := E2163.keep K2441
    have E2448 := A2152.keep K2441
    have A2449 := A2164.keep K2441 (ninS ne2154 nin0)
    have A2450 := A2165.keep K2441 (ninS ne2155 nin0)
    have A2451 := A2166.keep K2441 (ninS ne2156 nin0)
    have Z2452 : n0 ≤ T2441.heap.size := Nat.le_trans Z2167 K2441.1
    obtain ⟨u2453E, u2453a, u2453b, u2453c, u2453d, u2453e, u2453f, u2453g⟩ := hS
    obtain ⟨T2454, h2454, k2454, X2454, e2454, E2454, A2454, Y2454, st2454⟩ := newPE X2441 hx hZ (hw _ (List.mem_of_getElem? (i := 16) rfl)) rfl (g := (mkF m 103 #[.val (.int pp), .val (.long m0), .second, .val (.long m1), .second, .val (.long q0), .second, .val (.long q1), .second, .val (.int bits), .val (.long f0), .second, .val (.long f1), .second, .val (.long s0), .second, .val (.long s1), .second, .val (.ref b2138), .val (.ref b2152), .unset, .unset, .unset, .unset, .unset] [(.int (2 : Int32))])) rfl (hb hby at_103) rfl (by decide) (cap := 2) (by decide) (by decide) (by decide) (by decide) (ad := "[J") (by decide)
    obtain ⟨b2454, g2454⟩ : ∃ z, z = T2441.heap.size := ⟨_, rfl⟩
    have ne2455 : b2138 ≠ b2454 := fun q => absurd E2447.lt (by rw [q, g2454]; exact Nat.lt_irrefl _)
    have ne2456 : b2152 ≠ b2454 := fun q => absurd u2453E.lt (by rw [q, g2454]; exact Nat.lt_irrefl _)
    have ne2457 : lim ≠ b2454 := fun q => absurd El.lt (by rw [q, g2454]; exact Nat.lt_irrefl _)
    have ne2458 : wo ≠ b2454 := fun q => absurd Eo.lt (by rw [q, g2454]; exact Nat.lt_irrefl _)
    have ne2459 : ow ≠ b2454 := fun q => absurd A2449.lt (by rw [q, g2454]; exact Nat.lt_irrefl _)
    have ne2460 : ix ≠ b2454 := fun q => absurd A2450.lt (by rw [q, g2454]; exact Nat.lt_irrefl _)
    have ne2461 : sv ≠ b2454 := fun q => absurd A2451.lt (by rw [q, g2454]; exact Nat.lt_irrefl _)
    have ne2462 : sa ≠ b2454 := fun q => absurd Vs.lt (by rw [q, g2454]; exact Nat.lt_irrefl _)
    have ne2463 : nz ≠ b2454 := fun q => absurd Vn.lt (by rw [q, g2454]; exact Nat.lt_irrefl _)
    have ne2464 : ma ≠ b2454 := fun q => absurd Vm.lt (by rw [q, g2454]; exact Nat.lt_irrefl _)
    have g2465 : n0 ≤ b2454 := g2454 ▸ Z2452
    rw [← g2454] at A2454 Y2454 st2454
    have F2466 := F2442.ext E2454
    have F2467 := F2443.ext E2454
    have F2468 := F2444.ext E2454
    have F2469 := F2445.ext E2454
    have F2470 := F2446.ext E2454
    have F2471 := u2453a.ext E2454
    have F2472 := u2453b.ext E2454
    have F2473 := u2453c.ext E2454
    have F2474 := u2453d.ext E2454
    have F2475 := u2453e.ext E2454
    have F2476 := u2453f.ext E2454
    have F2477 := u2453g.ext E2454
    have E2478 := E2447.ext E2454
    have E2479 := u2453E.ext E2454
    have E2480 := El.ext E2454
    have E2481 := Eo.ext E2454
    have A2482 := A2449.ext E2454
    have A2483 := A2450.ext E2454
    have A2484 := A2451.ext E2454
    have A2485 := Vl.ext E2454
    have A2486 := Vo.ext E2454
    have A2487 := Vs.ext E2454
    have A2488 := Vn.ext E2454
    have A2489 := Vm.ext E2454
    have Z2490 : n0 ≤ h2454.size := Nat.le_trans Z2452 E2454.1
    have A2491 : OwnAV Z h2454 b2454 .long 2 (fun i => (.long ((fun _ => (0 : Int64)) i))) := OwnAV.new A2454 rfl (by decide)
    have A2492 : OwnAV Z h2454 b2454 .long 2 (fun i => (.long ((own_l2 (0 : Int64) (0 : Int64)) i))) := A2491.congr (fun j hj => by
        have q : j = 0 ∨ j = 1 := by omega
        rcases q with rfl | rfl <;> rfl)
    obtain ⟨T2493, h2493, X2493, e2493, W2493, st2493⟩ := own_last X2454 hx hZ e2454 A2492 (k := 0) ⟨by decide, rfl, by decide⟩ (g := (mkF m 108 #[.val (.int pp), .val (.long m0), .second, .val (.long m1), .second, .val (.long q0), .second, .val (.long q1), .second, .val (.int bits), .val (.long f0), .second, .val (.long f1), .second, .val (.long s0), .second, .val (.long s1), .second, .val (.ref b2138), .val (.ref b2152), .unset, .unset, .unset, .unset, .unset] [(.long m0), (.int (0 : Int32)), (.ref b2454), (.ref b2454)])) rfl rfl (hb hby at_108)
    have A2494 : OwnAV Z h2493 b2454 .long 2 (fun i => (.long ((own_l2 m0 (0 : Int64)) i))) := (A2492.storeJ W2493).congr (fun j hj => by
        have q : j = 0 ∨ j = 1 := by omega
        rcases q with rfl | rfl <;> rfl)
    have F2495 := F2466.other W2493 (Or.inl ne2455)
    have F2496 := F2467.other W2493 (Or.inl ne2455)
    have F2497 := F2468.other W2493 (Or.inl ne2455)
    have F2498 := F2469.other W2493 (Or.inl ne2455)
    have F2499 := F2470.other W2493 (Or.inl ne2455)
    have F2500 := F2471.other W2493 (Or.inl ne2456)
    have F2501 := F2472.other W2493 (Or.inl ne2456)
    have F2502 := F2473.other W2493 (Or.inl ne2456)
    have F2503 := F2474.other W2493 (Or.inl ne2456)
    have F2504 := F2475.other W2493 (Or.inl ne2456)
    have F2505 := F2476.other W2493 (Or.inl ne2456)
    have F2506 := F2477.other W2493 (Or.inl ne2456)
    have E2507 := E2478.wr W2493
    have E2508 := E2479.wr W2493
    have E2509 := E2480.wr W2493
    have E2510 := E2481.wr W2493
    have E2511 := Y2454.wr W2493
    have A2512 := A2482.other W2493 ne2459
    have A2513 := A2483.other W2493 ne2460
    have A2514 := A2484.other W2493 ne2461
    have A2515 := A2485.other W2493 ne2457
    have A2516 := A2486.other W2493 ne2458
    have A2517 := A2487.other W2493 ne2462
    have A2518 := A2488.other W2493 ne2463
    have A2519 := A2489.other W2493 ne2464
    have Z2520 : n0 ≤ h2493.size := W2493.size ▸ Z2490
    have N2521 := Fr.snoc X2493 N2441 g2465
    obtain ⟨T2522, h2522, X2522, e2522, W2522, st2522⟩ := own_last X2493 hx hZ e2493 A2494 (k := 1) ⟨by decide, rfl, by decide⟩ (g := (mkF m 112 #[.val (.int pp), .val (.long m0), .second, .val (.long m1), .second, .val (.long q0), .second, .val (.long q1), .second, .val (.int bits), .val (.long f0), .second, .val (.long f1), .second, .val (.long s0), .second, .val (.long s1), .second, .val (.ref b2138), .val (.ref b2152), .unset, .unset, .unset, .unset, .unset] [(.long m1), (.int (1 : Int32)), (.ref b2454), (.ref b2454)])) rfl rfl (hb hby at_112)
    have A2523 : OwnAV Z h2522 b2454 .long 2 (fun i => (.long ((own_l2 m0 m1) i))) := (A2494.storeJ W2522).congr (fun j hj => by
        have q : j = 0 ∨ j = 1 := by omega
        rcases q with rfl | rfl <;> rfl)
    have F2524 := F2495.other W2522 (Or.inl ne2455)
    have F2525 := F2496.other W2522 (Or.inl ne2455)
    have F2526 := F2497.other W2522 (Or.inl ne2455)
    have F2527 := F2498.other W2522 (Or.inl ne2455)
    have F2528 := F2499.other W2522 (Or.inl ne2455)
    have F2529 := F2500.other W2522 (Or.inl ne2456)
    have F2530 := F2501.other W2522 (Or.inl ne2456)
    have F2531 := F2502.other W2522 (Or.inl ne2456)
    have F2532 := F2503.other W2522 (Or.inl ne2456)
    have F2533 := F2504.other W2522 (Or.inl ne2456)
    have F2534 := F2505.other W2522 (Or.inl ne2456)
    have F2535 := F2506.other W2522 (Or.inl ne2456)
    have E2536 := E2507.wr W2522
    have E2537 := E2508.wr W2522
    have E2538 := E2509.wr W2522
    have E2539 := E2510.wr W2522
    have E2540 := E2511.wr W2522
    have A2541 := A2512.other W2522 ne2459
    have A2542 := A2513.other W2522 ne2460
    have A2543 := A2514.other W2522 ne2461
    have A2544 := A2515.other W2522 ne2457
    have A2545 := A2516.other W2522 ne2458
    have A2546 := A2517.other W2522 ne2462
    have A2547 := A2518.other W2522 ne2463
    have A2548 := A2519.other W2522 ne2464
    have Z2549 : n0 ≤ h2522.size := W2522.size ▸ Z2520
    have N2550 := Fr.snoc X2522 N2521 g2465
    obtain ⟨T2551, h2551, k2551, X2551, e2551, E2551, A2551, Y2551, st2551⟩ := newPE X2522 hx hZ (hw _ (List.mem_of_getElem? (i := 16) rfl)) e2522 (g := (mkF m 116 #[.val (.int pp), .val (.long m0), .second, .val (.long m1), .second, .val (.long q0), .second, .val (.long q1), .second, .val (.int bits), .val (.long f0), .second, .val (.long f1), .second, .val (.long s0), .second, .val (.long s1), .second, .val (.ref b2138), .val (.ref b2152), .val (.ref b2454), .unset, .unset, .unset, .unset] [(.int (2 : Int32))])) rfl (hb hby at_116) rfl (by decide) (cap := 2) (by decide) (by decide) (by decide) (by decide) (ad := "[J") (by decide)
    obtain ⟨b2551, g2551⟩ : ∃ z, z = h2522.size := ⟨_, rfl⟩
    have ne2552 : b2138 ≠ b2551 := fun q => absurd E2536.lt (by rw [q, g2551]; exact Nat.lt_irrefl _)
    have ne2553 : b2152 ≠ b2551 := fun q => absurd E2537.lt (by rw [q, g2551]; exact Nat.lt_irrefl _)
    have ne2554 : lim ≠ b2551 := fun q => absurd E2538.lt (by rw [q, g2551]; exact Nat.lt_irrefl _)
    have ne2555 : wo ≠ b2551 := fun q => absurd E2539.lt (by rw [q, g2551]; exact Nat.lt_irrefl _)
    have ne2556 : b2454 ≠ b2551 := fun q => absurd E2540.lt (by rw [q, g2551]; exact Nat.lt_irrefl _)
    have ne2557 : ow ≠ b2551 := fun q => absurd A2541.lt (by rw [q, g2551]; exact Nat.lt_irrefl _)
    have ne2558 : ix ≠ b2551 := fun q => absurd A2542.lt (by rw [q, g2551]; exact Nat.lt_irrefl _)
    have ne2559 : sv ≠ b2551 := fun q => absurd A2543.lt (by rw [q, g2551]; exact Nat.lt_irrefl _)
    have ne2560 : sa ≠ b2551 := fun q => absurd A2546.lt (by rw [q, g2551]; exact Nat.lt_irrefl _)
    have ne2561 : nz ≠ b2551 := fun q => absurd A2547.lt (by rw [q, g2551]; exact Nat.lt_irrefl _)
    have ne2562 : ma ≠ b2551 := fun q => absurd A2548.lt (by rw [q, g2551]; exact Nat.lt_irrefl _)
    have g2563 : n0 ≤ b2551 := g2551 ▸ Z2549
    rw [← g2551] at A2551 Y2551 st2551
    have F2564 := F2524.ext E2551
    have F2565 := F2525.ext E2551
    have F2566 := F2526.ext E2551
    have F2567 := F2527.ext E2551
    have F2568 := F2528.ext E2551
    have F2569 := F2529.ext E2551
    have F2570 := F2530.ext E2551
    have F2571 := F2531.ext E2551
    have F2572 := F2532.ext E2551
    have F2573 := F2533.ext E2551
    have F2574 := F2534.ext E2551
    have F2575 := F2535.ext E2551
    have E2576 := E2536.ext E2551
    have E2577 := E2537.ext E2551
    have E2578 := E2538.ext E2551
    have E2579 := E2539.ext E2551
    have E2580 := E2540.ext E2551
    have A2581 := A2541.ext E2551
    have A2582 := A2542.ext E2551
    have A2583 := A2543.ext E2551
    have A2584 := A2544.ext E2551
    have A2585 := A2545.ext E2551
    have A2586 := A2546.ext E2551
    have A2587 := A2547.ext E2551
    have A2588 := A2548.ext E2551
    have A2589 := A2523.ext E2551
    have Z2590 : n0 ≤ h2551.size := Nat.le_trans Z2549 E2551.1
    have A2591 : OwnAV Z h2551 b2551 .long 2 (fun i => (.long ((fun _ => (0 : Int64)) i))) := OwnAV.new A2551 rfl (by decide)
    have A2592 : OwnAV Z h2551 b2551 .long 2 (fun i => (.long ((own_l2 (0 : Int64) (0 : Int64)) i))) := A2591.congr (fun j hj => by
        have q : j = 0 ∨ j = 1 := by omega
        rcases q with rfl | rfl <;> rfl)
    obtain ⟨T2593, h2593, X2593, e2593, W2593, st2593⟩ := own_last X2551 hx hZ e2551 A2592 (k := 0) ⟨by decide, rfl, by decide⟩ (g := (mkF m 122 #[.val (.int pp), .val (.long m0), .second, .val (.long m1), .second, .val (.long q0), .second, .val (.long q1), .second, .val (.int bits), .val (.long f0), .second, .val (.long f1), .second, .val (.long s0), .second, .val (.long s1), .second, .val (.ref b2138), .val (.ref b2152), .val (.ref b2454), .unset, .unset, .unset, .unset] [(.long q0), (.int (0 : Int32)), (.ref b2551), (.ref b2551)])) rfl rfl (hb hby at_122)
    have A2594 : OwnAV Z h2593 b2551 .long 2 (fun i => (.long ((own_l2 q0 (0 : Int64)) i))) := (A2592.storeJ W2593).congr (fun j hj => by
        have q : j = 0 ∨ j = 1 := by omega
        rcases q with rfl | rfl <;> rfl)
    have F2595 := F2564.other W2593 (Or.inl ne2552)
    have F2596 := F2565.other W2593 (Or.inl ne2552)
    have F2597 := F2566.other W2593 (Or.inl ne2552)
    have F2598 := F2567.other W2593 (Or.inl ne2552)
    have F2599 := F2568.other W2593 (Or.inl ne2552)
    have F2600 := F2569.other W2593 (Or.inl ne2553)
    have F2601 := F2570.other W2593 (Or.inl ne2553)
    have F2602 := F2571.other W2593 (Or.inl ne2553)
    have F2603 := F2572.other W2593 (Or.inl ne2553)
    have F2604 := F2573.other W2593 (Or.inl ne2553)
    have F2605 := F2574.other W2593 (Or.inl ne2553)
    have F2606 := F2575.other W2593 (Or.inl ne2553)
    have E2607 := E2576.wr W2593
    have E2608 := E2577.wr W2593
    have E2609 := E2578.wr W2593
    have E2610 := E2579.wr W2593
    have E2611 := E2580.wr W2593
    have E2612 := Y2551.wr W2593
    have A2613 := A2581.other W2593 ne2557
    have A2614 := A2582.other W2593 ne2558
    have A2615 := A2583.other W2593 ne2559
    have A2616 := A2584.other W2593 ne2554
    have A2617 := A2585.other W2593 ne2555
    have A2618 := A2586.other W2593 ne2560
    have A2619 := A2587.other W2593 ne2561
    have A2620 := A2588.other W2593 ne2562
    have A2621 := A2589.other W2593 ne2556
    have Z2622 : n0 ≤ h2593.size := W2593.size ▸ Z2590
    have N2623 := Fr.snoc X2593 N2550 g2563
    obtain ⟨T2624, h2624, X2624, e2624, W2624, st2624⟩ := own_last X2593 hx hZ e2593 A2594 (k := 1) ⟨by decide, rfl, by decide⟩ (g := (mkF m 127 #[.val (.int pp), .val (.long m0), .second, .val (.long m1), .second, .val (.long q0), .second, .val (.long q1), .second, .val (.int bits), .val (.long f0), .second, .val (.long f1), .second, .val (.long s0), .second, .val (.long s1), .second, .val (.ref b2138), .val (.ref b2152), .val (.ref b2454), .unset, .unset, .unset, .unset] [(.long q1), (.int (1 : Int32)), (.ref b2551), (.ref b2551)])) rfl rfl (hb hby at_127)
    have A2625 : OwnAV Z h2624 b2551 .long 2 (fun i => (.long ((own_l2 q0 q1) i))) := (A2594.storeJ W2624).congr (fun j hj => by
        have q : j = 0 ∨ j = 1 := by omega
        rcases q with rfl | rfl <;> rfl)
    have F2626 := F2595.other W2624 (Or.inl ne2552)
    have F2627 := F2596.other W2624 (Or.inl ne2552)
    have F2628 := F2597.other W2624 (Or.inl ne2552)
    have F2629 := F2598.other W2624 (Or.inl ne2552)
    have F2630 := F2599.other W2624 (Or.inl ne2552)
    have F2631 := F2600.other W2624 (Or.inl ne2553)
    have F2632 := F2601.other W2624 (Or.inl ne2553)
    have F2633 := F2602.other W2624 (Or.inl ne2553)
    have F2634 := F2603.other W2624 (Or.inl ne2553)
    have F2635 := F2604.other W2624 (Or.inl ne2553)
    have F2636 := F2605.other W2624 (Or.inl ne2553)
    have F2637 := F2606.other W2624 (Or.inl ne2553)
    have E2638 := E2607.wr W2624
    have E2639 := E2608.wr W2624
    have E2640 := E2609.wr W2624
    have E2641 := E2610.wr W2624
    have E2642 := E2611.wr W2624
    have E2643 := E2612.wr W2624
    have A2644 := A2613.other W2624 ne2557
    have A2645 := A2614.other W2624 ne2558
    have A2646 := A2615.other W2624 ne2559
    have A2647 := A2616.other W2624 ne2554
    have A2648 := A2617.other W2624 ne2555
    have A2649 := A2618.other W2624 ne2560
    have A2650 := A2619.other W2624 ne2561
    have A2651 := A2620.other W2624 ne2562
    have A2652 := A2621.other W2624 ne2556
    have Z2653 : n0 ≤ h2624.size := W2624.size ▸ Z2622
    have N2654 := Fr.snoc X2624 N2623 g2563
    obtain ⟨cq2655, kq2655, q2655a, q2655b, q2655c⟩ := isOf hZ e2624 E2639
    obtain ⟨_, _, ⟨T2655, L2655, k2655, n2655⟩, -, X2655, ⟨Lc2655, hQ2655, l2655, y2655, z2655⟩, st2655⟩ := X2624.virtualBack hx (y := (⟨"com/example/faultline/faultline/engine/ReversibleBitSet", "addToMask", "([J)V"⟩ : MethodName)) (z := (⟨"com/example/faultline/faultline/engine/ReversibleBitSet", "addToMask", "([J)V"⟩ : MethodName)) hown (mvT hZ (hw _ (List.mem_of_getElem? (i := 54) rfl))) (mvT hZ (hw _ (List.mem_of_getElem? (i := 55) rfl))) (notFace_of_selects (args := #[]) (mvT hZ (hw _ (List.mem_of_getElem? (i := 57) rfl)))) (mvT hZ (hw _ (List.mem_of_getElem? (i := 57) rfl))) (mvT hZ (hw _ (List.mem_of_getElem? (i := 56) rfl))) (by decide) (backOf (W := 0) (rmm1 l Z a0 hw [] b2152 b2454 b2138 lim wo sa nz ma (-1 : Int64) (0 : Int64) (0 : Int64) m0 m1 h2624 n0 Z2653 ⟨E2639, F2631, F2632, F2633, F2634, F2635, F2636, F2637⟩ gl_ma ⟨v_b2152_ma, v_lim_ma, v_nz_ma, (Ne.symm ne2464)⟩ A2647 A2650 A2651 A2652) hZ (hw _ (List.mem_of_getElem? (i := 58) rfl)) (hw _ (List.mem_of_getElem? (i := 25) rfl)) (by decide) (by decide)) q2655a q2655c (g := (mkF m 134 #[.val (.int pp), .val (.long m0), .second, .val (.long m1), .second, .val (.long q0), .second, .val (.long q1), .second, .val (.int bits), .val (.long f0), .second, .val (.long f1), .second, .val (.long s0), .second, .val (.long s1), .second, .val (.ref b2138), .val (.ref b2152), .val (.ref b2454), .val (.ref b2551), .unset, .unset, .unset] [(.ref b2454), (.ref b2152)])) rfl (by rw [hml]; rfl) (Steps.refl _) (argsL := [(.ref b2454)]) (rest := []) (lenOf pd_10 rfl) rfl (by show 2 * 0 + _ ≤ _; exact Nat.le_of_eq rfl) (hb hby at_134) (fun _ _ => ⟨rfl, e2624, (by decide : 14 + 0 ≤ _), (by decide : 825 + 0 ≤ _)⟩)
    dsimp only [Pt.U, Pt.locs, Pt.cells, Pt.slots] at X2655 l2655 y2655 z2655 st2655 hQ2655
    subst l2655 y2655 z2655
    obtain ⟨rfl, N2655q, K2655, Vm2655⟩ := hQ2655
    have N2655 := Fr.app N2654 N2655q
    have F2656 := F2626.keep K2655 (ninS v_b2138_ma nin0)
    have F2657 := F2627.keep K2655 (ninS v_b2138_ma nin0)
    have F2658 := F2628.keep K2655 (ninS v_b2138_ma nin0)
    have F2659 := F2629.keep K2655 (ninS v_b2138_ma nin0)
    have F2660 := F2630.keep K2655 (ninS v_b2138_ma nin0)
    have F2661 := F2631.keep K2655 (ninS v_b2152_ma nin0)
    have F2662 := F2632.keep K2655 (ninS v_b2152_ma nin0)
    have F2663 := F2633.keep K2655 (ninS v_b2152_ma nin0)
    have F2664 := F2634.keep K2655 (ninS v_b2152_ma nin0)
    have F2665 := F2635.keep K2655 (ninS v_b2152_ma nin0)
    have F2666 := F2636.keep K2655 (ninS v_b2152_ma nin0)
    have F2667 := F2637.keep K2655 (ninS v_b2152_ma nin0)
    have E2668 := E2638.keep K2655
    have E2669 := E2639.keep K2655
    have E2670 := E2640.keep K2655
    have E2671 := E2641.keep K2655
    have E2672 := E2642.keep K2655
    have E2673 := E2643.keep K2655
    have A2674 := A2644.keep K2655 (ninS v_ow_ma nin0)
    have A2675 := A2645.keep K2655 (ninS v_ix_ma nin0)
    have A2676 := A2646.keep K2655 (ninS v_sv_ma nin0)
    have A2677 := A2647.keep K2655 (ninS v_lim_ma nin0)
    have A2678 := A2648.keep K2655 (ninS v_wo_ma nin0)
    have A2679 := A2649.keep K2655 (ninS v_sa_ma nin0)
    have A2680 := A2650.keep K2655 (ninS v_nz_ma nin0)
    have A2681 := A2652.keep K2655 (ninS (Ne.symm ne2464) nin0)
    have A2682 := A2625.keep K2655 (ninS (Ne.symm ne2562) nin0)
    have Z2683 : n0 ≤ T2655.heap.size := Nat.le_trans Z2653 K2655.1
    have hnz0 : ¬ x0 = (0 : Int64) := own_nzw0 bits x0 (by omega) (by omega) hx0
    obtain ⟨cq2684, kq2684, q2684a, q2684b, q2684c⟩ := isOf hZ rfl E2669
    obtain ⟨_, _, ⟨T2684, L2684, k2684, n2684⟩, -, X2684, ⟨Lc2684, hQ2684, l2684, y2684, z2684⟩, st2684⟩ := X2655.virtualBack hx (y := (⟨"com/example/faultline/faultline/engine/ReversibleBitSet", "intersectWithMask", "()V"⟩ : MethodName)) (z := (⟨"com/example/faultline/faultline/engine/ReversibleBitSet", "intersectWithMask", "()V"⟩ : MethodName)) hown (mvT hZ (hw _ (List.mem_of_getElem? (i := 59) rfl))) (mvT hZ (hw _ (List.mem_of_getElem? (i := 60) rfl))) (notFace_of_selects (args := #[]) (mvT hZ (hw _ (List.mem_of_getElem? (i := 62) rfl)))) (mvT hZ (hw _ (List.mem_of_getElem? (i := 62) rfl))) (mvT hZ (hw _ (List.mem_of_getElem? (i := 61) rfl))) (by decide) (backOf (W := 0) (rmx1 l Z a0 hw [] b2152 b2138 ow ix sv lim wo sa nz ma x0 x1 y0 y1 ((0 : Int64) ||| m0) (0 : Int64) T2655.heap n0 Z2683 ⟨E2668, F2656, F2657, F2658, F2659, F2660, A2674, ⟨_, A2675⟩, ⟨_, A2676⟩⟩ hap hnew ⟨E2669, F2661, F2662, F2663, F2664, F2665, F2666, F2667⟩ ⟨g2157, gl_nz, gl0⟩ gl_wo gl_sa ⟨(Ne.symm ne2153), (Ne.symm ne2154), (Ne.symm ne2155), (Ne.symm ne2156), v_b2152_lim, v_b2152_wo, v_b2152_sa, v_b2152_nz, v_b2152_ma, v_b2138_lim, v_b2138_wo, v_b2138_sa, v_b2138_nz, v_b2138_ma, v_ow_lim, v_ow_wo, v_ow_sa, v_ow_nz, v_ow_ma, v_ix_lim, v_ix_wo, v_ix_sa, v_ix_nz, v_ix_ma, v_sv_lim, v_sv_wo, v_sv_sa, v_sv_nz, v_sv_ma, v_lim_wo, v_lim_sa, v_lim_nz, v_lim_ma, v_wo_sa, v_wo_nz, v_wo_ma, v_sa_nz, v_sa_ma, v_nz_ma⟩ A2677 A2678 A2679 A2680 Vm2655 E2670 E2671 hnz0 hy0) hZ (hw _ (List.mem_of_getElem? (i := 63) rfl)) (hw _ (List.mem_of_getElem? (i := 25) rfl)) (by decide) (by decide)) q2684a q2684c (g := (mkF m 139 #[.val (.int pp), .val (.long m0), .second, .val (.long m1), .second, .val (.long q0), .second, .val (.long q1), .second, .val (.int bits), .val (.long f0), .second, .val (.long f1), .second, .val (.long s0), .second, .val (.long s1), .second, .val (.ref b2138), .val (.ref b2152), .val (.ref b2454), .val (.ref b2551), .unset, .unset, .unset] [(.ref b2152)])) rfl (by rw [hml]; rfl) (Steps.refl _) (argsL := []) (rest := []) (lenOf pd_8 rfl) rfl (by show 2 * 0 + _ ≤ _; exact Nat.le_of_eq rfl) (hb hby at_139) (fun _ _ => ⟨rfl, rfl, (by decide : 14 + 0 ≤ _), (by decide : 825 + 0 ≤ _)⟩)
    dsimp only [Pt.U, Pt.locs, Pt.cells, Pt.slots] at X2684 l2684 y2684 z2684 st2684 hQ2684
    subst l2684 y2684 z2684
    obtain ⟨rfl, N2684q, K2684, ls1, lm, z0, z1, hS2684, Vo2684, Vn2684, Vl2684, hpr⟩ := hQ2684
    have N2684 := Fr.app N2655 N2684q
    have E2685 := E2668.keep K2684
    have E2686 := E2669.keep K2684
    have E2687 := E2670.keep K2684
    have E2688 := E2671.keep K2684
    have E2689 := E2672.keep K2684
    have E2690 := E2673.keep K2684
    have A2691 := A2681.keep K2684 (ninS (Ne.symm ne2456) (ninS (Ne.symm ne2455) (ninS (Ne.symm ne2459) (ninS (Ne.symm ne2460) (ninS (Ne.symm ne2461) (ninS (Ne.symm ne2458) (ninS (Ne.symm ne2462) (ninS (Ne.symm ne2463) (ninS (Ne.symm ne2457) nin0)))))))))
    have A2692 := A2682.keep K2684 (ninS (Ne.symm ne2553) (ninS (Ne.symm ne2552) (ninS (Ne.symm ne2557) (ninS (Ne.symm ne2558) (ninS (Ne.symm ne2559) (ninS (Ne.symm ne2555) (ninS (Ne.symm ne2560) (ninS (Ne.symm ne2561) (ninS (Ne.symm ne2554) nin0)))))))))
    have A2693 := Vm2655.keep K2684 (ninS (Ne.symm v_b2152_ma) (ninS (Ne.symm v_b2138_ma) (ninS (Ne.symm v_ow_ma) (ninS (Ne.symm v_ix_ma) (ninS (Ne.symm v_sv_ma) (ninS (Ne.symm v_wo_ma) (ninS (Ne.symm v_sa_ma) (ninS (Ne.symm v_nz_ma) (ninS (Ne.symm v_lim_ma) nin0)))))))))
    have Z2694 : n0 ≤ T2684.heap.size := Nat.le_trans Z2683 K2684.1
    obtain ⟨cq2695, kq2695, q2695a, q2695b, q2695c⟩ := isOf hZ rfl E2686
    obtain ⟨_, _, ⟨T2695, L2695, k2695, n2695⟩, -, X2695, ⟨Lc2695, hQ2695, l2695, y2695, z2695⟩, st2695⟩ := X2684.virtualBack hx (y := (⟨"com/example/faultline/faultline/engine/ReversibleBitSet", "intersectIndex", "([J)I"⟩ : MethodName)) (z := (⟨"com/example/faultline/faultline/engine/ReversibleBitSet", "intersectIndex", "([J)I"⟩ : MethodName)) hown (mvT hZ (hw _ (List.mem_of_getElem? (i := 64) rfl))) (mvT hZ (hw _ (List.mem_of_getElem? (i := 65) rfl))) (notFace_of_selects (args := #[]) (mvT hZ (hw _ (List.mem_of_getElem? (i := 67) rfl)))) (mvT hZ (hw _ (List.mem_of_getElem? (i := 67) rfl))) (mvT hZ (hw _ (List.mem_of_getElem? (i := 66) rfl))) (by decide) (backOf (W := 0) (rmy1 l Z a0 hw [] b2152 b2551 b2138 lim wo sa nz ma ls1 (x0 &&& ((0 : Int64) ||| m0)) x1 q0 q1 lm z0 z1 T2684.heap n0 Z2694 hS2684 Vl2684 Vo2684 Vn2684 A2692 hpr) hZ (hw _ (List.mem_of_getElem? (i := 68) rfl)) (hw _ (List.mem_of_getElem? (i := 25) rfl)) (by decide) (by decide)) q2695a q2695c (g := (mkF m 146 #[.val (.int pp), .val (.long m0), .second, .val (.long m1), .second, .val (.long q0), .second, .val (.long q1), .second, .val (.int bits), .val (.long f0), .second, .val (.long f1), .second, .val (.long s0), .second, .val (.long s1), .second, .val (.ref b2138), .val (.ref b2152), .val (.ref b2454), .val (.ref b2551), .unset, .unset, .unset] [(.ref b2551), (.ref b2152)])) rfl (by rw [hml]; rfl) (Steps.refl _) (argsL := [(.ref b2551)]) (rest := []) (lenOf pd_11 rfl) rfl (by show 2 * 0 + _ ≤ _; exact Nat.le_of_eq rfl) (hb hby at_146) (fun _ _ => ⟨rfl, rfl, (by decide : 14 + 0 ≤ _), (by decide : 825 + 0 ≤ _)⟩)
    dsimp only [Pt.U, Pt.locs, Pt.cells, Pt.slots] at X2695 l2695 y2695 z2695 st2695 hQ2695
    subst l2695 y2695 z2695
    obtain ⟨rr, rfl, hrr, N2695q, e2695⟩ := hQ2695
    have N2695 := Fr.app N2684 N2695q
    have k2696 : ∀ t, Steps p.tables e below (T2695.setTop (mkF m 158 #[.val (.int pp), .val (.long m0), .second, .val (.long m1), .second, .val (.long q0), .second, .val (.long q1), .second, .val (.int bits), .val (.long f0), .second, .val (.long f1), .second, .val (.long s0), .second, .val (.long s1), .second, .val (.ref b2138), .val (.ref b2152), .val (.ref b2454), .val (.ref b2551), .val (.int rr), .unset, .unset] [(.int (lcmpW (s0 &&& q0) (0 : Int64)))])) t → Steps p.tables e below (s₁.setTop (entryFrame m #[(.int pp), (.long m0), (.long m1), (.long q0), (.long q1)] maxLocals)) t := fun t hk => k2175 t (by
      show Steps p.tables e below (T2152.setTop (mkF m 97 #[.val (.int pp), .val (.long m0), .second, .val (.long m1), .second, .val (.long q0), .second, .val (.long q1), .second, .val (.int bits), .val (.long f0), .second, .val (.long f1), .second, .val (.long s0), .second, .val (.long s1), .second, .val (.ref b2138), .unset, .unset, .unset, .unset, .unset, .unset] [(.int bits), (.ref b2138), (.ref b2152), (.ref b2152)])) _
      refine st2441.trans ?_
      refine XS.astore X2441.here hx rfl (hb hby at_100) rfl rfl (l' := #[.val (.int pp), .val (.long m0), .second, .val (.long m1), .second, .val (.long q0), .second, .val (.long q1), .second, .val (.int bits), .val (.long f0), .second, .val (.long f1), .second, .val (.long s0), .second, .val (.long s1), .second, .val (.ref b2138), .val (.ref b2152), .unset, .unset, .unset, .unset, .unset]) rfl ?_
      refine XS.iconst X2441.here hx rfl (hb hby at_102) ?_
      refine st2454 _ ?_
      show Steps p.tables e below (T2454.setTop (mkF m 105 #[.val (.int pp), .val (.long m0), .second, .val (.long m1), .second, .val (.long q0), .second, .val (.long q1), .second, .val (.int bits), .val (.long f0), .second, .val (.long f1), .second, .val (.long s0), .second, .val (.long s1), .second, .val (.ref b2138), .val (.ref b2152), .unset, .unset, .unset, .unset, .unset] [(.ref b2454)])) _
      refine XS.dup X2454.here hx rfl (hb hby at_105) rfl rfl ?_
      refine XS.iconst X2454.here hx rfl (hb hby at_106) ?_
      refine XS.lloadN X2454.here hx rfl (hb hby at_107) rfl ?_
      refine st2493 _ ?_
      show Steps p.tables e below (T2493.setTop (mkF m 109 #[.val (.int pp), .val (.long m0), .second, .val (.long m1), .second, .val (.long q0), .second, .val (.long q1), .second, .val (.int bits), .val (.long f0), .second, .val (.long f1), .second, .val (.long s0), .second, .val (.long s1), .second, .val (.ref b2138), .val (.ref b2152), .unset, .unset, .unset, .unset, .unset] [(.ref b2454)])) _
      refine XS.dup X2493.here hx rfl (hb hby at_109) rfl rfl ?_
      refine XS.iconst X2493.here hx rfl (hb hby at_110) ?_
      refine XS.lloadN X2493.here hx rfl (hb hby at_111) rfl ?_
      refine st2522 _ ?_
      show Steps p.tables e below (T2522.setTop (mkF m 113 #[.val (.int pp), .val (.long m0), .second, .val (.long m1), .second, .val (.long q0), .second, .val (.long q1), .second, .val (.int bits), .val (.long f0), .second, .val (.long f1), .second, .val (.long s0), .second, .val (.long s1), .second, .val (.ref b2138), .val (.ref b2152), .unset, .unset, .unset, .unset, .unset] [(.ref b2454)])) _
      refine XS.astore X2522.here hx rfl (hb hby at_113) rfl rfl (l' := #[.val (.int pp), .val (.long m0), .second, .val (.long m1), .second, .val (.long q0), .second, .val (.long q1), .second, .val (.int bits), .val (.long f0), .second, .val (.long f1), .second, .val (.long s0), .second, .val (.long s1), .second, .val (.ref b2138), .val (.ref b2152), .val (.ref b2454), .unset, .unset, .unset, .unset]) rfl ?_
      refine XS.iconst X2522.here hx rfl (hb hby at_115) ?_
      refine st2551 _ ?_
      refine XS.dup X2551.here hx rfl (hb hby at_118) rfl rfl ?_
      show Steps p.tables e below (T2551.setTop (mkF m 119 #[.val (.int pp), .val (.long m0), .second, .val (.long m1), .second, .val (.long q0), .second, .val (.long q1), .second, .val (.int bits), .val (.long f0), .second, .val (.long f1), .second, .val (.long s0), .second, .val (.long s1), .second, .val (.ref b2138), .val (.ref b2152), .val (.ref b2454), .unset, .unset, .unset, .unset] [(.ref b2551), (.ref b2551)])) _
      refine XS.iconst X2551.here hx rfl (hb hby at_119) ?_
      refine XS.lload X2551.here hx rfl (hb hby at_120) rfl ?_
      refine st2593 _ ?_
      refine XS.dup X2593.here hx rfl (hb hby at_123) rfl rfl ?_
      show Steps p.tables e below (T2593.setTop (mkF m 124 #[.val (.int pp), .val (.long m0), .second, .val (.long m1), .second, .val (.long q0), .second, .val (.long q1), .second, .val (.int bits), .val (.long f0), .second, .val (.long f1), .second, .val (.long s0), .second, .val (.long s1), .second, .val (.ref b2138), .val (.ref b2152), .val (.ref b2454), .unset, .unset, .unset, .unset] [(.ref b2551), (.ref b2551)])) _
      refine XS.iconst X2593.here hx rfl (hb hby at_124) ?_
      refine XS.lload X2593.here hx rfl (hb hby at_125) rfl ?_
      refine st2624 _ ?_
      refine XS.astore X2624.here hx rfl (hb hby at_128) rfl rfl (l' := #[.val (.int pp), .val (.long m0), .second, .val (.long m1), .second, .val (.long q0), .second, .val (.long q1), .second, .val (.int bits), .val (.long f0), .second, .val (.long f1), .second, .val (.long s0), .second, .val (.long s1), .second, .val (.ref b2138), .val (.ref b2152), .val (.ref b2454), .val (.ref b2551), .unset, .unset, .unset]) rfl ?_
      show Steps p.tables e below (T2624.setTop (mkF m 130 #[.val (.int pp), .val (.long m0), .second, .val (.long m1), .second, .val (.long q0), .second, .val (.long q1), .second, .val (.int bits), .val (.long f0), .second, .val (.long f1), .second, .val (.long s0), .second, .val (.long s1), .second, .val (.ref b2138), .val (.ref b2152), .val (.ref b2454), .val (.ref b2551), .unset, .unset, .unset] [])) _
      refine XS.aload X2624.here hx rfl (hb hby at_130) rfl rfl ?_
      refine XS.aload X2624.here hx rfl (hb hby at_132) rfl rfl ?_
      refine st2655.trans ?_
      refine XS.aload X2655.here hx rfl (hb hby at_137) rfl rfl ?_
      show Steps p.tables e below (T2655.setTop (mkF m 139 #[.val (.int pp), .val (.long m0), .second, .val (.long m1), .second, .val (.long q0), .second, .val (.long q1), .second, .val (.int bits), .val (.long f0), .second, .val (.long f1), .second, .val (.long s0), .second, .val (.long s1), .second, .val (.ref b2138), .val (.ref b2152), .val (.ref b2454), .val (.ref b2551), .unset, .unset, .unset] [(.ref b2152)])) _
      refine st2684.trans ?_
      refine XS.aload X2684.here hx rfl (hb hby at_142) rfl rfl ?_
      refine XS.aload X2684.here hx rfl (hb hby at_144) rfl rfl ?_
      refine st2695.trans ?_
      show Steps p.tables e below (T2695.setTop (mkF m 149 #[.val (.int pp), .val (.long m0), .second, .val (.long m1), .second, .val (.long q0), .second, .val (.long q1), .second, .val (.int bits), .val (.long f0), .second, .val (.long f1), .second, .val (.long s0), .second, .val (.long s1), .second, .val (.ref b2138), .val (.ref b2152), .val (.ref b2454), .val (.ref b2551), .unset, .unset, .unset] [(.int rr)])) _
      refine XS.istore X2695.here hx rfl (hb hby at_149) rfl (l' := #[.val (.int pp), .val (.long m0), .second, .val (.long m1), .second, .val (.long q0), .second, .val (.long q1), .second, .val (.int bits), .val (.long f0), .second, .val (.long f1), .second, .val (.long s0), .second, .val (.long s1), .second, .val (.ref b2138), .val (.ref b2152), .val (.ref b2454), .val (.ref b2551), .val (.int rr), .unset, .unset]) rfl ?_
      refine XS.lload X2695.here hx rfl (hb hby at_151) rfl ?_
      refine XS.lload X2695.here hx rfl (hb hby at_153) rfl ?_
      refine XS.land X2695.here hx rfl (hb hby at_155) rfl ?_
      show Steps p.tables e below (T2695.setTop (mkF m 156 #[.val (.int pp), .val (.long m0), .second, .val (.long m1), .second, .val (.long q0), .second, .val (.long q1), .second, .val (.int bits), .val (.long f0), .second, .val (.long f1), .second, .val (.long s0), .second, .val (.long s1), .second, .val (.ref b2138), .val (.ref b2152), .val (.ref b2454), .val (.ref b2551), .val (.int rr), .unset, .unset] [(.long (s0 &&& q0))])) _
      refine XS.lconst X2695.here hx rfl (hb hby at_156) ?_
      refine XS.lcmp X2695.here hx rfl (hb hby at_157) rfl ?_
      exact hk)
    obtain ⟨t0, ht0, k2697⟩ : ∃ (t0 : Int32), (t0 = (if (s0 &&& q0) = (0 : Int64) then (0 : Int32) else (1 : Int32))) ∧ ∀ t, Steps p.tables e below (T2695.setTop (mkF m 166 #[.val (.int pp), .val (.long m0), .second, .val (.long m1), .second, .val (.long q0), .second, .val (.long q1), .second, .val (.int bits), .val (.long f0), .second, .val (.long f1), .second, .val (.long s0), .second, .val (.long s1), .second, .val (.ref b2138), .val (.ref b2152), .val (.ref b2454), .val (.ref b2551), .val (.int rr), .unset, .unset] [(.int t0)])) t → Steps p.tables e below (s₁.setTop (entryFrame m #[(.int pp), (.long m0), (.long m1), (.long q0), (.long q1)] maxLocals)) t := by
      by_cases hc158 : (s0 &&& q0) = (0 : Int64)
      ·
        refine ⟨(0 : Int32), ((if_pos hc158).trans rfl).symm, fun t hk => k2696 t ?_⟩
        show Steps p.tables e below (T2695.setTop (mkF m 158 #[.val (.int pp), .val (.long m0), .second, .val (.long m1), .second, .val (.long q0), .second, .val (.long q1), .second, .val (.int bits), .val (.long f0), .second, .val (.long f1), .second, .val (.long s0), .second, .val (.long s1), .second, .val (.ref b2138), .val (.ref b2152), .val (.ref b2454), .val (.ref b2551), .val (.int rr), .unset, .unset] [(.int (lcmpW (s0 &&& q0) (0 : Int64)))])) _
        refine XS.ifYes X2695.here hx rfl (pc0 := 158) (pc' := 165) rfl (hb hby at_158) rfl ((if0 _ _).trans (teq ((lw_eq _ _).mpr hc158)).1) (by decide) (by decide) ?_
        refine XS.iconst X2695.here hx rfl (hb hby at_165) ?_
        exact hk
      ·
        refine ⟨(1 : Int32), ((if_neg hc158).trans rfl).symm, fun t hk => k2696 t ?_⟩
        show Steps p.tables e below (T2695.setTop (mkF m 158 #[.val (.int pp), .val (.long m0), .second, .val (.long m1), .second, .val (.long q0), .second, .val (.long q1), .second, .val (.int bits), .val (.long f0), .second, .val (.long f1), .second, .val (.long s0), .second, .val (.long s1), .second, .val (.ref b2138), .val (.ref b2152), .val (.ref b2454), .val (.ref b2551), .val (.int rr), .unset, .unset] [(.int (lcmpW (s0 &&& q0) (0 : Int64)))])) _
        refine XS.ifNo X2695.here hx rfl (hb hby at_158) rfl ((if0 _ _).trans (feq (fun q => hc158 ((lw_eq _ _).mp q))).1) ?_
        refine XS.iconst X2695.here hx rfl (hb hby at_161) ?_
        refine XS.goto X2695.here hx rfl (pc0 := 162) (pc' := 166) rfl (hb hby at_162) (by decide) (by decide) ?_
        exact hk
    have k2698 : ∀ t, Steps p.tables e below (T2695.setTop (mkF m 175 #[.val (.int pp), .val (.long m0), .second, .val (.long m1), .second, .val (.long q0), .second, .val (.long q1), .second, .val (.int bits), .val (.long f0), .second, .val (.long f1), .second, .val (.long s0), .second, .val (.long s1), .second, .val (.ref b2138), .val (.ref b2152), .val (.ref b2454), .val (.ref b2551), .val (.int rr), .val (.int t0), .unset] [(.int (lcmpW (s1 &&& q1) (0 : Int64)))])) t → Steps p.tables e below (s₁.setTop (entryFrame m #[(.int pp), (.long m0), (.long m1), (.long q0), (.long q1)] maxLocals)) t := fun t hk => k2697 t (by
      show Steps p.tables e below (T2695.setTop (mkF m 166 #[.val (.int pp), .val (.long m0), .second, .val (.long m1), .second, .val (.long q0), .second, .val (.long q1), .second, .val (.int bits), .val (.long f0), .second, .val (.long f1), .second, .val (.long s0), .second, .val (.long s1), .second, .val (.ref b2138), .val (.ref b2152), .val (.ref b2454), .val (.ref b2551), .val (.int rr), .unset, .unset] [(.int t0)])) _
      refine XS.istore X2695.here hx rfl (hb hby at_166) rfl (l' := #[.val (.int pp), .val (.long m0), .second, .val (.long m1), .second, .val (.long q0), .second, .val (.long q1), .second, .val (.int bits), .val (.long f0), .second, .val (.long f1), .second, .val (.long s0), .second, .val (.long s1), .second, .val (.ref b2138), .val (.ref b2152), .val (.ref b2454), .val (.ref b2551), .val (.int rr), .val (.int t0), .unset]) rfl ?_
      refine XS.lload X2695.here hx rfl (hb hby at_168) rfl ?_
      refine XS.lload X2695.here hx rfl (hb hby at_170) rfl ?_
      refine XS.land X2695.here hx rfl (hb hby at_172) rfl ?_
      show Steps p.tables e below (T2695.setTop (mkF m 173 #[.val (.int pp), .val (.long m0), .second, .val (.long m1), .second, .val (.long q0), .second, .val (.long q1), .second, .val (.int bits), .val (.long f0), .second, .val (.long f1), .second, .val (.long s0), .second, .val (.long s1), .second, .val (.ref b2138), .val (.ref b2152), .val (.ref b2454), .val (.ref b2551), .val (.int rr), .val (.int t0), .unset] [(.long (s1 &&& q1))])) _
      refine XS.lconst X2695.here hx rfl (hb hby at_173) ?_
      refine XS.lcmp X2695.here hx rfl (hb hby at_174) rfl ?_
      exact hk)
    obtain ⟨t1, ht1, k2699⟩ : ∃ (t1 : Int32), (t1 = (if (s1 &&& q1) = (0 : Int64) then (0 : Int32) else (1 : Int32))) ∧ ∀ t, Steps p.tables e below (T2695.setTop (mkF m 183 #[.val (.int pp), .val (.long m0), .second, .val (.long m1), .second, .val (.long q0), .second, .val (.long q1), .second, .val (.int bits), .val (.long f0), .second, .val (.long f1), .second, .val (.long s0), .second, .val (.long s1), .second, .val (.ref b2138), .val (.ref b2152), .val (.ref b2454), .val (.ref b2551), .val (.int rr), .val (.int t0), .unset] [(.int t1)])) t → Steps p.tables e below (s₁.setTop (entryFrame m #[(.int pp), (.long m0), (.long m1), (.long q0), (.long q1)] maxLocals)) t := by
      by_cases hc175 : (s1 &&& q1) = (0 : Int64)
      ·
        refine ⟨(0 : Int32), ((if_pos hc175).trans rfl).symm, fun t hk => k2698 t ?_⟩
        show Steps p.tables e below (T2695.setTop (mkF m 175 #[.val (.int pp), .val (.long m0), .second, .val (.long m1), .second, .val (.long q0), .second, .val (.long q1), .second, .val (.int bits), .val (.long f0), .second, .val (.long f1), .second, .val (.long s0), .second, .val (.long s1), .second, .val (.ref b2138), .val (.ref b2152), .val (.ref b2454), .val (.ref b2551), .val (.int rr), .val (.int t0), .unset] [(.int (lcmpW (s1 &&& q1) (0 : Int64)))])) _
        refine XS.ifYes X2695.here hx rfl (pc0 := 175) (pc' := 182) rfl (hb hby at_175) rfl ((if0 _ _).trans (teq ((lw_eq _ _).mpr hc175)).1) (by decide) (by decide) ?_
        refine XS.iconst X2695.here hx rfl (hb hby at_182) ?_
        exact hk
      ·
        refine ⟨(1 : Int32), ((if_neg hc175).trans rfl).symm, fun t hk => k2698 t ?_⟩
        show Steps p.tables e below (T2695.setTop (mkF m 175 #[.val (.int pp), .val (.long m0), .second, .val (.long m1), .second, .val (.long q0), .second, .val (.long q1), .second, .val (.int bits), .val (.long f0), .second, .val (.long f1), .second, .val (.long s0), .second, .val (.long s1), .second, .val (.ref b2138), .val (.ref b2152), .val (.ref b2454), .val (.ref b2551), .val (.int rr), .val (.int t0), .unset] [(.int (lcmpW (s1 &&& q1) (0 : Int64)))])) _
        refine XS.ifNo X2695.here hx rfl (hb hby at_175) rfl ((if0 _ _).trans (feq (fun q => hc175 ((lw_eq _ _).mp q))).1) ?_
        refine XS.iconst X2695.here hx rfl (hb hby at_178) ?_
        refine XS.goto X2695.here hx rfl (pc0 := 179) (pc' := 183) rfl (hb hby at_179) (by decide) (by decide) ?_
        exact hk
    have k2700 : ∀ t, Steps p.tables e below (T2695.setTop (mkF m 185 #[.val (.int pp), .val (.long m0), .second, .val (.long m1), .second, .val (.long q0), .second, .val (.long q1), .second, .val (.int bits), .val (.long f0), .second, .val (.long f1), .second, .val (.long s0), .second, .val (.long s1), .second, .val (.ref b2138), .val (.ref b2152), .val (.ref b2454), .val (.ref b2551), .val (.int rr), .val (.int t0), .val (.int t1)] [])) t → Steps p.tables e below (s₁.setTop (entryFrame m #[(.int pp), (.long m0), (.long m1), (.long q0), (.long q1)] maxLocals)) t := fun t hk => k2699 t (by
      show Steps p.tables e below (T2695.setTop (mkF m 183 #[.val (.int pp), .val (.long m0), .second, .val (.long m1), .second, .val (.long q0), .second, .val (.long q1), .second, .val (.int bits), .val (.long f0), .second, .val (.long f1), .second, .val (.long s0), .second, .val (.long s1), .second, .val (.ref b2138), .val (.ref b2152), .val (.ref b2454), .val (.ref b2551), .val (.int rr), .val (.int t0), .unset] [(.int t1)])) _
      refine XS.istore X2695.here hx rfl (hb hby at_183) rfl (l' := #[.val (.int pp), .val (.long m0), .second, .val (.long m1), .second, .val (.long q0), .second, .val (.long q1), .second, .val (.int bits), .val (.long f0), .second, .val (.long f1), .second, .val (.long s0), .second, .val (.long s1), .second, .val (.ref b2138), .val (.ref b2152), .val (.ref b2454), .val (.ref b2551), .val (.int rr), .val (.int t0), .val (.int t1)]) rfl ?_
      exact hk)
    rcases own_plain1 bits m0 m1 q0 q1 f0 f1 s0 s1 x0 x1 t0 t1 rr hb0 hb1 hbl hbh hf0 hf1 hs0 hs1 hx0 ht0 ht1 hrr with ⟨er, e0, e1⟩ | ⟨er, e0⟩ | ⟨er, e1⟩
    ·
      have k2701 : ∀ t, Steps p.tables e below (T2695.setTop (mkF m 206 #[.val (.int pp), .val (.long m0), .second, .val (.long m1), .second, .val (.long q0), .second, .val (.long q1), .second, .val (.int bits), .val (.long f0), .second, .val (.long f1), .second, .val (.long s0), .second, .val (.long s1), .second, .val (.ref b2138), .val (.ref b2152), .val (.ref b2454), .val (.ref b2551), .val (.int rr), .val (.int t0), .val (.int t1)] [(.int (1 : Int32))])) t → Steps p.tables e below (s₁.setTop (entryFrame m #[(.int pp), (.long m0), (.long m1), (.long q0), (.long q1)] maxLocals)) t := fun t hk => k2700 t (by
        show Steps p.tables e below (T2695.setTop (mkF m 185 #[.val (.int pp), .val (.long m0), .second, .val (.long m1), .second, .val (.long q0), .second, .val (.long q1), .second, .val (.int bits), .val (.long f0), .second, .val (.long f1), .second, .val (.long s0), .second, .val (.long s1), .second, .val (.ref b2138), .val (.ref b2152), .val (.ref b2454), .val (.ref b2551), .val (.int rr), .val (.int t0), .val (.int t1)] [])) _
        refine XS.iload X2695.here hx rfl (hb hby at_185) rfl ?_
        refine XS.ifNo X2695.here hx rfl (hb hby at_187) rfl ((if0 _ _).trans (teq e0).2) ?_
        refine XS.iload X2695.here hx rfl (hb hby at_190) rfl ?_
        refine XS.ifNo X2695.here hx rfl (hb hby at_192) rfl ((if0 _ _).trans (teq e1).2) ?_
        show Steps p.tables e below (T2695.setTop (mkF m 195 #[.val (.int pp), .val (.long m0), .second, .val (.long m1), .second, .val (.long q0), .second, .val (.long q1), .second, .val (.int bits), .val (.long f0), .second, .val (.long f1), .second, .val (.long s0), .second, .val (.long s1), .second, .val (.ref b2138), .val (.ref b2152), .val (.ref b2454), .val (.ref b2551), .val (.int rr), .val (.int t0), .val (.int t1)] [])) _
        refine XS.iload X2695.here hx rfl (hb hby at_195) rfl ?_
        refine XS.iconst X2695.here hx rfl (hb hby at_197) ?_
        refine XS.icmpNo X2695.here hx rfl (hb hby at_198) rfl (teq er).2 ?_
        refine XS.iconst X2695.here hx rfl (hb hby at_201) ?_
        show Steps p.tables e below (T2695.setTop (mkF m 202 #[.val (.int pp), .val (.long m0), .second, .val (.long m1), .second, .val (.long q0), .second, .val (.long q1), .second, .val (.int bits), .val (.long f0), .second, .val (.long f1), .second, .val (.long s0), .second, .val (.long s1), .second, .val (.ref b2138), .val (.ref b2152), .val (.ref b2454), .val (.ref b2551), .val (.int rr), .val (.int t0), .val (.int t1)] [(.int (1 : Int32))])) _
        refine XS.goto X2695.here hx rfl (pc0 := 202) (pc' := 206) rfl (hb hby at_202) (by decide) (by decide) ?_
        exact hk)
      obtain ⟨fs, hr, hrun, hended, hW, hsame⟩ := X2695.leave (v := some (.int (nar .boolean (1 : Int32)))) (fun h => by rw [Bd.returns] at h; cases h)
      refine ⟨_, _, k2701 _ ?_, hrun, hended, _, _, rfl, ?_, ⟨_, rfl⟩, hW, hsame.mono (by decide) (by decide)⟩
      · show Steps p.tables e below (T2695.setTop (mkF m 206 #[.val (.int pp), .val (.long m0), .second, .val (.long m1), .second, .val (.long q0), .second, .val (.long q1), .second, .val (.int bits), .val (.long f0), .second, .val (.long f1), .second, .val (.long s0), .second, .val (.long s1), .second, .val (.ref b2138), .val (.ref b2152), .val (.ref b2454), .val (.ref b2551), .val (.int rr), .val (.int t0), .val (.int t1)] [(.int (1 : Int32))])) _
        exact retN X2695 hx (t := .boolean) Bd.returns (by simp) (hb hby at_206) hr
      · show Q0 Z pp m0 m1 q0 q1 h0 n0 _ T2695.heap _
        rw [e2695]
        exact ⟨rfl, N2695⟩
    ·
      have k2702 : ∀ t, Steps p.tables e below (T2695.setTop (mkF m 233 #[.val (.int pp), .val (.long m0), .second, .val (.long m1), .second, .val (.long q0), .second, .val (.long q1), .second, .val (.int bits), .val (.long f0), .second, .val (.long f1), .second, .val (.long s0), .second, .val (.long s1), .second, .val (.ref b2138), .val (.ref b2152), .val (.ref b2454), .val (.ref b2551), .val (.int rr), .val (.int t0), .val (.int t1)] [(.int (1 : Int32))])) t → Steps p.tables e below (s₁.setTop (entryFrame m #[(.int pp), (.long m0), (.long m1), (.long q0), (.long q1)] maxLocals)) t := fun t hk => k2700 t (by
        show Steps p.tables e below (T2695.setTop (mkF m 185 #[.val (.int pp), .val (.long m0), .second, .val (.long m1), .second, .val (.long q0), .second, .val (.long q1), .second, .val (.int bits), .val (.long f0), .second, .val (.long f1), .second, .val (.long s0), .second, .val (.long s1), .second, .val (.ref b2138), .val (.ref b2152), .val (.ref b2454), .val (.ref b2551), .val (.int rr), .val (.int t0), .val (.int t1)] [])) _
        refine XS.iload X2695.here hx rfl (hb hby at_185) rfl ?_
        refine XS.ifYes X2695.here hx rfl (pc0 := 187) (pc' := 207) rfl (hb hby at_187) rfl ((if0 _ _).trans (feq e0).2) (by decide) (by decide) ?_
        refine XS.iload X2695.here hx rfl (hb hby at_207) rfl ?_
        refine XS.ifNo X2695.here hx rfl (hb hby at_209) rfl ((if0 _ _).trans (teq er).2) ?_
        show Steps p.tables e below (T2695.setTop (mkF m 212 #[.val (.int pp), .val (.long m0), .second, .val (.long m1), .second, .val (.long q0), .second, .val (.long q1), .second, .val (.int bits), .val (.long f0), .second, .val (.long f1), .second, .val (.long s0), .second, .val (.long s1), .second, .val (.ref b2138), .val (.ref b2152), .val (.ref b2454), .val (.ref b2551), .val (.int rr), .val (.int t0), .val (.int t1)] [])) _
        refine XS.iload X2695.here hx rfl (hb hby at_212) rfl ?_
        refine XS.ifYes X2695.here hx rfl (pc0 := 214) (pc' := 228) rfl (hb hby at_214) rfl ((if0 _ _).trans (feq e0).2) (by decide) (by decide) ?_
        refine XS.iconst X2695.here hx rfl (hb hby at_228) ?_
        refine XS.goto X2695.here hx rfl (pc0 := 229) (pc' := 233) rfl (hb hby at_229) (by decide) (by decide) ?_
        exact hk)
      obtain ⟨fs, hr, hrun, hended, hW, hsame⟩ := X2695.leave (v := some (.int (nar .boolean (1 : Int32)))) (fun h => by rw [Bd.returns] at h; cases h)
      refine ⟨_, _, k2702 _ ?_, hrun, hended, _, _, rfl, ?_, ⟨_, rfl⟩, hW, hsame.mono (by decide) (by decide)⟩
      · show Steps p.tables e below (T2695.setTop (mkF m 233 #[.val (.int pp), .val (.long m0), .second, .val (.long m1), .second, .val (.long q0), .second, .val (.long q1), .second, .val (.int bits), .val (.long f0), .second, .val (.long f1), .second, .val (.long s0), .second, .val (.long s1), .second, .val (.ref b2138), .val (.ref b2152), .val (.ref b2454), .val (.ref b2551), .val (.int rr), .val (.int t0), .val (.int t1)] [(.int (1 : Int32))])) _
        exact retN X2695 hx (t := .boolean) Bd.returns (by simp) (hb hby at_233) hr
      · show Q0 Z pp m0 m1 q0 q1 h0 n0 _ T2695.heap _
        rw [e2695]
        exact ⟨rfl, N2695⟩
    ·
      have er0 : ¬ rr = (0 : Int32) := by rw [er]; decide
      have k2703 : ∀ t, Steps p.tables e below (T2695.setTop (mkF m 187 #[.val (.int pp), .val (.long m0), .second, .val (.long m1), .second, .val (.long q0), .second, .val (.long q1), .second, .val (.int bits), .val (.long f0), .second, .val (.long f1), .second, .val (.long s0), .second, .val (.long s1), .second, .val (.ref b2138), .val (.ref b2152), .val (.ref b2454), .val (.ref b2551), .val (.int rr), .val (.int t0), .val (.int t1)] [(.int t0)])) t → Steps p.tables e below (s₁.setTop (entryFrame m #[(.int pp), (.long m0), (.long m1), (.long q0), (.long q1)] maxLocals)) t := fun t hk => k2700 t (by
        show Steps p.tables e below (T2695.setTop (mkF m 185 #[.val (.int pp), .val (.long m0), .second, .val (.long m1), .second, .val (.long q0), .second, .val (.long q1), .second, .val (.int bits), .val (.long f0), .second, .val (.long f1), .second, .val (.long s0), .second, .val (.long s1), .second, .val (.ref b2138), .val (.ref b2152), .val (.ref b2454), .val (.ref b2551), .val (.int rr), .val (.int t0), .val (.int t1)] [])) _
        refine XS.iload X2695.here hx rfl (hb hby at_185) rfl ?_
        exact hk)
      by_cases hc187 : t0 = (0 : Int32)
      ·
        have k2704 : ∀ t, Steps p.tables e below (T2695.setTop (mkF m 233 #[.val (.int pp), .val (.long m0), .second, .val (.long m1), .second, .val (.long q0), .second, .val (.long q1), .second, .val (.int bits), .val (.long f0), .second, .val (.long f1), .second, .val (.long s0), .second, .val (.long s1), .second, .val (.ref b2138), .val (.ref b2152), .val (.ref b2454), .val (.ref b2551), .val (.int rr), .val (.int t0), .val (.int t1)] [(.int (1 : Int32))])) t → Steps p.tables e below (s₁.setTop (entryFrame m #[(.int pp), (.long m0), (.long m1), (.long q0), (.long q1)] maxLocals)) t := fun t hk => k2703 t (by
          show Steps p.tables e below (T2695.setTop (mkF m 187 #[.val (.int pp), .val (.long m0), .second, .val (.long m1), .second, .val (.long q0), .second, .val (.long q1), .second, .val (.int bits), .val (.long f0), .second, .val (.long f1), .second, .val (.long s0), .second, .val (.long s1), .second, .val (.ref b2138), .val (.ref b2152), .val (.ref b2454), .val (.ref b2551), .val (.int rr), .val (.int t0), .val (.int t1)] [(.int t0)])) _
          refine XS.ifNo X2695.here hx rfl (hb hby at_187) rfl ((if0 _ _).trans (teq hc187).2) ?_
          refine XS.iload X2695.here hx rfl (hb hby at_190) rfl ?_
          refine XS.ifYes X2695.here hx rfl (pc0 := 192) (pc' := 207) rfl (hb hby at_192) rfl ((if0 _ _).trans (feq e1).2) (by decide) (by decide) ?_
          refine XS.iload X2695.here hx rfl (hb hby at_207) rfl ?_
          show Steps p.tables e below (T2695.setTop (mkF m 209 #[.val (.int pp), .val (.long m0), .second, .val (.long m1), .second, .val (.long q0), .second, .val (.long q1), .second, .val (.int bits), .val (.long f0), .second, .val (.long f1), .second, .val (.long s0), .second, .val (.long s1), .second, .val (.ref b2138), .val (.ref b2152), .val (.ref b2454), .val (.ref b2551), .val (.int rr), .val (.int t0), .val (.int t1)] [(.int rr)])) _
          refine XS.ifYes X2695.here hx rfl (pc0 := 209) (pc' := 217) rfl (hb hby at_209) rfl ((if0 _ _).trans (feq er0).2) (by decide) (by decide) ?_
          refine XS.iload X2695.here hx rfl (hb hby at_217) rfl ?_
          refine XS.iconst X2695.here hx rfl (hb hby at_219) ?_
          refine XS.icmpNo X2695.here hx rfl (hb hby at_220) rfl (teq er).2 ?_
          show Steps p.tables e below (T2695.setTop (mkF m 223 #[.val (.int pp), .val (.long m0), .second, .val (.long m1), .second, .val (.long q0), .second, .val (.long q1), .second, .val (.int bits), .val (.long f0), .second, .val (.long f1), .second, .val (.long s0), .second, .val (.long s1), .second, .val (.ref b2138), .val (.ref b2152), .val (.ref b2454), .val (.ref b2551), .val (.int rr), .val (.int t0), .val (.int t1)] [])) _
          refine XS.iload X2695.here hx rfl (hb hby at_223) rfl ?_
          refine XS.ifNo X2695.here hx rfl (hb hby at_225) rfl ((if0 _ _).trans (feq e1).1) ?_
          refine XS.iconst X2695.here hx rfl (hb hby at_228) ?_
          refine XS.goto X2695.here hx rfl (pc0 := 229) (pc' := 233) rfl (hb hby at_229) (by decide) (by decide) ?_
          exact hk)
        obtain ⟨fs, hr, hrun, hended, hW, hsame⟩ := X2695.leave (v := some (.int (nar .boolean (1 : Int32)))) (fun h => by rw [Bd.returns] at h; cases h)
        refine ⟨_, _, k2704 _ ?_, hrun, hended, _, _, rfl, ?_, ⟨_, rfl⟩, hW, hsame.mono (by decide) (by decide)⟩
        · show Steps p.tables e below (T2695.setTop (mkF m 233 #[.val (.int pp), .val (.long m0), .second, .val (.long m1), .second, .val (.long q0), .second, .val (.long q1), .second, .val (.int bits), .val (.long f0), .second, .val (.long f1), .second, .val (.long s0), .second, .val (.long s1), .second, .val (.ref b2138), .val (.ref b2152), .val (.ref b2454), .val (.ref b2551), .val (.int rr), .val (.int t0), .val (.int t1)] [(.int (1 : Int32))])) _
          exact retN X2695 hx (t := .boolean) Bd.returns (by simp) (hb hby at_233) hr
        · show Q0 Z pp m0 m1 q0 q1 h0 n0 _ T2695.heap _
          rw [e2695]
          exact ⟨rfl, N2695⟩
      ·
        have k2705 : ∀ t, Steps p.tables e below (T2695.setTop (mkF m 233 #[.val (.int pp), .val (.long m0), .second, .val (.long m1), .second, .val (.long q0), .second, .val (.long q1), .second, .val (.int bits), .val (.long f0), .second, .val (.long f1), .second, .val (.long s0), .second, .val (.long s1), .second, .val (.ref b2138), .val (.ref b2152), .val (.ref b2454), .val (.ref b2551), .val (.int rr), .val (.int t0), .val (.int t1)] [(.int (1 : Int32))])) t → Steps p.tables e below (s₁.setTop (entryFrame m #[(.int pp), (.long m0), (.long m1), (.long q0), (.long q1)] maxLocals)) t := fun t hk => k2703 t (by
          show Steps p.tables e below (T2695.setTop (mkF m 187 #[.val (.int pp), .val (.long m0), .second, .val (.long m1), .second, .val (.long q0), .second, .val (.long q1), .second, .val (.int bits), .val (.long f0), .second, .val (.long f1), .second, .val (.long s0), .second, .val (.long s1), .second, .val (.ref b2138), .val (.ref b2152), .val (.ref b2454), .val (.ref b2551), .val (.int rr), .val (.int t0), .val (.int t1)] [(.int t0)])) _
          refine XS.ifYes X2695.here hx rfl (pc0 := 187) (pc' := 207) rfl (hb hby at_187) rfl ((if0 _ _).trans (feq hc187).2) (by decide) (by decide) ?_
          refine XS.iload X2695.here hx rfl (hb hby at_207) rfl ?_
          refine XS.ifYes X2695.here hx rfl (pc0 := 209) (pc' := 217) rfl (hb hby at_209) rfl ((if0 _ _).trans (feq er0).2) (by decide) (by decide) ?_
          refine XS.iload X2695.here hx rfl (hb hby at_217) rfl ?_
          show Steps p.tables e below (T2695.setTop (mkF m 219 #[.val (.int pp), .val (.long m0), .second, .val (.long m1), .second, .val (.long q0), .second, .val (.long q1), .second, .val (.int bits), .val (.long f0), .second, .val (.long f1), .second, .val (.long s0), .second, .val (.long s1), .second, .val (.ref b2138), .val (.ref b2152), .val (.ref b2454), .val (.ref b2551), .val (.int rr), .val (.int t0), .val (.int t1)] [(.int rr)])) _
          refine XS.iconst X2695.here hx rfl (hb hby at_219) ?_
          refine XS.icmpNo X2695.here hx rfl (hb hby at_220) rfl (teq er).2 ?_
          refine XS.iload X2695.here hx rfl (hb hby at_223) rfl ?_
          refine XS.ifNo X2695.here hx rfl (hb hby at_225) rfl ((if0 _ _).trans (feq e1).1) ?_
          show Steps p.tables e below (T2695.setTop (mkF m 228 #[.val (.int pp), .val (.long m0), .second, .val (.long m1), .second, .val (.long q0), .second, .val (.long q1), .second, .val (.int bits), .val (.long f0), .second, .val (.long f1), .second, .val (.long s0), .second, .val (.long s1), .second, .val (.ref b2138), .val (.ref b2152), .val (.ref b2454), .val (.ref b2551), .val (.int rr), .val (.int t0), .val (.int t1)] [])) _
          refine XS.iconst X2695.here hx rfl (hb hby at_228) ?_
          refine XS.goto X2695.here hx rfl (pc0 := 229) (pc' := 233) rfl (hb hby at_229) (by decide) (by decide) ?_
          exact hk)
        obtain ⟨fs, hr, hrun, hended, hW, hsame⟩ := X2695.leave (v := some (.int (nar .boolean (1 : Int32)))) (fun h => by rw [Bd.returns] at h; cases h)
        refine ⟨_, _, k2705 _ ?_, hrun, hended, _, _, rfl, ?_, ⟨_, rfl⟩, hW, hsame.mono (by decide) (by decide)⟩
        · show Steps p.tables e below (T2695.setTop (mkF m 233 #[.val (.int pp), .val (.long m0), .second, .val (.long m1), .second, .val (.long q0), .second, .val (.long q1), .second, .val (.int bits), .val (.long f0), .second, .val (.long f1), .second, .val (.long s0), .second, .val (.long s1), .second, .val (.ref b2138), .val (.ref b2152), .val (.ref b2454), .val (.ref b2551), .val (.int rr), .val (.int t0), .val (.int t1)] [(.int (1 : Int32))])) _
          exact retN X2695 hx (t := .boolean) Bd.returns (by simp) (hb hby at_233) hr
        · show Q0 Z pp m0 m1 q0 q1 h0 n0 _ T2695.heap _
          rw [e2695]
          exact ⟨rfl, N2695⟩
  ·
    have szst : h2152.size ≤ h2152.size := Nat.le_refl _
    obtain ⟨_, _, ⟨T2706, L2706, k2706, n2706⟩, -, X2706, ⟨Lc2706, hQ2706, l2706, y2706, z2706⟩, st2706⟩ := X2152.specialBack hx (y := (⟨"com/example/faultline/faultline/engine/ReversibleBitSet", "<init>", "(Lcom/example/faultline/faultline/engine/Trail;I)V"⟩ : MethodName)) rfl hown (mvT hZ (hw _ (List.mem_of_getElem? (i := 26) rfl))) (mvT hZ (hw _ (List.mem_of_getElem? (i := 27) rfl))) (mvT hZ (hw _ (List.mem_of_getElem? (i := 28) rfl))) (by decide) (backOf (W := 1) (rmi2 l Z a0 hw [] b2152 b2138 bits  h2152 n0 Z2167 hwc A2152 g2157 F2170 F2168 F2171 F2172 F2173 F2174 F2169) hZ (hw _ (List.mem_of_getElem? (i := 28) rfl)) (hw _ (List.mem_of_getElem? (i := 25) rfl)) (by decide) (by decide)) (g := (mkF m 97 #[.val (.int pp), .val (.long m0), .second, .val (.long m1), .second, .val (.long q0), .second, .val (.long q1), .second, .val (.int bits), .val (.long f0), .second, .val (.long f1), .second, .val (.long s0), .second, .val (.long s1), .second, .val (.ref b2138), .unset, .unset, .unset, .unset, .unset, .unset] [(.int bits), (.ref b2138), (.ref b2152), (.ref b2152)])) rfl (by rw [hml]; rfl) (Steps.refl _) (a := b2152) (argsL := [(.ref b2138), (.int bits)]) (rest := [(.ref b2152)]) (lenOf pd_9 rfl) rfl (by show 2 * 0 + _ ≤ _; exact Nat.le_of_eq rfl) (hb hby at_97) (fun _ _ => ⟨rfl, e2152, (by decide : 7 + 5 ≤ _), (by decide : 816 + 9 ≤ _)⟩)
    dsimp only [Pt.U, Pt.locs, Pt.cells, Pt.slots] at X2706 l2706 y2706 z2706 st2706 hQ2706
    subst l2706 y2706 z2706
    obtain ⟨rfl, N2706q, K2706, lim, wo, sa, nz, ma, x0, x1, y0, y1, o1, o2, o3, o4, o5, hS, Vl, Vo, Vs, Vn, Vm, El, Eo, hx0, hx1, hy0, hy1⟩ := hQ2706
    have N2706 := Fr.app N2148 N2706q
    have u_b2152 : @LT.lt Nat instLTNat b2152 (h2152.size) := A2152.lt
    have v_b2152_lim : b2152 ≠ lim := by show @Ne Nat b2152 lim; omega
    have v_b2152_wo : b2152 ≠ wo := by show @Ne Nat b2152 wo; omega
    have v_b2152_sa : b2152 ≠ sa := by show @Ne Nat b2152 sa; omega
    have v_b2152_nz : b2152 ≠ nz := by show @Ne Nat b2152 nz; omega
    have v_b2152_ma : b2152 ≠ ma := by show @Ne Nat b2152 ma; omega
    have u_b2138 : @LT.lt Nat instLTNat b2138 (h2152.size) := E2163.lt
    have v_b2138_lim : b2138 ≠ lim := by show @Ne Nat b2138 lim; omega
    have v_b2138_wo : b2138 ≠ wo := by show @Ne Nat b2138 wo; omega
    have v_b2138_sa : b2138 ≠ sa := by show @Ne Nat b2138 sa; omega
    have v_b2138_nz : b2138 ≠ nz := by show @Ne Nat b2138 nz; omega
    have v_b2138_ma : b2138 ≠ ma := by show @Ne Nat b2138 ma; omega
    have u_ow : @LT.lt Nat instLTNat ow (h2152.size) := A2164.lt
    have v_ow_lim : ow ≠ lim := by show @Ne Nat ow lim; omega
    have v_ow_wo : ow ≠ wo := by show @Ne Nat ow wo; omega
    have v_ow_sa : ow ≠ sa := by show @Ne Nat ow sa; omega
    have v_ow_nz : ow ≠ nz := by show @Ne Nat ow nz; omega
    have v_ow_ma : ow ≠ ma := by show @Ne Nat ow ma; omega
    have u_ix : @LT.lt Nat instLTNat ix (h2152.size) := A2165.lt
    have v_ix_lim : ix ≠ lim := by show @Ne Nat ix lim; omega
    have v_ix_wo : ix ≠ wo := by show @Ne Nat ix wo; omega
    have v_ix_sa : ix ≠ sa := by show @Ne Nat ix sa; omega
    have v_ix_nz : ix ≠ nz := by show @Ne Nat ix nz; omega
    have v_ix_ma : ix ≠ ma := by show @Ne Nat ix ma; omega
    have u_sv : @LT.lt Nat instLTNat sv (h2152.size) := A2166.lt
    have v_sv_lim : sv ≠ lim := by show @Ne Nat sv lim; omega
    have v_sv_wo : sv ≠ wo := by show @Ne Nat sv wo; omega
    have v_sv_sa : sv ≠ sa := by show @Ne Nat sv sa; omega
    have v_sv_nz : sv ≠ nz := by show @Ne Nat sv nz; omega
    have v_sv_ma : sv ≠ ma := by show @Ne Nat sv ma; omega
    have gl0 : n0 ≤ lim := Nat.le_trans Z2167 o1
    have gl_wo : n0 ≤ wo := by show @LE.le Nat instLENat n0 wo; omega
    have gl_sa : n0 ≤ sa := by show @LE.le Nat instLENat n0 sa; omega
    have gl_nz : n0 ≤ nz := by show @LE.le Nat instLENat n0 nz; omega
    have gl_ma : n0 ≤ ma := by show @LE.le Nat instLENat n0 ma; omega
    have v_lim_wo : lim ≠ wo := by show @Ne Nat lim wo; omega
    have v_lim_sa : lim ≠ sa := by show @Ne Nat lim sa; omega
    have v_lim_nz : lim ≠ nz := by show @Ne Nat lim nz; omega
    have v_lim_ma : lim ≠ ma := by show @Ne Nat lim ma; omega
    have v_wo_sa : wo ≠ sa := by show @Ne Nat wo sa; omega
    have v_wo_nz : wo ≠ nz := by show @Ne Nat wo nz; omega
    have v_wo_ma : wo ≠ ma := by show @Ne Nat wo ma; omega
    have v_sa_nz : sa ≠ nz := by show @Ne Nat sa nz; omega
    have v_sa_ma : sa ≠ ma := by show @Ne Nat sa ma; omega
    have v_nz_ma : nz ≠ ma := by show @Ne Nat nz ma; omega
    have F2707 := F2158.keep K2706 (ninS ne2153 nin0)
    have F2708 := F2159.keep K2706 (ninS ne2153 nin0)
    have F2709 := F2160.keep K2706 (ninS ne2153 nin0)
    have F2710 := F2161.keep K2706 (ninS ne2153 nin0)
    have F2711 := F2162.keep K2706 (ninS ne2153 nin0)
    have E2712 := E2163.keep K2706
    have E2713 := A2152.keep K2706
    have A2714 := A2164.keep K2706 (ninS ne2154 nin0)
    have A2715 := A2165.keep K2706 (ninS ne2155 nin0)
    have A2716 := A2166.keep K2706 (ninS ne2156 nin0)
    have Z2717 : n0 ≤ T2706.heap.size := Nat.le_trans Z2167 K2706.1
    obtain ⟨u2718E, u2718a, u2718b, u2718c, u2718d, u2718e, u2718f, u2718g⟩ := hS
    obtain ⟨T2719, h2719, k2719, X2719, e2719, E2719, A2719, Y2719, st2719⟩ := newPE X2706 hx hZ (hw _ (List.mem_of_getElem? (i := 16) rfl)) rfl (g := (mkF m 103 #[.val (.int pp), .val (.long m0), .second, .val (.long m1), .second, .val (.long q0), .second, .val (.long q1), .second, .val (.int bits), .val (.long f0), .second, .val (.long f1), .second, .val (.long s0), .second, .val (.long s1), .second, .val (.ref b2138), .val (.ref b2152), .unset, .unset, .unset, .unset, .unset] [(.int (2 : Int32))])) rfl (hb hby at_103) rfl (by decide) (cap := 2) (by decide) (by decide) (by decide) (by decide) (ad := "[J") (by decide)
    obtain ⟨b2719, g2719⟩ : ∃ z, z = T2706.heap.size := ⟨_, rfl⟩
    have ne2720 : b2138 ≠ b2719 := fun q => absurd E2712.lt (by rw [q, g2719]; exact Nat.lt_irrefl _)
    have ne2721 : b2152 ≠ b2719 := fun q => absurd u2718E.lt (by rw [q, g2719]; exact Nat.lt_irrefl _)
    have ne2722 : lim ≠ b2719 := fun q => absurd El.lt (by rw [q, g2719]; exact Nat.lt_irrefl _)
    have ne2723 : wo ≠ b2719 := fun q => absurd Eo.lt (by rw [q, g2719]; exact Nat.lt_irrefl _)
    have ne2724 : ow ≠ b2719 := fun q => absurd A2714.lt (by rw [q, g2719]; exact Nat.lt_irrefl _)
    have ne2725 : ix ≠ b2719 := fun q => absurd A2715.lt (by rw [q, g2719]; exact Nat.lt_irrefl _)
    have ne2726 : sv ≠ b2719 := fun q => absurd A2716.lt (by rw [q, g2719]; exact Nat.lt_irrefl _)
    have ne2727 : sa ≠ b2719 := fun q => absurd Vs.lt (by rw [q, g2719]; exact Nat.lt_irrefl _)
    have ne2728 : nz ≠ b2719 := fun q => absurd Vn.lt (by rw [q, g2719]; exact Nat.lt_irrefl _)
    have ne2729 : ma ≠ b2719 := fun q => absurd Vm.lt (by rw [q, g2719]; exact Nat.lt_irrefl _)
    have g2730 : n0 ≤ b2719 := g2719 ▸ Z2717
    rw [← g2719] at A2719 Y2719 st2719
    have F2731 := F2707.ext E2719
    have F2732 := F2708.ext E2719
    have F2733 := F2709.ext E2719
    have F2734 := F2710.ext E2719
    have F2735 := F2711.ext E2719
    have F2736 := u2718a.ext E2719
    have F2737 := u2718b.ext E2719
    have F2738 := u2718c.ext E2719
    have F2739 := u2718d.ext E2719
    have F2740 := u2718e.ext E2719
    have F2741 := u2718f.ext E2719
    have F2742 := u2718g.ext E2719
    have E2743 := E2712.ext E2719
    have E2744 := u2718E.ext E2719
    have E2745 := El.ext E2719
    have E2746 := Eo.ext E2719
    have A2747 := A2714.ext E2719
    have A2748 := A2715.ext E2719
    have A2749 := A2716.ext E2719
    have A2750 := Vl.ext E2719
    have A2751 := Vo.ext E2719
    have A2752 := Vs.ext E2719
    have A2753 := Vn.ext E2719
    have A2754 := Vm.ext E2719
    have Z2755 : n0 ≤ h2719.size := Nat.le_trans Z2717 E2719.1
    have A2756 : OwnAV Z h2719 b2719 .long 2 (fun i => (.long ((fun _ => (0 : Int64)) i))) := OwnAV.new A2719 rfl (by decide)
    have A2757 : OwnAV Z h2719 b2719 .long 2 (fun i => (.long ((own_l2 (0 : Int64) (0 : Int64)) i))) := A2756.congr (fun j hj => by
        have q : j = 0 ∨ j = 1 := by omega
        rcases q with rfl | rfl <;> rfl)
    obtain ⟨T2758, h2758, X2758, e2758, W2758, st2758⟩ := own_last X2719 hx hZ e2719 A2757 (k := 0) ⟨by decide, rfl, by decide⟩ (g := (mkF m 108 #[.val (.int pp), .val (.long m0), .second, .val (.long m1), .second, .val (.long q0), .second, .val (.long q1), .second, .val (.int bits), .val (.long f0), .second, .val (.long f1), .second, .val (.long s0), .second, .val (.long s1), .second, .val (.ref b2138), .val (.ref b2152), .unset, .unset, .unset, .unset, .unset] [(.long m0), (.int (0 : Int32)), (.ref b2719), (.ref b2719)])) rfl rfl (hb hby at_108)
    have A2759 : OwnAV Z h2758 b2719 .long 2 (fun i => (.long ((own_l2 m0 (0 : Int64)) i))) := (A2757.storeJ W2758).congr (fun j hj => by
        have q : j = 0 ∨ j = 1 := by omega
        rcases q with rfl | rfl <;> rfl)
    have F2760 := F2731.other W2758 (Or.inl ne2720)
    have F2761 := F2732.other W2758 (Or.inl ne2720)
    have F2762 := F2733.other W2758 (Or.inl ne2720)
    have F2763 := F2734.other W2758 (Or.inl ne2720)
    have F2764 := F2735.other W2758 (Or.inl ne2720)
    have F2765 := F2736.other W2758 (Or.inl ne2721)
    have F2766 := F2737.other W2758 (Or.inl ne2721)
    have F2767 := F2738.other W2758 (Or.inl ne2721)
    have F2768 := F2739.other W2758 (Or.inl ne2721)
    have F2769 := F2740.other W2758 (Or.inl ne2721)
    have F2770 := F2741.other W2758 (Or.inl ne2721)
    have F2771 := F2742.other W2758 (Or.inl ne2721)
    have E2772 := E2743.wr W2758
    have E2773 := E2744.wr W2758
    have E2774 := E2745.wr W2758
    have E2775 := E2746.wr W2758
    have E2776 := Y2719.wr W2758
    have A2777 := A2747.other W2758 ne2724
    have A2778 := A2748.other W2758 ne2725
    have A2779 := A2749.other W2758 ne2726
    have A2780 := A2750.other W2758 ne2722
    have A2781 := A2751.other W2758 ne2723
    have A2782 := A2752.other W2758 ne2727
    have A2783 := A2753.other W2758 ne2728
    have A2784 := A2754.other W2758 ne2729
    have Z2785 : n0 ≤ h2758.size := W2758.size ▸ Z2755
    have N2786 := Fr.snoc X2758 N2706 g2730
    obtain ⟨T2787, h2787, X2787, e2787, W2787, st2787⟩ := own_last X2758 hx hZ e2758 A2759 (k := 1) ⟨by decide, rfl, by decide⟩ (g := (mkF m 112 #[.val (.int pp), .val (.long m0), .second, .val (.long m1), .second, .val (.long q0), .second, .val (.long q1), .second, .val (.int bits), .val (.long f0), .second, .val (.long f1), .second, .val (.long s0), .second, .val (.long s1), .second, .val (.ref b2138), .val (.ref b2152), .unset, .unset, .unset, .unset, .unset] [(.long m1), (.int (1 : Int32)), (.ref b2719), (.ref b2719)])) rfl rfl (hb hby at_112)
    have A2788 : OwnAV Z h2787 b2719 .long 2 (fun i => (.long ((own_l2 m0 m1) i))) := (A2759.storeJ W2787).congr (fun j hj => by
        have q : j = 0 ∨ j = 1 := by omega
        rcases q with rfl | rfl <;> rfl)
    have F2789 := F2760.other W2787 (Or.inl ne2720)
    have F2790 := F2761.other W2787 (Or.inl ne2720)
    have F2791 := F2762.other W2787 (Or.inl ne2720)
    have F2792 := F2763.other W2787 (Or.inl ne2720)
    have F2793 := F2764.other W2787 (Or.inl ne2720)
    have F2794 := F2765.other W2787 (Or.inl ne2721)
    have F2795 := F2766.other W2787 (Or.inl ne2721)
    have F2796 := F2767.other W2787 (Or.inl ne2721)
    have F2797 := F2768.other W2787 (Or.inl ne2721)
    have F2798 := F2769.other W2787 (Or.inl ne2721)
    have F2799 := F2770.other W2787 (Or.inl ne2721)
    have F2800 := F2771.other W2787 (Or.inl ne2721)
    have E2801 := E2772.wr W2787
    have E2802 := E2773.wr W2787
    have E2803 := E2774.wr W2787
    have E2804 := E2775.wr W2787
    have E2805 := E2776.wr W2787
    have A2806 := A2777.other W2787 ne2724
    have A2807 := A2778.other W2787 ne2725
    have A2808 := A2779.other W2787 ne2726
    have A2809 := A2780.other W2787 ne2722
    have A2810 := A2781.other W2787 ne2723
    have A2811 := A2782.other W2787 ne2727
    have A2812 := A2783.other W2787 ne2728
    have A2813 := A2784.other W2787 ne2729
    have Z2814 : n0 ≤ h2787.size := W2787.size ▸ Z2785
    have N2815 := Fr.snoc X2787 N2786 g2730
    obtain ⟨T2816, h2816, k2816, X2816, e2816, E2816, A2816, Y2816, st2816⟩ := newPE X2787 hx hZ (hw _ (List.mem_of_getElem? (i := 16) rfl)) e2787 (g := (mkF m 116 #[.val (.int pp), .val (.long m0), .second, .val (.long m1), .second, .val (.long q0), .second, .val (.long q1), .second, .val (.int bits), .val (.long f0), .second, .val (.long f1), .second, .val (.long s0), .second, .val (.long s1), .second, .val (.ref b2138), .val (.ref b2152), .val (.ref b2719), .unset, .unset, .unset, .unset] [(.int (2 : Int32))])) rfl (hb hby at_116) rfl (by decide) (cap := 2) (by decide) (by decide) (by decide) (by decide) (ad := "[J") (by decide)
    obtain ⟨b2816, g2816⟩ : ∃ z, z = h2787.size := ⟨_, rfl⟩
    have ne2817 : b2138 ≠ b2816 := fun q => absurd E2801.lt (by rw [q, g2816]; exact Nat.lt_irrefl _)
    have ne2818 : b2152 ≠ b2816 := fun q => absurd E2802.lt (by rw [q, g2816]; exact Nat.lt_irrefl _)
    have ne2819 : lim ≠ b2816 := fun q => absurd E2803.lt (by rw [q, g2816]; exact Nat.lt_irrefl _)
    have ne2820 : wo ≠ b2816 := fun q => absurd E2804.lt (by rw [q, g2816]; exact Nat.lt_irrefl _)
    have ne2821 : b2719 ≠ b2816 := fun q => absurd E2805.lt (by rw [q, g2816]; exact Nat.lt_irrefl _)
    have ne2822 : ow ≠ b2816 := fun q => absurd A2806.lt (by rw [q, g2816]; exact Nat.lt_irrefl _)
    have ne2823 : ix ≠ b2816 := fun q => absurd A2807.lt (by rw [q, g2816]; exact Nat.lt_irrefl _)
    have ne2824 : sv ≠ b2816 := fun q => absurd A2808.lt (by rw [q, g2816]; exact Nat.lt_irrefl _)
    have ne2825 : sa ≠ b2816 := fun q => absurd A2811.lt (by rw [q, g2816]; exact Nat.lt_irrefl _)
    have ne2826 : nz ≠ b2816 := fun q => absurd A2812.lt (by rw [q, g2816]; exact Nat.lt_irrefl _)
    have ne2827 : ma ≠ b2816 := fun q => absurd A2813.lt (by rw [q, g2816]; exact Nat.lt_irrefl _)
    have g2828 : n0 ≤ b2816 := g2816 ▸ Z2814
    rw [← g2816] at A2816 Y2816 st2816
    have F2829 := F2789.ext E2816
    have F2830 := F2790.ext E2816
    have F2831 := F2791.ext E2816
    have F2832 := F2792.ext E2816
    have F2833 := F2793.ext E2816
    have F2834 := F2794.ext E2816
    have F2835 := F2795.ext E2816
    have F2836 := F2796.ext E2816
    have F2837 := F2797.ext E2816
    have F2838 := F2798.ext E2816
    have F2839 := F2799.ext E2816
    have F2840 := F2800.ext E2816
    have E2841 := E2801.ext E2816
    have E2842 := E2802.ext E2816
    have E2843 := E2803.ext E2816
    have E2844 := E2804.ext E2816
    have E2845 := E2805.ext E2816
    have A2846 := A2806.ext E2816
    have A2847 := A2807.ext E2816
    have A2848 := A2808.ext E2816
    have A2849 := A2809.ext E2816
    have A2850 := A2810.ext E2816
    have A2851 := A2811.ext E2816
    have A2852 := A2812.ext E2816
    have A2853 := A2813.ext E2816
    have A2854 := A2788.ext E2816
    have Z2855 : n0 ≤ h2816.size := Nat.le_trans Z2814 E2816.1
    have A2856 : OwnAV Z h2816 b2816 .long 2 (fun i => (.long ((fun _ => (0 : Int64)) i))) := OwnAV.new A2816 rfl (by decide)
    have A2857 : OwnAV Z h2816 b2816 .long 2 (fun i => (.long ((own_l2 (0 : Int64) (0 : Int64)) i))) := A2856.congr (fun j hj => by
        have q : j = 0 ∨ j = 1 := by omega
        rcases q with rfl | rfl <;> rfl)
    obtain ⟨T2858, h2858, X2858, e2858, W2858, st2858⟩ := own_last X2816 hx hZ e2816 A2857 (k := 0) ⟨by decide, rfl, by decide⟩ (g := (mkF m 122 #[.val (.int pp), .val (.long m0), .second, .val (.long m1), .second, .val (.long q0), .second, .val (.long q1), .second, .val (.int bits), .val (.long f0), .second, .val (.long f1), .second, .val (.long s0), .second, .val (.long s1), .second, .val (.ref b2138), .val (.ref b2152), .val (.ref b2719), .unset, .unset, .unset, .unset] [(.long q0), (.int (0 : Int32)), (.ref b2816), (.ref b2816)])) rfl rfl (hb hby at_122)
    have A2859 : OwnAV Z h2858 b2816 .long 2 (fun i => (.long ((own_l2 q0 (0 : Int64)) i))) := (A2857.storeJ W2858).congr (fun j hj => by
        have q : j = 0 ∨ j = 1 := by omega
        rcases q with rfl | rfl <;> rfl)
    have F2860 := F2829.other W2858 (Or.inl ne2817)
    have F2861 := F2830.other W2858 (Or.inl ne2817)
    have F2862 := F2831.other W2858 (Or.inl ne2817)
    have F2863 := F2832.other W2858 (Or.inl ne2817)
    have F2864 := F2833.other W2858 (Or.inl ne2817)
    have F2865 := F2834.other W2858 (Or.inl ne2818)
    have F2866 := F2835.other W2858 (Or.inl ne2818)
    have F2867 := F2836.other W2858 (Or.inl ne2818)
    have F2868 := F2837.other W2858 (Or.inl ne2818)
    have F2869 := F2838.other W2858 (Or.inl ne2818)
    have F2870 := F2839.other W2858 (Or.inl ne2818)
    have F2871 := F2840.other W2858 (Or.inl ne2818)
    have E2872 := E2841.wr W2858
    have E2873 := E2842.wr W2858
    have E2874 := E2843.wr W2858
    have E2875 := E2844.wr W2858
    have E2876 := E2845.wr W2858
    have E2877 := Y2816.wr W2858
    have A2878 := A2846.other W2858 ne2822
    have A2879 := A2847.other W2858 ne2823
    have A2880 := A2848.other W2858 ne2824
    have A2881 := A2849.other W2858 ne2819
    have A2882 := A2850.other W2858 ne2820
    have A2883 := A2851.other W2858 ne2825
    have A2884 := A2852.other W2858 ne2826
    have A2885 := A2853.other W2858 ne2827
    have A2886 := A2854.other W2858 ne2821
    have Z2887 : n0 ≤ h2858.size := W2858.size ▸ Z2855
    have N2888 := Fr.snoc X2858 N2815 g2828
    obtain ⟨T2889, h2889, X2889, e2889, W2889, st2889⟩ := own_last X2858 hx hZ e2858 A2859 (k := 1) ⟨by decide, rfl, by decide⟩ (g := (mkF m 127 #[.val (.int pp), .val (.long m0), .second, .val (.long m1), .second, .val (.long q0), .second, .val (.long q1), .second, .val (.int bits), .val (.long f0), .second, .val (.long f1), .second, .val (.long s0), .second, .val (.long s1), .second, .val (.ref b2138), .val (.ref b2152), .val (.ref b2719), .unset, .unset, .unset, .unset] [(.long q1), (.int (1 : Int32)), (.ref b2816), (.ref b2816)])) rfl rfl (hb hby at_127)
    have A2890 : OwnAV Z h2889 b2816 .long 2 (fun i => (.long ((own_l2 q0 q1) i))) := (A2859.storeJ W2889).congr (fun j hj => by
        have q : j = 0 ∨ j = 1 := by omega
        rcases q with rfl | rfl <;> rfl)
    have F2891 := F2860.other W2889 (Or.inl ne2817)
    have F2892 := F2861.other W2889 (Or.inl ne2817)
    have F2893 := F2862.other W2889 (Or.inl ne2817)
    have F2894 := F2863.other W2889 (Or.inl ne2817)
    have F2895 := F2864.other W2889 (Or.inl ne2817)
    have F2896 := F2865.other W2889 (Or.inl ne2818)
    have F2897 := F2866.other W2889 (Or.inl ne2818)
    have F2898 := F2867.other W2889 (Or.inl ne2818)
    have F2899 := F2868.other W2889 (Or.inl ne2818)
    have F2900 := F2869.other W2889 (Or.inl ne2818)
    have F2901 := F2870.other W2889 (Or.inl ne2818)
    have F2902 := F2871.other W2889 (Or.inl ne2818)
    have E2903 := E2872.wr W2889
    have E2904 := E2873.wr W2889
    have E2905 := E2874.wr W2889
    have E2906 := E2875.wr W2889
    have E2907 := E2876.wr W2889
    have E2908 := E2877.wr W2889
    have A2909 := A2878.other W2889 ne2822
    have A2910 := A2879.other W2889 ne2823
    have A2911 := A2880.other W2889 ne2824
    have A2912 := A2881.other W2889 ne2819
    have A2913 := A2882.other W2889 ne2820
    have A2914 := A2883.other W2889 ne2825
    have A2915 := A2884.other W2889 ne2826
    have A2916 := A2885.other W2889 ne2827
    have A2917 := A2886.other W2889 ne2821
    have Z2918 : n0 ≤ h2889.size := W2889.size ▸ Z2887
    have N2919 := Fr.snoc X2889 N2888 g2828
    obtain ⟨cq2920, kq2920, q2920a, q2920b, q2920c⟩ := isOf hZ e2889 E2904
    obtain ⟨_, _, ⟨T2920, L2920, k2920, n2920⟩, -, X2920, ⟨Lc2920, hQ2920, l2920, y2920, z2920⟩, st2920⟩ := X2889.virtualBack hx (y := (⟨"com/example/faultline/faultline/engine/ReversibleBitSet", "addToMask", "([J)V"⟩ : MethodName)) (z := (⟨"com/example/faultline/faultline/engine/ReversibleBitSet", "addToMask", "([J)V"⟩ : MethodName)) hown (mvT hZ (hw _ (List.mem_of_getElem? (i := 54) rfl))) (mvT hZ (hw _ (List.mem_of_getElem? (i := 55) rfl))) (notFace_of_selects (args := #[]) (mvT hZ (hw _ (List.mem_of_getElem? (i := 57) rfl)))) (mvT hZ (hw _ (List.mem_of_getElem? (i := 57) rfl))) (mvT hZ (hw _ (List.mem_of_getElem? (i := 56) rfl))) (by decide) (backOf (W := 0) (rmm2 l Z a0 hw [] b2152 b2719 b2138 lim wo sa nz ma (-1 : Int64) (0 : Int64) (0 : Int64) m0 m1 h2889 n0 Z2918 ⟨E2904, F2896, F2897, F2898, F2899, F2900, F2901, F2902⟩ gl_ma ⟨v_b2152_ma, v_lim_ma, v_nz_ma, (Ne.symm ne2729)⟩ A2912 A2915 A2916 A2917) hZ (hw _ (List.mem_of_getElem? (i := 58) rfl)) (hw _ (List.mem_of_getElem? (i := 25) rfl)) (by decide) (by decide)) q2920a q2920c (g := (mkF m 134 #[.val (.int pp), .val (.long m0), .second, .val (.long m1), .second, .val (.long q0), .second, .val (.long q1), .second, .val (.int bits), .val (.long f0), .second, .val (.long f1), .second, .val (.long s0), .second, .val (.long s1), .second, .val (.ref b2138), .val (.ref b2152), .val (.ref b2719), .val (.ref b2816), .unset, .unset, .unset] [(.ref b2719), (.ref b2152)])) rfl (by rw [hml]; rfl) (Steps.refl _) (argsL := [(.ref b2719)]) (rest := []) (lenOf pd_10 rfl) rfl (by show 2 * 0 + _ ≤ _; exact Nat.le_of_eq rfl) (hb hby at_134) (fun _ _ => ⟨rfl, e2889, (by decide : 14 + 0 ≤ _), (by decide : 829 + 0 ≤ _)⟩)
    dsimp only [Pt.U, Pt.locs, Pt.cells, Pt.slots] at X2920 l2920 y2920 z2920 st2920 hQ2920
    subst l2920 y2920 z2920
    obtain ⟨rfl, N2920q, K2920, Vm2920⟩ := hQ2920
    have N2920 := Fr.app N2919 N2920q
    have F2921 := F2891.keep K2920 (ninS v_b2138_ma nin0)
    have F2922 := F2892.keep K2920 (ninS v_b2138_ma nin0)
    have F2923 := F2893.keep K2920 (ninS v_b2138_ma nin0)
    have F2924 := F2894.keep K2920 (ninS v_b2138_ma nin0)
    have F2925 := F2895.keep K2920 (ninS v_b2138_ma nin0)
    have F2926 := F2896.keep K2920 (ninS v_b2152_ma nin0)
    have F2927 := F2897.keep K2920 (ninS v_b2152_ma nin0)
    have F2928 := F2898.keep K2920 (ninS v_b2152_ma nin0)
    have F2929 := F2899.keep K2920 (ninS v_b2152_ma nin0)
    have F2930 := F2900.keep K2920 (ninS v_b2152_ma nin0)
    have F2931 := F2901.keep K2920 (ninS v_b2152_ma nin0)
    have F2932 := F2902.keep K2920 (ninS v_b2152_ma nin0)
    have E2933 := E2903.keep K2920
    have E2934 := E2904.keep K2920
    have E2935 := E2905.keep K2920
    have E2936 := E2906.keep K2920
    have E2937 := E2907.keep K2920
    have E2938 := E2908.keep K2920
    have A2939 := A2909.keep K2920 (ninS v_ow_ma nin0)
    have A2940 := A2910.keep K2920 (ninS v_ix_ma nin0)
    have A2941 := A2911.keep K2920 (ninS v_sv_ma nin0)
    have A2942 := A2912.keep K2920 (ninS v_lim_ma nin0)
    have A2943 := A2913.keep K2920 (ninS v_wo_ma nin0)
    have A2944 := A2914.keep K2920 (ninS v_sa_ma nin0)
    have A2945 := A2915.keep K2920 (ninS v_nz_ma nin0)
    have A2946 := A2917.keep K2920 (ninS (Ne.symm ne2729) nin0)
    have A2947 := A2890.keep K2920 (ninS (Ne.symm ne2827) nin0)
    have Z2948 : n0 ≤ T2920.heap.size := Nat.le_trans Z2918 K2920.1
    have hnz0 : ¬ x0 = (0 : Int64) := own_nzw0 bits x0 (by omega) (by omega) hx0
    have hnz1 : ¬ x1 = (0 : Int64) := own_nzw1 bits x1 (by omega) (by omega) hx1
    obtain ⟨cq2949, kq2949, q2949a, q2949b, q2949c⟩ := isOf hZ rfl E2934
    obtain ⟨_, _, ⟨T2949, L2949, k2949, n2949⟩, -, X2949, ⟨Lc2949, hQ2949, l2949, y2949, z2949⟩, st2949⟩ := X2920.virtualBack hx (y := (⟨"com/example/faultline/faultline/engine/ReversibleBitSet", "intersectWithMask", "()V"⟩ : MethodName)) (z := (⟨"com/example/faultline/faultline/engine/ReversibleBitSet", "intersectWithMask", "()V"⟩ : MethodName)) hown (mvT hZ (hw _ (List.mem_of_getElem? (i := 59) rfl))) (mvT hZ (hw _ (List.mem_of_getElem? (i := 60) rfl))) (notFace_of_selects (args := #[]) (mvT hZ (hw _ (List.mem_of_getElem? (i := 62) rfl)))) (mvT hZ (hw _ (List.mem_of_getElem? (i := 62) rfl))) (mvT hZ (hw _ (List.mem_of_getElem? (i := 61) rfl))) (by decide) (backOf (W := 0) (rmx2 l Z a0 hw [] b2152 b2138 ow ix sv lim wo sa nz ma x0 x1 y0 y1 ((0 : Int64) ||| m0) ((0 : Int64) ||| m1) T2920.heap n0 Z2948 ⟨E2933, F2921, F2922, F2923, F2924, F2925, A2939, ⟨_, A2940⟩, ⟨_, A2941⟩⟩ hap hnew ⟨E2934, F2926, F2927, F2928, F2929, F2930, F2931, F2932⟩ ⟨g2157, gl_nz, gl0⟩ gl_wo gl_sa ⟨(Ne.symm ne2153), (Ne.symm ne2154), (Ne.symm ne2155), (Ne.symm ne2156), v_b2152_lim, v_b2152_wo, v_b2152_sa, v_b2152_nz, v_b2152_ma, v_b2138_lim, v_b2138_wo, v_b2138_sa, v_b2138_nz, v_b2138_ma, v_ow_lim, v_ow_wo, v_ow_sa, v_ow_nz, v_ow_ma, v_ix_lim, v_ix_wo, v_ix_sa, v_ix_nz, v_ix_ma, v_sv_lim, v_sv_wo, v_sv_sa, v_sv_nz, v_sv_ma, v_lim_wo, v_lim_sa, v_lim_nz, v_lim_ma, v_wo_sa, v_wo_nz, v_wo_ma, v_sa_nz, v_sa_ma, v_nz_ma⟩ A2942 A2943 A2944 A2945 Vm2920 E2935 E2936 hnz0 hnz1 hy0 hy1) hZ (hw _ (List.mem_of_getElem? (i := 63) rfl)) (hw _ (List.mem_of_getElem? (i := 25) rfl)) (by decide) (by decide)) q2949a q2949c (g := (mkF m 139 #[.val (.int pp), .val (.long m0), .second, .val (.long m1), .second, .val (.long q0), .second, .val (.long q1), .second, .val (.int bits), .val (.long f0), .second, .val (.long f1), .second, .val (.long s0), .second, .val (.long s1), .second, .val (.ref b2138), .val (.ref b2152), .val (.ref b2719), .val (.ref b2816), .unset, .unset, .unset] [(.ref b2152)])) rfl (by rw [hml]; rfl) (Steps.refl _) (argsL := []) (rest := []) (lenOf pd_8 rfl) rfl (by show 2 * 0 + _ ≤ _; exact Nat.le_of_eq rfl) (hb hby at_139) (fun _ _ => ⟨rfl, rfl, (by decide : 14 + 0 ≤ _), (by decide : 829 + 0 ≤ _)⟩)
    dsimp only [Pt.U, Pt.locs, Pt.cells, Pt.slots] at X2949 l2949 y2949 z2949 st2949 hQ2949
    subst l2949 y2949 z2949
    obtain ⟨rfl, N2949q, K2949, ls1, lm, z0, z1, hS2949, Vo2949, Vn2949, Vl2949, hpr⟩ := hQ2949
    have N2949 := Fr.app N2920 N2949q
    have E2950 := E2933.keep K2949
    have E2951 := E2934.keep K2949
    have E2952 := E2935.keep K2949
    have E2953 := E2936.keep K2949
    have E2954 := E2937.keep K2949
    have E2955 := E2938.keep K2949
    have A2956 := A2946.keep K2949 (ninS (Ne.symm ne2721) (ninS (Ne.symm ne2720) (ninS (Ne.symm ne2724) (ninS (Ne.symm ne2725) (ninS (Ne.symm ne2726) (ninS (Ne.symm ne2723) (ninS (Ne.symm ne2727) (ninS (Ne.symm ne2728) (ninS (Ne.symm ne2722) nin0)))))))))
    have A2957 := A2947.keep K2949 (ninS (Ne.symm ne2818) (ninS (Ne.symm ne2817) (ninS (Ne.symm ne2822) (ninS (Ne.symm ne2823) (ninS (Ne.symm ne2824) (ninS (Ne.symm ne2820) (ninS (Ne.symm ne2825) (ninS (Ne.symm ne2826) (ninS (Ne.symm ne2819) nin0)))))))))
    have A2958 := Vm2920.keep K2949 (ninS (Ne.symm v_b2152_ma) (ninS (Ne.symm v_b2138_ma) (ninS (Ne.symm v_ow_ma) (ninS (Ne.symm v_ix_ma) (ninS (Ne.symm v_sv_ma) (ninS (Ne.symm v_wo_ma) (ninS (Ne.symm v_sa_ma) (ninS (Ne.symm v_nz_ma) (ninS (Ne.symm v_lim_ma) nin0)))))))))
    have Z2959 : n0 ≤ T2949.heap.size := Nat.le_trans Z2948 K2949.1
    obtain ⟨cq2960, kq2960, q2960a, q2960b, q2960c⟩ := isOf hZ rfl E2951
    obtain ⟨_, _, ⟨T2960, L2960, k2960, n2960⟩, -, X2960, ⟨Lc2960, hQ2960, l2960, y2960, z2960⟩, st2960⟩ := X2949.virtualBack hx (y := (⟨"com/example/faultline/faultline/engine/ReversibleBitSet", "intersectIndex", "([J)I"⟩ : MethodName)) (z := (⟨"com/example/faultline/faultline/engine/ReversibleBitSet", "intersectIndex", "([J)I"⟩ : MethodName)) hown (mvT hZ (hw _ (List.mem_of_getElem? (i := 64) rfl))) (mvT hZ (hw _ (List.mem_of_getElem? (i := 65) rfl))) (notFace_of_selects (args := #[]) (mvT hZ (hw _ (List.mem_of_getElem? (i := 67) rfl)))) (mvT hZ (hw _ (List.mem_of_getElem? (i := 67) rfl))) (mvT hZ (hw _ (List.mem_of_getElem? (i := 66) rfl))) (by decide) (backOf (W := 0) (rmy2 l Z a0 hw [] b2152 b2816 b2138 lim wo sa nz ma ls1 (x0 &&& ((0 : Int64) ||| m0)) (x1 &&& ((0 : Int64) ||| m1)) q0 q1 lm z0 z1 T2949.heap n0 Z2959 hS2949 Vl2949 Vo2949 Vn2949 A2957 hpr) hZ (hw _ (List.mem_of_getElem? (i := 68) rfl)) (hw _ (List.mem_of_getElem? (i := 25) rfl)) (by decide) (by decide)) q2960a q2960c (g := (mkF m 146 #[.val (.int pp), .val (.long m0), .second, .val (.long m1), .second, .val (.long q0), .second, .val (.long q1), .second, .val (.int bits), .val (.long f0), .second, .val (.long f1), .second, .val (.long s0), .second, .val (.long s1), .second, .val (.ref b2138), .val (.ref b2152), .val (.ref b2719), .val (.ref b2816), .unset, .unset, .unset] [(.ref b2816), (.ref b2152)])) rfl (by rw [hml]; rfl) (Steps.refl _) (argsL := [(.ref b2816)]) (rest := []) (lenOf pd_11 rfl) rfl (by show 2 * 0 + _ ≤ _; exact Nat.le_of_eq rfl) (hb hby at_146) (fun _ _ => ⟨rfl, rfl, (by decide : 14 + 0 ≤ _), (by decide : 829 + 0 ≤ _)⟩)
    dsimp only [Pt.U, Pt.locs, Pt.cells, Pt.slots] at X2960 l2960 y2960 z2960 st2960 hQ2960
    subst l2960 y2960 z2960
    obtain ⟨rr, rfl, hrr, N2960q, e2960⟩ := hQ2960
    have N2960 := Fr.app N2949 N2960q
    have k2961 : ∀ t, Steps p.tables e below (T2960.setTop (mkF m 158 #[.val (.int pp), .val (.long m0), .second, .val (.long m1), .second, .val (.long q0), .second, .val (.long q1), .second, .val (.int bits), .val (.long f0), .second, .val (.long f1), .second, .val (.long s0), .second, .val (.long s1), .second, .val (.ref b2138), .val (.ref b2152), .val (.ref b2719), .val (.ref b2816), .val (.int rr), .unset, .unset] [(.int (lcmpW (s0 &&& q0) (0 : Int64)))])) t → Steps p.tables e below (s₁.setTop (entryFrame m #[(.int pp), (.long m0), (.long m1), (.long q0), (.long q1)] maxLocals)) t := fun t hk => k2175 t (by
      show Steps p.tables e below (T2152.setTop (mkF m 97 #[.val (.int pp), .val (.long m0), .second, .val (.long m1), .second, .val (.long q0), .second, .val (.long q1), .second, .val (.int bits), .val (.long f0), .second, .val (.long f1), .second, .val (.long s0), .second, .val (.long s1), .second, .val (.ref b2138), .unset, .unset, .unset, .unset, .unset, .unset] [(.int bits), (.ref b2138), (.ref b2152), (.ref b2152)])) _
      refine st2706.trans ?_
      refine XS.astore X2706.here hx rfl (hb hby at_100) rfl rfl (l' := #[.val (.int pp), .val (.long m0), .second, .val (.long m1), .second, .val (.long q0), .second, .val (.long q1), .second, .val (.int bits), .val (.long f0), .second, .val (.long f1), .second, .val (.long s0), .second, .val (.long s1), .second, .val (.ref b2138), .val (.ref b2152), .unset, .unset, .unset, .unset, .unset]) rfl ?_
      refine XS.iconst X2706.here hx rfl (hb hby at_102) ?_
      refine st2719 _ ?_
      show Steps p.tables e below (T2719.setTop (mkF m 105 #[.val (.int pp), .val (.long m0), .second, .val (.long m1), .second, .val (.long q0), .second, .val (.long q1), .second, .val (.int bits), .val (.long f0), .second, .val (.long f1), .second, .val (.long s0), .second, .val (.long s1), .second, .val (.ref b2138), .val (.ref b2152), .unset, .unset, .unset, .unset, .unset] [(.ref b2719)])) _
      refine XS.dup X2719.here hx rfl (hb hby at_105) rfl rfl ?_
      refine XS.iconst X2719.here hx rfl (hb hby at_106) ?_
      refine XS.lloadN X2719.here hx rfl (hb hby at_107) rfl ?_
      refine st2758 _ ?_
      show Steps p.tables e below (T2758.setTop (mkF m 109 #[.val (.int pp), .val (.long m0), .second, .val (.long m1), .second, .val (.long q0), .second, .val (.long q1), .second, .val (.int bits), .val (.long f0), .second, .val (.long f1), .second, .val (.long s0), .second, .val (.long s1), .second, .val (.ref b2138), .val (.ref b2152), .unset, .unset, .unset, .unset, .unset] [(.ref b2719)])) _
      refine XS.dup X2758.here hx rfl (hb hby at_109) rfl rfl ?_
      refine XS.iconst X2758.here hx rfl (hb hby at_110) ?_
      refine XS.lloadN X2758.here hx rfl (hb hby at_111) rfl ?_
      refine st2787 _ ?_
      show Steps p.tables e below (T2787.setTop (mkF m 113 #[.val (.int pp), .val (.long m0), .second, .val (.long m1), .second, .val (.long q0), .second, .val (.long q1), .second, .val (.int bits), .val (.long f0), .second, .val (.long f1), .second, .val (.long s0), .second, .val (.long s1), .second, .val (.ref b2138), .val (.ref b2152), .unset, .unset, .unset, .unset, .unset] [(.ref b2719)])) _
      refine XS.astore X2787.here hx rfl (hb hby at_113) rfl rfl (l' := #[.val (.int pp), .val (.long m0), .second, .val (.long m1), .second, .val (.long q0), .second, .val (.long q1), .second, .val (.int bits), .val (.long f0), .second, .val (.long f1), .second, .val (.long s0), .second, .val (.long s1), .second, .val (.ref b2138), .val (.ref b2152), .val (.ref b2719), .unset, .unset, .unset, .unset]) rfl ?_
      refine XS.iconst X2787.here hx rfl (hb hby at_115) ?_
      refine st2816 _ ?_
      refine XS.dup X2816.here hx rfl (hb hby at_118) rfl rfl ?_
      show Steps p.tables e below (T2816.setTop (mkF m 119 #[.val (.int pp), .val (.long m0), .second, .val (.long m1), .second, .val (.long q0), .second, .val (.long q1), .second, .val (.int bits), .val (.long f0), .second, .val (.long f1), .second, .val (.long s0), .second, .val (.long s1), .second, .val (.ref b2138), .val (.ref b2152), .val (.ref b2719), .unset, .unset, .unset, .unset] [(.ref b2816), (.ref b2816)])) _
      refine XS.iconst X2816.here hx rfl (hb hby at_119) ?_
      refine XS.lload X2816.here hx rfl (hb hby at_120) rfl ?_
      refine st2858 _ ?_
      refine XS.dup X2858.here hx rfl (hb hby at_123) rfl rfl ?_
      show Steps p.tables e below (T2858.setTop (mkF m 124 #[.val (.int pp), .val (.long m0), .second, .val (.long m1), .second, .val (.long q0), .second, .val (.long q1), .second, .val (.int bits), .val (.long f0), .second, .val (.long f1), .second, .val (.long s0), .second, .val (.long s1), .second, .val (.ref b2138), .val (.ref b2152), .val (.ref b2719), .unset, .unset, .unset, .unset] [(.ref b2816), (.ref b2816)])) _
      refine XS.iconst X2858.here hx rfl (hb hby at_124) ?_
      refine XS.lload X2858.here hx rfl (hb hby at_125) rfl ?_
      refine st2889 _ ?_
      refine XS.astore X2889.here hx rfl (hb hby at_128) rfl rfl (l' := #[.val (.int pp), .val (.long m0), .second, .val (.long m1), .second, .val (.long q0), .second, .val (.long q1), .second, .val (.int bits), .val (.long f0), .second, .val (.long f1), .second, .val (.long s0), .second, .val (.long s1), .second, .val (.ref b2138), .val (.ref b2152), .val (.ref b2719), .val (.ref b2816), .unset, .unset, .unset]) rfl ?_
      show Steps p.tables e below (T2889.setTop (mkF m 130 #[.val (.int pp), .val (.long m0), .second, .val (.long m1), .second, .val (.long q0), .second, .val (.long q1), .second, .val (.int bits), .val (.long f0), .second, .val (.long f1), .second, .val (.long s0), .second, .val (.long s1), .second, .val (.ref b2138), .val (.ref b2152), .val (.ref b2719), .val (.ref b2816), .unset, .unset, .unset] [])) _
      refine XS.aload X2889.here hx rfl (hb hby at_130) rfl rfl ?_
      refine XS.aload X2889.here hx rfl (hb hby at_132) rfl rfl ?_
      refine st2920.trans ?_
      refine XS.aload X2920.here hx rfl (hb hby at_137) rfl rfl ?_
      show Steps p.tables e below (T2920.setTop (mkF m 139 #[.val (.int pp), .val (.long m0), .second, .val (.long m1), .second, .val (.long q0), .second, .val (.long q1), .second, .val (.int bits), .val (.long f0), .second, .val (.long f1), .second, .val (.long s0), .second, .val (.long s1), .second, .val (.ref b2138), .val (.ref b2152), .val (.ref b2719), .val (.ref b2816), .unset, .unset, .unset] [(.ref b2152)])) _
      refine st2949.trans ?_
      refine XS.aload X2949.here hx rfl (hb hby at_142) rfl rfl ?_
      refine XS.aload X2949.here hx rfl (hb hby at_144) rfl rfl ?_
      refine st2960.trans ?_
      show Steps p.tables e below (T2960.setTop (mkF m 149 #[.val (.int pp), .val (.long m0), .second, .val (.long m1), .second, .val (.long q0), .second, .val (.long q1), .second, .val (.int bits), .val (.long f0), .second, .val (.long f1), .second, .val (.long s0), .second, .val (.long s1), .second, .val (.ref b2138), .val (.ref b2152), .val (.ref b2719), .val (.ref b2816), .unset, .unset, .unset] [(.int rr)])) _
      refine XS.istore X2960.here hx rfl (hb hby at_149) rfl (l' := #[.val (.int pp), .val (.long m0), .second, .val (.long m1), .second, .val (.long q0), .second, .val (.long q1), .second, .val (.int bits), .val (.long f0), .second, .val (.long f1), .second, .val (.long s0), .second, .val (.long s1), .second, .val (.ref b2138), .val (.ref b2152), .val (.ref b2719), .val (.ref b2816), .val (.int rr), .unset, .unset]) rfl ?_
      refine XS.lload X2960.here hx rfl (hb hby at_151) rfl ?_
      refine XS.lload X2960.here hx rfl (hb hby at_153) rfl ?_
      refine XS.land X2960.here hx rfl (hb hby at_155) rfl ?_
      show Steps p.tables e below (T2960.setTop (mkF m 156 #[.val (.int pp), .val (.long m0), .second, .val (.long m1), .second, .val (.long q0), .second, .val (.long q1), .second, .val (.int bits), .val (.long f0), .second, .val (.long f1), .second, .val (.long s0), .second, .val (.long s1), .second, .val (.ref b2138), .val (.ref b2152), .val (.ref b2719), .val (.ref b2816), .val (.int rr), .unset, .unset] [(.long (s0 &&& q0))])) _
      refine XS.lconst X2960.here hx rfl (hb hby at_156) ?_
      refine XS.lcmp X2960.here hx rfl (hb hby at_157) rfl ?_
      exact hk)
    obtain ⟨t0, ht0, k2962⟩ : ∃ (t0 : Int32), (t0 = (if (s0 &&& q0) = (0 : Int64) then (0 : Int32) else (1 : Int32))) ∧ ∀ t, Steps p.tables e below (T2960.setTop (mkF m 166 #[.val (.int pp), .val (.long m0), .second, .val (.long m1), .second, .val (.long q0), .second, .val (.long q1), .second, .val (.int bits), .val (.long f0), .second, .val (.long f1), .second, .val (.long s0), .second, .val (.long s1), .second, .val (.ref b2138), .val (.ref b2152), .val (.ref b2719), .val (.ref b2816), .val (.int rr), .unset, .unset] [(.int t0)])) t → Steps p.tables e below (s₁.setTop (entryFrame m #[(.int pp), (.long m0), (.long m1), (.long q0), (.long q1)] maxLocals)) t := by
      by_cases hc158 : (s0 &&& q0) = (0 : Int64)
      ·
        refine ⟨(0 : Int32), ((if_pos hc158).trans rfl).symm, fun t hk => k2961 t ?_⟩
        show Steps p.tables e below (T2960.setTop (mkF m 158 #[.val (.int pp), .val (.long m0), .second, .val (.long m1), .second, .val (.long q0), .second, .val (.long q1), .second, .val (.int bits), .val (.long f0), .second, .val (.long f1), .second, .val (.long s0), .second, .val (.long s1), .second, .val (.ref b2138), .val (.ref b2152), .val (.ref b2719), .val (.ref b2816), .val (.int rr), .unset, .unset] [(.int (lcmpW (s0 &&& q0) (0 : Int64)))])) _
        refine XS.ifYes X2960.here hx rfl (pc0 := 158) (pc' := 165) rfl (hb hby at_158) rfl ((if0 _ _).trans (teq ((lw_eq _ _).mpr hc158)).1) (by decide) (by decide) ?_
        refine XS.iconst X2960.here hx rfl (hb hby at_165) ?_
        exact hk
      ·
        refine ⟨(1 : Int32), ((if_neg hc158).trans rfl).symm, fun t hk => k2961 t ?_⟩
        show Steps p.tables e below (T2960.setTop (mkF m 158 #[.val (.int pp), .val (.long m0), .second, .val (.long m1), .second, .val (.long q0), .second, .val (.long q1), .second, .val (.int bits), .val (.long f0), .second, .val (.long f1), .second, .val (.long s0), .second, .val (.long s1), .second, .val (.ref b2138), .val (.ref b2152), .val (.ref b2719), .val (.ref b2816), .val (.int rr), .unset, .unset] [(.int (lcmpW (s0 &&& q0) (0 : Int64)))])) _
        refine XS.ifNo X2960.here hx rfl (hb hby at_158) rfl ((if0 _ _).trans (feq (fun q => hc158 ((lw_eq _ _).mp q))).1) ?_
        refine XS.iconst X2960.here hx rfl (hb hby at_161) ?_
        refine XS.goto X2960.here hx rfl (pc0 := 162) (pc' := 166) rfl (hb hby at_162) (by decide) (by decide) ?_
        exact hk
    have k2963 : ∀ t, Steps p.tables e below (T2960.setTop (mkF m 175 #[.val (.int pp), .val (.long m0), .second, .val (.long m1), .second, .val (.long q0), .second, .val (.long q1), .second, .val (.int bits), .val (.long f0), .second, .val (.long f1), .second, .val (.long s0), .second, .val (.long s1), .second, .val (.ref b2138), .val (.ref b2152), .val (.ref b2719), .val (.ref b2816), .val (.int rr), .val (.int t0), .unset] [(.int (lcmpW (s1 &&& q1) (0 : Int64)))])) t → Steps p.tables e below (s₁.setTop (entryFrame m #[(.int pp), (.long m0), (.long m1), (.long q0), (.long q1)] maxLocals)) t := fun t hk => k2962 t (by
      show Steps p.tables e below (T2960.setTop (mkF m 166 #[.val (.int pp), .val (.long m0), .second, .val (.long m1), .second, .val (.long q0), .second, .val (.long q1), .second, .val (.int bits), .val (.long f0), .second, .val (.long f1), .second, .val (.long s0), .second, .val (.long s1), .second, .val (.ref b2138), .val (.ref b2152), .val (.ref b2719), .val (.ref b2816), .val (.int rr), .unset, .unset] [(.int t0)])) _
      refine XS.istore X2960.here hx rfl (hb hby at_166) rfl (l' := #[.val (.int pp), .val (.long m0), .second, .val (.long m1), .second, .val (.long q0), .second, .val (.long q1), .second, .val (.int bits), .val (.long f0), .second, .val (.long f1), .second, .val (.long s0), .second, .val (.long s1), .second, .val (.ref b2138), .val (.ref b2152), .val (.ref b2719), .val (.ref b2816), .val (.int rr), .val (.int t0), .unset]) rfl ?_
      refine XS.lload X2960.here hx rfl (hb hby at_168) rfl ?_
      refine XS.lload X2960.here hx rfl (hb hby at_170) rfl ?_
      refine XS.land X2960.here hx rfl (hb hby at_172) rfl ?_
      show Steps p.tables e below (T2960.setTop (mkF m 173 #[.val (.int pp), .val (.long m0), .second, .val (.long m1), .second, .val (.long q0), .second, .val (.long q1), .second, .val (.int bits), .val (.long f0), .second, .val (.long f1), .second, .val (.long s0), .second, .val (.long s1), .second, .val (.ref b2138), .val (.ref b2152), .val (.ref b2719), .val (.ref b2816), .val (.int rr), .val (.int t0), .unset] [(.long (s1 &&& q1))])) _
      refine XS.lconst X2960.here hx rfl (hb hby at_173) ?_
      refine XS.lcmp X2960.here hx rfl (hb hby at_174) rfl ?_
      exact hk)
    obtain ⟨t1, ht1, k2964⟩ : ∃ (t1 : Int32), (t1 = (if (s1 &&& q1) = (0 : Int64) then (0 : Int32) else (1 : Int32))) ∧ ∀ t, Steps p.tables e below (T2960.setTop (mkF m 183 #[.val (.int pp), .val (.long m0), .second, .val (.long m1), .second, .val (.long q0), .second, .val (.long q1), .second, .val (.int bits), .val (.long f0), .second, .val (.long f1), .second, .val (.long s0), .second, .val (.long s1), .second, .val (.ref b2138), .val (.ref b2152), .val (.ref b2719), .val (.ref b2816), .val (.int rr), .val (.int t0), .unset] [(.int t1)])) t → Steps p.tables e below (s₁.setTop (entryFrame m #[(.int pp), (.long m0), (.long m1), (.long q0), (.long q1)] maxLocals)) t := by
      by_cases hc175 : (s1 &&& q1) = (0 : Int64)
      ·
        refine ⟨(0 : Int32), ((if_pos hc175).trans rfl).symm, fun t hk => k2963 t ?_⟩
        show Steps p.tables e below (T2960.setTop (mkF m 175 #[.val (.int pp), .val (.long m0), .second, .val (.long m1), .second, .val (.long q0), .second, .val (.long q1), .second, .val (.int bits), .val (.long f0), .second, .val (.long f1), .second, .val (.long s0), .second, .val (.long s1), .second, .val (.ref b2138), .val (.ref b2152), .val (.ref b2719), .val (.ref b2816), .val (.int rr), .val (.int t0), .unset] [(.int (lcmpW (s1 &&& q1) (0 : Int64)))])) _
        refine XS.ifYes X2960.here hx rfl (pc0 := 175) (pc' := 182) rfl (hb hby at_175) rfl ((if0 _ _).trans (teq ((lw_eq _ _).mpr hc175)).1) (by decide) (by decide) ?_
        refine XS.iconst X2960.here hx rfl (hb hby at_182) ?_
        exact hk
      ·
        refine ⟨(1 : Int32), ((if_neg hc175).trans rfl).symm, fun t hk => k2963 t ?_⟩
        show Steps p.tables e below (T2960.setTop (mkF m 175 #[.val (.int pp), .val (.long m0), .second, .val (.long m1), .second, .val (.long q0), .second, .val (.long q1), .second, .val (.int bits), .val (.long f0), .second, .val (.long f1), .second, .val (.long s0), .second, .val (.long s1), .second, .val (.ref b2138), .val (.ref b2152), .val (.ref b2719), .val (.ref b2816), .val (.int rr), .val (.int t0), .unset] [(.int (lcmpW (s1 &&& q1) (0 : Int64)))])) _
        refine XS.ifNo X2960.here hx rfl (hb hby at_175) rfl ((if0 _ _).trans (feq (fun q => hc175 ((lw_eq _ _).mp q))).1) ?_
        refine XS.iconst X2960.here hx rfl (hb hby at_178) ?_
        refine XS.goto X2960.here hx rfl (pc0 := 179) (pc' := 183) rfl (hb hby at_179) (by decide) (by decide) ?_
        exact hk
    have k2965 : ∀ t, Steps p.tables e below (T2960.setTop (mkF m 185 #[.val (.int pp), .val (.long m0), .second, .val (.long m1), .second, .val (.long q0), .second, .val (.long q1), .second, .val (.int bits), .val (.long f0), .second, .val (.long f1), .second, .val (.long s0), .second, .val (.long s1), .second, .val (.ref b2138), .val (.ref b2152), .val (.ref b2719), .val (.ref b2816), .val (.int rr), .val (.int t0), .val (.int t1)] [])) t → Steps p.tables e below (s₁.setTop (entryFrame m #[(.int pp), (.long m0), (.long m1), (.long q0), (.long q1)] maxLocals)) t := fun t hk => k2964 t (by
      show Steps p.tables e below (T2960.setTop (mkF m 183 #[.val (.int pp), .val (.long m0), .second, .val (.long m1), .second, .val (.long q0), .second, .val (.long q1), .second, .val (.int bits), .val (.long f0), .second, .val (.long f1), .second, .val (.long s0), .second, .val (.long s1), .second, .val (.ref b2138), .val (.ref b2152), .val (.ref b2719), .val (.ref b2816), .val (.int rr), .val (.int t0), .unset] [(.int t1)])) _
      refine XS.istore X2960.here hx rfl (hb hby at_183) rfl (l' := #[.val (.int pp), .val (.long m0), .second, .val (.long m1), .second, .val (.long q0), .second, .val (.long q1), .second, .val (.int bits), .val (.long f0), .second, .val (.long f1), .second, .val (.long s0), .second, .val (.long s1), .second, .val (.ref b2138), .val (.ref b2152), .val (.ref b2719), .val (.ref b2816), .val (.int rr), .val (.int t0), .val (.int t1)]) rfl ?_
      exact hk)
    rcases own_plain2 bits m0 m1 q0 q1 f0 f1 s0 s1 x0 x1 t0 t1 rr hb0 hb1 hbl hbh hf0 hf1 hs0 hs1 hx0 hx1 ht0 ht1 hrr with ⟨er, e0, e1⟩ | ⟨er, e0⟩ | ⟨er, e1⟩
    ·
      have k2966 : ∀ t, Steps p.tables e below (T2960.setTop (mkF m 206 #[.val (.int pp), .val (.long m0), .second, .val (.long m1), .second, .val (.long q0), .second, .val (.long q1), .second, .val (.int bits), .val (.long f0), .second, .val (.long f1), .second, .val (.long s0), .second, .val (.long s1), .second, .val (.ref b2138), .val (.ref b2152), .val (.ref b2719), .val (.ref b2816), .val (.int rr), .val (.int t0), .val (.int t1)] [(.int (1 : Int32))])) t → Steps p.tables e below (s₁.setTop (entryFrame m #[(.int pp), (.long m0), (.long m1), (.long q0), (.long q1)] maxLocals)) t := fun t hk => k2965 t (by
        show Steps p.tables e below (T2960.setTop (mkF m 185 #[.val (.int pp), .val (.long m0), .second, .val (.long m1), .second, .val (.long q0), .second, .val (.long q1), .second, .val (.int bits), .val (.long f0), .second, .val (.long f1), .second, .val (.long s0), .second, .val (.long s1), .second, .val (.ref b2138), .val (.ref b2152), .val (.ref b2719), .val (.ref b2816), .val (.int rr), .val (.int t0), .val (.int t1)] [])) _
        refine XS.iload X2960.here hx rfl (hb hby at_185) rfl ?_
        refine XS.ifNo X2960.here hx rfl (hb hby at_187) rfl ((if0 _ _).trans (teq e0).2) ?_
        refine XS.iload X2960.here hx rfl (hb hby at_190) rfl ?_
        refine XS.ifNo X2960.here hx rfl (hb hby at_192) rfl ((if0 _ _).trans (teq e1).2) ?_
        show Steps p.tables e below (T2960.setTop (mkF m 195 #[.val (.int pp), .val (.long m0), .second, .val (.long m1), .second, .val (.long q0), .second, .val (.long q1), .second, .val (.int bits), .val (.long f0), .second, .val (.long f1), .second, .val (.long s0), .second, .val (.long s1), .second, .val (.ref b2138), .val (.ref b2152), .val (.ref b2719), .val (.ref b2816), .val (.int rr), .val (.int t0), .val (.int t1)] [])) _
        refine XS.iload X2960.here hx rfl (hb hby at_195) rfl ?_
        refine XS.iconst X2960.here hx rfl (hb hby at_197) ?_
        refine XS.icmpNo X2960.here hx rfl (hb hby at_198) rfl (teq er).2 ?_
        refine XS.iconst X2960.here hx rfl (hb hby at_201) ?_
        show Steps p.tables e below (T2960.setTop (mkF m 202 #[.val (.int pp), .val (.long m0), .second, .val (.long m1), .second, .val (.long q0), .second, .val (.long q1), .second, .val (.int bits), .val (.long f0), .second, .val (.long f1), .second, .val (.long s0), .second, .val (.long s1), .second, .val (.ref b2138), .val (.ref b2152), .val (.ref b2719), .val (.ref b2816), .val (.int rr), .val (.int t0), .val (.int t1)] [(.int (1 : Int32))])) _
        refine XS.goto X2960.here hx rfl (pc0 := 202) (pc' := 206) rfl (hb hby at_202) (by decide) (by decide) ?_
        exact hk)
      obtain ⟨fs, hr, hrun, hended, hW, hsame⟩ := X2960.leave (v := some (.int (nar .boolean (1 : Int32)))) (fun h => by rw [Bd.returns] at h; cases h)
      refine ⟨_, _, k2966 _ ?_, hrun, hended, _, _, rfl, ?_, ⟨_, rfl⟩, hW, hsame.mono (by decide) (by decide)⟩
      · show Steps p.tables e below (T2960.setTop (mkF m 206 #[.val (.int pp), .val (.long m0), .second, .val (.long m1), .second, .val (.long q0), .second, .val (.long q1), .second, .val (.int bits), .val (.long f0), .second, .val (.long f1), .second, .val (.long s0), .second, .val (.long s1), .second, .val (.ref b2138), .val (.ref b2152), .val (.ref b2719), .val (.ref b2816), .val (.int rr), .val (.int t0), .val (.int t1)] [(.int (1 : Int32))])) _
        exact retN X2960 hx (t := .boolean) Bd.returns (by simp) (hb hby at_206) hr
      · show Q0 Z pp m0 m1 q0 q1 h0 n0 _ T2960.heap _
        rw [e2960]
        exact ⟨rfl, N2960⟩
    ·
      have k2967 : ∀ t, Steps p.tables e below (T2960.setTop (mkF m 233 #[.val (.int pp), .val (.long m0), .second, .val (.long m1), .second, .val (.long q0), .second, .val (.long q1), .second, .val (.int bits), .val (.long f0), .second, .val (.long f1), .second, .val (.long s0), .second, .val (.long s1), .second, .val (.ref b2138), .val (.ref b2152), .val (.ref b2719), .val (.ref b2816), .val (.int rr), .val (.int t0), .val (.int t1)] [(.int (1 : Int32))])) t → Steps p.tables e below (s₁.setTop (entryFrame m #[(.int pp), (.long m0), (.long m1), (.long q0), (.long q1)] maxLocals)) t := fun t hk => k2965 t (by
        show Steps p.tables e below (T2960.setTop (mkF m 185 #[.val (.int pp), .val (.long m0), .second, .val (.long m1), .second, .val (.long q0), .second, .val (.long q1), .second, .val (.int bits), .val (.long f0), .second, .val (.long f1), .second, .val (.long s0), .second, .val (.long s1), .second, .val (.ref b2138), .val (.ref b2152), .val (.ref b2719), .val (.ref b2816), .val (.int rr), .val (.int t0), .val (.int t1)] [])) _
        refine XS.iload X2960.here hx rfl (hb hby at_185) rfl ?_
        refine XS.ifYes X2960.here hx rfl (pc0 := 187) (pc' := 207) rfl (hb hby at_187) rfl ((if0 _ _).trans (feq e0).2) (by decide) (by decide) ?_
        refine XS.iload X2960.here hx rfl (hb hby at_207) rfl ?_
        refine XS.ifNo X2960.here hx rfl (hb hby at_209) rfl ((if0 _ _).trans (teq er).2) ?_
        show Steps p.tables e below (T2960.setTop (mkF m 212 #[.val (.int pp), .val (.long m0), .second, .val (.long m1), .second, .val (.long q0), .second, .val (.long q1), .second, .val (.int bits), .val (.long f0), .second, .val (.long f1), .second, .val (.long s0), .second, .val (.long s1), .second, .val (.ref b2138), .val (.ref b2152), .val (.ref b2719), .val (.ref b2816), .val (.int rr), .val (.int t0), .val (.int t1)] [])) _
        refine XS.iload X2960.here hx rfl (hb hby at_212) rfl ?_
        refine XS.ifYes X2960.here hx rfl (pc0 := 214) (pc' := 228) rfl (hb hby at_214) rfl ((if0 _ _).trans (feq e0).2) (by decide) (by decide) ?_
        refine XS.iconst X2960.here hx rfl (hb hby at_228) ?_
        refine XS.goto X2960.here hx rfl (pc0 := 229) (pc' := 233) rfl (hb hby at_229) (by decide) (by decide) ?_
        exact hk)
      obtain ⟨fs, hr, hrun, hended, hW, hsame⟩ := X2960.leave (v := some (.int (nar .boolean (1 : Int32)))) (fun h => by rw [Bd.returns] at h; cases h)
      refine ⟨_, _, k2967 _ ?_, hrun, hended, _, _, rfl, ?_, ⟨_, rfl⟩, hW, hsame.mono (by decide) (by decide)⟩
      · show Steps p.tables e below (T2960.setTop (mkF m 233 #[.val (.int pp), .val (.long m0), .second, .val (.long m1), .second, .val (.long q0), .second, .val (.long q1), .second, .val (.int bits), .val (.long f0), .second, .val (.long f1), .second, .val (.long s0), .second, .val (.long s1), .second, .val (.ref b2138), .val (.ref b2152), .val (.ref b2719), .val (.ref b2816), .val (.int rr), .val (.int t0), .val (.int t1)] [(.int (1 : Int32))])) _
        exact retN X2960 hx (t := .boolean) Bd.returns (by simp) (hb hby at_233) hr
      · show Q0 Z pp m0 m1 q0 q1 h0 n0 _ T2960.heap _
        rw [e2960]
        exact ⟨rfl, N2960⟩
    ·
      have er0 : ¬ rr = (0 : Int32) := by rw [er]; decide
      have k2968 : ∀ t, Steps p.tables e below (T2960.setTop (mkF m 187 #[.val (.int pp), .val (.long m0), .second, .val (.long m1), .second, .val (.long q0), .second, .val (.long q1), .second, .val (.int bits), .val (.long f0), .second, .val (.long f1), .second, .val (.long s0), .second, .val (.long s1), .second, .val (.ref b2138), .val (.ref b2152), .val (.ref b2719), .val (.ref b2816), .val (.int rr), .val (.int t0), .val (.int t1)] [(.int t0)])) t → Steps p.tables e below (s₁.setTop (entryFrame m #[(.int pp), (.long m0), (.long m1), (.long q0), (.long q1)] maxLocals)) t := fun t hk => k2965 t (by
        show Steps p.tables e below (T2960.setTop (mkF m 185 #[.val (.int pp), .val (.long m0), .second, .val (.long m1), .second, .val (.long q0), .second, .val (.long q1), .second, .val (.int bits), .val (.long f0), .second, .val (.long f1), .second, .val (.long s0), .second, .val (.long s1), .second, .val (.ref b2138), .val (.ref b2152), .val (.ref b2719), .val (.ref b2816), .val (.int rr), .val (.int t0), .val (.int t1)] [])) _
        refine XS.iload X2960.here hx rfl (hb hby at_185) rfl ?_
        exact hk)
      by_cases hc187 : t0 = (0 : Int32)
      ·
        have k2969 : ∀ t, Steps p.tables e below (T2960.setTop (mkF m 233 #[.val (.int pp), .val (.long m0), .second, .val (.long m1), .second, .val (.long q0), .second, .val (.long q1), .second, .val (.int bits), .val (.long f0), .second, .val (.long f1), .second, .val (.long s0), .second, .val (.long s1), .second, .val (.ref b2138), .val (.ref b2152), .val (.ref b2719), .val (.ref b2816), .val (.int rr), .val (.int t0), .val (.int t1)] [(.int (1 : Int32))])) t → Steps p.tables e below (s₁.setTop (entryFrame m #[(.int pp), (.long m0), (.long m1), (.long q0), (.long q1)] maxLocals)) t := fun t hk => k2968 t (by
          show Steps p.tables e below (T2960.setTop (mkF m 187 #[.val (.int pp), .val (.long m0), .second, .val (.long m1), .second, .val (.long q0), .second, .val (.long q1), .second, .val (.int bits), .val (.long f0), .second, .val (.long f1), .second, .val (.long s0), .second, .val (.long s1), .second, .val (.ref b2138), .val (.ref b2152), .val (.ref b2719), .val (.ref b2816), .val (.int rr), .val (.int t0), .val (.int t1)] [(.int t0)])) _
          refine XS.ifNo X2960.here hx rfl (hb hby at_187) rfl ((if0 _ _).trans (teq hc187).2) ?_
          refine XS.iload X2960.here hx rfl (hb hby at_190) rfl ?_
          refine XS.ifYes X2960.here hx rfl (pc0 := 192) (pc' := 207) rfl (hb hby at_192) rfl ((if0 _ _).trans (feq e1).2) (by decide) (by decide) ?_
          refine XS.iload X2960.here hx rfl (hb hby at_207) rfl ?_
          show Steps p.tables e below (T2960.setTop (mkF m 209 #[.val (.int pp), .val (.long m0), .second, .val (.long m1), .second, .val (.long q0), .second, .val (.long q1), .second, .val (.int bits), .val (.long f0), .second, .val (.long f1), .second, .val (.long s0), .second, .val (.long s1), .second, .val (.ref b2138), .val (.ref b2152), .val (.ref b2719), .val (.ref b2816), .val (.int rr), .val (.int t0), .val (.int t1)] [(.int rr)])) _
          refine XS.ifYes X2960.here hx rfl (pc0 := 209) (pc' := 217) rfl (hb hby at_209) rfl ((if0 _ _).trans (feq er0).2) (by decide) (by decide) ?_
          refine XS.iload X2960.here hx rfl (hb hby at_217) rfl ?_
          refine XS.iconst X2960.here hx rfl (hb hby at_219) ?_
          refine XS.icmpNo X2960.here hx rfl (hb hby at_220) rfl (teq er).2 ?_
          show Steps p.tables e below (T2960.setTop (mkF m 223 #[.val (.int pp), .val (.long m0), .second, .val (.long m1), .second, .val (.long q0), .second, .val (.long q1), .second, .val (.int bits), .val (.long f0), .second, .val (.long f1), .second, .val (.long s0), .second, .val (.long s1), .second, .val (.ref b2138), .val (.ref b2152), .val (.ref b2719), .val (.ref b2816), .val (.int rr), .val (.int t0), .val (.int t1)] [])) _
          refine XS.iload X2960.here hx rfl (hb hby at_223) rfl ?_
          refine XS.ifNo X2960.here hx rfl (hb hby at_225) rfl ((if0 _ _).trans (feq e1).1) ?_
          refine XS.iconst X2960.here hx rfl (hb hby at_228) ?_
          refine XS.goto X2960.here hx rfl (pc0 := 229) (pc' := 233) rfl (hb hby at_229) (by decide) (by decide) ?_
          exact hk)
        obtain ⟨fs, hr, hrun, hended, hW, hsame⟩ := X2960.leave (v := some (.int (nar .boolean (1 : Int32)))) (fun h => by rw [Bd.returns] at h; cases h)
        refine ⟨_, _, k2969 _ ?_, hrun, hended, _, _, rfl, ?_, ⟨_, rfl⟩, hW, hsame.mono (by decide) (by decide)⟩
        · show Steps p.tables e below (T2960.setTop (mkF m 233 #[.val (.int pp), .val (.long m0), .second, .val (.long m1), .second, .val (.long q0), .second, .val (.long q1), .second, .val (.int bits), .val (.long f0), .second, .val (.long f1), .second, .val (.long s0), .second, .val (.long s1), .second, .val (.ref b2138), .val (.ref b2152), .val (.ref b2719), .val (.ref b2816), .val (.int rr), .val (.int t0), .val (.int t1)] [(.int (1 : Int32))])) _
          exact retN X2960 hx (t := .boolean) Bd.returns (by simp) (hb hby at_233) hr
        · show Q0 Z pp m0 m1 q0 q1 h0 n0 _ T2960.heap _
          rw [e2960]
          exact ⟨rfl, N2960⟩
      ·
        have k2970 : ∀ t, Steps p.tables e below (T2960.setTop (mkF m 233 #[.val (.int pp), .val (.long m0), .second, .val (.long m1), .second, .val (.long q0), .second, .val (.long q1), .second, .val (.int bits), .val (.long f0), .second, .val (.long f1), .second, .val (.long s0), .second, .val (.long s1), .second, .val (.ref b2138), .val (.ref b2152), .val (.ref b2719), .val (.ref b2816), .val (.int rr), .val (.int t0), .val (.int t1)] [(.int (1 : Int32))])) t → Steps p.tables e below (s₁.setTop (entryFrame m #[(.int pp), (.long m0), (.long m1), (.long q0), (.long q1)] maxLocals)) t := fun t hk => k2968 t (by
          show Steps p.tables e below (T2960.setTop (mkF m 187 #[.val (.int pp), .val (.long m0), .second, .val (.long m1), .second, .val (.long q0), .second, .val (.long q1), .second, .val (.int bits), .val (.long f0), .second, .val (.long f1), .second, .val (.long s0), .second, .val (.long s1), .second, .val (.ref b2138), .val (.ref b2152), .val (.ref b2719), .val (.ref b2816), .val (.int rr), .val (.int t0), .val (.int t1)] [(.int t0)])) _
          refine XS.ifYes X2960.here hx rfl (pc0 := 187) (pc' := 207) rfl (hb hby at_187) rfl ((if0 _ _).trans (feq hc187).2) (by decide) (by decide) ?_
          refine XS.iload X2960.here hx rfl (hb hby at_207) rfl ?_
          refine XS.ifYes X2960.here hx rfl (pc0 := 209) (pc' := 217) rfl (hb hby at_209) rfl ((if0 _ _).trans (feq er0).2) (by decide) (by decide) ?_
          refine XS.iload X2960.here hx rfl (hb hby at_217) rfl ?_
          show Steps p.tables e below (T2960.setTop (mkF m 219 #[.val (.int pp), .val (.long m0), .second, .val (.long m1), .second, .val (.long q0), .second, .val (.long q1), .second, .val (.int bits), .val (.long f0), .second, .val (.long f1), .second, .val (.long s0), .second, .val (.long s1), .second, .val (.ref b2138), .val (.ref b2152), .val (.ref b2719), .val (.ref b2816), .val (.int rr), .val (.int t0), .val (.int t1)] [(.int rr)])) _
          refine XS.iconst X2960.here hx rfl (hb hby at_219) ?_
          refine XS.icmpNo X2960.here hx rfl (hb hby at_220) rfl (teq er).2 ?_
          refine XS.iload X2960.here hx rfl (hb hby at_223) rfl ?_
          refine XS.ifNo X2960.here hx rfl (hb hby at_225) rfl ((if0 _ _).trans (feq e1).1) ?_
          show Steps p.tables e below (T2960.setTop (mkF m 228 #[.val (.int pp), .val (.long m0), .second, .val (.long m1), .second, .val (.long q0), .second, .val (.long q1), .second, .val (.int bits), .val (.long f0), .second, .val (.long f1), .second, .val (.long s0), .second, .val (.long s1), .second, .val (.ref b2138), .val (.ref b2152), .val (.ref b2719), .val (.ref b2816), .val (.int rr), .val (.int t0), .val (.int t1)] [])) _
          refine XS.iconst X2960.here hx rfl (hb hby at_228) ?_
          refine XS.goto X2960.here hx rfl (pc0 := 229) (pc' := 233) rfl (hb hby at_229) (by decide) (by decide) ?_
          exact hk)
        obtain ⟨fs, hr, hrun, hended, hW, hsame⟩ := X2960.leave (v := some (.int (nar .boolean (1 : Int32)))) (fun h => by rw [Bd.returns] at h; cases h)
        refine ⟨_, _, k2970 _ ?_, hrun, hended, _, _, rfl, ?_, ⟨_, rfl⟩, hW, hsame.mono (by decide) (by decide)⟩
        · show Steps p.tables e below (T2960.setTop (mkF m 233 #[.val (.int pp), .val (.long m0), .second, .val (.long m1), .second, .val (.long q0), .second, .val (.long q1), .second, .val (.int bits), .val (.long f0), .second, .val (.long f1), .second, .val (.long s0), .second, .val (.long s1), .second, .val (.ref b2138), .val (.ref b2152), .val (.ref b2719), .val (.ref b2816), .val (.int rr), .val (.int t0), .val (.int t1)] [(.int (1 : Int32))])) _
          exact retN X2960 hx (t := .boolean) Bd.returns (by simp) (hb hby at_233) hr
        · show Q0 Z pp m0 m1 q0 q1 h0 n0 _ T2960.heap _
          rw [e2960]
          exact ⟨rfl, N2960⟩
set_option maxRecDepth 65536 in
set_option maxHeartbeats 40000000 in
theorem comes_1 {Post : Tables → Env → Array Value → State → Outcome → State → Prop} (hpost : ∀ tb e args s v u, (limb_1_1.after args s (.returned v) u = true ∧ limb_1_2.after args s (.returned v) u = true ∧ True) → FrameEnd s (.returned v) u (Jvm.fieldLocs frame_1_writes args s ++ Jvm.arrayLocs frame_1_arrays args s ++ Jvm.staticLocs frame_1_statics s) 40 1728 → Post tb e args s (.returned v) u) :
    ArmFor flags0 classFile x code maxLocals ret World_1 tables_1 room_1 Calls_1 rest_1 Pre_1 Post := by
  intro l hfl _ _ p e ha hc hk s m args below hf hA hF happ hP
  obtain ⟨hcalls, hrest, hpre⟩ := hP
  obtain ⟨-, -, -, hnamed, -, -, -, hat⟩ := (Spec.applies_iff hf).mp happ
  obtain ⟨hg, hn⟩ := and_e (Cond.before_iff.mp (show (Jvm.Cond.and given_1 narrow_1).before args s = true from hpre))
  obtain ⟨hcnt, hg0⟩ := and_e hg
  obtain ⟨hv0, hg1⟩ := and_e hg0
  obtain ⟨hv1, hg2⟩ := and_e hg1
  obtain ⟨hv2, hg3⟩ := and_e hg2
  obtain ⟨hv3, hg4⟩ := and_e hg3
  have hv4 := hg4
  obtain ⟨w0, w1, w2, w3, w4, rfl⟩ : ∃ w0 w1 w2 w3 w4 : Value, args = #[w0, w1, w2, w3, w4] := by
    have hs : args.size = 5 := by simpa [Cond.value, given_1] using hcnt
    obtain ⟨L⟩ := args
    match L, hs with
    | [w0, w1, w2, w3, w4], _ => exact ⟨w0, w1, w2, w3, w4, rfl⟩
  have hw := fun d (hd : d ∈ tables_1) => atoms_spec (ws := Jvm.Cond.code x code maxLocals ret :: tables_1) hat d (List.mem_cons_of_mem _ hd)
  obtain ⟨i0, ei0⟩ := is_v hv0
  obtain rfl : w0 = (.int i0) := Option.some.inj ei0
  obtain ⟨i1, ei1⟩ := isL_v hv1
  obtain rfl : w1 = (.long i1) := Option.some.inj ei1
  obtain ⟨i2, ei2⟩ := isL_v hv2
  obtain rfl : w2 = (.long i2) := Option.some.inj ei2
  obtain ⟨i3, ei3⟩ := isL_v hv3
  obtain rfl : w3 = (.long i3) := Option.some.inj ei3
  obtain ⟨i4, ei4⟩ := isL_v hv4
  obtain rfl : w4 = (.long i4) := Option.some.inj ei4
  obtain ⟨n, o, h1, h2, h3, _, L, rfl, ⟨rfl, N⟩, hq⟩ := rm0 l s _ hw tables_1 i0 i1 i2 i3 i4 s.heap s.heap.size (Nat.le_refl _)  p e ha hc hk s m _ below hf ((Spec.applies_iff_loose hf).mp happ).1 ⟨rfl, State.Warmed39.refl s, rfl⟩ trivial
  refine ⟨n, _, h1, h2, h3, hpost _ _ _ _ _ _ ⟨Cond.after_iff.mpr rfl, Cond.after_iff.mpr (eq_i res_at (Term.int_eval (1)) rfl), trivial⟩ ⟨hq.1, hq.2.1, (hq.2.2.sift fun y hy => Or.inr (N y hy)).mono (by decide) (by decide)⟩⟩
theorem main_1_1 : Claimed_1_1 := comes_1 fun _ _ _ _ _ _ h hF => ⟨h.1, hF⟩
theorem main_1_2 : Claimed_1_2 := comes_1 fun _ _ _ _ _ _ h hF => ⟨h.2.1, hF⟩
end Jvm.Pilot.@@N@@
namespace Jvm.Pilot.@@N@@
open Jvm Jvm.ClassFile Sem Op Lib Jvm.Free Jvm.Stand Jvm.Pilot.@@N@@.Jvm.D
/-! MADE BY PROGRAM (witnessworld.py) out of the Statement's table words and the real class files: 13 classes; the members and pool entries that the words name. The judged class is class 1, her method 1. -/
namespace start1
open Jvm.ClassFile
def u (s : String) : CpInfo := .utf8 (stringToUtf16 s)
/-- a pool by its gaps: so many unusable entries, then the entry; so many at the end -/
def gap : Nat → List CpInfo → List CpInfo
  | 0, r => r
  | n + 1, r => .unusable :: gap n r
def poolList (es : List (Nat × CpInfo)) (last : Nat) : List CpInfo := es.foldr (fun e r => gap e.1 (e.2 :: r)) (gap last [])
def pool (es : List (Nat × CpInfo)) (last : Nat) : Array CpInfo := ⟨poolList es last⟩
def fileOf (pool : Array CpInfo) (this : Nat) (attrs : Array Attribute := #[]) (ms : Array MethodInfo := #[]) (fl : Nat := 33) (sup : Nat := 0) (ifs : Array Nat := #[]) (fds : Array FieldInfo := #[]) : ClassFile where
  minorVersion := 0
  majorVersion := 65
  constantPool := pool
  accessFlags := fl
  thisClass := this
  superClass := sup
  interfaces := ifs
  fields := fds
  methods := ms
  attributes := attrs
def plain (name : String) (sup : Option ClassId) : Class where
  name := name
  kind := .ordinary
  loader := none
  accessFlags := 33
  super := sup
  interfaces := #[]
  cf := none
  fields := #[]
  methods := #[]
  instanceTypes := #[]
  staticTypes := #[]
  resolved := #[]
  callSites := []
  init := .initialized
  statics := none
  mirror := none

def pool0 : Array CpInfo := pool [(5, u "<init>"), (0, u "()V"), (1, .class_ 10), (1, u "java/lang/Object")] 113

def k0c0 : Code := { maxStack := 0, maxLocals := 1, code := object_method_1_code, exceptionTable := #[], attributes := #[] }
def k0m0 : Method := { name := "<init>", desc := "()V", sig := { parameters := [], returnType := none }, accessFlags := 1, code := some k0c0 }
/-- java/lang/Object -/
def k0 : Class := { plain "java/lang/Object" none with
  accessFlags := 33
  interfaces := #[]
  cf := some (fileOf pool0 8 #[] #[{ accessFlags := 1, nameIndex := 5, descriptorIndex := 6, attributes := #[] }] 33 0 #[] #[])
  fields := #[]
  methods := #[k0m0]
  instanceTypes := #[]
  staticTypes := #[]
  resolved := Array.replicate 124 none
  statics := none }

def pool1 : Array CpInfo := pool [(2, .class_ 4), (0, .nameAndType 5 6), (0, u "java/lang/Object"), (0, u "<init>"), (0, u "()V"), (0, .long 18446744073709551615), (1, .class_ 10), (0, u "com/example/faultline/faultline/engine/Trail"), (0, .methodref 9 3), (0, .class_ 13), (0, u "com/example/faultline/faultline/engine/ReversibleBitSet"), (0, .methodref 12 15), (0, .nameAndType 5 16), (0, u "(Lcom/example/faultline/faultline/engine/Trail;I)V"), (0, .methodref 12 18), (0, .nameAndType 19 20), (0, u "addToMask"), (0, u "([J)V"), (0, .methodref 12 22), (0, .nameAndType 23 6), (0, u "intersectWithMask"), (0, .methodref 12 25), (0, .nameAndType 26 27), (0, u "intersectIndex"), (0, u "([J)I"), (0, .class_ 29), (0, u "com/example/faultline/faultline/engine/ReversibleBitSetIntersectIndexPinLaw"), (2, u "law"), (0, u "(IJJJJ)Z")] 5

def k1m0 : Method := { name := "<init>", desc := "()V", sig := { parameters := [], returnType := none }, accessFlags := 1, code := none }
def k1c1 : Code := { maxStack := 5, maxLocals := 25, code := code, exceptionTable := #[], attributes := #[] }
def k1m1 : Method := { name := "law", desc := "(IJJJJ)Z", sig := { parameters := [.int, .long, .long, .long, .long], returnType := some .boolean }, accessFlags := 9, code := some k1c1 }
/-- com/example/faultline/faultline/engine/ReversibleBitSetIntersectIndexPinLaw -/
def k1 : Class := { plain "com/example/faultline/faultline/engine/ReversibleBitSetIntersectIndexPinLaw" (some 0) with
  accessFlags := 49
  interfaces := #[]
  cf := some (fileOf pool1 28 #[] #[{ accessFlags := 1, nameIndex := 5, descriptorIndex := 6, attributes := #[] }, { accessFlags := 9, nameIndex := 32, descriptorIndex := 33, attributes := #[] }] 49 2 #[] #[])
  fields := #[]
  methods := #[k1m0, k1m1]
  instanceTypes := #[]
  staticTypes := #[]
  resolved := Array.replicate 39 none
  statics := none }

def pool2 : Array CpInfo := pool [(1, .methodref 2 3), (0, .class_ 4), (0, .nameAndType 5 6), (0, u "java/lang/Object"), (0, u "<init>"), (0, u "()V"), (0, .fieldref 8 9), (0, .class_ 10), (0, .nameAndType 11 12), (0, u "com/example/faultline/faultline/engine/Trail"), (0, u "owners"), (0, u "[Ljava/lang/Object;"), (0, .fieldref 8 14), (0, .nameAndType 15 16), (0, u "indexes"), (0, u "[I"), (0, .fieldref 8 18), (0, .nameAndType 19 20), (0, u "saved"), (0, u "[J"), (0, .fieldref 8 22), (0, .nameAndType 23 16), (0, u "marks"), (0, .fieldref 8 25), (0, .nameAndType 26 20), (0, u "outerWorlds"), (0, .methodref 8 28), (0, .nameAndType 29 30), (0, u "record"), (0, u "(Ljava/lang/Object;IJ)V"), (8, u "depth"), (0, u "I"), (9, .fieldref 8 51), (0, .nameAndType 52 40), (0, u "top"), (0, .fieldref 8 54), (0, .nameAndType 55 56), (0, u "world"), (0, u "J"), (2, u "worldsGiven"), (13, .class_ 74), (0, u "com/example/faultline/faultline/engine/Trail$Restorer"), (9, u "save"), (0, u "([II)V"), (0, u "([JI)V"), (5, u "()J")] 5

def k2c0 : Code := { maxStack := 2, maxLocals := 1, code := prog_49_method_1_code, exceptionTable := #[], attributes := #[] }
def k2m0 : Method := { name := "<init>", desc := "()V", sig := { parameters := [], returnType := none }, accessFlags := 0, code := some k2c0 }
def k2c1 : Code := { maxStack := 5, maxLocals := 3, code := prog_49_method_2_code, exceptionTable := #[], attributes := #[] }
def k2m1 : Method := { name := "save", desc := "([II)V", sig := { parameters := [(.array .int), .int], returnType := none }, accessFlags := 1, code := some k2c1 }
def k2c2 : Code := { maxStack := 5, maxLocals := 3, code := prog_49_method_3_code, exceptionTable := #[], attributes := #[] }
def k2m2 : Method := { name := "save", desc := "([JI)V", sig := { parameters := [(.array .long), .int], returnType := none }, accessFlags := 0, code := some k2c2 }
def k2c3 : Code := { maxStack := 2, maxLocals := 1, code := prog_49_method_8_code, exceptionTable := #[], attributes := #[] }
def k2m3 : Method := { name := "world", desc := "()J", sig := { parameters := [], returnType := some .long }, accessFlags := 1, code := some k2c3 }
def k2c4 : Code := { maxStack := 4, maxLocals := 5, code := prog_49_method_9_code, exceptionTable := #[], attributes := #[] }
def k2m4 : Method := { name := "record", desc := "(Ljava/lang/Object;IJ)V", sig := { parameters := [(.object "java/lang/Object"), .int, .long], returnType := none }, accessFlags := 2, code := some k2c4 }
/-- com/example/faultline/faultline/engine/Trail -/
def k2 : Class := { plain "com/example/faultline/faultline/engine/Trail" (some 0) with
  accessFlags := 33
  interfaces := #[]
  cf := some (fileOf pool2 8 #[.nestMembers #[73]] #[{ accessFlags := 0, nameIndex := 5, descriptorIndex := 6, attributes := #[] }, { accessFlags := 1, nameIndex := 84, descriptorIndex := 85, attributes := #[] }, { accessFlags := 0, nameIndex := 84, descriptorIndex := 86, attributes := #[] }, { accessFlags := 1, nameIndex := 55, descriptorIndex := 92, attributes := #[] }, { accessFlags := 2, nameIndex := 29, descriptorIndex := 30, attributes := #[] }] 33 2 #[] #[{ accessFlags := 2, nameIndex := 11, descriptorIndex := 12, attributes := #[] }, { accessFlags := 2, nameIndex := 15, descriptorIndex := 16, attributes := #[] }, { accessFlags := 2, nameIndex := 19, descriptorIndex := 20, attributes := #[] }, { accessFlags := 2, nameIndex := 52, descriptorIndex := 40, attributes := #[] }, { accessFlags := 2, nameIndex := 23, descriptorIndex := 16, attributes := #[] }, { accessFlags := 2, nameIndex := 26, descriptorIndex := 20, attributes := #[] }, { accessFlags := 2, nameIndex := 39, descriptorIndex := 40, attributes := #[] }, { accessFlags := 2, nameIndex := 55, descriptorIndex := 56, attributes := #[] }, { accessFlags := 2, nameIndex := 59, descriptorIndex := 56, attributes := #[] }])
  fields := #[{ name := "owners", type := (.array (.object "java/lang/Object")), accessFlags := 2, slot := 0, constantValue := 0 }, { name := "indexes", type := (.array .int), accessFlags := 2, slot := 1, constantValue := 0 }, { name := "saved", type := (.array .long), accessFlags := 2, slot := 2, constantValue := 0 }, { name := "top", type := .int, accessFlags := 2, slot := 3, constantValue := 0 }, { name := "marks", type := (.array .int), accessFlags := 2, slot := 4, constantValue := 0 }, { name := "outerWorlds", type := (.array .long), accessFlags := 2, slot := 5, constantValue := 0 }, { name := "depth", type := .int, accessFlags := 2, slot := 6, constantValue := 0 }, { name := "world", type := .long, accessFlags := 2, slot := 7, constantValue := 0 }, { name := "worldsGiven", type := .long, accessFlags := 2, slot := 8, constantValue := 0 }]
  methods := #[k2m0, k2m1, k2m2, k2m3, k2m4]
  instanceTypes := #[(.array (.object "java/lang/Object")), (.array .int), (.array .long), .int, (.array .int), (.array .long), .int, .long, .long]
  staticTypes := #[]
  resolved := Array.replicate 98 none
  statics := none }

def pool3 : Array CpInfo := pool [(1, .methodref 2 3), (0, .class_ 4), (0, .nameAndType 5 6), (0, u "java/lang/Object"), (0, u "<init>"), (0, u "()V"), (0, .fieldref 8 9), (0, .class_ 10), (0, .nameAndType 11 12), (0, u "com/example/faultline/faultline/engine/ReversibleBitSet"), (0, u "limit"), (0, u "[I"), (0, .long 18446744073709551615), (1, .fieldref 8 16), (0, .nameAndType 17 18), (0, u "limitSavedIn"), (0, u "J"), (0, .fieldref 8 20), (0, .nameAndType 21 22), (0, u "trail"), (0, u "Lcom/example/faultline/faultline/engine/Trail;"), (0, .methodref 8 24), (0, .nameAndType 25 26), (0, u "allSet"), (0, u "(I)[J"), (0, .fieldref 8 28), (0, .nameAndType 29 30), (0, u "words"), (0, u "[J"), (0, .fieldref 8 32), (0, .nameAndType 33 30), (0, u "savedIn"), (0, .fieldref 8 35), (0, .nameAndType 36 12), (0, u "nonZero"), (0, .fieldref 8 38), (0, .nameAndType 39 30), (0, u "mask"), (0, .methodref 8 41), (0, .nameAndType 42 43), (0, u "wordCount"), (0, u "(I)I"), (0, .methodref 8 45), (0, .nameAndType 29 26), (6, .methodref 53 54), (0, .class_ 55), (0, .nameAndType 56 57), (0, u "com/example/faultline/faultline/engine/Trail"), (0, u "world"), (0, u "()J"), (0, .methodref 53 59), (0, .nameAndType 60 61), (0, u "save"), (0, u "([JI)V"), (0, .methodref 8 63), (0, .nameAndType 64 65), (0, u "removeNonZero"), (0, u "(I)V"), (9, u "([II)V"), (7, u "([J)I"), (4, .methodref 53 89), (0, .nameAndType 60 75), (0, u "(Lcom/example/faultline/faultline/engine/Trail;I)V"), (8, u "addToMask"), (0, u "([J)V"), (1, u "intersectWithMask"), (2, u "intersectIndex")] 6

def k3c0 : Code := { maxStack := 4, maxLocals := 4, code := prog_44_method_1_code, exceptionTable := #[], attributes := #[] }
def k3m0 : Method := { name := "<init>", desc := "(Lcom/example/faultline/faultline/engine/Trail;I)V", sig := { parameters := [(.object "com/example/faultline/faultline/engine/Trail"), .int], returnType := none }, accessFlags := 1, code := some k3c0 }
def k3c1 : Code := { maxStack := 1, maxLocals := 1, code := prog_44_method_2_code, exceptionTable := #[], attributes := #[] }
def k3m1 : Method := { name := "words", desc := "(I)[J", sig := { parameters := [.int], returnType := some (.array .long) }, accessFlags := 9, code := some k3c1 }
def k3c2 : Code := { maxStack := 6, maxLocals := 4, code := prog_44_method_3_code, exceptionTable := #[], attributes := #[] }
def k3m2 : Method := { name := "allSet", desc := "(I)[J", sig := { parameters := [.int], returnType := some (.array .long) }, accessFlags := 9, code := some k3c2 }
def k3c3 : Code := { maxStack := 2, maxLocals := 1, code := prog_44_method_4_code, exceptionTable := #[], attributes := #[] }
def k3m3 : Method := { name := "wordCount", desc := "(I)I", sig := { parameters := [.int], returnType := some .int }, accessFlags := 9, code := some k3c3 }
def k3c4 : Code := { maxStack := 6, maxLocals := 4, code := prog_44_method_9_code, exceptionTable := #[], attributes := #[] }
def k3m4 : Method := { name := "addToMask", desc := "([J)V", sig := { parameters := [(.array .long)], returnType := none }, accessFlags := 1, code := some k3c4 }
def k3c5 : Code := { maxStack := 4, maxLocals := 5, code := prog_44_method_11_code, exceptionTable := #[], attributes := #[] }
def k3m5 : Method := { name := "intersectWithMask", desc := "()V", sig := { parameters := [], returnType := none }, accessFlags := 1, code := some k3c5 }
def k3c6 : Code := { maxStack := 4, maxLocals := 4, code := prog_44_method_13_code, exceptionTable := #[], attributes := #[] }
def k3m6 : Method := { name := "intersectIndex", desc := "([J)I", sig := { parameters := [(.array .long)], returnType := some .int }, accessFlags := 1, code := some k3c6 }
def k3c7 : Code := { maxStack := 4, maxLocals := 4, code := prog_44_method_18_code, exceptionTable := #[], attributes := #[] }
def k3m7 : Method := { name := "removeNonZero", desc := "(I)V", sig := { parameters := [.int], returnType := none }, accessFlags := 2, code := some k3c7 }
/-- com/example/faultline/faultline/engine/ReversibleBitSet -/
def k3 : Class := { plain "com/example/faultline/faultline/engine/ReversibleBitSet" (some 0) with
  accessFlags := 33
  interfaces := #[]
  cf := some (fileOf pool3 8 #[] #[{ accessFlags := 1, nameIndex := 5, descriptorIndex := 90, attributes := #[] }, { accessFlags := 9, nameIndex := 29, descriptorIndex := 26, attributes := #[] }, { accessFlags := 9, nameIndex := 25, descriptorIndex := 26, attributes := #[] }, { accessFlags := 9, nameIndex := 42, descriptorIndex := 43, attributes := #[] }, { accessFlags := 1, nameIndex := 99, descriptorIndex := 100, attributes := #[] }, { accessFlags := 1, nameIndex := 102, descriptorIndex := 6, attributes := #[] }, { accessFlags := 1, nameIndex := 105, descriptorIndex := 83, attributes := #[] }, { accessFlags := 2, nameIndex := 64, descriptorIndex := 65, attributes := #[] }] 33 2 #[] #[{ accessFlags := 18, nameIndex := 21, descriptorIndex := 22, attributes := #[] }, { accessFlags := 18, nameIndex := 29, descriptorIndex := 30, attributes := #[] }, { accessFlags := 18, nameIndex := 33, descriptorIndex := 30, attributes := #[] }, { accessFlags := 18, nameIndex := 36, descriptorIndex := 12, attributes := #[] }, { accessFlags := 18, nameIndex := 11, descriptorIndex := 12, attributes := #[] }, { accessFlags := 2, nameIndex := 17, descriptorIndex := 18, attributes := #[] }, { accessFlags := 18, nameIndex := 39, descriptorIndex := 30, attributes := #[] }])
  fields := #[{ name := "trail", type := (.object "com/example/faultline/faultline/engine/Trail"), accessFlags := 18, slot := 0, constantValue := 0 }, { name := "words", type := (.array .long), accessFlags := 18, slot := 1, constantValue := 0 }, { name := "savedIn", type := (.array .long), accessFlags := 18, slot := 2, constantValue := 0 }, { name := "nonZero", type := (.array .int), accessFlags := 18, slot := 3, constantValue := 0 }, { name := "limit", type := (.array .int), accessFlags := 18, slot := 4, constantValue := 0 }, { name := "limitSavedIn", type := .long, accessFlags := 2, slot := 5, constantValue := 0 }, { name := "mask", type := (.array .long), accessFlags := 18, slot := 6, constantValue := 0 }]
  methods := #[k3m0, k3m1, k3m2, k3m3, k3m4, k3m5, k3m6, k3m7]
  instanceTypes := #[(.object "com/example/faultline/faultline/engine/Trail"), (.array .long), (.array .long), (.array .int), (.array .int), .long, (.array .long)]
  staticTypes := #[]
  resolved := Array.replicate 112 none
  statics := none }

def pool4 : Array CpInfo := pool [(1, u "java/lang/Cloneable"), (0, .class_ 1), (0, u "java/lang/Object"), (0, .class_ 3)] 3

/-- java/lang/Cloneable -/
def k4 : Class := { plain "java/lang/Cloneable" (some 0) with
  accessFlags := 1537
  interfaces := #[]
  cf := some (fileOf pool4 2 #[] #[] 1537 4 #[] #[])
  fields := #[]
  methods := #[]
  instanceTypes := #[]
  staticTypes := #[]
  resolved := Array.replicate 8 none
  statics := none }

def pool5 : Array CpInfo := pool [(1, u "java/io/Serializable"), (0, .class_ 1), (0, u "java/lang/Object"), (0, .class_ 3)] 3

/-- java/io/Serializable -/
def k5 : Class := { plain "java/io/Serializable" (some 0) with
  accessFlags := 1537
  interfaces := #[]
  cf := some (fileOf pool5 2 #[] #[] 1537 4 #[] #[])
  fields := #[]
  methods := #[]
  instanceTypes := #[]
  staticTypes := #[]
  resolved := Array.replicate 8 none
  statics := none }

/-- the primitive byte -/
def k6 : Class := { plain "byte" none with kind := .primitive 'B', accessFlags := 0x411 }
/-- [B -/
def k7 : Class := { plain "[B" (some 0) with kind := .array 6 .byte, interfaces := #[4, 5], accessFlags := 1041 }

/-- the primitive int -/
def k8 : Class := { plain "int" none with kind := .primitive 'I', accessFlags := 0x411 }
/-- [I -/
def k9 : Class := { plain "[I" (some 0) with kind := .array 8 .int, interfaces := #[4, 5], accessFlags := 1041 }

/-- the primitive long -/
def k10 : Class := { plain "long" none with kind := .primitive 'J', accessFlags := 0x411 }
/-- [J -/
def k11 : Class := { plain "[J" (some 0) with kind := .array 10 .long, interfaces := #[4, 5], accessFlags := 1041 }

/-- [Ljava/lang/Object; -/
def k12 : Class := { plain "[Ljava/lang/Object;" (some 0) with kind := .array 0 (.object "java/lang/Object"), interfaces := #[4, 5], accessFlags := 1041 }

def heap : Heap := #[]
def classes : Array Class := #[k0, k1, k2, k3, k4, k5, k6, k7, k8, k9, k10, k11, k12]
def interned : List (Array UInt16 × Addr) := []
def slotsUsed : Nat := 0
def theMethod : MethodId := ⟨1, 1⟩
def args0 : Array Value := #[.int 5, .long 7, .long 3, .long 1, .long 2]
def aboutOver (below : List Frame) : State where
  vm := { classes := classes, interned := interned.toArray }
  heap := heap
  slotsUsed := slotsUsed
  threads := #[{ frames := .invoking theMethod args0 :: below }]
def below0 : List Frame := [.native { method := ⟨0, 0⟩, args := #[] }]
def about1 : State := aboutOver below0
def p0 : Program := .bare "" "" ""
def e0 : Env := launch0.env 0 0 0
theorem w_frames : about1.frames = Frame.invoking theMethod args0 :: below0 := rfl
set_option maxRecDepth 65536 in
theorem w_args : argsFit about1.vm theMethod args0 = true := by decide +kernel
set_option maxRecDepth 65536 in
theorem w_heap : heapFits about1 = true := by decide +kernel
set_option maxRecDepth 65536 in
theorem w_runnable : about1.curStatus? = some .runnable := by decide +kernel
set_option maxRecDepth 65536 in
theorem w_alone : about1.alone = true := by decide +kernel
set_option maxRecDepth 65536 in
theorem w_named : about1.methodNamed? x = some theMethod := by decide +kernel
set_option maxRecDepth 65536 in
theorem w_hears : about1.hears theMethod below0 = true := by decide +kernel
set_option maxRecDepth 65536 in
theorem w_ripe : about1.ripe theMethod args0 below0 = true := by decide +kernel
theorem w_running : about1.status = .running := rfl
set_option maxRecDepth 65536 in
theorem w_room : about1.hasRoom e0.platform room_1 = true :=
  launch0.hasRoom_least _ room_1 (by decide +kernel) (by decide +kernel) (by decide +kernel) (by decide +kernel) (by decide +kernel) (by decide +kernel)
theorem allAtoms_all (ts : List Jvm.Cond) (a : Array Jvm.Value) (st : Jvm.State) : (allAtoms ts).before a st = ts.all (fun c => c.before a st) := by
  induction ts with
  | nil => rfl
  | cons c t ih =>
    show (Jvm.Cond.and c (allAtoms t)).before a st = _
    rw [Jvm.Cond.before_and, ih, List.all_cons]
def words1 : List Jvm.Cond := Jvm.Cond.code x code maxLocals ret :: tables_1
/-- a 'code' word, met by the world's own term for the bytes: nothing is compared byte by byte -/
theorem code_word {y : MethodName} {bytes : ByteArray} {mx : Nat} {rt : Option FieldType} {a : Array Value} {s : State} {m : MethodId} {meth : Method} {c : Code} (h1 : s.methodNamed? y = some m) (h2 : s.vm.method? m = some meth) (h3 : meth.code = some c) (h4 : c.code = bytes)
    (h5 : (c.maxLocals == mx && c.exceptionTable.isEmpty && decide (c.maxStack ≤ mostOperands) && decide (meth.sig.returnType = rt) && !meth.locks && decide (parseMethodDescriptor y.desc = some meth.sig)) = true) : (Jvm.Cond.code y bytes mx rt).before a s = true := by
  simp only [Bool.and_eq_true, beq_iff_eq, Bool.not_eq_true', decide_eq_true_eq] at h5
  obtain ⟨⟨⟨⟨⟨g1, g2⟩, g3⟩, g4⟩, g5⟩, g6⟩ := h5
  simp [Cond.before, Cond.holds, Cond.value, h1, h2, h3, h4, g1, g2, g3, g4, g5, g6]
def isCode : Jvm.Cond → Bool
  | .code _ _ _ _ => true
  | _ => false
theorem all_split {L : List Jvm.Cond} {P : Jvm.Cond → Bool} (h1 : L.all (fun c => isCode c || P c) = true) (h2 : ∀ c ∈ L.filter isCode, P c = true) : L.all P = true := by
  refine List.all_eq_true.mpr fun c hc => ?_
  have h := List.all_eq_true.mp h1 c hc
  rcases Bool.eq_false_or_eq_true (isCode c) with hi | hi
  · exact h2 c (List.mem_filter.mpr ⟨hc, hi⟩)
  · simpa [hi] using h
set_option maxRecDepth 65536 in
theorem w_c0 : (Jvm.Cond.code x code maxLocals ret).before args0 about1 = true := code_word (m := ⟨1, 1⟩) (meth := k1m1) (c := k1c1) (by decide +kernel) rfl rfl rfl (by decide +kernel)
set_option maxRecDepth 65536 in
theorem w_c1 : (Jvm.Cond.code ({ cls := "com/example/faultline/faultline/engine/Trail", name := "<init>", desc := "()V" } : Jvm.MethodName) prog_49_method_1_code (1 : Nat) (Option.none : Option Jvm.ClassFile.FieldType)).before args0 about1 = true := code_word (m := ⟨2, 0⟩) (meth := k2m0) (c := k2c0) (by decide +kernel) rfl rfl rfl (by decide +kernel)
set_option maxRecDepth 65536 in
theorem w_c2 : (Jvm.Cond.code ({ cls := "java/lang/Object", name := "<init>", desc := "()V" } : Jvm.MethodName) object_method_1_code (1 : Nat) (Option.none : Option Jvm.ClassFile.FieldType)).before args0 about1 = true := code_word (m := ⟨0, 0⟩) (meth := k0m0) (c := k0c0) (by decide +kernel) rfl rfl rfl (by decide +kernel)
set_option maxRecDepth 65536 in
theorem w_c3 : (Jvm.Cond.code ({ cls := "com/example/faultline/faultline/engine/ReversibleBitSet", name := "<init>", desc := "(Lcom/example/faultline/faultline/engine/Trail;I)V" } : Jvm.MethodName) prog_44_method_1_code (4 : Nat) (Option.none : Option Jvm.ClassFile.FieldType)).before args0 about1 = true := code_word (m := ⟨3, 0⟩) (meth := k3m0) (c := k3c0) (by decide +kernel) rfl rfl rfl (by decide +kernel)
set_option maxRecDepth 65536 in
theorem w_c4 : (Jvm.Cond.code ({ cls := "com/example/faultline/faultline/engine/ReversibleBitSet", name := "allSet", desc := "(I)[J" } : Jvm.MethodName) prog_44_method_3_code (4 : Nat) (Option.some (Jvm.ClassFile.FieldType.array Jvm.ClassFile.FieldType.long))).before args0 about1 = true := code_word (m := ⟨3, 2⟩) (meth := k3m2) (c := k3c2) (by decide +kernel) rfl rfl rfl (by decide +kernel)
set_option maxRecDepth 65536 in
theorem w_c5 : (Jvm.Cond.code ({ cls := "com/example/faultline/faultline/engine/ReversibleBitSet", name := "words", desc := "(I)[J" } : Jvm.MethodName) prog_44_method_2_code (1 : Nat) (Option.some (Jvm.ClassFile.FieldType.array Jvm.ClassFile.FieldType.long))).before args0 about1 = true := code_word (m := ⟨3, 1⟩) (meth := k3m1) (c := k3c1) (by decide +kernel) rfl rfl rfl (by decide +kernel)
set_option maxRecDepth 65536 in
theorem w_c6 : (Jvm.Cond.code ({ cls := "com/example/faultline/faultline/engine/ReversibleBitSet", name := "wordCount", desc := "(I)I" } : Jvm.MethodName) prog_44_method_4_code (1 : Nat) (Option.some Jvm.ClassFile.FieldType.int)).before args0 about1 = true := code_word (m := ⟨3, 3⟩) (meth := k3m3) (c := k3c3) (by decide +kernel) rfl rfl rfl (by decide +kernel)
set_option maxRecDepth 65536 in
theorem w_c7 : (Jvm.Cond.code ({ cls := "com/example/faultline/faultline/engine/ReversibleBitSet", name := "addToMask", desc := "([J)V" } : Jvm.MethodName) prog_44_method_9_code (4 : Nat) (Option.none : Option Jvm.ClassFile.FieldType)).before args0 about1 = true := code_word (m := ⟨3, 4⟩) (meth := k3m4) (c := k3c4) (by decide +kernel) rfl rfl rfl (by decide +kernel)
set_option maxRecDepth 65536 in
theorem w_c8 : (Jvm.Cond.code ({ cls := "com/example/faultline/faultline/engine/ReversibleBitSet", name := "intersectWithMask", desc := "()V" } : Jvm.MethodName) prog_44_method_11_code (5 : Nat) (Option.none : Option Jvm.ClassFile.FieldType)).before args0 about1 = true := code_word (m := ⟨3, 5⟩) (meth := k3m5) (c := k3c5) (by decide +kernel) rfl rfl rfl (by decide +kernel)
set_option maxRecDepth 65536 in
theorem w_c9 : (Jvm.Cond.code ({ cls := "com/example/faultline/faultline/engine/ReversibleBitSet", name := "intersectIndex", desc := "([J)I" } : Jvm.MethodName) prog_44_method_13_code (4 : Nat) (Option.some Jvm.ClassFile.FieldType.int)).before args0 about1 = true := code_word (m := ⟨3, 6⟩) (meth := k3m6) (c := k3c6) (by decide +kernel) rfl rfl rfl (by decide +kernel)
set_option maxRecDepth 65536 in
theorem w_c10 : (Jvm.Cond.code ({ cls := "com/example/faultline/faultline/engine/Trail", name := "world", desc := "()J" } : Jvm.MethodName) prog_49_method_8_code (1 : Nat) (Option.some Jvm.ClassFile.FieldType.long)).before args0 about1 = true := code_word (m := ⟨2, 3⟩) (meth := k2m3) (c := k2c3) (by decide +kernel) rfl rfl rfl (by decide +kernel)
set_option maxRecDepth 65536 in
theorem w_c11 : (Jvm.Cond.code ({ cls := "com/example/faultline/faultline/engine/Trail", name := "save", desc := "([JI)V" } : Jvm.MethodName) prog_49_method_3_code (3 : Nat) (Option.none : Option Jvm.ClassFile.FieldType)).before args0 about1 = true := code_word (m := ⟨2, 2⟩) (meth := k2m2) (c := k2c2) (by decide +kernel) rfl rfl rfl (by decide +kernel)
set_option maxRecDepth 65536 in
theorem w_c12 : (Jvm.Cond.code ({ cls := "com/example/faultline/faultline/engine/Trail", name := "record", desc := "(Ljava/lang/Object;IJ)V" } : Jvm.MethodName) prog_49_method_9_code (5 : Nat) (Option.none : Option Jvm.ClassFile.FieldType)).before args0 about1 = true := code_word (m := ⟨2, 4⟩) (meth := k2m4) (c := k2c4) (by decide +kernel) rfl rfl rfl (by decide +kernel)
set_option maxRecDepth 65536 in
theorem w_c13 : (Jvm.Cond.code ({ cls := "com/example/faultline/faultline/engine/ReversibleBitSet", name := "removeNonZero", desc := "(I)V" } : Jvm.MethodName) prog_44_method_18_code (4 : Nat) (Option.none : Option Jvm.ClassFile.FieldType)).before args0 about1 = true := code_word (m := ⟨3, 7⟩) (meth := k3m7) (c := k3c7) (by decide +kernel) rfl rfl rfl (by decide +kernel)
set_option maxRecDepth 65536 in
theorem w_c14 : (Jvm.Cond.code ({ cls := "com/example/faultline/faultline/engine/Trail", name := "save", desc := "([II)V" } : Jvm.MethodName) prog_49_method_2_code (3 : Nat) (Option.none : Option Jvm.ClassFile.FieldType)).before args0 about1 = true := code_word (m := ⟨2, 1⟩) (meth := k2m1) (c := k2c1) (by decide +kernel) rfl rfl rfl (by decide +kernel)
def codes1 : List Jvm.Cond := [Jvm.Cond.code x code maxLocals ret, Jvm.Cond.code ({ cls := "com/example/faultline/faultline/engine/Trail", name := "<init>", desc := "()V" } : Jvm.MethodName) prog_49_method_1_code (1 : Nat) (Option.none : Option Jvm.ClassFile.FieldType), Jvm.Cond.code ({ cls := "java/lang/Object", name := "<init>", desc := "()V" } : Jvm.MethodName) object_method_1_code (1 : Nat) (Option.none : Option Jvm.ClassFile.FieldType), Jvm.Cond.code ({ cls := "com/example/faultline/faultline/engine/ReversibleBitSet", name := "<init>", desc := "(Lcom/example/faultline/faultline/engine/Trail;I)V" } : Jvm.MethodName) prog_44_method_1_code (4 : Nat) (Option.none : Option Jvm.ClassFile.FieldType), Jvm.Cond.code ({ cls := "com/example/faultline/faultline/engine/ReversibleBitSet", name := "allSet", desc := "(I)[J" } : Jvm.MethodName) prog_44_method_3_code (4 : Nat) (Option.some (Jvm.ClassFile.FieldType.array Jvm.ClassFile.FieldType.long)), Jvm.Cond.code ({ cls := "com/example/faultline/faultline/engine/ReversibleBitSet", name := "words", desc := "(I)[J" } : Jvm.MethodName) prog_44_method_2_code (1 : Nat) (Option.some (Jvm.ClassFile.FieldType.array Jvm.ClassFile.FieldType.long)), Jvm.Cond.code ({ cls := "com/example/faultline/faultline/engine/ReversibleBitSet", name := "wordCount", desc := "(I)I" } : Jvm.MethodName) prog_44_method_4_code (1 : Nat) (Option.some Jvm.ClassFile.FieldType.int), Jvm.Cond.code ({ cls := "com/example/faultline/faultline/engine/ReversibleBitSet", name := "addToMask", desc := "([J)V" } : Jvm.MethodName) prog_44_method_9_code (4 : Nat) (Option.none : Option Jvm.ClassFile.FieldType), Jvm.Cond.code ({ cls := "com/example/faultline/faultline/engine/ReversibleBitSet", name := "intersectWithMask", desc := "()V" } : Jvm.MethodName) prog_44_method_11_code (5 : Nat) (Option.none : Option Jvm.ClassFile.FieldType), Jvm.Cond.code ({ cls := "com/example/faultline/faultline/engine/ReversibleBitSet", name := "intersectIndex", desc := "([J)I" } : Jvm.MethodName) prog_44_method_13_code (4 : Nat) (Option.some Jvm.ClassFile.FieldType.int), Jvm.Cond.code ({ cls := "com/example/faultline/faultline/engine/Trail", name := "world", desc := "()J" } : Jvm.MethodName) prog_49_method_8_code (1 : Nat) (Option.some Jvm.ClassFile.FieldType.long), Jvm.Cond.code ({ cls := "com/example/faultline/faultline/engine/Trail", name := "save", desc := "([JI)V" } : Jvm.MethodName) prog_49_method_3_code (3 : Nat) (Option.none : Option Jvm.ClassFile.FieldType), Jvm.Cond.code ({ cls := "com/example/faultline/faultline/engine/Trail", name := "record", desc := "(Ljava/lang/Object;IJ)V" } : Jvm.MethodName) prog_49_method_9_code (5 : Nat) (Option.none : Option Jvm.ClassFile.FieldType), Jvm.Cond.code ({ cls := "com/example/faultline/faultline/engine/ReversibleBitSet", name := "removeNonZero", desc := "(I)V" } : Jvm.MethodName) prog_44_method_18_code (4 : Nat) (Option.none : Option Jvm.ClassFile.FieldType), Jvm.Cond.code ({ cls := "com/example/faultline/faultline/engine/Trail", name := "save", desc := "([II)V" } : Jvm.MethodName) prog_49_method_2_code (3 : Nat) (Option.none : Option Jvm.ClassFile.FieldType)]
set_option maxRecDepth 65536 in
theorem codes_eq : words1.filter isCode = codes1 := rfl
theorem w_codes : ∀ c ∈ words1.filter isCode, c.before args0 about1 = true := by
  rw [codes_eq]
  intro c hc
  simp only [codes1, List.mem_cons, List.not_mem_nil, or_false] at hc
  rcases hc with rfl | rfl | rfl | rfl | rfl | rfl | rfl | rfl | rfl | rfl | rfl | rfl | rfl | rfl | rfl
  · exact w_c0
  · exact w_c1
  · exact w_c2
  · exact w_c3
  · exact w_c4
  · exact w_c5
  · exact w_c6
  · exact w_c7
  · exact w_c8
  · exact w_c9
  · exact w_c10
  · exact w_c11
  · exact w_c12
  · exact w_c13
  · exact w_c14
set_option maxRecDepth 65536 in
theorem w_t1 : (words1.take 24).all (fun c => isCode c || c.before args0 about1) = true := by decide +kernel
set_option maxRecDepth 65536 in
theorem w_t2 : ((words1.drop 24).take 24).all (fun c => isCode c || c.before args0 about1) = true := by decide +kernel
set_option maxRecDepth 65536 in
theorem w_t3 : (((words1.drop 24).drop 24).take 24).all (fun c => isCode c || c.before args0 about1) = true := by decide +kernel
set_option maxRecDepth 65536 in
theorem w_t4 : ((((words1.drop 24).drop 24).drop 24).take 24).all (fun c => isCode c || c.before args0 about1) = true := by decide +kernel
set_option maxRecDepth 65536 in
theorem w_t5 : ((((words1.drop 24).drop 24).drop 24).drop 24).all (fun c => isCode c || c.before args0 about1) = true := by decide +kernel
theorem w_tables : (allAtoms (Jvm.Cond.code x code maxLocals ret :: tables_1)).before args0 about1 = true := by
  rw [allAtoms_all]
  show words1.all (fun c => c.before args0 about1) = true
  refine all_split ?_ w_codes
  rw [← List.take_append_drop 24 words1, List.all_append, w_t1, ← List.take_append_drop 24 (words1.drop 24), List.all_append, w_t2, ← List.take_append_drop 24 ((words1.drop 24).drop 24), List.all_append, w_t3, ← List.take_append_drop 24 (((words1.drop 24).drop 24).drop 24), List.all_append, w_t4, w_t5]
  rfl
set_option maxRecDepth 65536 in
theorem w_case : (Jvm.Cond.and given_1 narrow_1).before args0 about1 = true := by decide +kernel
theorem w_applies : (headSpec (Jvm.Cond.code x code maxLocals ret :: tables_1) room_1).applies x e0.platform about1 = true :=
  (Spec.applies_iff w_frames).mpr ⟨w_running, w_runnable, w_alone, w_named, w_hears, w_ripe, w_room, w_tables⟩
theorem atStart : AtStart classFile x code maxLocals ret World_1 tables_1 room_1 Calls_1 rest_1 Pre_1 launch0 p0 e0 about1 theMethod args0 below0 :=
  ⟨lists_1, trivial, launch0.admits_env _ _ _, launch0.least_env, fairChoices_fair.cas, fairChoices_fair.clock, w_frames, w_args, w_heap, w_applies, trivial, trivial, w_case⟩
end start1
theorem witness_1 : WitnessClaimed_1 := ⟨start1.p0, start1.e0, start1.about1, start1.theMethod, start1.args0, start1.below0, start1.atStart⟩
end Jvm.Pilot.@@N@@
