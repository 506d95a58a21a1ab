import JvmDerived
import JvmDerived.Pilot.@@N@@Statement
import JvmDerived.Pilot.@@N@@Code
set_option linter.unusedVariables false
set_option linter.unusedSimpArgs false
set_option maxRecDepth 65536
set_option maxHeartbeats 4000000
namespace Jvm.Pilot.@@N@@
open Jvm Jvm.ClassFile Sem Op Lib Jvm.Free Jvm.Stand Jvm.LawKit Jvm.RoadKit Bundle Jvm.Pilot.@@N@@.Jvm.D
abbrev ush32 (x y : Int32) : Int32 := (x.toUInt32 >>> (y &&& 31).toUInt32).toInt32
abbrev ush64 (x : Int64) (y : Int32) : Int64 := (x.toUInt64 >>> (y &&& 63).toInt64.toUInt64).toInt64
abbrev Cx : Type := Program × Launch × Env × State × MethodId × Array Value × List Frame × Method × ClassFile.Code
abbrev Cx.p (C : Cx) : Program := C.1
abbrev Cx.l (C : Cx) : Launch := C.2.1
abbrev Cx.e (C : Cx) : Env := C.2.2.1
abbrev Cx.s (C : Cx) : State := C.2.2.2.1
abbrev Cx.m (C : Cx) : MethodId := C.2.2.2.2.1
abbrev Cx.a (C : Cx) : Array Value := C.2.2.2.2.2.1
abbrev Cx.bl (C : Cx) : List Frame := C.2.2.2.2.2.2.1
abbrev Cx.mt (C : Cx) : Method := C.2.2.2.2.2.2.2.1
abbrev Cx.c (C : Cx) : ClassFile.Code := C.2.2.2.2.2.2.2.2
def EndK (w : Bool) (s : State) (o : Outcome) (t : State) (L : List Loc) (k n : Nat) : Prop := match w with
  | true => ReturnedEndW s o t L k n
  | false => FrameEnd s o t L k n
def Stn (C : Cx) (Z : State) (own : String) (by_ : ByteArray) (mL : Nat) (rt : Option FieldType) (nm : String) (q : Nat) : Prop :=
  C.p.tables.exec = Jvm.exec ∧ C.c.code = by_ ∧ C.c.maxLocals = mL ∧ C.mt.sig.returnType = rt ∧ C.mt.locks = false ∧ C.mt.name = nm ∧ C.s.heap.size = q ∧ Ext Z.heap C.s.heap ∧ C.s.vm.findClass own = some C.m.cls
def Pos (C : Cx) (Z : State) (R : Room) (w : Bool) (b : Nat) (Ts : List String) (Li : List (String × Nat × Addr)) (h : Heap) (k n : Nat) (T : State) (vm0 : Vm) (locs : List Loc) : Prop :=
  Stand C.p C.l C.e R (C.s.setVm vm0) C.m C.a C.bl C.mt C.c T locs k n ∧ Z.Warmed39 vm0 ∧ T.heap = h ∧ C.s.Since vm0 h.size ∧ IB Z vm0 Ts ∧ (w = false → vm0 = C.s.vm) ∧ Fr b locs ∧ Z.heap.size ≤ b ∧ Ext Z.heap h ∧ C.s.heap.size ≤ h.size ∧ ∀ x ∈ Li, Lit (C.s.setVm vm0) x.1 x.2.1 x.2.2
def Gl (C : Cx) (Z : State) (R : Room) (w : Bool) (To : List String) (f : Nat) (Q : Option Value → Heap → Prop) (st : State) : Prop :=
  ∃ s₂ o, Steps C.p.tables C.e C.bl st s₂ ∧ s₂.status = .running ∧ Ended s₂ C.bl o ∧ ∃ v L, o = .returned v ∧ (Q v s₂.heap ∧ Fr f L ∧ Ext Z.heap s₂.heap ∧ IB Z s₂.vm To) ∧ EndK w C.s o s₂ L R.cells R.slots
def Run (C : Cx) (Z : State) (R : Room) (w : Bool) (To : List String) (f : Nat) (Q : Option Value → Heap → Prop) (b : Nat) (Ts : List String) (Li : List (String × Nat × Addr)) (h : Heap) (k n : Nat) (pc : Nat) (L : Array Slot) (S : List Value) : Prop :=
  ∀ T vm0 locs, Pos C Z R w b Ts Li h k n T vm0 locs → Gl C Z R w To f Q (T.setTop (mkF C.m pc L S))
def Con (w : Bool) (ws : List Jvm.Cond) (Z : State) (y : MethodName) (yb : ByteArray) (ymL : Nat) (yrt : Option FieldType) (Ry : Room) (Ti To : List String) (f : Nat) (as : Array Value) (h : Heap) (Q : Option Value → Heap → Prop) : Prop :=
  ∀ l, MetFree l y (head1 (Jvm.Cond.code y yb ymL yrt :: ws) Ry) (fun a U => a = as ∧ Z.Warmed39 U.vm ∧ U.heap = h ∧ IB Z U.vm Ti ∧ Ext Z.heap h) (fun _ _ _ _ _ => True)
    (fun _ U o U' => ∃ v L, o = .returned v ∧ (Q v U'.heap ∧ Fr f L ∧ Ext Z.heap U'.heap ∧ IB Z U'.vm To) ∧ EndK w U o U' L Ry.cells Ry.slots)
theorem ib_same {Z : State} {vm0 vm1 : Vm} {Ts : List String} (I : IB Z vm0 Ts) (h : vm1.interned = vm0.interned) : IB Z vm1 Ts := by
  obtain ⟨m, h1, h2⟩ := I; exact ⟨m, h.trans h1, h2⟩
theorem ib_mono {Z : State} {vm0 : Vm} {Ts To : List String} (I : IB Z vm0 Ts) (h : ∀ t ∈ Ts, t ∈ To) : IB Z vm0 To := by
  obtain ⟨m, h1, h2⟩ := I; exact ⟨m, h1, fun q hq => by obtain ⟨t, a, c⟩ := h2 q hq; exact ⟨t, h t a, c⟩⟩
theorem fr_low {k k' : Nat} {L : List Loc} (N : Fr k L) (h : k' ≤ k) : Fr k' L := fun y hy => Nat.le_trans h (N y hy)
theorem since_same {s : State} {vm : Vm} {n n' : Nat} (h : s.Since vm n) (hn : n ≤ n') : s.Since vm n' := ⟨h.1, fun j p hj hp => ⟨(h.2 j p hj hp).1, Nat.lt_of_lt_of_le (h.2 j p hj hp).2 hn⟩⟩
section Walk
variable {C : Cx} {Z : State} {a0 : Array Value} {own : String} {by_ : ByteArray} {mL : Nat} {rt : Option FieldType} {nm : String} {q : Nat} {R : Room} {w : Bool} {To : List String} {f : Nat} {Q : Option Value → Heap → Prop} {b : Nat} {Ts : List String} {Li : List (String × Nat × Addr)} {h : Heap} {k n pc : Nat} {L : Array Slot} {S : List Value}
theorem Run.one {pc' : Nat} {L' : Array Slot} {S' : List Value} (g : ∀ T vm0 locs t, Stand C.p C.l C.e R (C.s.setVm vm0) C.m C.a C.bl C.mt C.c T locs k n → Steps C.p.tables C.e C.bl (T.setTop (mkF C.m pc' L' S')) t → Steps C.p.tables C.e C.bl (T.setTop (mkF C.m pc L S)) t)
    (kk : Run C Z R w To f Q b Ts Li h k n pc' L' S') : Run C Z R w To f Q b Ts Li h k n pc L S := fun T vm0 locs P => by
  obtain ⟨s₂, o, h1, r⟩ := kk T vm0 locs P
  exact ⟨s₂, o, g T vm0 locs _ P.1 h1, r⟩
theorem Stn.dec (H : Stn C Z own by_ mL rt nm q) {pc : Nat} {r : Except ClassFile.DecodeError (Instr × Nat)} (hd : decode by_ pc = r) : decode C.c.code pc = r := by rw [H.2.1]; exact hd
theorem Stn.cl (H : Stn C Z own by_ mL rt nm q) {vm0 : Vm} (hS : C.s.Since vm0 k) : (C.s.setVm vm0).vm.findClass own = some C.m.cls := by
  show vm0.findClass own = _
  rw [hS.1.alike.findClass]; exact H.2.2.2.2.2.2.2.2
theorem Run.low {b' : Nat} (hb : b' ≤ b) (hz : Z.heap.size ≤ b') (kk : Run C Z R w To f Q b' Ts Li h k n pc L S) : Run C Z R w To f Q b Ts Li h k n pc L S := fun T vm0 locs P => by
  obtain ⟨P1, P2, P3, P4, P5, P6, P7, P8, P9⟩ := P
  exact kk T vm0 locs ⟨P1, P2, P3, P4, P5, P6, fr_low P7 hb, hz, P9⟩
theorem r_iloadN (H : Stn C Z own by_ mL rt nm q) (pc' : Nat) {i : Fin 4} {v : Int32} (hd : decode by_ pc = .ok (.iload_n i, 1)) (hv : L[i.val]? = some (.val (.int v))) (hp : pc' = pc + 1) (kk : Run C Z R w To f Q b Ts Li h k n pc' L (.int v :: S)) : Run C Z R w To f Q b Ts Li h k n pc L (S) := by
  subst hp
  exact kk.one fun T vm0 locs t X kt => XS.iloadN X.here H.1 rfl (H.dec hd) hv kt
theorem r_iload (H : Stn C Z own by_ mL rt nm q) (pc' : Nat) {i : Nat} {v : Int32} (hd : decode by_ pc = .ok (.iload i, 2)) (hv : L[i]? = some (.val (.int v))) (hp : pc' = pc + 2) (kk : Run C Z R w To f Q b Ts Li h k n pc' L (.int v :: S)) : Run C Z R w To f Q b Ts Li h k n pc L (S) := by
  subst hp
  exact kk.one fun T vm0 locs t X kt => XS.iload X.here H.1 rfl (H.dec hd) hv kt
theorem r_lloadN (H : Stn C Z own by_ mL rt nm q) (pc' : Nat) {i : Fin 4} {v : Int64} (hd : decode by_ pc = .ok (.lload_n i, 1)) (hv : L[i.val]? = some (.val (.long v))) (hp : pc' = pc + 1) (kk : Run C Z R w To f Q b Ts Li h k n pc' L (.long v :: S)) : Run C Z R w To f Q b Ts Li h k n pc L (S) := by
  subst hp
  exact kk.one fun T vm0 locs t X kt => XS.lloadN X.here H.1 rfl (H.dec hd) hv kt
theorem r_aloadN (H : Stn C Z own by_ mL rt nm q) (pc' : Nat) {i : Fin 4} {v : Value} (hd : decode by_ pc = .ok (.aload_n i, 1)) (hv : L[i.val]? = some (.val v)) (hr : v.isRef = true) (hp : pc' = pc + 1) (kk : Run C Z R w To f Q b Ts Li h k n pc' L (v :: S)) : Run C Z R w To f Q b Ts Li h k n pc L (S) := by
  subst hp
  exact kk.one fun T vm0 locs t X kt => XS.aloadN X.here H.1 rfl (H.dec hd) hv hr kt
theorem r_aload (H : Stn C Z own by_ mL rt nm q) (pc' : Nat) {i : Nat} {v : Value} (hd : decode by_ pc = .ok (.aload i, 2)) (hv : L[i]? = some (.val v)) (hr : v.isRef = true) (hp : pc' = pc + 2) (kk : Run C Z R w To f Q b Ts Li h k n pc' L (v :: S)) : Run C Z R w To f Q b Ts Li h k n pc L (S) := by
  subst hp
  exact kk.one fun T vm0 locs t X kt => XS.aload X.here H.1 rfl (H.dec hd) hv hr kt
theorem r_istoreN (H : Stn C Z own by_ mL rt nm q) (pc' : Nat) (L' : Array Slot) {i : Fin 4} {x : Int32} (hd : decode by_ pc = .ok (.istore_n i, 1)) (hl : storeLocals L i.val (.int x) = some L') (hp : pc' = pc + 1) (kk : Run C Z R w To f Q b Ts Li h k n pc' L' (S)) : Run C Z R w To f Q b Ts Li h k n pc L (.int x :: S) := by
  subst hp
  exact kk.one fun T vm0 locs t X kt => XS.istoreN X.here H.1 rfl (H.dec hd) rfl hl kt
theorem r_istore (H : Stn C Z own by_ mL rt nm q) (pc' : Nat) (L' : Array Slot) {i : Nat} {x : Int32} (hd : decode by_ pc = .ok (.istore i, 2)) (hl : storeLocals L i (.int x) = some L') (hp : pc' = pc + 2) (kk : Run C Z R w To f Q b Ts Li h k n pc' L' (S)) : Run C Z R w To f Q b Ts Li h k n pc L (.int x :: S) := by
  subst hp
  exact kk.one fun T vm0 locs t X kt => XS.istore X.here H.1 rfl (H.dec hd) rfl hl kt
theorem r_astoreN (H : Stn C Z own by_ mL rt nm q) (pc' : Nat) (L' : Array Slot) {i : Fin 4} {x : Value} (hd : decode by_ pc = .ok (.astore_n i, 1)) (hr : x.isRef = true) (hl : storeLocals L i.val x = some L') (hp : pc' = pc + 1) (kk : Run C Z R w To f Q b Ts Li h k n pc' L' (S)) : Run C Z R w To f Q b Ts Li h k n pc L (x :: S) := by
  subst hp
  exact kk.one fun T vm0 locs t X kt => XS.astoreN X.here H.1 rfl (H.dec hd) rfl hr hl kt
theorem r_astore (H : Stn C Z own by_ mL rt nm q) (pc' : Nat) (L' : Array Slot) {i : Nat} {x : Value} (hd : decode by_ pc = .ok (.astore i, 2)) (hr : x.isRef = true) (hl : storeLocals L i x = some L') (hp : pc' = pc + 2) (kk : Run C Z R w To f Q b Ts Li h k n pc' L' (S)) : Run C Z R w To f Q b Ts Li h k n pc L (x :: S) := by
  subst hp
  exact kk.one fun T vm0 locs t X kt => XS.astore X.here H.1 rfl (H.dec hd) rfl hr hl kt
theorem r_iinc (H : Stn C Z own by_ mL rt nm q) (pc' : Nat) (L' : Array Slot) {i : Nat} {cst : Int} {x : Int32} (y : Int32) (hd : decode by_ pc = .ok (.iinc i cst, 3)) (hv : L[i]? = some (.val (.int x))) (hy : x + Int32.ofInt cst = y) (hl : storeLocals L i (.int y) = some L') (hp : pc' = pc + 3) (kk : Run C Z R w To f Q b Ts Li h k n pc' L' (S)) : Run C Z R w To f Q b Ts Li h k n pc L (S) := by
  subst hp
  subst hy
  exact kk.one fun T vm0 locs t X kt => XS.iinc X.here H.1 rfl (H.dec hd) hv hl kt
theorem r_iconst (H : Stn C Z own by_ mL rt nm q) (pc' : Nat) (x : Int32) {i : Int} (hd : decode by_ pc = .ok (.iconst i, 1)) (hv : Int32.ofInt i = x) (hp : pc' = pc + 1) (kk : Run C Z R w To f Q b Ts Li h k n pc' L (.int x :: S)) : Run C Z R w To f Q b Ts Li h k n pc L (S) := by
  subst hp
  subst hv
  exact kk.one fun T vm0 locs t X kt => XS.iconst X.here H.1 rfl (H.dec hd)  kt
theorem r_bipush (H : Stn C Z own by_ mL rt nm q) (pc' : Nat) (x : Int32) {i : Int} (hd : decode by_ pc = .ok (.bipush i, 2)) (hv : (Int8.ofInt i).toInt32 = x) (hp : pc' = pc + 2) (kk : Run C Z R w To f Q b Ts Li h k n pc' L (.int x :: S)) : Run C Z R w To f Q b Ts Li h k n pc L (S) := by
  subst hp
  subst hv
  exact kk.one fun T vm0 locs t X kt => XS.bipush X.here H.1 rfl (H.dec hd)  kt
theorem r_sipush (H : Stn C Z own by_ mL rt nm q) (pc' : Nat) (x : Int32) {i : Int} (hd : decode by_ pc = .ok (.sipush i, 3)) (hv : (Int16.ofInt i).toInt32 = x) (hp : pc' = pc + 3) (kk : Run C Z R w To f Q b Ts Li h k n pc' L (.int x :: S)) : Run C Z R w To f Q b Ts Li h k n pc L (S) := by
  subst hp
  subst hv
  exact kk.one fun T vm0 locs t X kt => XS.sipush X.here H.1 rfl (H.dec hd)  kt
theorem r_null (H : Stn C Z own by_ mL rt nm q) (pc' : Nat)  (hd : decode by_ pc = .ok (.aconst_null, 1))  (hp : pc' = pc + 1) (kk : Run C Z R w To f Q b Ts Li h k n pc' L (.null :: S)) : Run C Z R w To f Q b Ts Li h k n pc L (S) := by
  subst hp
  exact kk.one fun T vm0 locs t X kt => XS.aconstNull X.here H.1 rfl (H.dec hd)  kt
theorem r_iadd (H : Stn C Z own by_ mL rt nm q) (pc' : Nat) (z : Int32) {x y : Int32} (hd : decode by_ pc = .ok (.iadd, 1)) (hz : (x + y) = z) (hp : pc' = pc + 1) (kk : Run C Z R w To f Q b Ts Li h k n pc' L (.int z :: S)) : Run C Z R w To f Q b Ts Li h k n pc L (.int y :: .int x :: S) := by
  subst hp
  subst hz
  exact kk.one fun T vm0 locs t X kt => XS.iadd X.here H.1 rfl (H.dec hd) rfl kt
theorem r_isub (H : Stn C Z own by_ mL rt nm q) (pc' : Nat) (z : Int32) {x y : Int32} (hd : decode by_ pc = .ok (.isub, 1)) (hz : (x - y) = z) (hp : pc' = pc + 1) (kk : Run C Z R w To f Q b Ts Li h k n pc' L (.int z :: S)) : Run C Z R w To f Q b Ts Li h k n pc L (.int y :: .int x :: S) := by
  subst hp
  subst hz
  exact kk.one fun T vm0 locs t X kt => XS.isub X.here H.1 rfl (H.dec hd) rfl kt
theorem r_iand (H : Stn C Z own by_ mL rt nm q) (pc' : Nat) (z : Int32) {x y : Int32} (hd : decode by_ pc = .ok (.iand, 1)) (hz : (x &&& y) = z) (hp : pc' = pc + 1) (kk : Run C Z R w To f Q b Ts Li h k n pc' L (.int z :: S)) : Run C Z R w To f Q b Ts Li h k n pc L (.int y :: .int x :: S) := by
  subst hp
  subst hz
  exact kk.one fun T vm0 locs t X kt => XS.iand X.here H.1 rfl (H.dec hd) rfl kt
theorem r_iushr (H : Stn C Z own by_ mL rt nm q) (pc' : Nat) (z : Int32) {x y : Int32} (hd : decode by_ pc = .ok (.iushr, 1)) (hz : (ush32 x y) = z) (hp : pc' = pc + 1) (kk : Run C Z R w To f Q b Ts Li h k n pc' L (.int z :: S)) : Run C Z R w To f Q b Ts Li h k n pc L (.int y :: .int x :: S) := by
  subst hp
  subst hz
  exact kk.one fun T vm0 locs t X kt => XS.iushr X.here H.1 rfl (H.dec hd) rfl kt
theorem r_lushr (H : Stn C Z own by_ mL rt nm q) (pc' : Nat) (z : Int64) {x : Int64} {y : Int32} (hd : decode by_ pc = .ok (.lushr, 1)) (hz : (ush64 x y) = z) (hp : pc' = pc + 1) (kk : Run C Z R w To f Q b Ts Li h k n pc' L (.long z :: S)) : Run C Z R w To f Q b Ts Li h k n pc L (.int y :: .long x :: S) := by
  subst hp
  subst hz
  exact kk.one fun T vm0 locs t X kt => XS.lushr X.here H.1 rfl (H.dec hd) rfl kt
theorem r_irem (H : Stn C Z own by_ mL rt nm q) (pc' : Nat) (z : Int32) {x y : Int32} (hd : decode by_ pc = .ok (.irem, 1)) (hy : y ≠ 0) (hz : x % y = z) (hp : pc' = pc + 1) (kk : Run C Z R w To f Q b Ts Li h k n pc' L (.int z :: S)) : Run C Z R w To f Q b Ts Li h k n pc L (.int y :: .int x :: S) := by
  subst hp hz
  exact kk.one fun T vm0 locs t X kt => iremM X H.1 rfl (H.dec hd) rfl hy kt
theorem r_l2i (H : Stn C Z own by_ mL rt nm q) (pc' : Nat) (z : Int32) {x : Int64} (hd : decode by_ pc = .ok (.l2i, 1)) (hz : (x.toInt32) = z) (hp : pc' = pc + 1) (kk : Run C Z R w To f Q b Ts Li h k n pc' L (.int z :: S)) : Run C Z R w To f Q b Ts Li h k n pc L (.long x :: S) := by
  subst hp
  subst hz
  exact kk.one fun T vm0 locs t X kt => XS.l2i X.here H.1 rfl (H.dec hd) rfl kt
theorem r_i2b (H : Stn C Z own by_ mL rt nm q) (pc' : Nat) (z : Int32) {x : Int32} (hd : decode by_ pc = .ok (.i2b, 1)) (hz : (x.toInt8.toInt32) = z) (hp : pc' = pc + 1) (kk : Run C Z R w To f Q b Ts Li h k n pc' L (.int z :: S)) : Run C Z R w To f Q b Ts Li h k n pc L (.int x :: S) := by
  subst hp
  subst hz
  exact kk.one fun T vm0 locs t X kt => XS.i2b X.here H.1 rfl (H.dec hd) rfl kt
theorem r_i2c (H : Stn C Z own by_ mL rt nm q) (pc' : Nat) (z : Int32) {x : Int32} (hd : decode by_ pc = .ok (.i2c, 1)) (hz : (x.toUInt32.toUInt16.toUInt32.toInt32) = z) (hp : pc' = pc + 1) (kk : Run C Z R w To f Q b Ts Li h k n pc' L (.int z :: S)) : Run C Z R w To f Q b Ts Li h k n pc L (.int x :: S) := by
  subst hp
  subst hz
  exact kk.one fun T vm0 locs t X kt => XS.i2c X.here H.1 rfl (H.dec hd) rfl kt
theorem r_dup (H : Stn C Z own by_ mL rt nm q) (pc' : Nat) {x : Value} (hd : decode by_ pc = .ok (.dup, 1)) (hc : x.category = 1) (hp : pc' = pc + 1) (kk : Run C Z R w To f Q b Ts Li h k n pc' L (x :: x :: S)) : Run C Z R w To f Q b Ts Li h k n pc L (x :: S) := by
  subst hp
  exact kk.one fun T vm0 locs t X kt => XS.dup X.here H.1 rfl (H.dec hd) rfl hc kt
theorem r_goto (H : Stn C Z own by_ mL rt nm q) (pc' : Nat) {o : Int} (hd : decode by_ pc = .ok (.goto o, 3)) (ho : 0 ≤ (pc : Int) + o) (hp : ((pc : Int) + o).toNat = pc') (kk : Run C Z R w To f Q b Ts Li h k n pc' L S) : Run C Z R w To f Q b Ts Li h k n pc L S := by
  exact kk.one fun T vm0 locs t X kt => XS.goto X.here H.1 rfl rfl (H.dec hd) ho hp kt
theorem r_icmpgeT (H : Stn C Z own by_ mL rt nm q) (pc' : Nat) {x y : Int32} {o : Int} (hd : decode by_ pc = .ok (.if_icmp .ge o, 3)) (ho : 0 ≤ (pc : Int) + o) (hp : ((pc : Int) + o).toNat = pc') (c : ¬ x < y) (kk : Run C Z R w To f Q b Ts Li h k n pc' L S) : Run C Z R w To f Q b Ts Li h k n pc L (.int y :: .int x :: S) := by
  exact kk.one fun T vm0 locs t X kt => XS.icmpYes X.here H.1 rfl rfl (H.dec hd) rfl (flt c).2.1 ho hp kt
theorem r_icmpgeF (H : Stn C Z own by_ mL rt nm q) (pc' : Nat) {x y : Int32} {o : Int} (hd : decode by_ pc = .ok (.if_icmp .ge o, 3)) (hp : pc' = pc + 3) (c : x < y) (kk : Run C Z R w To f Q b Ts Li h k n pc' L S) : Run C Z R w To f Q b Ts Li h k n pc L (.int y :: .int x :: S) := by
  subst hp
  exact kk.one fun T vm0 locs t X kt => XS.icmpNo X.here H.1 rfl (H.dec hd) rfl (tlt c).2.1 kt
theorem r_icmpge (H : Stn C Z own by_ mL rt nm q) (pt pf : Nat) {x y : Int32} {o : Int} (hd : decode by_ pc = .ok (.if_icmp .ge o, 3)) (ho : 0 ≤ (pc : Int) + o) (hp : ((pc : Int) + o).toNat = pt) (hf : pf = pc + 3) (kt : ¬ x < y → Run C Z R w To f Q b Ts Li h k n pt L S) (kf : x < y → Run C Z R w To f Q b Ts Li h k n pf L S) : Run C Z R w To f Q b Ts Li h k n pc L (.int y :: .int x :: S) := by
  by_cases c : ¬ x < y
  · exact r_icmpgeT H pt hd ho hp c (kt c)
  · exact r_icmpgeF H pf hd hf (Decidable.not_not.mp c) (kf (Decidable.not_not.mp c))
theorem r_icmpleT (H : Stn C Z own by_ mL rt nm q) (pc' : Nat) {x y : Int32} {o : Int} (hd : decode by_ pc = .ok (.if_icmp .le o, 3)) (ho : 0 ≤ (pc : Int) + o) (hp : ((pc : Int) + o).toNat = pc') (c : ¬ y < x) (kk : Run C Z R w To f Q b Ts Li h k n pc' L S) : Run C Z R w To f Q b Ts Li h k n pc L (.int y :: .int x :: S) := by
  exact kk.one fun T vm0 locs t X kt => XS.icmpYes X.here H.1 rfl rfl (H.dec hd) rfl (flt c).2.2.2 ho hp kt
theorem r_icmpeqT (H : Stn C Z own by_ mL rt nm q) (pc' : Nat) {x y : Int32} {o : Int} (hd : decode by_ pc = .ok (.if_icmp .eq o, 3)) (ho : 0 ≤ (pc : Int) + o) (hp : ((pc : Int) + o).toNat = pc') (c : x = y) (kk : Run C Z R w To f Q b Ts Li h k n pc' L S) : Run C Z R w To f Q b Ts Li h k n pc L (.int y :: .int x :: S) := by
  exact kk.one fun T vm0 locs t X kt => XS.icmpYes X.here H.1 rfl rfl (H.dec hd) rfl (teq c).1 ho hp kt
theorem r_icmpeqF (H : Stn C Z own by_ mL rt nm q) (pc' : Nat) {x y : Int32} {o : Int} (hd : decode by_ pc = .ok (.if_icmp .eq o, 3)) (hp : pc' = pc + 3) (c : ¬ x = y) (kk : Run C Z R w To f Q b Ts Li h k n pc' L S) : Run C Z R w To f Q b Ts Li h k n pc L (.int y :: .int x :: S) := by
  subst hp
  exact kk.one fun T vm0 locs t X kt => XS.icmpNo X.here H.1 rfl (H.dec hd) rfl (feq c).1 kt
theorem r_icmpeq (H : Stn C Z own by_ mL rt nm q) (pt pf : Nat) {x y : Int32} {o : Int} (hd : decode by_ pc = .ok (.if_icmp .eq o, 3)) (ho : 0 ≤ (pc : Int) + o) (hp : ((pc : Int) + o).toNat = pt) (hf : pf = pc + 3) (kt : x = y → Run C Z R w To f Q b Ts Li h k n pt L S) (kf : ¬ x = y → Run C Z R w To f Q b Ts Li h k n pf L S) : Run C Z R w To f Q b Ts Li h k n pc L (.int y :: .int x :: S) := by
  by_cases c : x = y
  · exact r_icmpeqT H pt hd ho hp c (kt c)
  · exact r_icmpeqF H pf hd hf c (kf c)
theorem r_ifeqT (H : Stn C Z own by_ mL rt nm q) (pc' : Nat) {x : Int32} {o : Int} (hd : decode by_ pc = .ok (.ifCond .eq o, 3)) (ho : 0 ≤ (pc : Int) + o) (hp : ((pc : Int) + o).toNat = pc') (c : x = 0) (kk : Run C Z R w To f Q b Ts Li h k n pc' L S) : Run C Z R w To f Q b Ts Li h k n pc L (.int x :: S) := by
  exact kk.one fun T vm0 locs t X kt => XS.ifYes X.here H.1 rfl rfl (H.dec hd) rfl ((if0 _ _).trans (teq c).1) ho hp kt
theorem r_ifeqF (H : Stn C Z own by_ mL rt nm q) (pc' : Nat) {x : Int32} {o : Int} (hd : decode by_ pc = .ok (.ifCond .eq o, 3)) (hp : pc' = pc + 3) (c : ¬ x = 0) (kk : Run C Z R w To f Q b Ts Li h k n pc' L S) : Run C Z R w To f Q b Ts Li h k n pc L (.int x :: S) := by
  subst hp
  exact kk.one fun T vm0 locs t X kt => XS.ifNo X.here H.1 rfl (H.dec hd) rfl ((if0 _ _).trans (feq c).1) kt
theorem r_ifeq (H : Stn C Z own by_ mL rt nm q) (pt pf : Nat) {x : Int32} {o : Int} (hd : decode by_ pc = .ok (.ifCond .eq o, 3)) (ho : 0 ≤ (pc : Int) + o) (hp : ((pc : Int) + o).toNat = pt) (hf : pf = pc + 3) (kt : x = 0 → Run C Z R w To f Q b Ts Li h k n pt L S) (kf : ¬ x = 0 → Run C Z R w To f Q b Ts Li h k n pf L S) : Run C Z R w To f Q b Ts Li h k n pc L (.int x :: S) := by
  by_cases c : x = 0
  · exact r_ifeqT H pt hd ho hp c (kt c)
  · exact r_ifeqF H pf hd hf c (kf c)
theorem r_icmpneT (H : Stn C Z own by_ mL rt nm q) (pc' : Nat) {x y : Int32} {o : Int} (hd : decode by_ pc = .ok (.if_icmp .ne o, 3)) (ho : 0 ≤ (pc : Int) + o) (hp : ((pc : Int) + o).toNat = pc') (c : ¬ x = y) (kk : Run C Z R w To f Q b Ts Li h k n pc' L S) : Run C Z R w To f Q b Ts Li h k n pc L (.int y :: .int x :: S) := by
  exact kk.one fun T vm0 locs t X kt => XS.icmpYes X.here H.1 rfl rfl (H.dec hd) rfl (feq c).2 ho hp kt
theorem r_icmpneF (H : Stn C Z own by_ mL rt nm q) (pc' : Nat) {x y : Int32} {o : Int} (hd : decode by_ pc = .ok (.if_icmp .ne o, 3)) (hp : pc' = pc + 3) (c : x = y) (kk : Run C Z R w To f Q b Ts Li h k n pc' L S) : Run C Z R w To f Q b Ts Li h k n pc L (.int y :: .int x :: S) := by
  subst hp
  exact kk.one fun T vm0 locs t X kt => XS.icmpNo X.here H.1 rfl (H.dec hd) rfl (teq c).2 kt
theorem r_icmpne (H : Stn C Z own by_ mL rt nm q) (pt pf : Nat) {x y : Int32} {o : Int} (hd : decode by_ pc = .ok (.if_icmp .ne o, 3)) (ho : 0 ≤ (pc : Int) + o) (hp : ((pc : Int) + o).toNat = pt) (hf : pf = pc + 3) (kt : ¬ x = y → Run C Z R w To f Q b Ts Li h k n pt L S) (kf : x = y → Run C Z R w To f Q b Ts Li h k n pf L S) : Run C Z R w To f Q b Ts Li h k n pc L (.int y :: .int x :: S) := by
  by_cases c : ¬ x = y
  · exact r_icmpneT H pt hd ho hp c (kt c)
  · exact r_icmpneF H pf hd hf (Decidable.not_not.mp c) (kf (Decidable.not_not.mp c))
theorem r_ifneT (H : Stn C Z own by_ mL rt nm q) (pc' : Nat) {x : Int32} {o : Int} (hd : decode by_ pc = .ok (.ifCond .ne o, 3)) (ho : 0 ≤ (pc : Int) + o) (hp : ((pc : Int) + o).toNat = pc') (c : ¬ x = 0) (kk : Run C Z R w To f Q b Ts Li h k n pc' L S) : Run C Z R w To f Q b Ts Li h k n pc L (.int x :: S) := by
  exact kk.one fun T vm0 locs t X kt => XS.ifYes X.here H.1 rfl rfl (H.dec hd) rfl ((if0 _ _).trans (feq c).2) ho hp kt
theorem r_ifneF (H : Stn C Z own by_ mL rt nm q) (pc' : Nat) {x : Int32} {o : Int} (hd : decode by_ pc = .ok (.ifCond .ne o, 3)) (hp : pc' = pc + 3) (c : x = 0) (kk : Run C Z R w To f Q b Ts Li h k n pc' L S) : Run C Z R w To f Q b Ts Li h k n pc L (.int x :: S) := by
  subst hp
  exact kk.one fun T vm0 locs t X kt => XS.ifNo X.here H.1 rfl (H.dec hd) rfl ((if0 _ _).trans (teq c).2) kt
theorem r_ifne (H : Stn C Z own by_ mL rt nm q) (pt pf : Nat) {x : Int32} {o : Int} (hd : decode by_ pc = .ok (.ifCond .ne o, 3)) (ho : 0 ≤ (pc : Int) + o) (hp : ((pc : Int) + o).toNat = pt) (hf : pf = pc + 3) (kt : ¬ x = 0 → Run C Z R w To f Q b Ts Li h k n pt L S) (kf : x = 0 → Run C Z R w To f Q b Ts Li h k n pf L S) : Run C Z R w To f Q b Ts Li h k n pc L (.int x :: S) := by
  by_cases c : ¬ x = 0
  · exact r_ifneT H pt hd ho hp c (kt c)
  · exact r_ifneF H pf hd hf (Decidable.not_not.mp c) (kf (Decidable.not_not.mp c))
theorem r_acmp (H : Stn C Z own by_ mL rt nm q) (pc' : Nat) {cd : ClassFile.ACond} {x y : Value} {o : Int} (same : Bool) (hd : decode by_ pc = .ok (.if_acmp cd o, 3)) (h1 : x.isRef = true) (h2 : y.isRef = true) (hq : decide (x = y) = same) (ho : 0 ≤ (pc : Int) + o) (hp : pc' = if acV cd same = true then ((pc : Int) + o).toNat else pc + 3) (kk : Run C Z R w To f Q b Ts Li h k n pc' L S) : Run C Z R w To f Q b Ts Li h k n pc L (y :: x :: S) := by
  exact kk.one fun T vm0 locs t X kt => Jvm.RoadKit.acmp X H.1 rfl h1 h2 rfl (H.dec hd) rfl hq ho hp kt
theorem Pos.done {T : State} {vm0 : Vm} {locs : List Loc} (H : Stn C Z own by_ mL rt nm q) (P : Pos C Z R w b Ts Li h k n T vm0 locs) {v : Option Value} (hv : rt = none → v = none) (hk : k ≤ R.cells) (hn : n ≤ R.slots) (hf : f ≤ b) (hT : ∀ t ∈ Ts, t ∈ To) (hQ : Q v h) {g : JFrame}
    (st : ∀ fs, (∀ (f : JFrame) (acts : List Action), f.method = C.m → f.locked = none → f.entered = [] → (doReturn C.e (T.setTop f) acts v).1 = T.setFrames fs) → Steps C.p.tables C.e C.bl (T.setTop g) (T.setFrames fs)) : Gl C Z R w To f Q (T.setTop g) := by
  obtain ⟨X, hZ, eT, hS, hI, hw, N, hz, hE, hq, hL⟩ := P
  have hlk : C.mt.locks = false := H.2.2.2.2.1
  have hv' : C.mt.sig.returnType = none → v = none := fun e => hv (by rw [← H.2.2.2.1]; exact e)
  have hin : T.vm.interned = vm0.interned := X.warmed.interned_eq
  cases w with
  | false =>
    have e0 := hw rfl
    subst e0
    obtain ⟨fs, hr, hrun, hended, hW, hsame⟩ := Stand.leave (s := C.s) X (v := v) hv' hlk
    exact ⟨_, _, st fs hr, hrun, hended, v, locs, rfl, ⟨by show Q v T.heap; rw [eT]; exact hQ, fr_low N hf, by show Ext Z.heap T.heap; rw [eT]; exact hE, ib_mono (ib_same hI hin) hT⟩, ⟨v, rfl⟩, hW, hsame.mono hk hn⟩
  | true =>
    obtain ⟨fs, hr, hrun, hended, h1, h2, h3, hsame⟩ := Stand.leaveW X (v := v) hS (Nat.le_of_eq (by rw [eT])) hv' hlk
    exact ⟨_, _, st fs hr, hrun, hended, v, locs, rfl, ⟨by show Q v T.heap; rw [eT]; exact hQ, fr_low N hf, by show Ext Z.heap T.heap; rw [eT]; exact hE, ib_mono (ib_same hI hin) hT⟩, h1, h2, h3, hsame.mono hk hn⟩
theorem r_return (H : Stn C Z own by_ mL none nm q) (hd : decode by_ pc = .ok (.return_, 1)) (hk : k ≤ R.cells) (hn : n ≤ R.slots) (hf : f ≤ b) (hT : ∀ t ∈ Ts, t ∈ To) (hQ : Q none h) : Run C Z R w To f Q b Ts Li h k n pc L [] := fun T vm0 locs P =>
  P.done H (v := none) (fun _ => rfl) hk hn hf hT hQ fun fs hr => P.1.returnOut H.1 H.2.2.2.1 (H.dec hd) hr
theorem retI' {p : Program} {l : Launch} {e : Env} {R : Room} {s : State} {m : MethodId} {args : Array Value} {below : List Frame} {meth : Method} {c : ClassFile.Code} {T : State} {locs : List Loc} {cells slots : Nat} (X : Stand p l e R s m args below meth c T locs cells slots) (hx : p.tables.exec = Jvm.exec) {pc : Nat} {Ls : Array Slot} {z : Int32} {rest : List Value} (hret : meth.sig.returnType = some .int) (hd : decode c.code pc = .ok (.ireturn, 1)) {fs : List Frame}
    (hl : ∀ (f : JFrame) (acts : List Action), f.method = m → f.locked = none → f.entered = [] → (doReturn e (T.setTop f) acts (some (.int z))).1 = T.setFrames fs) : Steps p.tables e below (T.setTop (mkF m pc Ls (.int z :: rest))) (T.setFrames fs) := retOut X hx hret rfl (Or.inl ⟨rfl, Or.inl rfl, z, rfl⟩) hd hl
theorem r_ireturn {z : Int32} (H : Stn C Z own by_ mL (some .int) nm q) (hd : decode by_ pc = .ok (.ireturn, 1)) (hk : k ≤ R.cells) (hn : n ≤ R.slots) (hf : f ≤ b) (hT : ∀ t ∈ Ts, t ∈ To) (hQ : Q (some (.int z)) h) : Run C Z R w To f Q b Ts Li h k n pc L (.int z :: S) := fun T vm0 locs P =>
  P.done H (v := some (.int z)) (fun e => by cases e) hk hn hf hT hQ fun fs hr => retI' P.1 H.1 H.2.2.2.1 (H.dec hd) hr
theorem r_nreturn {z : Int32} (z' : Int32) {t : FieldType} (H : Stn C Z own by_ mL (some t) nm q) (ht : t = .boolean ∨ t = .byte ∨ t = .char ∨ t = .short) (hd : decode by_ pc = .ok (.ireturn, 1)) (hz : nar t z = z') (hk : k ≤ R.cells) (hn : n ≤ R.slots) (hf : f ≤ b) (hT : ∀ t ∈ Ts, t ∈ To) (hQ : Q (some (.int z')) h) : Run C Z R w To f Q b Ts Li h k n pc L (.int z :: S) := fun T vm0 locs P => by
  subst hz
  exact P.done H (v := some (.int (nar t z))) (fun e => by cases e) hk hn hf hT hQ fun fs hr => retN P.1 H.1 H.2.2.2.1 ht (H.dec hd) hr
theorem r_areturn {v : Value} {t : FieldType} (H : Stn C Z own by_ mL (some t) nm q) (ht : t.isReference = true) (hv : v.isRef = true) (hd : decode by_ pc = .ok (.areturn, 1)) (hk : k ≤ R.cells) (hn : n ≤ R.slots) (hf : f ≤ b) (hT : ∀ t ∈ Ts, t ∈ To) (hQ : Q (some v) h) : Run C Z R w To f Q b Ts Li h k n pc L (v :: S) := fun T vm0 locs P =>
  P.done H (v := some v) (fun e => by cases e) hk hn hf hT hQ fun fs hr => retOut P.1 H.1 H.2.2.2.1 (by rcases ref_cases hv with rfl | ⟨a, rfl⟩ <;> cases t <;> first | rfl | simp [FieldType.isReference] at ht) (Or.inr (Or.inr (Or.inr (Or.inr ⟨rfl, ht, hv⟩)))) (H.dec hd) hr
theorem Run.hold {pc' : Nat} {L' : Array Slot} {S' : List Value} (g : ∀ T vm0 locs, Pos C Z R w b Ts Li h k n T vm0 locs → ∃ T', Stand C.p C.l C.e R (C.s.setVm vm0) C.m C.a C.bl C.mt C.c T' locs k n ∧ T'.heap = h ∧ ∀ t, Steps C.p.tables C.e C.bl (T'.setTop (mkF C.m pc' L' S')) t → Steps C.p.tables C.e C.bl (T.setTop (mkF C.m pc L S)) t)
    (kk : Run C Z R w To f Q b Ts Li h k n pc' L' S') : Run C Z R w To f Q b Ts Li h k n pc L S := fun T vm0 locs P => by
  obtain ⟨T', X', e', st⟩ := g T vm0 locs P
  obtain ⟨X, hZ, eT, r⟩ := P
  obtain ⟨s₂, o, h1, r'⟩ := kk T' vm0 locs ⟨X', hZ, e', r⟩
  exact ⟨s₂, o, st _ h1, r'⟩
theorem Pos.cl {T : State} {vm0 : Vm} {locs : List Loc} (P : Pos C Z R w b Ts Li h k n T vm0 locs) (H : Stn C Z own by_ mL rt nm q) : (C.s.setVm vm0).vm.findClass own = some C.m.cls := H.cl P.2.2.2.1
theorem r_getf (H : Stn C Z own by_ mL rt nm q) (pc' : Nat) {idx : Nat} {R0 O fn d : String} {a : Addr} {v : Value} (hd : decode by_ pc = .ok (.getfield idx, 3)) (w1 : (Cond.fieldLink own idx R0 fn d).before a0 Z = true) (via : Via Z R0 O fn d) (F : Fld Z h a O fn d v) (hp : pc' = pc + 3)
    (kk : Run C Z R w To f Q b Ts Li h k n pc' L (v :: S)) : Run C Z R w To f Q b Ts Li h k n pc L (.ref a :: S) := by
  subst hp
  exact kk.hold fun T vm0 locs P => getF (host := "") P.1 H.1 P.2.1 (P.cl H) (Or.inl w1) via P.2.2.1 F (g := mkF C.m pc L (.ref a :: S)) rfl rfl (H.dec hd)
theorem r_gets (H : Stn C Z own by_ mL rt nm q) (pc' : Nat) {idx : Nat} {R0 O fn d : String} {v : Value} (hd : decode by_ pc = .ok (.getstatic idx, 3)) (w1 : (Cond.fieldLink own idx R0 fn d).before a0 Z = true) (via : Via Z R0 O fn d) (F : Sta Z Z.heap O fn d v) (hp : pc' = pc + 3)
    (kk : Run C Z R w To f Q b Ts Li h k n pc' L (v :: S)) : Run C Z R w To f Q b Ts Li h k n pc L S := by
  subst hp
  exact kk.hold fun T vm0 locs P => getS2 (host := "") P.1 H.1 P.2.1 (P.cl H) (Or.inl w1) via P.2.2.1 (F.ext P.2.2.2.2.2.2.2.2.1) (g := mkF C.m pc L S) rfl (H.dec hd)
theorem r_initO (H : Stn C Z own by_ mL rt nm q) (pc' : Nat) {idx : Nat} {a : Addr} (hd : decode by_ pc = .ok (.invokespecial idx, 3)) (w1 : (Cond.methodLink own idx Lib.objectInit).before a0 Z = true) (w2 : (Cond.instanceMethod Lib.objectInit).before a0 Z = true) (w3 : (Cond.code Lib.objectInit ⟨#[0xb1]⟩ 1 none).before a0 Z = true) (hL : L.size = mL) (hf : 1 ≤ R.frames) {W : Nat} (hW : (S.map fun v => v.category).sum ≤ W) (hl : W + 12 ≤ R.locals) (hp : pc' = pc + 3)
    (kk : Run C Z R w To f Q b Ts Li h k n pc' L S) : Run C Z R w To f Q b Ts Li h k n pc L (.ref a :: S) := by
  subst hp
  exact kk.hold fun T vm0 locs P => initO P.1 H.1 P.2.1 (P.cl H) w1 w2 w3 P.2.2.1 (g := mkF C.m pc L (.ref a :: S)) rfl (by rw [H.2.2.1]; exact hL) rfl (H.dec hd) hf (W := W) (by show 2 * 0 + _ ≤ _; omega) hl
theorem r_castY (H : Stn C Z own by_ mL rt nm q) (pc' : Nat) {idx : Nat} {K : String} {a : Addr} (hd : decode by_ pc = .ok (.checkcast idx, 3)) (w1 : (Cond.classLink own idx K).before a0 Z = true) (F : Ins Z h a K true) (hp : pc' = pc + 3)
    (kk : Run C Z R w To f Q b Ts Li h k n pc' L (.ref a :: S)) : Run C Z R w To f Q b Ts Li h k n pc L (.ref a :: S) := by
  subst hp
  exact kk.hold fun T vm0 locs P => castY P.1 H.1 P.2.1 (P.cl H) w1 P.2.2.1 F (g := mkF C.m pc L (.ref a :: S)) rfl rfl (H.dec hd)
theorem r_instY (H : Stn C Z own by_ mL rt nm q) (pc' : Nat) {idx : Nat} {K : String} {a : Addr} (hd : decode by_ pc = .ok (.instanceof idx, 3)) (w1 : (Cond.classLink own idx K).before a0 Z = true) (F : Ins Z h a K true) (hp : pc' = pc + 3)
    (kk : Run C Z R w To f Q b Ts Li h k n pc' L (.int 1 :: S)) : Run C Z R w To f Q b Ts Li h k n pc L (.ref a :: S) := by
  subst hp
  exact kk.hold fun T vm0 locs P => instY P.1 H.1 P.2.1 (P.cl H) w1 P.2.2.1 F (g := mkF C.m pc L (.ref a :: S)) rfl rfl (H.dec hd)
theorem r_ldcI (H : Stn C Z own by_ mL rt nm q) (pc' : Nat) {idx : Nat} {v : Int32} (hd : decode by_ pc = .ok (.ldc idx, 2)) (w1 : (Cond.constant own idx v).before a0 Z = true) (hp : pc' = pc + 2)
    (kk : Run C Z R w To f Q b Ts Li h k n pc' L (.int v :: S)) : Run C Z R w To f Q b Ts Li h k n pc L S := by
  subst hp
  exact kk.hold fun T vm0 locs P => ⟨T, P.1, P.2.2.1, P.1.ldcInt H.1 (P.cl H) (mvT (s := C.s.setVm vm0) P.2.1 w1) (g := mkF C.m pc L S) rfl (H.dec hd)⟩
def Ar (Z : State) (h : Heap) (a : Addr) (kc : ClassId) (ty : FieldType) (vs : List Value) : Prop := ∃ c : Cell, Arr Z h a c ty ∧ c.cls = kc ∧ c.slots = vs.toArray ∧ vs.length < 2 ^ 31 ∧ ∀ v ∈ vs, fits ty v = true
theorem Ar.lt {a : Addr} {kc : ClassId} {ty : FieldType} {vs : List Value} (F : Ar Z h a kc ty vs) : a < h.size := by obtain ⟨c, A, -⟩ := F; exact A.lt
theorem Ar.ext {h' : Heap} {a : Addr} {kc : ClassId} {ty : FieldType} {vs : List Value} (F : Ar Z h a kc ty vs) (E : Ext h h') : Ar Z h' a kc ty vs := by obtain ⟨c, A, r⟩ := F; exact ⟨c, A.ext E, r⟩
theorem Ar.keep {h' : Heap} {a : Addr} {kc : ClassId} {ty : FieldType} {vs : List Value} {ws : List Addr} (F : Ar Z h a kc ty vs) (K : Keep h h' ws) (hn : a ∉ ws) : Ar Z h' a kc ty vs := by obtain ⟨c, A, r⟩ := F; exact ⟨c, ⟨K.2.1 a c A.1 hn, A.2⟩, r⟩
theorem Ar.of_arv {a : Addr} {kc : ClassId} {ty : FieldType} {vs : List Value} {z : Int32} {dv : Value} (F : Arv Z h a kc ty z vs dv) (hz : z.toNatClampNeg = vs.length) : Ar Z h a kc ty vs := by
  obtain ⟨c, A, h1, h2, h3, h4, h5⟩ := F
  have hs : c.slots.size = vs.length := by rw [h2, hz]
  refine ⟨c, A, h1, ?_, by rw [← hz]; exact (back32 h3).2, fun v hv => ?_⟩
  · apply Array.ext
    · simpa using hs
    · intro i q1 q2
      have e := h4 i q1
      rw [Array.getElem?_eq_getElem q1] at e
      have hi : i < vs.length := by omega
      rw [List.getD_eq_getElem?_getD, List.getElem?_eq_getElem hi] at e
      simpa using e
  · obtain ⟨i, hi, e⟩ := List.mem_iff_getElem.mp hv
    have := h5 i (by omega)
    rw [List.getD_eq_getElem?_getD, List.getElem?_eq_getElem hi] at this
    rw [← e]; exact this
theorem Ar.new {a : Addr} {kc : ClassId} {ty : FieldType} {z : Int32} (A : Arr Z h a (newA kc ty z) ty) (hn : ¬ z < 0) : Ar Z h a kc ty (List.replicate z.toNatClampNeg (defaultValue ty)) :=
  ⟨_, A, rfl, by simp [newA], by simpa using (back32 hn).2, fun v hv => by rw [List.eq_of_mem_replicate hv]; cases ty <;> rfl⟩
theorem Ar.put {h' : Heap} {a : Addr} {kc : ClassId} {ty : FieldType} {vs : List Value} {i : Nat} {v : Value} (F : Ar Z h a kc ty vs) (W : Wr h h' a i v) (hv : fits ty v = true) : Ar Z h' a kc ty (vs.set i v) := by
  obtain ⟨c, A, h1, h2, h3, h4⟩ := F
  refine ⟨_, A.same W, h1, ?_, by simpa using h3, fun u hu => ?_⟩
  · simp [Cell.setSlot, h2]
  · rcases List.mem_or_eq_of_mem_set hu with q | q
    · exact h4 u q
    · rw [q]; exact hv
theorem Ar.size {a : Addr} {kc : ClassId} {ty : FieldType} {vs : List Value} {c : Cell} (A : Arr Z h a c ty) (F : Ar Z h a kc ty vs) : c.slots = vs.toArray ∧ vs.length < 2 ^ 31 := by
  obtain ⟨c', A', h1, h2, h3, h4⟩ := F
  cases A.1.symm.trans A'.1
  exact ⟨h2, h3⟩
theorem ld_in {vs : List Value} {j : Int32} {v : Value} {c : Cell} (hs : c.slots = vs.toArray) (hj : ¬ j < 0) (hv : vs[j.toNatClampNeg]? = some v) : ¬ (j < 0 ∨ c.slots.size ≤ j.toNatClampNeg) ∧ c.slots[j.toNatClampNeg]? = some v := by
  refine ⟨fun q => q.elim hj fun u => ?_, by rw [hs]; simpa using hv⟩
  rw [hs] at u
  have := (List.getElem?_eq_some_iff.mp hv).1
  simp at u; omega
theorem r_alen (H : Stn C Z own by_ mL rt nm q) (pc' : Nat) {a : Addr} {kc : ClassId} {ty : FieldType} {vs : List Value} (z : Int32) (hd : decode by_ pc = .ok (.arraylength, 1)) (F : Ar Z h a kc ty vs) (hz : vs.length.toInt32 = z) (hp : pc' = pc + 1)
    (kk : Run C Z R w To f Q b Ts Li h k n pc' L (.int z :: S)) : Run C Z R w To f Q b Ts Li h k n pc L (.ref a :: S) := by
  subst hp hz
  refine kk.hold fun T vm0 locs P => ?_
  obtain ⟨c, A, h1, h2, h3, h4⟩ := F
  refine ⟨T, P.1, P.2.2.1, fun t kt => ?_⟩
  refine P.1.arraylength H.1 (by rw [P.2.2.1]; exact A.1) (State.isArrayOf_alike P.2.1.alike A.2.1) (g := mkF C.m pc L (.ref a :: S)) rfl rfl (H.dec hd) _ ?_
  have e : c.slots.size.toInt32 = vs.length.toInt32 := by rw [h2]; simp
  rw [e]; exact kt
theorem r_caload (H : Stn C Z own by_ mL rt nm q) (pc' : Nat) {a : Addr} {kc : ClassId} {vs : List Value} {j : Int32} (v : Int32) (hd : decode by_ pc = .ok (.caload, 1)) (F : Ar Z h a kc .char vs) (hj : ¬ j < 0) (hv : vs[j.toNatClampNeg]? = some (.int v)) (hp : pc' = pc + 1) (kk : Run C Z R w To f Q b Ts Li h k n pc' L (.int v :: S)) : Run C Z R w To f Q b Ts Li h k n pc L (.int j :: .ref a :: S) := by
  subst hp
  refine kk.hold fun T vm0 locs P => ?_
  obtain ⟨c, A, h1, h2, h3, h4⟩ := F
  obtain ⟨q1, q2⟩ := ld_in h2 hj hv
  exact ⟨T, P.1, P.2.2.1, P.1.caload H.1 (by rw [P.2.2.1]; exact A.1) (State.isArrayOf_alike P.2.1.alike A.2.1) A.2.2 q1 q2 (g := mkF C.m pc L (.int j :: .ref a :: S)) rfl rfl (H.dec hd)⟩
theorem r_baload (H : Stn C Z own by_ mL rt nm q) (pc' : Nat) {a : Addr} {kc : ClassId} {vs : List Value} {j : Int32} (v : Int32) (hd : decode by_ pc = .ok (.baload, 1)) (F : Ar Z h a kc .byte vs) (hj : ¬ j < 0) (hv : vs[j.toNatClampNeg]? = some (.int v)) (hp : pc' = pc + 1) (kk : Run C Z R w To f Q b Ts Li h k n pc' L (.int v :: S)) : Run C Z R w To f Q b Ts Li h k n pc L (.int j :: .ref a :: S) := by
  subst hp
  refine kk.hold fun T vm0 locs P => ?_
  obtain ⟨c, A, h1, h2, h3, h4⟩ := F
  obtain ⟨q1, q2⟩ := ld_in h2 hj hv
  exact ⟨T, P.1, P.2.2.1, P.1.baloadBytes H.1 (by rw [P.2.2.1]; exact A.1) (State.isArrayOf_alike P.2.1.alike A.2.1) A.2.2 q1 q2 (g := mkF C.m pc L (.int j :: .ref a :: S)) rfl rfl (H.dec hd)⟩
theorem Run.write {pc' : Nat} {L' : Array Slot} {S' : List Value} {a : Addr} {sl : Nat} {v : Value} (hb : b ≤ a) (g : ∀ T vm0 locs, Pos C Z R w b Ts Li h k n T vm0 locs → ∃ T' h', Stand C.p C.l C.e R (C.s.setVm vm0) C.m C.a C.bl C.mt C.c T' (locs ++ [⟨a, sl⟩]) k n ∧ T'.heap = h' ∧ Wr h h' a sl v ∧ ∀ t, Steps C.p.tables C.e C.bl (T'.setTop (mkF C.m pc' L' S')) t → Steps C.p.tables C.e C.bl (T.setTop (mkF C.m pc L S)) t)
    (kk : ∀ h', Wr h h' a sl v → Keep h h' [a] → Run C Z R w To f Q b Ts Li h' k n pc' L' S') : Run C Z R w To f Q b Ts Li h k n pc L S := fun T vm0 locs P => by
  obtain ⟨T', h', X', e', W, st⟩ := g T vm0 locs P
  obtain ⟨X, hZ, eT, hS, hI, hw, N, hz, hE, hq, hL⟩ := P
  have K := Keep.of_wr W
  have hE' : Ext Z.heap h' := (Old.wr (n0 := Z.heap.size) ⟨rfl, hE⟩ W (Nat.le_trans hz hb)).2
  obtain ⟨s₂, o, h1, r'⟩ := kk h' W K T' vm0 _ ⟨X', hZ, e', since_same hS K.1, hI, hw, Fr.snoc X' N hb, hz, hE', Nat.le_trans hq K.1, hL⟩
  exact ⟨s₂, o, st _ h1, r'⟩
theorem r_castore (H : Stn C Z own by_ mL rt nm q) (pc' : Nat) {a : Addr} {kc : ClassId} {vs : List Value} {j x : Int32} (y : Int32) (hd : decode by_ pc = .ok (.castore, 1)) (F : Ar Z h a kc .char vs) (hj : ¬ j < 0) (hi : j.toNatClampNeg < vs.length) (hb : b ≤ a) (hy : (nar .char x) = y) (hp : pc' = pc + 1) (kk : ∀ h', Keep h h' [a] → Ar Z h' a kc .char (vs.set j.toNatClampNeg (.int y)) → Run C Z R w To f Q b Ts Li h' k n pc' L S) : Run C Z R w To f Q b Ts Li h k n pc L (.int x :: .int j :: .ref a :: S) := by
  subst hp hy
  obtain ⟨c, A, h1, h2, h3, h4⟩ := id F
  have hin : ¬ (j < 0 ∨ c.slots.size ≤ j.toNatClampNeg) := fun q => q.elim hj fun u => by rw [h2] at u; simp at u; omega
  exact Run.write hb (fun T vm0 locs P => stC P.1 H.1 P.2.1 P.2.2.1 A hin (g := mkF C.m pc L (.int x :: .int j :: .ref a :: S)) rfl rfl (H.dec hd)) fun h' W K => kk h' K (F.put W (fits_nar_char _))
theorem r_bastore (H : Stn C Z own by_ mL rt nm q) (pc' : Nat) {a : Addr} {kc : ClassId} {vs : List Value} {j x : Int32} (y : Int32) (hd : decode by_ pc = .ok (.bastore, 1)) (F : Ar Z h a kc .byte vs) (hj : ¬ j < 0) (hi : j.toNatClampNeg < vs.length) (hb : b ≤ a) (hy : (nar .byte x) = y) (hp : pc' = pc + 1) (kk : ∀ h', Keep h h' [a] → Ar Z h' a kc .byte (vs.set j.toNatClampNeg (.int y)) → Run C Z R w To f Q b Ts Li h' k n pc' L S) : Run C Z R w To f Q b Ts Li h k n pc L (.int x :: .int j :: .ref a :: S) := by
  subst hp hy
  obtain ⟨c, A, h1, h2, h3, h4⟩ := id F
  have hin : ¬ (j < 0 ∨ c.slots.size ≤ j.toNatClampNeg) := fun q => q.elim hj fun u => by rw [h2] at u; simp at u; omega
  exact Run.write hb (fun T vm0 locs P => stB P.1 H.1 P.2.1 P.2.2.1 A hin (g := mkF C.m pc L (.int x :: .int j :: .ref a :: S)) rfl rfl (H.dec hd)) fun h' W K => kk h' K (F.put W (fits_nar_byte _))
theorem r_putf (H : Stn C Z own by_ mL rt nm q) (pc' : Nat) {idx kk0 : Nat} {R0 O fn d CC : String} {ty : FieldType} {a : Addr} {v old : Value} (hd : decode by_ pc = .ok (.putfield idx, 3)) (w1 : (Cond.fieldLink own idx R0 fn d).before a0 Z = true) (via : Via Z R0 O fn d) (F : Fld Z h a O fn d old) (E : Exa Z h a CC) (wl : (Cond.lays CC O fn d).before a0 Z = true ∨ ((Cond.laysFinal CC O fn d).before a0 Z = true ∧ own = O ∧ nm = "<init>")) (wi : (Cond.instantiable CC kk0).before a0 Z = true) (hty : parseFieldDescriptor d = some ty) (hn : narrow ty v = v) (hf' : fits ty v = true) (hb : b ≤ a) (hp : pc' = pc + 3) (kk : ∀ h', Wr h h' a (Jvm.RoadKit.slotOf Z O fn d) v → Keep h h' [a] → Exa Z h' a CC → Fld Z h' a O fn d v → Run C Z R w To f Q b Ts Li h' k n pc' L S) : Run C Z R w To f Q b Ts Li h k n pc L (v :: .ref a :: S) := by
  subst hp
  exact Run.write hb (fun T vm0 locs P => putF (host := "") P.1 H.1 P.2.1 (P.cl H) (Or.inl w1) via P.2.2.1 F E (wl.imp id fun z => ⟨z.1, z.2.1, H.2.2.2.2.2.1.trans z.2.2⟩) wi hty hn hf' (g := mkF C.m pc L (v :: .ref a :: S)) rfl rfl (H.dec hd)) fun h' W K => kk h' W K (E.wr W) (F.same W)
theorem r_putn (H : Stn C Z own by_ mL rt nm q) (pc' : Nat) {idx kk0 : Nat} {R0 O fn d CC : String} {ty : FieldType} {a : Addr} {v old : Value} (v' : Value) (hd : decode by_ pc = .ok (.putfield idx, 3)) (w1 : (Cond.fieldLink own idx R0 fn d).before a0 Z = true) (via : Via Z R0 O fn d) (F : Fld Z h a O fn d old) (E : Exa Z h a CC) (wl : (Cond.lays CC O fn d).before a0 Z = true ∨ ((Cond.laysFinal CC O fn d).before a0 Z = true ∧ own = O ∧ nm = "<init>")) (wi : (Cond.instantiable CC kk0).before a0 Z = true) (hty : parseFieldDescriptor d = some ty) (hn : narrow ty v = v') (hf' : fits ty v' = true) (hb : b ≤ a) (hp : pc' = pc + 3) (kk : ∀ h', Wr h h' a (Jvm.RoadKit.slotOf Z O fn d) v' → Keep h h' [a] → Exa Z h' a CC → Fld Z h' a O fn d v' → Run C Z R w To f Q b Ts Li h' k n pc' L S) : Run C Z R w To f Q b Ts Li h k n pc L (v :: .ref a :: S) := by
  subst hp
  exact Run.write hb (fun T vm0 locs P => putFN P.1 H.1 P.2.1 (P.cl H) w1 via P.2.2.1 F E (wl.imp id fun z => ⟨z.1, z.2.1, H.2.2.2.2.2.1.trans z.2.2⟩) wi hty hn hf' (g := mkF C.m pc L (v :: .ref a :: S)) rfl rfl (H.dec hd)) fun h' W K => kk h' W K (E.wr W) (F.same W)
theorem Run.make {pc' k' n' : Nat} {L' : Array Slot} {S' : List Value} {P' : Heap → Prop} (hkk : k ≤ k') (g : ∀ T vm0 locs, Pos C Z R w b Ts Li h k n T vm0 locs → ∃ T' h', Stand C.p C.l C.e R (C.s.setVm vm0) C.m C.a C.bl C.mt C.c T' locs k' n' ∧ T'.heap = h' ∧ Ext h h' ∧ P' h' ∧ ∀ t, Steps C.p.tables C.e C.bl (T'.setTop (mkF C.m pc' L' S')) t → Steps C.p.tables C.e C.bl (T.setTop (mkF C.m pc L S)) t)
    (kk : ∀ h', Ext h h' → P' h' → Run C Z R w To f Q b Ts Li h' k' n' pc' L' S') : Run C Z R w To f Q b Ts Li h k n pc L S := fun T vm0 locs P => by
  obtain ⟨T', h', X', e', E, hP, st⟩ := g T vm0 locs P
  obtain ⟨X, hZ, eT, hS, hI, hw, N, hz, hE, hq, hL⟩ := P
  obtain ⟨s₂, o, h1, r'⟩ := kk h' E hP T' vm0 locs ⟨X', hZ, e', since_same hS E.1, hI, hw, N, hz, ⟨Nat.le_trans hE.1 E.1, fun x c r => E.2 x c (hE.2 x c r)⟩, Nat.le_trans hq E.1, hL⟩
  exact ⟨s₂, o, st _ h1, r'⟩
theorem Keep.of_ext {h h' : Heap} (E : Ext h h') : Keep h h' [] := (Keep.refl h []).ext E
theorem r_new (H : Stn C Z own by_ mL rt nm q) (pc' : Nat) {idx ns : Nat} {CC : String} (hd : decode by_ pc = .ok (.new idx, 3)) (w1 : (Cond.classLink own idx CC).before a0 Z = true) (wi : (Cond.instantiable CC ns).before a0 Z = true) (wz : (Cond.initialized CC).before a0 Z = true) (hc : k + 1 ≤ R.cells) (hl : n + ns ≤ R.slots) (hp : pc' = pc + 3)
    (kk : ∀ h' a, a = h.size → a < h'.size → Keep h h' [] → Exa Z h' a CC → (∀ {O nm d : String} {ty : FieldType}, Laid Z a0 CC O nm d → parseFieldDescriptor d = some ty → Fld Z h' a O nm d (defaultValue ty)) → Run C Z R w To f Q b Ts Li h' (k + 1) (n + ns) pc' L (.ref a :: S)) : Run C Z R w To f Q b Ts Li h k n pc L S := by
  subst hp
  refine Run.make (P' := fun h' => Exa Z h' h.size CC ∧ (∀ {O nm d : String} {ty : FieldType}, Laid Z a0 CC O nm d → parseFieldDescriptor d = some ty → Fld Z h' h.size O nm d (defaultValue ty))) (Nat.le_succ k) (fun T vm0 locs P => ?_) fun h' E hP => kk h' _ rfl hP.1.lt (Keep.of_ext E) hP.1 hP.2
  obtain ⟨T', h', X', e', E, A, D, -, st⟩ := newO P.1 H.1 P.2.1 (P.cl H) w1 wi wz P.2.2.1 (g := mkF C.m pc L S) rfl (H.dec hd) hc hl
  exact ⟨T', h', X', e', E, ⟨A, D⟩, st⟩
theorem r_newP (H : Stn C Z own by_ mL rt nm q) (pc' : Nat) {aty : ArrayType} {z : Int32} (ad : String) (cap : Nat) (hd : decode by_ pc = .ok (.newarray aty, 2)) (w1 : (Cond.arrayClass (newarray.typeOf aty)).before a0 Z = true) (had : "[" ++ (newarray.typeOf aty).toString = ad) (hn : ¬ z < 0) (hcap : z.toNatClampNeg ≤ cap) (hb : cap * 8 ≤ 536870912) (hc : k + 1 ≤ R.cells) (hl : n + cap ≤ R.slots) (hp : pc' = pc + 2)
    (kk : ∀ h' a kc, a = h.size → a < h'.size → Keep h h' [] → Exa Z h' a ad → Ar Z h' a kc (newarray.typeOf aty) (List.replicate z.toNatClampNeg (defaultValue (newarray.typeOf aty))) → Run C Z R w To f Q b Ts Li h' (k + 1) (n + cap) pc' L (.ref a :: S)) : Run C Z R w To f Q b Ts Li h k n pc L (.int z :: S) := by
  subst hp
  refine Run.make (P' := fun h' => ∃ kc, Exa Z h' h.size ad ∧ Ar Z h' h.size kc (newarray.typeOf aty) (List.replicate z.toNatClampNeg (defaultValue (newarray.typeOf aty)))) (Nat.le_succ k) (fun T vm0 locs P => ?_) fun h' E hP => by obtain ⟨kc, h1, h2⟩ := hP; exact kk h' _ kc rfl h2.lt (Keep.of_ext E) h1 h2
  obtain ⟨T', h', cA, X', e', E, A, A2, st⟩ := newPE P.1 H.1 P.2.1 w1 P.2.2.1 (g := mkF C.m pc L (.int z :: S)) rfl (H.dec hd) rfl hn hcap hb hc hl had
  exact ⟨T', h', X', e', E, ⟨cA, A2, Ar.new A hn⟩, st⟩
section Contract
variable {y : MethodName} {yb : ByteArray} {ymL : Nat} {yrt : Option FieldType} {Ry : Room} {Ti To' : List String} {f' : Nat} {as : Array Value} {Qy Qy' : Option Value → Heap → Prop} {ws : List Jvm.Cond}
theorem Con.mono (hc : Con w ws Z y yb ymL yrt Ry Ti To' f' as h Qy) (hq : ∀ v h', Qy v h' → Qy' v h') : Con w ws Z y yb ymL yrt Ry Ti To' f' as h Qy' := by
  intro l p e ha hca hk s m args below hf happ hP hK
  obtain ⟨n, o, h1, h2, h3, v, L, e1, hQ, hE⟩ := hc l p e ha hca hk s m args below hf happ hP hK
  exact ⟨n, o, h1, h2, h3, v, L, e1, ⟨hq _ _ hQ.1, hQ.2⟩, hE⟩
theorem con_of (bb : Nat) (L0 : Array Slot) (hpl : plainFor y = true) (hef : ∀ m, entryFrame m as ymL = mkF m 0 L0 []) (hz : Z.heap.size ≤ bb)
    (body : ∀ C : Cx, Stn C Z y.cls yb ymL yrt y.name h.size → Ext Z.heap h → Run C Z Ry w To' f' Qy bb Ti [] h 0 0 0 L0 []) : Con w ws Z y yb ymL yrt Ry Ti To' f' as h Qy := by
  intro l
  refine MetFree.of_bodySF hpl hisR ?_
  intro p e s m args below meth c s₁ Bd hml0 hP hK
  obtain ⟨rfl, hZ, hh, hI, hE⟩ := hP
  have X0 : Stand p l e Ry s m args below meth c s₁ [] 0 0 := Stand.of_body Bd
  have e0 : s₁.heap = h := by rw [← hh, Bd.state]; rfl
  have H : Stn (p, l, e, s, m, args, below, meth, c) Z y.cls yb ymL yrt y.name h.size := ⟨Bd.exec, Bd.bytes, hml0, Bd.returns, Bd.notSynchronized, (name_of_methodNamed Bd.named Bd.method).1, (by show s.heap.size = _; rw [hh]), (by show Ext Z.heap s.heap; rw [hh]; exact hE), findClass_of_methodNamed Bd.named⟩
  obtain ⟨s₂, o, h1, h2, h3, r⟩ := body (p, l, e, s, m, args, below, meth, c) H hE s₁ s.vm [] ⟨X0, hZ, e0, (State.WarmedH.refl s).since _, hI, fun _ => rfl, Fr.nil _, hz, hE, Nat.le_of_eq (by show s.heap.size = _; rw [hh]), fun _ q => by cases q⟩
  exact ⟨s₂, o, castTop (hef m) h1, h2, h3, r⟩
theorem Con.back {p : Program} {l : Launch} {e : Env} {R : Room} {below : List Frame} {s : State} {args : Array Value} {len W : Nat} (hc : Con false [] Z y yb ymL yrt Ry Ti To' f' as h Qy) (hZ : Z.Warmed39 s.vm) (hI : IB Z s.vm Ti) (hE : Ext Z.heap h)
    (wc : (Cond.code y yb ymL yrt).before a0 Z = true) (wz : (Cond.initialized y.cls).before a0 Z = true) (hf : Ry.frames + 1 ≤ R.frames) (hl : W + (ymL + 11) + Ry.locals ≤ R.locals) :
    Back l R p e below s args y len W (fun A a => a = as ∧ A.U.heap = h ∧ A.cells + Ry.cells ≤ R.cells ∧ A.slots + Ry.slots ≤ R.slots)
      (fun A _ v B => ∃ L, (Qy v B.U.heap ∧ Fr f' L ∧ Ext Z.heap B.U.heap ∧ IB Z B.U.vm To') ∧ B.locs = A.locs ++ L ∧ B.cells = A.cells + Ry.cells ∧ B.slots = A.slots + Ry.slots) :=
  Back.of_free (bytes := yb) (maxL := ymL) (ret := yrt) (E := fun _ _ o t L k n => k = Ry.cells ∧ n = Ry.slots ∧ ∃ v, o = .returned v ∧ (Qy v t.heap ∧ Fr f' L ∧ Ext Z.heap t.heap ∧ IB Z t.vm To')) (hc l) hf hl
    (fun m meth c A a Y hp => have hU : Z.Warmed39 A.U.vm := wtrans hZ Y.warmed
      ⟨by show (Cond.and _ .tt).before a A.U = true; rw [Cond.before_and, mv hU wc]; rfl, mv hU wc, mv hU wz, hp.2.2.1, hp.2.2.2⟩)
    (fun m meth c A a g mk Y hp => ⟨hp.1, wtrans hZ Y.warmed, hp.2.1, ib_same hI Y.warmed.interned_eq, hE⟩) (fun _ _ _ _ _ _ _ _ _ => trivial)
    (fun _ _ _ _ ⟨v, L, h1, h2, h3⟩ => ⟨L, _, _, h3, rfl, rfl, v, h1, h2⟩)
    (fun m meth c A a g mk v t L k n Y hp _ _ ⟨e1, e2, v', e3, e4⟩ => by cases e3; subst e1 e2; exact ⟨L, e4, rfl, rfl, rfl⟩)
theorem Con.backS {p : Program} {l : Launch} {e : Env} {R : Room} {below : List Frame} {s : State} {args : Array Value} {len W : Nat} (hc : Con true [] Z y yb ymL yrt Ry Ti To' f' as h Qy) (hZ : Z.Warmed39 s.vm) (hI : IB Z s.vm Ti) (hE : Ext Z.heap h)
    (wc : (Cond.code y yb ymL yrt).before a0 Z = true) (wz : (Cond.initialized y.cls).before a0 Z = true) (hf : Ry.frames + 1 ≤ R.frames) (hl : W + (ymL + 11) + Ry.locals ≤ R.locals) :
    BackS l R p e below s args y len W (fun A a => a = as ∧ A.U.heap = h ∧ A.cells + Ry.cells ≤ R.cells ∧ A.slots + Ry.slots ≤ R.slots)
      (fun A _ v B => ∃ L, (Qy v B.U.heap ∧ Fr f' L ∧ Ext Z.heap B.U.heap ∧ IB Z B.U.vm To') ∧ B.locs = A.locs ++ L ∧ B.cells = A.cells + Ry.cells ∧ B.slots = A.slots + Ry.slots) :=
  BackS.of_freeW (bytes := yb) (maxL := ymL) (ret := yrt) (E := fun _ _ o t L k n => k = Ry.cells ∧ n = Ry.slots ∧ ∃ v, o = .returned v ∧ (Qy v t.heap ∧ Fr f' L ∧ Ext Z.heap t.heap ∧ IB Z t.vm To')) (hc l) hf hl
    (fun m meth c A a Y hp => have hU : Z.Warmed39 A.U.vm := wtrans hZ Y.warmed
      ⟨by show (Cond.and _ .tt).before a A.U = true; rw [Cond.before_and, mv hU wc]; rfl, mv hU wc, mv hU wz, hp.2.2.1, hp.2.2.2⟩)
    (fun m meth c A a g mk Y hp => ⟨hp.1, wtrans hZ Y.warmed, hp.2.1, ib_same hI Y.warmed.interned_eq, hE⟩) (fun _ _ _ _ _ _ _ _ _ => trivial)
    (fun _ _ _ _ ⟨v, L, h1, h2, h3⟩ => ⟨L, _, _, h3, rfl, rfl, v, h1, h2⟩)
    (fun m meth c A a g mk v t L k n Y hp _ _ ⟨e1, e2, v', e3, e4⟩ => by cases e3; subst e1 e2; exact ⟨L, e4, rfl, rfl, rfl⟩)
theorem Pos.afterN {T : State} {vm0 : Vm} {locs : List Loc} {U : State} {ls : List Loc} {ce sl : Nat} {Lc : List Loc} (P : Pos C Z R false b Ts Li h k n T vm0 locs) (X' : Stand C.p C.l C.e R (C.s.setVm vm0) C.m C.a C.bl C.mt C.c U ls ce sl)
    (hF : Fr f' Lc) (hE' : Ext Z.heap U.heap) (hI' : IB Z U.vm To') (l1 : ls = locs ++ Lc) (c1 : ce = k + Ry.cells) (s1 : sl = n + Ry.slots) (hb : b ≤ f') : Pos C Z R false b To' Li U.heap (k + Ry.cells) (n + Ry.slots) U vm0 (locs ++ Lc) := by
  obtain ⟨X, hZ, eT, hS, hI, hw, N, hz, hE, hq, hL⟩ := P
  subst l1 c1 s1
  have e0 := hw rfl
  subst e0
  exact ⟨X', hZ, rfl, (State.WarmedH.refl C.s).since _, ib_same hI' X'.warmed.interned_eq.symm, fun _ => rfl, N.app (fr_low hF hb), hz, hE', X'.same.2.1, hL⟩
theorem Pos.afterS {T : State} {vm0 : Vm} {locs : List Loc} {U : State} {ls : List Loc} {ce sl : Nat} {Lc : List Loc} (P : Pos C Z R true b Ts Li h k n T vm0 locs) (X' : Stand C.p C.l C.e R ((C.s.setVm vm0).setVm U.vm) C.m C.a C.bl C.mt C.c U ls ce sl)
    (hS' : (C.s.setVm vm0).Since U.vm U.heap.size) (hg : T.heap.size ≤ U.heap.size) (hF : Fr f' Lc) (hE' : Ext Z.heap U.heap) (hI' : IB Z U.vm To') (l1 : ls = locs ++ Lc) (c1 : ce = k + Ry.cells) (s1 : sl = n + Ry.slots) (hb : b ≤ f') : Pos C Z R true b To' Li U.heap (k + Ry.cells) (n + Ry.slots) U U.vm (locs ++ Lc) := by
  obtain ⟨X, hZ, eT, hS, hI, hw, N, hz, hE, hq, hL⟩ := P
  subst l1 c1 s1
  exact ⟨X', State.Warmed39.trans (t := C.s.setVm vm0) hZ hS'.1, rfl, hS.trans hS' (by rw [← eT]; exact hg), hI', fun e => (by cases e), N.app (fr_low hF hb), hz, hE', Nat.le_trans hq (by rw [← eT]; exact hg), fun x hx => (hL x hx).stays hS'.1⟩
end Contract
theorem r_static (H : Stn C Z own by_ mL rt nm q) (pc' : Nat) {idx : Nat} {y : MethodName} {yb : ByteArray} {ymL : Nat} {yrt : Option FieldType} {Ry : Room} {To' : List String} {f' : Nat} {Qy : Option Value → Heap → Prop}  {argsL rest : List Value} {W : Nat} (hd : decode by_ pc = .ok (.invokestatic idx, 3)) (w1 : (Cond.methodLink own idx y).before a0 Z = true) (w2 : (Cond.static y).before a0 Z = true) (w3 : (Cond.initialized y.cls).before a0 Z = true) (w4 : (Cond.code y yb ymL yrt).before a0 Z = true) (hy : y.cls ≠ "java/lang/invoke/MethodHandle" ∧ y.cls ≠ "java/lang/invoke/VarHandle") (hlen : ∀ sig, parseMethodDescriptor y.desc = some sig → argsL.length = sig.parameters.length) (hc : Con w [] Z y yb ymL yrt Ry Ts To' f' argsL.toArray h Qy) (hs : S = argsL.reverse ++ rest) (hW : (rest.map fun v => v.category).sum ≤ W) (hL : L.size = mL) (hf : Ry.frames + 1 ≤ R.frames) (hl : W + (ymL + 11) + Ry.locals ≤ R.locals) (hk : k + Ry.cells ≤ R.cells) (hn : n + Ry.slots ≤ R.slots) (hb : b ≤ f') (hp : pc' = pc + 3) (kk : ∀ v h', Qy v h' → Run C Z R w To f Q b To' Li h' (k + Ry.cells) (n + Ry.slots) pc' L (v.toList ++ rest)) : Run C Z R w To f Q b Ts Li h k n pc L S := by
  subst hp hs
  intro T vm0 locs P
  cases w with
  | false =>
    obtain ⟨v, vm₁, ⟨U, ls, ce, sl⟩, -, X', ⟨Lc, ⟨hQ, hF, hE', hI'⟩, l1, c1, s1⟩, st⟩ := Jvm.LawKit.callS P.1 H.1 (P.cl H) (mvT (s := C.s.setVm vm0) P.2.1 w1) (mvT (s := C.s.setVm vm0) P.2.1 w2) (mvT (s := C.s.setVm vm0) P.2.1 w3) (mvT (s := C.s.setVm vm0) P.2.1 w4) hy (hc.back P.2.1 P.2.2.2.2.1 P.2.2.2.2.2.2.2.2.1 w4 w3 hf hl) (g := mkF C.m pc L (argsL.reverse ++ rest)) rfl (by rw [H.2.2.1]; exact hL) hlen rfl (by show 2 * 0 + _ ≤ _; omega) (H.dec hd) (fun _ _ => ⟨rfl, P.2.2.1, hk, hn⟩)
    obtain ⟨s₂, o, h1, r⟩ := kk v U.heap hQ U vm0 _ (P.afterN X' hF hE' hI' l1 c1 s1 hb)
    exact ⟨s₂, o, st _ h1, r⟩
  | true =>
    obtain ⟨v, vm₁, ⟨U, ls, ce, sl⟩, -, X', hS', hg, ⟨Lc, ⟨hQ, hF, hE', hI'⟩, l1, c1, s1⟩, st⟩ := callSS P.1 H.1 (P.cl H) (mvT (s := C.s.setVm vm0) P.2.1 w1) (mvT (s := C.s.setVm vm0) P.2.1 w2) (mvT (s := C.s.setVm vm0) P.2.1 w3) (mvT (s := C.s.setVm vm0) P.2.1 w4) hy (hc.backS P.2.1 P.2.2.2.2.1 P.2.2.2.2.2.2.2.2.1 w4 w3 hf hl) (g := mkF C.m pc L (argsL.reverse ++ rest)) rfl (by rw [H.2.2.1]; exact hL) hlen rfl (by show 2 * 0 + _ ≤ _; omega) (H.dec hd) (fun _ _ => ⟨rfl, P.2.2.1, hk, hn⟩)
    obtain ⟨s₂, o, h1, r⟩ := kk v U.heap hQ U U.vm _ (P.afterS X' hS' hg hF hE' hI' l1 c1 s1 hb)
    exact ⟨s₂, o, st.trans h1, r⟩
theorem r_special (H : Stn C Z own by_ mL rt nm q) (pc' : Nat) {idx : Nat} {y : MethodName} {yb : ByteArray} {ymL : Nat} {Ry : Room} {To' : List String} {f' : Nat} {Qy : Option Value → Heap → Prop} {a : Addr} {argsL rest : List Value} {W : Nat} (hd : decode by_ pc = .ok (.invokespecial idx, 3)) (w1 : (Cond.methodLink own idx y).before a0 Z = true) (w2 : (Cond.instanceMethod y).before a0 Z = true) (w3 : (Cond.initialized y.cls).before a0 Z = true) (w4 : (Cond.code y yb ymL none).before a0 Z = true) (hy : y.cls ≠ "java/lang/invoke/MethodHandle" ∧ y.cls ≠ "java/lang/invoke/VarHandle") (hy1 : y.name = "<init>") (hlen : ∀ sig, parseMethodDescriptor y.desc = some sig → argsL.length = sig.parameters.length) (hc : Con w [] Z y yb ymL none Ry Ts To' f' (.ref a :: argsL).toArray h Qy) (hs : S = argsL.reverse ++ .ref a :: rest) (hW : (rest.map fun v => v.category).sum ≤ W) (hL : L.size = mL) (hf : Ry.frames + 1 ≤ R.frames) (hl : W + (ymL + 11) + Ry.locals ≤ R.locals) (hk : k + Ry.cells ≤ R.cells) (hn : n + Ry.slots ≤ R.slots) (hb : b ≤ f') (hp : pc' = pc + 3) (kk : ∀ v h', Qy v h' → Run C Z R w To f Q b To' Li h' (k + Ry.cells) (n + Ry.slots) pc' L (v.toList ++ rest)) : Run C Z R w To f Q b Ts Li h k n pc L S := by
  subst hp hs
  intro T vm0 locs P
  cases w with
  | false =>
    obtain ⟨v, vm₁, ⟨U, ls, ce, sl⟩, -, X', ⟨Lc, ⟨hQ, hF, hE', hI'⟩, l1, c1, s1⟩, st⟩ := P.1.specialBack H.1 hy1 (P.cl H) (mvT (s := C.s.setVm vm0) P.2.1 w1) (mvT (s := C.s.setVm vm0) P.2.1 w2) (mvT (s := C.s.setVm vm0) P.2.1 w4) hy (hc.back P.2.1 P.2.2.2.2.1 P.2.2.2.2.2.2.2.2.1 w4 w3 hf hl) (g := mkF C.m pc L (argsL.reverse ++ .ref a :: rest)) rfl (by rw [H.2.2.1]; exact hL) (Steps.refl _) (a := a) hlen rfl (by show 2 * 0 + _ ≤ _; omega) (H.dec hd) (fun _ _ => ⟨rfl, P.2.2.1, hk, hn⟩)
    obtain ⟨s₂, o, h1, r⟩ := kk v U.heap hQ U vm0 _ (P.afterN X' hF hE' hI' l1 c1 s1 hb)
    exact ⟨s₂, o, st.trans h1, r⟩
  | true =>
    obtain ⟨v, vm₁, ⟨U, ls, ce, sl⟩, -, X', hS', hg, ⟨Lc, ⟨hQ, hF, hE', hI'⟩, l1, c1, s1⟩, st⟩ := P.1.specialBackS H.1 hy1 (P.cl H) (mvT (s := C.s.setVm vm0) P.2.1 w1) (mvT (s := C.s.setVm vm0) P.2.1 w2) (mvT (s := C.s.setVm vm0) P.2.1 w4) hy (hc.backS P.2.1 P.2.2.2.2.1 P.2.2.2.2.2.2.2.2.1 w4 w3 hf hl) (g := mkF C.m pc L (argsL.reverse ++ .ref a :: rest)) rfl (by rw [H.2.2.1]; exact hL) (Steps.refl _) (a := a) hlen rfl (by show 2 * 0 + _ ≤ _; omega) (H.dec hd) (fun _ _ => ⟨rfl, P.2.2.1, hk, hn⟩)
    obtain ⟨s₂, o, h1, r⟩ := kk v U.heap hQ U U.vm _ (P.afterS X' hS' hg hF hE' hI' l1 c1 s1 hb)
    exact ⟨s₂, o, st.trans h1, r⟩
theorem r_virtual (H : Stn C Z own by_ mL rt nm q) (pc' : Nat) {idx : Nat} {y : MethodName} {yb : ByteArray} {ymL : Nat} {yrt : Option FieldType} {Ry : Room} {To' : List String} {f' : Nat} {Qy : Option Value → Heap → Prop} {z : MethodName} {CC : String} {a : Addr} {argsL rest : List Value} {W : Nat} (hd : decode by_ pc = .ok (.invokevirtual idx, 3)) (w1 : (Cond.methodLink own idx y).before a0 Z = true) (wd : (Cond.declares y).before a0 Z = true) (hnf : ∀ vm0, Z.Warmed39 vm0 → NotFace (C.s.setVm vm0) y) (w2 : (Cond.selects CC y z).before a0 Z = true) (w5 : (Cond.instanceMethod z).before a0 Z = true) (w3 : (Cond.initialized z.cls).before a0 Z = true) (w4 : (Cond.code z yb ymL yrt).before a0 Z = true) (hy : y.cls ≠ "java/lang/invoke/MethodHandle" ∧ y.cls ≠ "java/lang/invoke/VarHandle") (E : Exa Z h a CC) (hlen : ∀ sig, parseMethodDescriptor y.desc = some sig → argsL.length = sig.parameters.length) (hc : Con w [] Z z yb ymL yrt Ry Ts To' f' (.ref a :: argsL).toArray h Qy) (hs : S = argsL.reverse ++ .ref a :: rest) (hW : (rest.map fun v => v.category).sum ≤ W) (hL : L.size = mL) (hf : Ry.frames + 1 ≤ R.frames) (hl : W + (ymL + 11) + Ry.locals ≤ R.locals) (hk : k + Ry.cells ≤ R.cells) (hn : n + Ry.slots ≤ R.slots) (hb : b ≤ f') (hp : pc' = pc + 3) (kk : ∀ v h', Qy v h' → Run C Z R w To f Q b To' Li h' (k + Ry.cells) (n + Ry.slots) pc' L (v.toList ++ rest)) : Run C Z R w To f Q b Ts Li h k n pc L S := by
  subst hp hs
  intro T vm0 locs P
  obtain ⟨cB, kB, q1, q2, q3⟩ := isOf (T := T) (s := C.s.setVm vm0) P.2.1 P.2.2.1 E
  cases w with
  | false =>
    obtain ⟨v, vm₁, ⟨U, ls, ce, sl⟩, -, X', ⟨Lc, ⟨hQ, hF, hE', hI'⟩, l1, c1, s1⟩, st⟩ := P.1.virtualBack H.1 (P.cl H) (mvT (s := C.s.setVm vm0) P.2.1 w1) (mvT (s := C.s.setVm vm0) P.2.1 wd) (hnf vm0 P.2.1) (mvT (s := C.s.setVm vm0) P.2.1 w2) (mvT (s := C.s.setVm vm0) P.2.1 w5) hy (hc.back P.2.1 P.2.2.2.2.1 P.2.2.2.2.2.2.2.2.1 w4 w3 hf hl) q1 q3 (g := mkF C.m pc L (argsL.reverse ++ .ref a :: rest)) rfl (by rw [H.2.2.1]; exact hL) (Steps.refl _) hlen rfl (by show 2 * 0 + _ ≤ _; omega) (H.dec hd) (fun _ _ => ⟨rfl, P.2.2.1, hk, hn⟩)
    obtain ⟨s₂, o, h1, r⟩ := kk v U.heap hQ U vm0 _ (P.afterN X' hF hE' hI' l1 c1 s1 hb)
    exact ⟨s₂, o, st.trans h1, r⟩
  | true =>
    obtain ⟨v, vm₁, ⟨U, ls, ce, sl⟩, -, X', hS', hg, ⟨Lc, ⟨hQ, hF, hE', hI'⟩, l1, c1, s1⟩, st⟩ := P.1.virtualBackS H.1 (P.cl H) (mvT (s := C.s.setVm vm0) P.2.1 w1) (mvT (s := C.s.setVm vm0) P.2.1 wd) (hnf vm0 P.2.1) (mvT (s := C.s.setVm vm0) P.2.1 w2) (mvT (s := C.s.setVm vm0) P.2.1 w5) hy (hc.backS P.2.1 P.2.2.2.2.1 P.2.2.2.2.2.2.2.2.1 w4 w3 hf hl) q1 q3 (g := mkF C.m pc L (argsL.reverse ++ .ref a :: rest)) rfl (by rw [H.2.2.1]; exact hL) (Steps.refl _) hlen rfl (by show 2 * 0 + _ ≤ _; omega) (H.dec hd) (fun _ _ => ⟨rfl, P.2.2.1, hk, hn⟩)
    obtain ⟨s₂, o, h1, r⟩ := kk v U.heap hQ U U.vm _ (P.afterS X' hS' hg hF hE' hI' l1 c1 s1 hb)
    exact ⟨s₂, o, st.trans h1, r⟩
theorem nf_sel {vmS : State} {CC : String} {y : MethodName} (w2 : (Cond.selects CC y y).before a0 Z = true) : ∀ vm0, Z.Warmed39 vm0 → NotFace (vmS.setVm vm0) y := fun vm0 hZ => notFace_of_selects (args := #[]) (mvT (s := vmS.setVm vm0) hZ w2)
theorem r_ldcS (H : Stn C Z own by_ mL rt nm b) (pc' : Nat) {idx : Nat} {text : String} {vs : List Value} {z : Int32} (ns : Nat) (hd : decode by_ pc = .ok (.ldc idx, 2)) (w1 : (Cond.stringLink own idx text).before a0 Z = true) (wS : ∀ a ∈ Bundle.stringAtoms, a.before a0 Z = true) (hnot : text ∉ Ts) (hh : Jvm.Lit.constHeld Z own idx) (hcw : Jvm.Lit.compactW.before a0 Z = true)
    (ht : (∀ c ∈ text.toList, c.toNat < 256) ∧ text.toList.map (fun c => Value.int (Jvm.Lit.byteI c.toNat.toUInt16)) = vs) (hz : ¬ z < 0) (hl : z.toNatClampNeg = vs.length) (hns : 4 * text.toList.length ≤ ns) (hbig : ns ≤ 536870912) (hc : k + 2 ≤ R.cells) (hsl : n + (ns + 4) ≤ R.slots) (hp : pc' = pc + 2)
    (kk : ∀ h' a v kc, Keep h h' [] → Exa Z h' a "java/lang/String" → Fld Z h' a "java/lang/String" "coder" "B" (.int 0) → Fld Z h' a "java/lang/String" "value" "[B" (.ref v) → Ar Z h' v kc .byte vs → ((a < b ∧ v < b) ∨ (h.size ≤ a ∧ h.size ≤ v)) → Run C Z R true To f Q b (text :: Ts) [(own, idx, a)] h' (k + 2) (n + (ns + 4)) pc' L (.ref a :: S)) : Run C Z R true To f Q b Ts Li h k n pc L S := by
  subst hp
  intro T vm0 locs P
  obtain ⟨X, hZ, eT, hS, hI, hw, N, hzz, hE, hq, hL⟩ := P
  obtain ⟨a, T', h', k1, v, kc, X', e', E, hS', hk1, hW', ho', x1, x2, x3, x4, x5, x6, hI', hLit, hwh, st⟩ := ldcSVd X H.1 hZ (H.cl hS) w1 wS eT hS (Nat.le_refl _) (by rw [H.2.2.2.2.2.2.1]; exact N) (fun bb cl r => H.2.2.2.2.2.2.2.1.2 bb cl r) hI hnot hh hcw ht hz hl (g := mkF C.m pc L S) rfl (H.dec hd) hns hbig hc hsl
  subst e'
  obtain ⟨s₂, o, h1, r⟩ := kk T'.heap a v kc (Keep.of_ext E) x1 x2 x3 (Ar.of_arv x4 hl) (by rw [← H.2.2.2.2.2.2.1]; exact hwh) T' T'.vm locs ⟨X', hW', rfl, since_same hS' hk1, hI', fun e => (by cases e), N, hzz, ⟨Nat.le_trans hE.1 E.1, fun x c r => E.2 x c (hE.2 x c r)⟩, Nat.le_trans hq E.1, fun x hx => (by cases List.mem_singleton.mp hx; exact hLit)⟩
  exact ⟨s₂, o, st _ h1, r⟩
theorem r_ldcA (H : Stn C Z own by_ mL rt nm q) (pc' : Nat) {idx : Nat} {text : String} {a : Addr} (hd : decode by_ pc = .ok (.ldc idx, 2)) (w1 : (Cond.stringLink own idx text).before a0 Z = true) (hm : (own, idx, a) ∈ Li) (hp : pc' = pc + 2)
    (kk : Run C Z R w To f Q b Ts Li h k n pc' L (.ref a :: S)) : Run C Z R w To f Q b Ts Li h k n pc L S := by
  subst hp
  exact kk.hold fun T vm0 locs P => ⟨T, P.1, P.2.2.1, ldcAgain P.1 H.1 P.2.1 (P.cl H) w1 (P.2.2.2.2.2.2.2.2.2.2 _ hm) (g := mkF C.m pc L S) rfl (H.dec hd)⟩

theorem Run.join {P : Int32 → Prop} {pcB : Nat} {LB : Int32 → Array Slot} {SB : Int32 → List Value} (k2 : (∀ z, P z → Run C Z R w To f Q b Ts Li h k n pcB (LB z) (SB z)) → Run C Z R w To f Q b Ts Li h k n pc L S)
    (k1 : ∀ z, P z → Run C Z R w To f Q b Ts Li h k n pcB (LB z) (SB z)) : Run C Z R w To f Q b Ts Li h k n pc L S := k2 k1
end Walk
theorem ushr_eq (x y : Int32) (k : Nat) (hk : y.toBitVec.toNat % 32 = k) (h0 : 0 < k) : (ush32 x y).toInt = (x.toInt % 4294967296) / (2 ^ k : Nat) := c_iushr x y k hk h0
theorem i2c_id {x : Int32} (h : 0 ≤ x.toInt ∧ x.toInt ≤ 65535) : x.toUInt32.toUInt16.toUInt32.toInt32 = x := by
  apply Int32.toInt_inj.mp; have := c_i2c x; omega
theorem i2b_id {x : Int32} (h : -128 ≤ x.toInt ∧ x.toInt ≤ 127) : x.toInt8.toInt32 = x := by
  apply Int32.toInt_inj.mp; have := c_i2b x; omega
theorem and1_id {x : Int32} (h : 0 ≤ x.toInt ∧ x.toInt ≤ 1) : x &&& 1 = x := by
  apply Int32.toInt_inj.mp; have h1 := c_mask x 1 1 (by decide) (by decide); rw [h1]; omega
theorem nar_char_id {x : Int32} (h : 0 ≤ x.toInt ∧ x.toInt ≤ 65535) : nar .char x = x := i2c_id h
theorem nar_byte_id {x : Int32} (h : -128 ≤ x.toInt ∧ x.toInt ≤ 127) : nar .byte x = x := i2b_id h
theorem nar_bool_id {x : Int32} (h : 0 ≤ x.toInt ∧ x.toInt ≤ 1) : nar .boolean x = x := and1_id h
theorem ne_ar {Z : State} {h : Heap} {a0 : Array Value} {a b : Addr} {CC : String} {k : Nat} {kc : ClassId} {ty : FieldType} {vs : List Value} (E : Exa Z h a CC) (wi : (Cond.instantiable CC k).before a0 Z = true) (F : Ar Z h b kc ty vs) : a ≠ b := by
  obtain ⟨c, A, -⟩ := F; exact ne_arr E wi A
abbrev cB8 (c : Int32) : Int32 := c.toInt8.toInt32
theorem str_eqv {Z : State} {h : Heap} {a v1 v2 : Addr} {k1 k2 : ClassId} {vs1 vs2 : List Value} (F1 : Fld Z h a "java/lang/String" "value" "[B" (.ref v1)) (F2 : Fld Z h a "java/lang/String" "value" "[B" (.ref v2)) (A1 : Ar Z h v1 k1 .byte vs1) (A2 : Ar Z h v2 k2 .byte vs2) : vs1 = vs2 := by
  obtain ⟨c1, _, _, _, _, h1, h2, -, -, -, -, h7⟩ := F1
  obtain ⟨c2, _, _, _, _, g1, g2, -, -, -, -, g7⟩ := F2
  cases h1.symm.trans g1; cases h2.symm.trans g2; cases h7.symm.trans g7
  obtain ⟨d1, B1, -, e1, -⟩ := A1
  obtain ⟨d2, B2, -, e2, -⟩ := A2
  cases B1.1.symm.trans B2.1
  have := e1.symm.trans e2
  simpa using this
theorem nin_cons {a b : String} {l : List String} (h : a ≠ b) (g : a ∉ l) : a ∉ b :: l := by
  intro m; rcases List.mem_cons.mp m with e | e; exact h e; exact g e

theorem nlr {n : Nat} : n ≤ n := Nat.le_refl n
theorem nlt {a b c : Nat} (h : a ≤ b) (g : b ≤ c) : a ≤ c := Nat.le_trans h g
theorem nlq {a b : Nat} (h : a = b) : a ≤ b := Nat.le_of_eq h
theorem own_cb {x v : Int32} (h : 0 ≤ x.toInt ∧ x.toInt ≤ 255) (hv : 0 ≤ v.toInt ∧ v.toInt ≤ 127) : (cB8 x = v) = (x = v) := by
  apply propext; constructor
  · intro e; apply Int32.toInt_inj.mp; have := c_i2b x; rw [← e] at hv ⊢; show x.toInt = (x.toInt8.toInt32).toInt; change 0 ≤ (x.toInt8.toInt32).toInt ∧ (x.toInt8.toInt32).toInt ≤ 127 at hv; omega
  · intro e; subst e; exact i2b_id (by omega)
abbrev HW (a0 : Array Value) (Z : State) : Prop := ∀ d ∈ tables_1, d.before a0 Z = true
abbrev G_S_cs (Z : State) (cs : Int32) : Prop := Sta Z Z.heap "java/lang/String" "COMPACT_STRINGS" "Z" (.int cs)
abbrev G_wS (Z : State) (a0 : Array Value) : Prop := ∀ a ∈ Bundle.stringAtoms, a.before a0 Z = true
abbrev G_hcw (Z : State) (a0 : Array Value) : Prop := Jvm.Lit.compactW.before a0 Z = true
abbrev G_hh0 (Z : State) : Prop := Jvm.Lit.constHeld Z "com/example/maniera/maniera/cli/CommandLine" 133
abbrev G_hh1 (Z : State) : Prop := Jvm.Lit.constHeld Z "com/example/maniera/maniera/cli/CommandLine" 135
abbrev G_hh2 (Z : State) : Prop := Jvm.Lit.constHeld Z "java/lang/String" 7
theorem tw0 {Z : State} {a0 : Array Value} (hw : HW a0 Z) : ((Jvm.Cond.arrayClass Jvm.ClassFile.FieldType.char)).before a0 Z = true := hw _ (List.mem_of_getElem? (i := 0) rfl)
theorem tw1 {Z : State} {a0 : Array Value} (hw : HW a0 Z) : ((Jvm.Cond.methodLink "com/example/maniera/maniera/cli/CommandLineIsHelpPinLaw" (7 : Nat) ({ cls := "com/example/maniera/maniera/cli/CommandLineIsHelpPinLaw", name := "pick", desc := "(I)C" } : Jvm.MethodName))).before a0 Z = true := hw _ (List.mem_of_getElem? (i := 1) rfl)
theorem tw2 {Z : State} {a0 : Array Value} (hw : HW a0 Z) : ((Jvm.Cond.static ({ cls := "com/example/maniera/maniera/cli/CommandLineIsHelpPinLaw", name := "pick", desc := "(I)C" } : Jvm.MethodName))).before a0 Z = true := hw _ (List.mem_of_getElem? (i := 2) rfl)
theorem tw3 {Z : State} {a0 : Array Value} (hw : HW a0 Z) : ((Jvm.Cond.initialized "com/example/maniera/maniera/cli/CommandLineIsHelpPinLaw")).before a0 Z = true := hw _ (List.mem_of_getElem? (i := 3) rfl)
theorem tw4 {Z : State} {a0 : Array Value} (hw : HW a0 Z) : ((Jvm.Cond.code ({ cls := "com/example/maniera/maniera/cli/CommandLineIsHelpPinLaw", name := "pick", desc := "(I)C" } : Jvm.MethodName) method_3_code (2 : Nat) (Option.some Jvm.ClassFile.FieldType.char))).before a0 Z = true := hw _ (List.mem_of_getElem? (i := 4) rfl)
theorem tw5 {Z : State} {a0 : Array Value} (hw : HW a0 Z) : ((Jvm.Cond.methodLink "com/example/maniera/maniera/cli/CommandLineIsHelpPinLaw" (14 : Nat) ({ cls := "com/example/maniera/maniera/cli/CommandLineIsHelpPinLaw", name := "word", desc := "([CI)Ljava/lang/String;" } : Jvm.MethodName))).before a0 Z = true := hw _ (List.mem_of_getElem? (i := 5) rfl)
theorem tw6 {Z : State} {a0 : Array Value} (hw : HW a0 Z) : ((Jvm.Cond.static ({ cls := "com/example/maniera/maniera/cli/CommandLineIsHelpPinLaw", name := "word", desc := "([CI)Ljava/lang/String;" } : Jvm.MethodName))).before a0 Z = true := hw _ (List.mem_of_getElem? (i := 6) rfl)
theorem tw7 {Z : State} {a0 : Array Value} (hw : HW a0 Z) : ((Jvm.Cond.code ({ cls := "com/example/maniera/maniera/cli/CommandLineIsHelpPinLaw", name := "word", desc := "([CI)Ljava/lang/String;" } : Jvm.MethodName) method_4_code (2 : Nat) (Option.some (Jvm.ClassFile.FieldType.object "java/lang/String")))).before a0 Z = true := hw _ (List.mem_of_getElem? (i := 7) rfl)
theorem tw8 {Z : State} {a0 : Array Value} (hw : HW a0 Z) : ((Jvm.Cond.classLink "com/example/maniera/maniera/cli/CommandLineIsHelpPinLaw" (24 : Nat) "java/lang/String")).before a0 Z = true := hw _ (List.mem_of_getElem? (i := 8) rfl)
theorem tw9 {Z : State} {a0 : Array Value} (hw : HW a0 Z) : ((Jvm.Cond.instantiable "java/lang/String" (4 : Nat))).before a0 Z = true := hw _ (List.mem_of_getElem? (i := 9) rfl)
theorem tw10 {Z : State} {a0 : Array Value} (hw : HW a0 Z) : ((Jvm.Cond.initialized "java/lang/String")).before a0 Z = true := hw _ (List.mem_of_getElem? (i := 10) rfl)
theorem tw11 {Z : State} {a0 : Array Value} (hw : HW a0 Z) : ((Jvm.Cond.methodLink "com/example/maniera/maniera/cli/CommandLineIsHelpPinLaw" (26 : Nat) ({ cls := "java/lang/String", name := "<init>", desc := "([C)V" } : Jvm.MethodName))).before a0 Z = true := hw _ (List.mem_of_getElem? (i := 11) rfl)
theorem tw12 {Z : State} {a0 : Array Value} (hw : HW a0 Z) : ((Jvm.Cond.instanceMethod ({ cls := "java/lang/String", name := "<init>", desc := "([C)V" } : Jvm.MethodName))).before a0 Z = true := hw _ (List.mem_of_getElem? (i := 12) rfl)
theorem tw13 {Z : State} {a0 : Array Value} (hw : HW a0 Z) : ((Jvm.Cond.code ({ cls := "java/lang/String", name := "<init>", desc := "([C)V" } : Jvm.MethodName) jdk_42_method_3_code (2 : Nat) (Option.none : Option Jvm.ClassFile.FieldType))).before a0 Z = true := hw _ (List.mem_of_getElem? (i := 13) rfl)
theorem tw14 {Z : State} {a0 : Array Value} (hw : HW a0 Z) : ((Jvm.Cond.methodLink "java/lang/String" (27 : Nat) ({ cls := "java/lang/String", name := "<init>", desc := "([CIILjava/lang/Void;)V" } : Jvm.MethodName))).before a0 Z = true := hw _ (List.mem_of_getElem? (i := 14) rfl)
theorem tw15 {Z : State} {a0 : Array Value} (hw : HW a0 Z) : ((Jvm.Cond.instanceMethod ({ cls := "java/lang/String", name := "<init>", desc := "([CIILjava/lang/Void;)V" } : Jvm.MethodName))).before a0 Z = true := hw _ (List.mem_of_getElem? (i := 15) rfl)
theorem tw17 {Z : State} {a0 : Array Value} (hw : HW a0 Z) : ((Jvm.Cond.code ({ cls := "java/lang/String", name := "<init>", desc := "([CIILjava/lang/Void;)V" } : Jvm.MethodName) jdk_42_method_149_code (6 : Nat) (Option.none : Option Jvm.ClassFile.FieldType))).before a0 Z = true := hw _ (List.mem_of_getElem? (i := 17) rfl)
theorem tw18 {Z : State} {a0 : Array Value} (hw : HW a0 Z) : ((Jvm.Cond.methodLink "java/lang/String" (1 : Nat) ({ cls := "java/lang/Object", name := "<init>", desc := "()V" } : Jvm.MethodName))).before a0 Z = true := hw _ (List.mem_of_getElem? (i := 18) rfl)
theorem tw19 {Z : State} {a0 : Array Value} (hw : HW a0 Z) : ((Jvm.Cond.instanceMethod ({ cls := "java/lang/Object", name := "<init>", desc := "()V" } : Jvm.MethodName))).before a0 Z = true := hw _ (List.mem_of_getElem? (i := 19) rfl)
theorem tw20 {Z : State} {a0 : Array Value} (hw : HW a0 Z) : ((Jvm.Cond.code ({ cls := "java/lang/Object", name := "<init>", desc := "()V" } : Jvm.MethodName) object_method_1_code (1 : Nat) (Option.none : Option Jvm.ClassFile.FieldType))).before a0 Z = true := hw _ (List.mem_of_getElem? (i := 20) rfl)
theorem tw21 {Z : State} {a0 : Array Value} (hw : HW a0 Z) : ((Jvm.Cond.fieldLink "java/lang/String" (38 : Nat) "java/lang/String" "COMPACT_STRINGS" "Z")).before a0 Z = true := hw _ (List.mem_of_getElem? (i := 21) rfl)
theorem tw22 {Z : State} {a0 : Array Value} (hw : HW a0 Z) : ((Jvm.Cond.methodLink "java/lang/String" (177 : Nat) ({ cls := "java/lang/StringUTF16", name := "compress", desc := "([CII)[B" } : Jvm.MethodName))).before a0 Z = true := hw _ (List.mem_of_getElem? (i := 22) rfl)
theorem tw23 {Z : State} {a0 : Array Value} (hw : HW a0 Z) : ((Jvm.Cond.static ({ cls := "java/lang/StringUTF16", name := "compress", desc := "([CII)[B" } : Jvm.MethodName))).before a0 Z = true := hw _ (List.mem_of_getElem? (i := 23) rfl)
theorem tw24 {Z : State} {a0 : Array Value} (hw : HW a0 Z) : ((Jvm.Cond.initialized "java/lang/StringUTF16")).before a0 Z = true := hw _ (List.mem_of_getElem? (i := 24) rfl)
theorem tw25 {Z : State} {a0 : Array Value} (hw : HW a0 Z) : ((Jvm.Cond.code ({ cls := "java/lang/StringUTF16", name := "compress", desc := "([CII)[B" } : Jvm.MethodName) jdk_52_method_16_code (6 : Nat) (Option.some (Jvm.ClassFile.FieldType.array Jvm.ClassFile.FieldType.byte)))).before a0 Z = true := hw _ (List.mem_of_getElem? (i := 25) rfl)
theorem tw26 {Z : State} {a0 : Array Value} (hw : HW a0 Z) : ((Jvm.Cond.arrayClass Jvm.ClassFile.FieldType.byte)).before a0 Z = true := hw _ (List.mem_of_getElem? (i := 26) rfl)
theorem tw27 {Z : State} {a0 : Array Value} (hw : HW a0 Z) : ((Jvm.Cond.methodLink "java/lang/StringUTF16" (115 : Nat) ({ cls := "java/lang/StringUTF16", name := "compress", desc := "([CI[BII)I" } : Jvm.MethodName))).before a0 Z = true := hw _ (List.mem_of_getElem? (i := 27) rfl)
theorem tw28 {Z : State} {a0 : Array Value} (hw : HW a0 Z) : ((Jvm.Cond.static ({ cls := "java/lang/StringUTF16", name := "compress", desc := "([CI[BII)I" } : Jvm.MethodName))).before a0 Z = true := hw _ (List.mem_of_getElem? (i := 28) rfl)
theorem tw29 {Z : State} {a0 : Array Value} (hw : HW a0 Z) : ((Jvm.Cond.code ({ cls := "java/lang/StringUTF16", name := "compress", desc := "([CI[BII)I" } : Jvm.MethodName) jdk_52_method_21_code (7 : Nat) (Option.some Jvm.ClassFile.FieldType.int))).before a0 Z = true := hw _ (List.mem_of_getElem? (i := 29) rfl)
theorem tw30 {Z : State} {a0 : Array Value} (hw : HW a0 Z) : ((Jvm.Cond.methodLink "java/lang/String" (47 : Nat) ({ cls := "java/lang/StringUTF16", name := "coderFromArrayLen", desc := "([BI)B" } : Jvm.MethodName))).before a0 Z = true := hw _ (List.mem_of_getElem? (i := 30) rfl)
theorem tw31 {Z : State} {a0 : Array Value} (hw : HW a0 Z) : ((Jvm.Cond.static ({ cls := "java/lang/StringUTF16", name := "coderFromArrayLen", desc := "([BI)B" } : Jvm.MethodName))).before a0 Z = true := hw _ (List.mem_of_getElem? (i := 31) rfl)
theorem tw32 {Z : State} {a0 : Array Value} (hw : HW a0 Z) : ((Jvm.Cond.code ({ cls := "java/lang/StringUTF16", name := "coderFromArrayLen", desc := "([BI)B" } : Jvm.MethodName) jdk_52_method_15_code (2 : Nat) (Option.some Jvm.ClassFile.FieldType.byte))).before a0 Z = true := hw _ (List.mem_of_getElem? (i := 32) rfl)
theorem tw33 {Z : State} {a0 : Array Value} (hw : HW a0 Z) : ((Jvm.Cond.fieldLink "java/lang/String" (15 : Nat) "java/lang/String" "coder" "B")).before a0 Z = true := hw _ (List.mem_of_getElem? (i := 33) rfl)
theorem tw34 {Z : State} {a0 : Array Value} (hw : HW a0 Z) : ((Jvm.Cond.laysFinal "java/lang/String" "java/lang/String" "coder" "B")).before a0 Z = true := hw _ (List.mem_of_getElem? (i := 34) rfl)
theorem tw35 {Z : State} {a0 : Array Value} (hw : HW a0 Z) : ((Jvm.Cond.fieldLink "java/lang/String" (9 : Nat) "java/lang/String" "value" "[B")).before a0 Z = true := hw _ (List.mem_of_getElem? (i := 35) rfl)
theorem tw36 {Z : State} {a0 : Array Value} (hw : HW a0 Z) : ((Jvm.Cond.laysFinal "java/lang/String" "java/lang/String" "value" "[B")).before a0 Z = true := hw _ (List.mem_of_getElem? (i := 36) rfl)
theorem tw37 {Z : State} {a0 : Array Value} (hw : HW a0 Z) : ((Jvm.Cond.methodLink "com/example/maniera/maniera/cli/CommandLineIsHelpPinLaw" (18 : Nat) ({ cls := "com/example/maniera/maniera/cli/CommandLine", name := "isHelp", desc := "(Ljava/lang/String;)Z" } : Jvm.MethodName))).before a0 Z = true := hw _ (List.mem_of_getElem? (i := 37) rfl)
theorem tw38 {Z : State} {a0 : Array Value} (hw : HW a0 Z) : ((Jvm.Cond.static ({ cls := "com/example/maniera/maniera/cli/CommandLine", name := "isHelp", desc := "(Ljava/lang/String;)Z" } : Jvm.MethodName))).before a0 Z = true := hw _ (List.mem_of_getElem? (i := 38) rfl)
theorem tw39 {Z : State} {a0 : Array Value} (hw : HW a0 Z) : ((Jvm.Cond.initialized "com/example/maniera/maniera/cli/CommandLine")).before a0 Z = true := hw _ (List.mem_of_getElem? (i := 39) rfl)
theorem tw40 {Z : State} {a0 : Array Value} (hw : HW a0 Z) : ((Jvm.Cond.code ({ cls := "com/example/maniera/maniera/cli/CommandLine", name := "isHelp", desc := "(Ljava/lang/String;)Z" } : Jvm.MethodName) prog_2_method_4_code (1 : Nat) (Option.some Jvm.ClassFile.FieldType.boolean))).before a0 Z = true := hw _ (List.mem_of_getElem? (i := 40) rfl)
theorem tw41 {Z : State} {a0 : Array Value} (hw : HW a0 Z) : ((Jvm.Cond.stringLink "com/example/maniera/maniera/cli/CommandLine" (133 : Nat) "--help")).before a0 Z = true := hw _ (List.mem_of_getElem? (i := 41) rfl)
theorem tw42 {Z : State} {a0 : Array Value} (hw : HW a0 Z) : ((Jvm.Cond.soleField "java/lang/String" "value")).before a0 Z = true := hw _ (List.mem_of_getElem? (i := 42) rfl)
theorem tw43 {Z : State} {a0 : Array Value} (hw : HW a0 Z) : ((Jvm.Cond.soleField "java/lang/String" "coder")).before a0 Z = true := hw _ (List.mem_of_getElem? (i := 43) rfl)
theorem tw44 {Z : State} {a0 : Array Value} (hw : HW a0 Z) : ((Jvm.Cond.methodLink "com/example/maniera/maniera/cli/CommandLine" (105 : Nat) ({ cls := "java/lang/String", name := "equals", desc := "(Ljava/lang/Object;)Z" } : Jvm.MethodName))).before a0 Z = true := hw _ (List.mem_of_getElem? (i := 44) rfl)
theorem tw45 {Z : State} {a0 : Array Value} (hw : HW a0 Z) : ((Jvm.Cond.declares ({ cls := "java/lang/String", name := "equals", desc := "(Ljava/lang/Object;)Z" } : Jvm.MethodName))).before a0 Z = true := hw _ (List.mem_of_getElem? (i := 45) rfl)
theorem tw46 {Z : State} {a0 : Array Value} (hw : HW a0 Z) : ((Jvm.Cond.instanceMethod ({ cls := "java/lang/String", name := "equals", desc := "(Ljava/lang/Object;)Z" } : Jvm.MethodName))).before a0 Z = true := hw _ (List.mem_of_getElem? (i := 46) rfl)
theorem tw47 {Z : State} {a0 : Array Value} (hw : HW a0 Z) : ((Jvm.Cond.selects "java/lang/String" ({ cls := "java/lang/String", name := "equals", desc := "(Ljava/lang/Object;)Z" } : Jvm.MethodName) ({ cls := "java/lang/String", name := "equals", desc := "(Ljava/lang/Object;)Z" } : Jvm.MethodName))).before a0 Z = true := hw _ (List.mem_of_getElem? (i := 47) rfl)
theorem tw48 {Z : State} {a0 : Array Value} (hw : HW a0 Z) : ((Jvm.Cond.code ({ cls := "java/lang/String", name := "equals", desc := "(Ljava/lang/Object;)Z" } : Jvm.MethodName) jdk_42_method_66_code (3 : Nat) (Option.some Jvm.ClassFile.FieldType.boolean))).before a0 Z = true := hw _ (List.mem_of_getElem? (i := 48) rfl)
theorem tw49 {Z : State} {a0 : Array Value} (hw : HW a0 Z) : ((Jvm.Cond.classLink "java/lang/String" (10 : Nat) "java/lang/String")).before a0 Z = true := hw _ (List.mem_of_getElem? (i := 49) rfl)
theorem tw50 {Z : State} {a0 : Array Value} (hw : HW a0 Z) : ((Jvm.Cond.methodLink "java/lang/String" (541 : Nat) ({ cls := "java/lang/StringLatin1", name := "equals", desc := "([B[B)Z" } : Jvm.MethodName))).before a0 Z = true := hw _ (List.mem_of_getElem? (i := 50) rfl)
theorem tw51 {Z : State} {a0 : Array Value} (hw : HW a0 Z) : ((Jvm.Cond.static ({ cls := "java/lang/StringLatin1", name := "equals", desc := "([B[B)Z" } : Jvm.MethodName))).before a0 Z = true := hw _ (List.mem_of_getElem? (i := 51) rfl)
theorem tw52 {Z : State} {a0 : Array Value} (hw : HW a0 Z) : ((Jvm.Cond.initialized "java/lang/StringLatin1")).before a0 Z = true := hw _ (List.mem_of_getElem? (i := 52) rfl)
theorem tw53 {Z : State} {a0 : Array Value} (hw : HW a0 Z) : ((Jvm.Cond.code ({ cls := "java/lang/StringLatin1", name := "equals", desc := "([B[B)Z" } : Jvm.MethodName) jdk_43_method_13_code (3 : Nat) (Option.some Jvm.ClassFile.FieldType.boolean))).before a0 Z = true := hw _ (List.mem_of_getElem? (i := 53) rfl)
theorem tw54 {Z : State} {a0 : Array Value} (hw : HW a0 Z) : ((Jvm.Cond.stringLink "com/example/maniera/maniera/cli/CommandLine" (135 : Nat) "-h")).before a0 Z = true := hw _ (List.mem_of_getElem? (i := 54) rfl)
theorem tw55 {Z : State} {a0 : Array Value} (hw : HW a0 Z) : ((Jvm.Cond.constant "com/example/maniera/maniera/cli/CommandLineIsHelpPinLaw" (13 : Nat) (2147483647 : Int32))).before a0 Z = true := hw _ (List.mem_of_getElem? (i := 55) rfl)
theorem tw56 {Z : State} {a0 : Array Value} (hw : HW a0 Z) : ((Jvm.Cond.stringLink "java/lang/String" (7 : Nat) "")).before a0 Z = true := hw _ (List.mem_of_getElem? (i := 56) rfl)
theorem pd_0 : parseMethodDescriptor "(I)C" = some ⟨[.int], some .char⟩ := by decide +kernel
theorem pd_1 : parseMethodDescriptor "([CI[BII)I" = some ⟨[(.array .char), .int, (.array .byte), .int, .int], some .int⟩ := by decide +kernel
theorem pd_2 : parseMethodDescriptor "([CII)[B" = some ⟨[(.array .char), .int, .int], some (.array .byte)⟩ := by decide +kernel
theorem pd_3 : parseMethodDescriptor "([BI)B" = some ⟨[(.array .byte), .int], some .byte⟩ := by decide +kernel
theorem pd_4 : parseMethodDescriptor "([CIILjava/lang/Void;)V" = some ⟨[(.array .char), .int, .int, (.object "java/lang/Void")], none⟩ := by decide +kernel
theorem pd_5 : parseMethodDescriptor "([C)V" = some ⟨[(.array .char)], none⟩ := by decide +kernel
theorem pd_6 : parseMethodDescriptor "([CI)Ljava/lang/String;" = some ⟨[(.array .char), .int], some (.object "java/lang/String")⟩ := by decide +kernel
theorem pd_7 : parseMethodDescriptor "([B[B)Z" = some ⟨[(.array .byte), (.array .byte)], some .boolean⟩ := by decide +kernel
theorem pd_8 : parseMethodDescriptor "(Ljava/lang/Object;)Z" = some ⟨[(.object "java/lang/Object")], some .boolean⟩ := by decide +kernel
theorem pd_9 : parseMethodDescriptor "(Ljava/lang/String;)Z" = some ⟨[(.object "java/lang/String")], some .boolean⟩ := by decide +kernel
theorem pn_0 : plainName "com/example/maniera/maniera/cli/CommandLineIsHelpPinLaw" = true := by first | (simp [plainName, overriddenIn]; done) | decide +kernel
theorem pn_1 : plainName "java/lang/StringUTF16" = true := by first | (simp [plainName, overriddenIn]; done) | decide +kernel
theorem pn_2 : plainName "java/lang/String" = true := by first | (simp [plainName, overriddenIn]; done) | decide +kernel
theorem pn_3 : plainName "java/lang/StringLatin1" = true := by first | (simp [plainName, overriddenIn]; done) | decide +kernel
theorem pn_4 : plainName "com/example/maniera/maniera/cli/CommandLine" = true := by first | (simp [plainName, overriddenIn]; done) | decide +kernel
theorem d_3_0 : decode method_3_code 0 = .ok (.iload_n 0, 1) := by decide +kernel
theorem d_3_1 : decode method_3_code 1 = .ok (.bipush 8, 2) := by decide +kernel
theorem d_3_3 : decode method_3_code 3 = .ok (.iushr, 1) := by decide +kernel
theorem d_3_4 : decode method_3_code 4 = .ok (.bipush 7, 2) := by decide +kernel
theorem d_3_6 : decode method_3_code 6 = .ok (.iand, 1) := by decide +kernel
theorem d_3_7 : decode method_3_code 7 = .ok (.istore_n 1, 1) := by decide +kernel
theorem d_3_8 : decode method_3_code 8 = .ok (.iload_n 1, 1) := by decide +kernel
theorem d_3_9 : decode method_3_code 9 = .ok (.ifCond .ne 6, 3) := by decide +kernel
theorem d_3_15 : decode method_3_code 15 = .ok (.iload_n 1, 1) := by decide +kernel
theorem d_3_16 : decode method_3_code 16 = .ok (.iconst 1, 1) := by decide +kernel
theorem d_3_17 : decode method_3_code 17 = .ok (.if_icmp .ne 6, 3) := by decide +kernel
theorem d_3_23 : decode method_3_code 23 = .ok (.iload_n 1, 1) := by decide +kernel
theorem d_3_24 : decode method_3_code 24 = .ok (.iconst 2, 1) := by decide +kernel
theorem d_3_25 : decode method_3_code 25 = .ok (.if_icmp .ne 6, 3) := by decide +kernel
theorem d_3_31 : decode method_3_code 31 = .ok (.iload_n 1, 1) := by decide +kernel
theorem d_3_32 : decode method_3_code 32 = .ok (.iconst 3, 1) := by decide +kernel
theorem d_3_33 : decode method_3_code 33 = .ok (.if_icmp .ne 6, 3) := by decide +kernel
theorem d_3_39 : decode method_3_code 39 = .ok (.iload_n 1, 1) := by decide +kernel
theorem d_3_40 : decode method_3_code 40 = .ok (.iconst 4, 1) := by decide +kernel
theorem d_3_41 : decode method_3_code 41 = .ok (.if_icmp .ne 6, 3) := by decide +kernel
theorem d_3_47 : decode method_3_code 47 = .ok (.iload_n 0, 1) := by decide +kernel
theorem d_3_48 : decode method_3_code 48 = .ok (.sipush 255, 3) := by decide +kernel
theorem d_3_51 : decode method_3_code 51 = .ok (.iand, 1) := by decide +kernel
theorem d_3_52 : decode method_3_code 52 = .ok (.i2c, 1) := by decide +kernel
theorem d_3_53 : decode method_3_code 53 = .ok (.ireturn, 1) := by decide +kernel
theorem d_3_44 : decode method_3_code 44 = .ok (.bipush 112, 2) := by decide +kernel
theorem d_3_46 : decode method_3_code 46 = .ok (.ireturn, 1) := by decide +kernel
theorem d_3_36 : decode method_3_code 36 = .ok (.bipush 108, 2) := by decide +kernel
theorem d_3_38 : decode method_3_code 38 = .ok (.ireturn, 1) := by decide +kernel
theorem d_3_28 : decode method_3_code 28 = .ok (.bipush 101, 2) := by decide +kernel
theorem d_3_30 : decode method_3_code 30 = .ok (.ireturn, 1) := by decide +kernel
theorem d_3_20 : decode method_3_code 20 = .ok (.bipush 104, 2) := by decide +kernel
theorem d_3_22 : decode method_3_code 22 = .ok (.ireturn, 1) := by decide +kernel
theorem d_3_12 : decode method_3_code 12 = .ok (.bipush 45, 2) := by decide +kernel
theorem d_3_14 : decode method_3_code 14 = .ok (.ireturn, 1) := by decide +kernel
theorem d_4_0 : decode method_4_code 0 = .ok (.iload_n 1, 1) := by decide +kernel
theorem d_4_1 : decode method_4_code 1 = .ok (.ifCond .ne 14, 3) := by decide +kernel
theorem d_4_15 : decode method_4_code 15 = .ok (.iload_n 1, 1) := by decide +kernel
theorem d_4_16 : decode method_4_code 16 = .ok (.iconst 1, 1) := by decide +kernel
theorem d_4_17 : decode method_4_code 17 = .ok (.if_icmp .ne 20, 3) := by decide +kernel
theorem d_4_37 : decode method_4_code 37 = .ok (.iload_n 1, 1) := by decide +kernel
theorem d_4_38 : decode method_4_code 38 = .ok (.iconst 2, 1) := by decide +kernel
theorem d_4_39 : decode method_4_code 39 = .ok (.if_icmp .ne 26, 3) := by decide +kernel
theorem d_4_65 : decode method_4_code 65 = .ok (.iload_n 1, 1) := by decide +kernel
theorem d_4_66 : decode method_4_code 66 = .ok (.iconst 3, 1) := by decide +kernel
theorem d_4_67 : decode method_4_code 67 = .ok (.if_icmp .ne 32, 3) := by decide +kernel
theorem d_4_70 : decode method_4_code 70 = .ok (.new 24, 3) := by decide +kernel
theorem d_4_73 : decode method_4_code 73 = .ok (.dup, 1) := by decide +kernel
theorem d_4_74 : decode method_4_code 74 = .ok (.iconst 3, 1) := by decide +kernel
theorem d_4_75 : decode method_4_code 75 = .ok (.newarray .char, 2) := by decide +kernel
theorem d_4_77 : decode method_4_code 77 = .ok (.dup, 1) := by decide +kernel
theorem d_4_78 : decode method_4_code 78 = .ok (.iconst 0, 1) := by decide +kernel
theorem d_4_79 : decode method_4_code 79 = .ok (.aload_n 0, 1) := by decide +kernel
theorem d_4_80 : decode method_4_code 80 = .ok (.iconst 0, 1) := by decide +kernel
theorem d_4_81 : decode method_4_code 81 = .ok (.caload, 1) := by decide +kernel
theorem d_4_82 : decode method_4_code 82 = .ok (.castore, 1) := by decide +kernel
theorem d_4_83 : decode method_4_code 83 = .ok (.dup, 1) := by decide +kernel
theorem d_4_84 : decode method_4_code 84 = .ok (.iconst 1, 1) := by decide +kernel
theorem d_4_85 : decode method_4_code 85 = .ok (.aload_n 0, 1) := by decide +kernel
theorem d_4_86 : decode method_4_code 86 = .ok (.iconst 1, 1) := by decide +kernel
theorem d_4_87 : decode method_4_code 87 = .ok (.caload, 1) := by decide +kernel
theorem d_4_88 : decode method_4_code 88 = .ok (.castore, 1) := by decide +kernel
theorem d_4_89 : decode method_4_code 89 = .ok (.dup, 1) := by decide +kernel
theorem d_4_90 : decode method_4_code 90 = .ok (.iconst 2, 1) := by decide +kernel
theorem d_4_91 : decode method_4_code 91 = .ok (.aload_n 0, 1) := by decide +kernel
theorem d_4_92 : decode method_4_code 92 = .ok (.iconst 2, 1) := by decide +kernel
theorem d_4_93 : decode method_4_code 93 = .ok (.caload, 1) := by decide +kernel
theorem d_4_94 : decode method_4_code 94 = .ok (.castore, 1) := by decide +kernel
theorem d_4_95 : decode method_4_code 95 = .ok (.invokespecial 26, 3) := by decide +kernel
theorem d_j42_3_0 : decode jdk_42_method_3_code 0 = .ok (.aload_n 0, 1) := by decide +kernel
theorem d_j42_3_1 : decode jdk_42_method_3_code 1 = .ok (.aload_n 1, 1) := by decide +kernel
theorem d_j42_3_2 : decode jdk_42_method_3_code 2 = .ok (.iconst 0, 1) := by decide +kernel
theorem d_j42_3_3 : decode jdk_42_method_3_code 3 = .ok (.aload_n 1, 1) := by decide +kernel
theorem d_j42_3_4 : decode jdk_42_method_3_code 4 = .ok (.arraylength, 1) := by decide +kernel
theorem d_j42_3_5 : decode jdk_42_method_3_code 5 = .ok (.aconst_null, 1) := by decide +kernel
theorem d_j42_3_6 : decode jdk_42_method_3_code 6 = .ok (.invokespecial 27, 3) := by decide +kernel
theorem d_j42_149_0 : decode jdk_42_method_149_code 0 = .ok (.aload_n 0, 1) := by decide +kernel
theorem d_j42_149_1 : decode jdk_42_method_149_code 1 = .ok (.invokespecial 1, 3) := by decide +kernel
theorem d_j42_149_4 : decode jdk_42_method_149_code 4 = .ok (.iload_n 3, 1) := by decide +kernel
theorem d_j42_149_5 : decode jdk_42_method_149_code 5 = .ok (.ifCond .ne 22, 3) := by decide +kernel
theorem d_j42_149_27 : decode jdk_42_method_149_code 27 = .ok (.getstatic 38, 3) := by decide +kernel
theorem d_j42_149_30 : decode jdk_42_method_149_code 30 = .ok (.ifCond .eq 28, 3) := by decide +kernel
theorem d_j42_149_33 : decode jdk_42_method_149_code 33 = .ok (.aload_n 1, 1) := by decide +kernel
theorem d_j42_149_34 : decode jdk_42_method_149_code 34 = .ok (.iload_n 2, 1) := by decide +kernel
theorem d_j42_149_35 : decode jdk_42_method_149_code 35 = .ok (.iload_n 3, 1) := by decide +kernel
theorem d_j42_149_36 : decode jdk_42_method_149_code 36 = .ok (.invokestatic 177, 3) := by decide +kernel
theorem d_j52_16_0 : decode jdk_52_method_16_code 0 = .ok (.iload_n 2, 1) := by decide +kernel
theorem d_j52_16_1 : decode jdk_52_method_16_code 1 = .ok (.newarray .byte, 2) := by decide +kernel
theorem d_j52_16_3 : decode jdk_52_method_16_code 3 = .ok (.astore_n 3, 1) := by decide +kernel
theorem d_j52_16_4 : decode jdk_52_method_16_code 4 = .ok (.aload_n 0, 1) := by decide +kernel
theorem d_j52_16_5 : decode jdk_52_method_16_code 5 = .ok (.iload_n 1, 1) := by decide +kernel
theorem d_j52_16_6 : decode jdk_52_method_16_code 6 = .ok (.aload_n 3, 1) := by decide +kernel
theorem d_j52_16_7 : decode jdk_52_method_16_code 7 = .ok (.iconst 0, 1) := by decide +kernel
theorem d_j52_16_8 : decode jdk_52_method_16_code 8 = .ok (.iload_n 2, 1) := by decide +kernel
theorem d_j52_16_9 : decode jdk_52_method_16_code 9 = .ok (.invokestatic 115, 3) := by decide +kernel
theorem d_j52_21_0 : decode jdk_52_method_21_code 0 = .ok (.iconst 0, 1) := by decide +kernel
theorem d_j52_21_1 : decode jdk_52_method_21_code 1 = .ok (.istore 5, 2) := by decide +kernel
theorem d_j52_21_3 : decode jdk_52_method_21_code 3 = .ok (.iload 5, 2) := by decide +kernel
theorem d_j52_21_5 : decode jdk_52_method_21_code 5 = .ok (.iload 4, 2) := by decide +kernel
theorem d_j52_21_7 : decode jdk_52_method_21_code 7 = .ok (.if_icmp .ge 37, 3) := by decide +kernel
theorem d_j52_21_10 : decode jdk_52_method_21_code 10 = .ok (.aload_n 0, 1) := by decide +kernel
theorem d_j52_21_11 : decode jdk_52_method_21_code 11 = .ok (.iload_n 1, 1) := by decide +kernel
theorem d_j52_21_12 : decode jdk_52_method_21_code 12 = .ok (.caload, 1) := by decide +kernel
theorem d_j52_21_13 : decode jdk_52_method_21_code 13 = .ok (.istore 6, 2) := by decide +kernel
theorem d_j52_21_15 : decode jdk_52_method_21_code 15 = .ok (.iload 6, 2) := by decide +kernel
theorem d_j52_21_17 : decode jdk_52_method_21_code 17 = .ok (.sipush 255, 3) := by decide +kernel
theorem d_j52_21_20 : decode jdk_52_method_21_code 20 = .ok (.if_icmp .le 6, 3) := by decide +kernel
theorem d_j52_21_26 : decode jdk_52_method_21_code 26 = .ok (.aload_n 2, 1) := by decide +kernel
theorem d_j52_21_27 : decode jdk_52_method_21_code 27 = .ok (.iload_n 3, 1) := by decide +kernel
theorem d_j52_21_28 : decode jdk_52_method_21_code 28 = .ok (.iload 6, 2) := by decide +kernel
theorem d_j52_21_30 : decode jdk_52_method_21_code 30 = .ok (.i2b, 1) := by decide +kernel
theorem d_j52_21_31 : decode jdk_52_method_21_code 31 = .ok (.bastore, 1) := by decide +kernel
theorem d_j52_21_32 : decode jdk_52_method_21_code 32 = .ok (.iinc 1 1, 3) := by decide +kernel
theorem d_j52_21_35 : decode jdk_52_method_21_code 35 = .ok (.iinc 3 1, 3) := by decide +kernel
theorem d_j52_21_38 : decode jdk_52_method_21_code 38 = .ok (.iinc 5 1, 3) := by decide +kernel
theorem d_j52_21_41 : decode jdk_52_method_21_code 41 = .ok (.goto (-38), 3) := by decide +kernel
theorem d_j52_21_44 : decode jdk_52_method_21_code 44 = .ok (.iload 4, 2) := by decide +kernel
theorem d_j52_21_46 : decode jdk_52_method_21_code 46 = .ok (.ireturn, 1) := by decide +kernel
theorem d_j52_16_12 : decode jdk_52_method_16_code 12 = .ok (.istore 4, 2) := by decide +kernel
theorem d_j52_16_14 : decode jdk_52_method_16_code 14 = .ok (.iload 4, 2) := by decide +kernel
theorem d_j52_16_16 : decode jdk_52_method_16_code 16 = .ok (.iload_n 2, 1) := by decide +kernel
theorem d_j52_16_17 : decode jdk_52_method_16_code 17 = .ok (.if_icmp .eq 40, 3) := by decide +kernel
theorem d_j52_16_57 : decode jdk_52_method_16_code 57 = .ok (.aload_n 3, 1) := by decide +kernel
theorem d_j52_16_58 : decode jdk_52_method_16_code 58 = .ok (.areturn, 1) := by decide +kernel
theorem d_j42_149_39 : decode jdk_42_method_149_code 39 = .ok (.astore 5, 2) := by decide +kernel
theorem d_j42_149_41 : decode jdk_42_method_149_code 41 = .ok (.aload_n 0, 1) := by decide +kernel
theorem d_j42_149_42 : decode jdk_42_method_149_code 42 = .ok (.aload 5, 2) := by decide +kernel
theorem d_j42_149_44 : decode jdk_42_method_149_code 44 = .ok (.iload_n 3, 1) := by decide +kernel
theorem d_j42_149_45 : decode jdk_42_method_149_code 45 = .ok (.invokestatic 47, 3) := by decide +kernel
theorem d_j52_15_0 : decode jdk_52_method_15_code 0 = .ok (.iload_n 1, 1) := by decide +kernel
theorem d_j52_15_1 : decode jdk_52_method_15_code 1 = .ok (.aload_n 0, 1) := by decide +kernel
theorem d_j52_15_2 : decode jdk_52_method_15_code 2 = .ok (.arraylength, 1) := by decide +kernel
theorem d_j52_15_3 : decode jdk_52_method_15_code 3 = .ok (.isub, 1) := by decide +kernel
theorem d_j52_15_4 : decode jdk_52_method_15_code 4 = .ok (.bipush 31, 2) := by decide +kernel
theorem d_j52_15_6 : decode jdk_52_method_15_code 6 = .ok (.iushr, 1) := by decide +kernel
theorem d_j52_15_7 : decode jdk_52_method_15_code 7 = .ok (.i2b, 1) := by decide +kernel
theorem d_j52_15_8 : decode jdk_52_method_15_code 8 = .ok (.ireturn, 1) := by decide +kernel
theorem d_j42_149_48 : decode jdk_42_method_149_code 48 = .ok (.putfield 15, 3) := by decide +kernel
theorem d_j42_149_51 : decode jdk_42_method_149_code 51 = .ok (.aload_n 0, 1) := by decide +kernel
theorem d_j42_149_52 : decode jdk_42_method_149_code 52 = .ok (.aload 5, 2) := by decide +kernel
theorem d_j42_149_54 : decode jdk_42_method_149_code 54 = .ok (.putfield 9, 3) := by decide +kernel
theorem d_j42_149_57 : decode jdk_42_method_149_code 57 = .ok (.return_, 1) := by decide +kernel
theorem d_j42_3_9 : decode jdk_42_method_3_code 9 = .ok (.return_, 1) := by decide +kernel
theorem d_4_98 : decode method_4_code 98 = .ok (.areturn, 1) := by decide +kernel
theorem d_4_42 : decode method_4_code 42 = .ok (.new 24, 3) := by decide +kernel
theorem d_4_45 : decode method_4_code 45 = .ok (.dup, 1) := by decide +kernel
theorem d_4_46 : decode method_4_code 46 = .ok (.iconst 2, 1) := by decide +kernel
theorem d_4_47 : decode method_4_code 47 = .ok (.newarray .char, 2) := by decide +kernel
theorem d_4_49 : decode method_4_code 49 = .ok (.dup, 1) := by decide +kernel
theorem d_4_50 : decode method_4_code 50 = .ok (.iconst 0, 1) := by decide +kernel
theorem d_4_51 : decode method_4_code 51 = .ok (.aload_n 0, 1) := by decide +kernel
theorem d_4_52 : decode method_4_code 52 = .ok (.iconst 0, 1) := by decide +kernel
theorem d_4_53 : decode method_4_code 53 = .ok (.caload, 1) := by decide +kernel
theorem d_4_54 : decode method_4_code 54 = .ok (.castore, 1) := by decide +kernel
theorem d_4_55 : decode method_4_code 55 = .ok (.dup, 1) := by decide +kernel
theorem d_4_56 : decode method_4_code 56 = .ok (.iconst 1, 1) := by decide +kernel
theorem d_4_57 : decode method_4_code 57 = .ok (.aload_n 0, 1) := by decide +kernel
theorem d_4_58 : decode method_4_code 58 = .ok (.iconst 1, 1) := by decide +kernel
theorem d_4_59 : decode method_4_code 59 = .ok (.caload, 1) := by decide +kernel
theorem d_4_60 : decode method_4_code 60 = .ok (.castore, 1) := by decide +kernel
theorem d_4_61 : decode method_4_code 61 = .ok (.invokespecial 26, 3) := by decide +kernel
theorem d_4_64 : decode method_4_code 64 = .ok (.areturn, 1) := by decide +kernel
theorem d_g2_4_0 : decode prog_2_method_4_code 0 = .ok (.aload_n 0, 1) := by decide +kernel
theorem d_g2_4_1 : decode prog_2_method_4_code 1 = .ok (.ldc 133, 2) := by decide +kernel
theorem d_g2_4_3 : decode prog_2_method_4_code 3 = .ok (.invokevirtual 105, 3) := by decide +kernel
theorem d_j42_66_0 : decode jdk_42_method_66_code 0 = .ok (.aload_n 0, 1) := by decide +kernel
theorem d_j42_66_1 : decode jdk_42_method_66_code 1 = .ok (.aload_n 1, 1) := by decide +kernel
theorem d_j42_66_2 : decode jdk_42_method_66_code 2 = .ok (.if_acmp .ne 5, 3) := by decide +kernel
theorem d_j42_66_7 : decode jdk_42_method_66_code 7 = .ok (.aload_n 1, 1) := by decide +kernel
theorem d_j42_66_8 : decode jdk_42_method_66_code 8 = .ok (.instanceof 10, 3) := by decide +kernel
theorem d_j42_66_11 : decode jdk_42_method_66_code 11 = .ok (.ifCond .eq 43, 3) := by decide +kernel
theorem d_j42_66_14 : decode jdk_42_method_66_code 14 = .ok (.aload_n 1, 1) := by decide +kernel
theorem d_j42_66_15 : decode jdk_42_method_66_code 15 = .ok (.checkcast 10, 3) := by decide +kernel
theorem d_j42_66_18 : decode jdk_42_method_66_code 18 = .ok (.astore_n 2, 1) := by decide +kernel
theorem d_j42_66_19 : decode jdk_42_method_66_code 19 = .ok (.getstatic 38, 3) := by decide +kernel
theorem d_j42_66_22 : decode jdk_42_method_66_code 22 = .ok (.ifCond .eq 14, 3) := by decide +kernel
theorem d_j42_66_25 : decode jdk_42_method_66_code 25 = .ok (.aload_n 0, 1) := by decide +kernel
theorem d_j42_66_26 : decode jdk_42_method_66_code 26 = .ok (.getfield 15, 3) := by decide +kernel
theorem d_j42_66_29 : decode jdk_42_method_66_code 29 = .ok (.aload_n 2, 1) := by decide +kernel
theorem d_j42_66_30 : decode jdk_42_method_66_code 30 = .ok (.getfield 15, 3) := by decide +kernel
theorem d_j42_66_33 : decode jdk_42_method_66_code 33 = .ok (.if_icmp .ne 21, 3) := by decide +kernel
theorem d_j42_66_36 : decode jdk_42_method_66_code 36 = .ok (.aload_n 0, 1) := by decide +kernel
theorem d_j42_66_37 : decode jdk_42_method_66_code 37 = .ok (.getfield 9, 3) := by decide +kernel
theorem d_j42_66_40 : decode jdk_42_method_66_code 40 = .ok (.aload_n 2, 1) := by decide +kernel
theorem d_j42_66_41 : decode jdk_42_method_66_code 41 = .ok (.getfield 9, 3) := by decide +kernel
theorem d_j42_66_44 : decode jdk_42_method_66_code 44 = .ok (.invokestatic 541, 3) := by decide +kernel
theorem d_j43_13_0 : decode jdk_43_method_13_code 0 = .ok (.aload_n 0, 1) := by decide +kernel
theorem d_j43_13_1 : decode jdk_43_method_13_code 1 = .ok (.arraylength, 1) := by decide +kernel
theorem d_j43_13_2 : decode jdk_43_method_13_code 2 = .ok (.aload_n 1, 1) := by decide +kernel
theorem d_j43_13_3 : decode jdk_43_method_13_code 3 = .ok (.arraylength, 1) := by decide +kernel
theorem d_j43_13_4 : decode jdk_43_method_13_code 4 = .ok (.if_icmp .ne 30, 3) := by decide +kernel
theorem d_j43_13_34 : decode jdk_43_method_13_code 34 = .ok (.iconst 0, 1) := by decide +kernel
theorem d_j43_13_35 : decode jdk_43_method_13_code 35 = .ok (.ireturn, 1) := by decide +kernel
theorem d_j42_66_47 : decode jdk_42_method_66_code 47 = .ok (.ifCond .eq 7, 3) := by decide +kernel
theorem d_j42_66_54 : decode jdk_42_method_66_code 54 = .ok (.iconst 0, 1) := by decide +kernel
theorem d_j42_66_55 : decode jdk_42_method_66_code 55 = .ok (.ireturn, 1) := by decide +kernel
theorem d_g2_4_6 : decode prog_2_method_4_code 6 = .ok (.ifCond .ne 12, 3) := by decide +kernel
theorem d_g2_4_9 : decode prog_2_method_4_code 9 = .ok (.aload_n 0, 1) := by decide +kernel
theorem d_g2_4_10 : decode prog_2_method_4_code 10 = .ok (.ldc 135, 2) := by decide +kernel
theorem d_g2_4_12 : decode prog_2_method_4_code 12 = .ok (.invokevirtual 105, 3) := by decide +kernel
theorem d_g2_4_15 : decode prog_2_method_4_code 15 = .ok (.ifCond .eq 7, 3) := by decide +kernel
theorem d_g2_4_22 : decode prog_2_method_4_code 22 = .ok (.iconst 0, 1) := by decide +kernel
theorem d_g2_4_23 : decode prog_2_method_4_code 23 = .ok (.ireturn, 1) := by decide +kernel
theorem d_j42_66_5 : decode jdk_42_method_66_code 5 = .ok (.iconst 1, 1) := by decide +kernel
theorem d_j42_66_6 : decode jdk_42_method_66_code 6 = .ok (.ireturn, 1) := by decide +kernel
theorem d_j43_13_7 : decode jdk_43_method_13_code 7 = .ok (.iconst 0, 1) := by decide +kernel
theorem d_j43_13_8 : decode jdk_43_method_13_code 8 = .ok (.istore_n 2, 1) := by decide +kernel
theorem d_j43_13_9 : decode jdk_43_method_13_code 9 = .ok (.iload_n 2, 1) := by decide +kernel
theorem d_j43_13_10 : decode jdk_43_method_13_code 10 = .ok (.aload_n 0, 1) := by decide +kernel
theorem d_j43_13_11 : decode jdk_43_method_13_code 11 = .ok (.arraylength, 1) := by decide +kernel
theorem d_j43_13_12 : decode jdk_43_method_13_code 12 = .ok (.if_icmp .ge 20, 3) := by decide +kernel
theorem d_j43_13_15 : decode jdk_43_method_13_code 15 = .ok (.aload_n 0, 1) := by decide +kernel
theorem d_j43_13_16 : decode jdk_43_method_13_code 16 = .ok (.iload_n 2, 1) := by decide +kernel
theorem d_j43_13_17 : decode jdk_43_method_13_code 17 = .ok (.baload, 1) := by decide +kernel
theorem d_j43_13_18 : decode jdk_43_method_13_code 18 = .ok (.aload_n 1, 1) := by decide +kernel
theorem d_j43_13_19 : decode jdk_43_method_13_code 19 = .ok (.iload_n 2, 1) := by decide +kernel
theorem d_j43_13_20 : decode jdk_43_method_13_code 20 = .ok (.baload, 1) := by decide +kernel
theorem d_j43_13_21 : decode jdk_43_method_13_code 21 = .ok (.if_icmp .eq 5, 3) := by decide +kernel
theorem d_j43_13_26 : decode jdk_43_method_13_code 26 = .ok (.iinc 2 1, 3) := by decide +kernel
theorem d_j43_13_29 : decode jdk_43_method_13_code 29 = .ok (.goto (-20), 3) := by decide +kernel
theorem d_j43_13_32 : decode jdk_43_method_13_code 32 = .ok (.iconst 1, 1) := by decide +kernel
theorem d_j43_13_33 : decode jdk_43_method_13_code 33 = .ok (.ireturn, 1) := by decide +kernel
theorem d_j43_13_24 : decode jdk_43_method_13_code 24 = .ok (.iconst 0, 1) := by decide +kernel
theorem d_j43_13_25 : decode jdk_43_method_13_code 25 = .ok (.ireturn, 1) := by decide +kernel
theorem d_j42_66_50 : decode jdk_42_method_66_code 50 = .ok (.iconst 1, 1) := by decide +kernel
theorem d_j42_66_51 : decode jdk_42_method_66_code 51 = .ok (.goto 4, 3) := by decide +kernel
theorem d_g2_4_18 : decode prog_2_method_4_code 18 = .ok (.iconst 1, 1) := by decide +kernel
theorem d_g2_4_19 : decode prog_2_method_4_code 19 = .ok (.goto 4, 3) := by decide +kernel
theorem d_4_99 : decode method_4_code 99 = .ok (.iload_n 1, 1) := by decide +kernel
theorem d_4_100 : decode method_4_code 100 = .ok (.iconst 4, 1) := by decide +kernel
theorem d_4_101 : decode method_4_code 101 = .ok (.if_icmp .ne 38, 3) := by decide +kernel
theorem d_4_139 : decode method_4_code 139 = .ok (.iload_n 1, 1) := by decide +kernel
theorem d_4_140 : decode method_4_code 140 = .ok (.iconst 5, 1) := by decide +kernel
theorem d_4_141 : decode method_4_code 141 = .ok (.if_icmp .ne 44, 3) := by decide +kernel
theorem d_4_185 : decode method_4_code 185 = .ok (.iload_n 1, 1) := by decide +kernel
theorem d_4_186 : decode method_4_code 186 = .ok (.bipush 6, 2) := by decide +kernel
theorem d_4_188 : decode method_4_code 188 = .ok (.if_icmp .ne 51, 3) := by decide +kernel
theorem d_4_239 : decode method_4_code 239 = .ok (.new 24, 3) := by decide +kernel
theorem d_4_242 : decode method_4_code 242 = .ok (.dup, 1) := by decide +kernel
theorem d_4_243 : decode method_4_code 243 = .ok (.bipush 7, 2) := by decide +kernel
theorem d_4_245 : decode method_4_code 245 = .ok (.newarray .char, 2) := by decide +kernel
theorem d_4_247 : decode method_4_code 247 = .ok (.dup, 1) := by decide +kernel
theorem d_4_248 : decode method_4_code 248 = .ok (.iconst 0, 1) := by decide +kernel
theorem d_4_249 : decode method_4_code 249 = .ok (.aload_n 0, 1) := by decide +kernel
theorem d_4_250 : decode method_4_code 250 = .ok (.iconst 0, 1) := by decide +kernel
theorem d_4_251 : decode method_4_code 251 = .ok (.caload, 1) := by decide +kernel
theorem d_4_252 : decode method_4_code 252 = .ok (.castore, 1) := by decide +kernel
theorem d_4_253 : decode method_4_code 253 = .ok (.dup, 1) := by decide +kernel
theorem d_4_254 : decode method_4_code 254 = .ok (.iconst 1, 1) := by decide +kernel
theorem d_4_255 : decode method_4_code 255 = .ok (.aload_n 0, 1) := by decide +kernel
theorem d_4_256 : decode method_4_code 256 = .ok (.iconst 1, 1) := by decide +kernel
theorem d_4_257 : decode method_4_code 257 = .ok (.caload, 1) := by decide +kernel
theorem d_4_258 : decode method_4_code 258 = .ok (.castore, 1) := by decide +kernel
theorem d_4_259 : decode method_4_code 259 = .ok (.dup, 1) := by decide +kernel
theorem d_4_260 : decode method_4_code 260 = .ok (.iconst 2, 1) := by decide +kernel
theorem d_4_261 : decode method_4_code 261 = .ok (.aload_n 0, 1) := by decide +kernel
theorem d_4_262 : decode method_4_code 262 = .ok (.iconst 2, 1) := by decide +kernel
theorem d_4_263 : decode method_4_code 263 = .ok (.caload, 1) := by decide +kernel
theorem d_4_264 : decode method_4_code 264 = .ok (.castore, 1) := by decide +kernel
theorem d_4_265 : decode method_4_code 265 = .ok (.dup, 1) := by decide +kernel
theorem d_4_266 : decode method_4_code 266 = .ok (.iconst 3, 1) := by decide +kernel
theorem d_4_267 : decode method_4_code 267 = .ok (.aload_n 0, 1) := by decide +kernel
theorem d_4_268 : decode method_4_code 268 = .ok (.iconst 3, 1) := by decide +kernel
theorem d_4_269 : decode method_4_code 269 = .ok (.caload, 1) := by decide +kernel
theorem d_4_270 : decode method_4_code 270 = .ok (.castore, 1) := by decide +kernel
theorem d_4_271 : decode method_4_code 271 = .ok (.dup, 1) := by decide +kernel
theorem d_4_272 : decode method_4_code 272 = .ok (.iconst 4, 1) := by decide +kernel
theorem d_4_273 : decode method_4_code 273 = .ok (.aload_n 0, 1) := by decide +kernel
theorem d_4_274 : decode method_4_code 274 = .ok (.iconst 4, 1) := by decide +kernel
theorem d_4_275 : decode method_4_code 275 = .ok (.caload, 1) := by decide +kernel
theorem d_4_276 : decode method_4_code 276 = .ok (.castore, 1) := by decide +kernel
theorem d_4_277 : decode method_4_code 277 = .ok (.dup, 1) := by decide +kernel
theorem d_4_278 : decode method_4_code 278 = .ok (.iconst 5, 1) := by decide +kernel
theorem d_4_279 : decode method_4_code 279 = .ok (.aload_n 0, 1) := by decide +kernel
theorem d_4_280 : decode method_4_code 280 = .ok (.iconst 5, 1) := by decide +kernel
theorem d_4_281 : decode method_4_code 281 = .ok (.caload, 1) := by decide +kernel
theorem d_4_282 : decode method_4_code 282 = .ok (.castore, 1) := by decide +kernel
theorem d_4_283 : decode method_4_code 283 = .ok (.dup, 1) := by decide +kernel
theorem d_4_284 : decode method_4_code 284 = .ok (.bipush 6, 2) := by decide +kernel
theorem d_4_286 : decode method_4_code 286 = .ok (.aload_n 0, 1) := by decide +kernel
theorem d_4_287 : decode method_4_code 287 = .ok (.bipush 6, 2) := by decide +kernel
theorem d_4_289 : decode method_4_code 289 = .ok (.caload, 1) := by decide +kernel
theorem d_4_290 : decode method_4_code 290 = .ok (.castore, 1) := by decide +kernel
theorem d_4_291 : decode method_4_code 291 = .ok (.invokespecial 26, 3) := by decide +kernel
theorem d_4_294 : decode method_4_code 294 = .ok (.areturn, 1) := by decide +kernel
theorem d_4_191 : decode method_4_code 191 = .ok (.new 24, 3) := by decide +kernel
theorem d_4_194 : decode method_4_code 194 = .ok (.dup, 1) := by decide +kernel
theorem d_4_195 : decode method_4_code 195 = .ok (.bipush 6, 2) := by decide +kernel
theorem d_4_197 : decode method_4_code 197 = .ok (.newarray .char, 2) := by decide +kernel
theorem d_4_199 : decode method_4_code 199 = .ok (.dup, 1) := by decide +kernel
theorem d_4_200 : decode method_4_code 200 = .ok (.iconst 0, 1) := by decide +kernel
theorem d_4_201 : decode method_4_code 201 = .ok (.aload_n 0, 1) := by decide +kernel
theorem d_4_202 : decode method_4_code 202 = .ok (.iconst 0, 1) := by decide +kernel
theorem d_4_203 : decode method_4_code 203 = .ok (.caload, 1) := by decide +kernel
theorem d_4_204 : decode method_4_code 204 = .ok (.castore, 1) := by decide +kernel
theorem d_4_205 : decode method_4_code 205 = .ok (.dup, 1) := by decide +kernel
theorem d_4_206 : decode method_4_code 206 = .ok (.iconst 1, 1) := by decide +kernel
theorem d_4_207 : decode method_4_code 207 = .ok (.aload_n 0, 1) := by decide +kernel
theorem d_4_208 : decode method_4_code 208 = .ok (.iconst 1, 1) := by decide +kernel
theorem d_4_209 : decode method_4_code 209 = .ok (.caload, 1) := by decide +kernel
theorem d_4_210 : decode method_4_code 210 = .ok (.castore, 1) := by decide +kernel
theorem d_4_211 : decode method_4_code 211 = .ok (.dup, 1) := by decide +kernel
theorem d_4_212 : decode method_4_code 212 = .ok (.iconst 2, 1) := by decide +kernel
theorem d_4_213 : decode method_4_code 213 = .ok (.aload_n 0, 1) := by decide +kernel
theorem d_4_214 : decode method_4_code 214 = .ok (.iconst 2, 1) := by decide +kernel
theorem d_4_215 : decode method_4_code 215 = .ok (.caload, 1) := by decide +kernel
theorem d_4_216 : decode method_4_code 216 = .ok (.castore, 1) := by decide +kernel
theorem d_4_217 : decode method_4_code 217 = .ok (.dup, 1) := by decide +kernel
theorem d_4_218 : decode method_4_code 218 = .ok (.iconst 3, 1) := by decide +kernel
theorem d_4_219 : decode method_4_code 219 = .ok (.aload_n 0, 1) := by decide +kernel
theorem d_4_220 : decode method_4_code 220 = .ok (.iconst 3, 1) := by decide +kernel
theorem d_4_221 : decode method_4_code 221 = .ok (.caload, 1) := by decide +kernel
theorem d_4_222 : decode method_4_code 222 = .ok (.castore, 1) := by decide +kernel
theorem d_4_223 : decode method_4_code 223 = .ok (.dup, 1) := by decide +kernel
theorem d_4_224 : decode method_4_code 224 = .ok (.iconst 4, 1) := by decide +kernel
theorem d_4_225 : decode method_4_code 225 = .ok (.aload_n 0, 1) := by decide +kernel
theorem d_4_226 : decode method_4_code 226 = .ok (.iconst 4, 1) := by decide +kernel
theorem d_4_227 : decode method_4_code 227 = .ok (.caload, 1) := by decide +kernel
theorem d_4_228 : decode method_4_code 228 = .ok (.castore, 1) := by decide +kernel
theorem d_4_229 : decode method_4_code 229 = .ok (.dup, 1) := by decide +kernel
theorem d_4_230 : decode method_4_code 230 = .ok (.iconst 5, 1) := by decide +kernel
theorem d_4_231 : decode method_4_code 231 = .ok (.aload_n 0, 1) := by decide +kernel
theorem d_4_232 : decode method_4_code 232 = .ok (.iconst 5, 1) := by decide +kernel
theorem d_4_233 : decode method_4_code 233 = .ok (.caload, 1) := by decide +kernel
theorem d_4_234 : decode method_4_code 234 = .ok (.castore, 1) := by decide +kernel
theorem d_4_235 : decode method_4_code 235 = .ok (.invokespecial 26, 3) := by decide +kernel
theorem d_4_238 : decode method_4_code 238 = .ok (.areturn, 1) := by decide +kernel
theorem d_4_144 : decode method_4_code 144 = .ok (.new 24, 3) := by decide +kernel
theorem d_4_147 : decode method_4_code 147 = .ok (.dup, 1) := by decide +kernel
theorem d_4_148 : decode method_4_code 148 = .ok (.iconst 5, 1) := by decide +kernel
theorem d_4_149 : decode method_4_code 149 = .ok (.newarray .char, 2) := by decide +kernel
theorem d_4_151 : decode method_4_code 151 = .ok (.dup, 1) := by decide +kernel
theorem d_4_152 : decode method_4_code 152 = .ok (.iconst 0, 1) := by decide +kernel
theorem d_4_153 : decode method_4_code 153 = .ok (.aload_n 0, 1) := by decide +kernel
theorem d_4_154 : decode method_4_code 154 = .ok (.iconst 0, 1) := by decide +kernel
theorem d_4_155 : decode method_4_code 155 = .ok (.caload, 1) := by decide +kernel
theorem d_4_156 : decode method_4_code 156 = .ok (.castore, 1) := by decide +kernel
theorem d_4_157 : decode method_4_code 157 = .ok (.dup, 1) := by decide +kernel
theorem d_4_158 : decode method_4_code 158 = .ok (.iconst 1, 1) := by decide +kernel
theorem d_4_159 : decode method_4_code 159 = .ok (.aload_n 0, 1) := by decide +kernel
theorem d_4_160 : decode method_4_code 160 = .ok (.iconst 1, 1) := by decide +kernel
theorem d_4_161 : decode method_4_code 161 = .ok (.caload, 1) := by decide +kernel
theorem d_4_162 : decode method_4_code 162 = .ok (.castore, 1) := by decide +kernel
theorem d_4_163 : decode method_4_code 163 = .ok (.dup, 1) := by decide +kernel
theorem d_4_164 : decode method_4_code 164 = .ok (.iconst 2, 1) := by decide +kernel
theorem d_4_165 : decode method_4_code 165 = .ok (.aload_n 0, 1) := by decide +kernel
theorem d_4_166 : decode method_4_code 166 = .ok (.iconst 2, 1) := by decide +kernel
theorem d_4_167 : decode method_4_code 167 = .ok (.caload, 1) := by decide +kernel
theorem d_4_168 : decode method_4_code 168 = .ok (.castore, 1) := by decide +kernel
theorem d_4_169 : decode method_4_code 169 = .ok (.dup, 1) := by decide +kernel
theorem d_4_170 : decode method_4_code 170 = .ok (.iconst 3, 1) := by decide +kernel
theorem d_4_171 : decode method_4_code 171 = .ok (.aload_n 0, 1) := by decide +kernel
theorem d_4_172 : decode method_4_code 172 = .ok (.iconst 3, 1) := by decide +kernel
theorem d_4_173 : decode method_4_code 173 = .ok (.caload, 1) := by decide +kernel
theorem d_4_174 : decode method_4_code 174 = .ok (.castore, 1) := by decide +kernel
theorem d_4_175 : decode method_4_code 175 = .ok (.dup, 1) := by decide +kernel
theorem d_4_176 : decode method_4_code 176 = .ok (.iconst 4, 1) := by decide +kernel
theorem d_4_177 : decode method_4_code 177 = .ok (.aload_n 0, 1) := by decide +kernel
theorem d_4_178 : decode method_4_code 178 = .ok (.iconst 4, 1) := by decide +kernel
theorem d_4_179 : decode method_4_code 179 = .ok (.caload, 1) := by decide +kernel
theorem d_4_180 : decode method_4_code 180 = .ok (.castore, 1) := by decide +kernel
theorem d_4_181 : decode method_4_code 181 = .ok (.invokespecial 26, 3) := by decide +kernel
theorem d_4_184 : decode method_4_code 184 = .ok (.areturn, 1) := by decide +kernel
theorem d_4_104 : decode method_4_code 104 = .ok (.new 24, 3) := by decide +kernel
theorem d_4_107 : decode method_4_code 107 = .ok (.dup, 1) := by decide +kernel
theorem d_4_108 : decode method_4_code 108 = .ok (.iconst 4, 1) := by decide +kernel
theorem d_4_109 : decode method_4_code 109 = .ok (.newarray .char, 2) := by decide +kernel
theorem d_4_111 : decode method_4_code 111 = .ok (.dup, 1) := by decide +kernel
theorem d_4_112 : decode method_4_code 112 = .ok (.iconst 0, 1) := by decide +kernel
theorem d_4_113 : decode method_4_code 113 = .ok (.aload_n 0, 1) := by decide +kernel
theorem d_4_114 : decode method_4_code 114 = .ok (.iconst 0, 1) := by decide +kernel
theorem d_4_115 : decode method_4_code 115 = .ok (.caload, 1) := by decide +kernel
theorem d_4_116 : decode method_4_code 116 = .ok (.castore, 1) := by decide +kernel
theorem d_4_117 : decode method_4_code 117 = .ok (.dup, 1) := by decide +kernel
theorem d_4_118 : decode method_4_code 118 = .ok (.iconst 1, 1) := by decide +kernel
theorem d_4_119 : decode method_4_code 119 = .ok (.aload_n 0, 1) := by decide +kernel
theorem d_4_120 : decode method_4_code 120 = .ok (.iconst 1, 1) := by decide +kernel
theorem d_4_121 : decode method_4_code 121 = .ok (.caload, 1) := by decide +kernel
theorem d_4_122 : decode method_4_code 122 = .ok (.castore, 1) := by decide +kernel
theorem d_4_123 : decode method_4_code 123 = .ok (.dup, 1) := by decide +kernel
theorem d_4_124 : decode method_4_code 124 = .ok (.iconst 2, 1) := by decide +kernel
theorem d_4_125 : decode method_4_code 125 = .ok (.aload_n 0, 1) := by decide +kernel
theorem d_4_126 : decode method_4_code 126 = .ok (.iconst 2, 1) := by decide +kernel
theorem d_4_127 : decode method_4_code 127 = .ok (.caload, 1) := by decide +kernel
theorem d_4_128 : decode method_4_code 128 = .ok (.castore, 1) := by decide +kernel
theorem d_4_129 : decode method_4_code 129 = .ok (.dup, 1) := by decide +kernel
theorem d_4_130 : decode method_4_code 130 = .ok (.iconst 3, 1) := by decide +kernel
theorem d_4_131 : decode method_4_code 131 = .ok (.aload_n 0, 1) := by decide +kernel
theorem d_4_132 : decode method_4_code 132 = .ok (.iconst 3, 1) := by decide +kernel
theorem d_4_133 : decode method_4_code 133 = .ok (.caload, 1) := by decide +kernel
theorem d_4_134 : decode method_4_code 134 = .ok (.castore, 1) := by decide +kernel
theorem d_4_135 : decode method_4_code 135 = .ok (.invokespecial 26, 3) := by decide +kernel
theorem d_4_138 : decode method_4_code 138 = .ok (.areturn, 1) := by decide +kernel
theorem d_4_20 : decode method_4_code 20 = .ok (.new 24, 3) := by decide +kernel
theorem d_4_23 : decode method_4_code 23 = .ok (.dup, 1) := by decide +kernel
theorem d_4_24 : decode method_4_code 24 = .ok (.iconst 1, 1) := by decide +kernel
theorem d_4_25 : decode method_4_code 25 = .ok (.newarray .char, 2) := by decide +kernel
theorem d_4_27 : decode method_4_code 27 = .ok (.dup, 1) := by decide +kernel
theorem d_4_28 : decode method_4_code 28 = .ok (.iconst 0, 1) := by decide +kernel
theorem d_4_29 : decode method_4_code 29 = .ok (.aload_n 0, 1) := by decide +kernel
theorem d_4_30 : decode method_4_code 30 = .ok (.iconst 0, 1) := by decide +kernel
theorem d_4_31 : decode method_4_code 31 = .ok (.caload, 1) := by decide +kernel
theorem d_4_32 : decode method_4_code 32 = .ok (.castore, 1) := by decide +kernel
theorem d_4_33 : decode method_4_code 33 = .ok (.invokespecial 26, 3) := by decide +kernel
theorem d_4_36 : decode method_4_code 36 = .ok (.areturn, 1) := by decide +kernel
theorem d_4_4 : decode method_4_code 4 = .ok (.new 24, 3) := by decide +kernel
theorem d_4_7 : decode method_4_code 7 = .ok (.dup, 1) := by decide +kernel
theorem d_4_8 : decode method_4_code 8 = .ok (.iconst 0, 1) := by decide +kernel
theorem d_4_9 : decode method_4_code 9 = .ok (.newarray .char, 2) := by decide +kernel
theorem d_4_11 : decode method_4_code 11 = .ok (.invokespecial 26, 3) := by decide +kernel
theorem d_j42_149_8 : decode jdk_42_method_149_code 8 = .ok (.aload_n 0, 1) := by decide +kernel
theorem d_j42_149_9 : decode jdk_42_method_149_code 9 = .ok (.ldc 7, 2) := by decide +kernel
theorem d_j42_149_11 : decode jdk_42_method_149_code 11 = .ok (.getfield 9, 3) := by decide +kernel
theorem d_j42_149_14 : decode jdk_42_method_149_code 14 = .ok (.putfield 9, 3) := by decide +kernel
theorem d_j42_149_17 : decode jdk_42_method_149_code 17 = .ok (.aload_n 0, 1) := by decide +kernel
theorem d_j42_149_18 : decode jdk_42_method_149_code 18 = .ok (.ldc 7, 2) := by decide +kernel
theorem d_j42_149_20 : decode jdk_42_method_149_code 20 = .ok (.getfield 15, 3) := by decide +kernel
theorem d_j42_149_23 : decode jdk_42_method_149_code 23 = .ok (.putfield 15, 3) := by decide +kernel
theorem d_j42_149_26 : decode jdk_42_method_149_code 26 = .ok (.return_, 1) := by decide +kernel
theorem d_4_14 : decode method_4_code 14 = .ok (.areturn, 1) := by decide +kernel
def fn_pick_1 (i1 : Int32) : Int32 := (if ((ush32 i1 (8 : Int32)) &&& (7 : Int32)) = (0 : Int32) then (45 : Int32) else (if ((ush32 i1 (8 : Int32)) &&& (7 : Int32)) = (1 : Int32) then (104 : Int32) else (if ((ush32 i1 (8 : Int32)) &&& (7 : Int32)) = (2 : Int32) then (101 : Int32) else (if ((ush32 i1 (8 : Int32)) &&& (7 : Int32)) = (3 : Int32) then (108 : Int32) else (if ((ush32 i1 (8 : Int32)) &&& (7 : Int32)) = (4 : Int32) then (112 : Int32) else (i1 &&& (255 : Int32)))))))
def Q_pick_1 (Z : State) (i1 : Int32) (h0 : Heap) (v : Option Value) (h : Heap) : Prop := ∃ z : Int32, v = some (.int z) ∧ h0 = h ∧ (fn_pick_1 i1) = z ∧ (0 ≤ z.toInt ∧ z.toInt ≤ 255)
def R_pick_1 : Room := { frames := 0, cells := 0, slots := 0, locals := 0 }
theorem rm_pick_1 {w : Bool} {Z : State} {a0 : Array Value} (hw : HW a0 Z) (Ts : List String) (i1 : Int32) (h0 : Heap) (f : Nat) (Zf : Z.heap.size ≤ f) (Z0 : f ≤ h0.size) :
  Con w [] Z (⟨"com/example/maniera/maniera/cli/CommandLineIsHelpPinLaw", "pick", "(I)C"⟩ : MethodName) method_3_code 2 (some .char) R_pick_1 Ts Ts f #[(.int i1)] h0 (Q_pick_1 Z i1 h0) := by
 refine con_of f #[.val (.int i1), .unset] (plainFor_of_name pn_0) (fun m => rfl) Zf ?_
 intro C H hX0
 refine r_iloadN H 1 d_3_0 rfl rfl ?_
 refine r_bipush H 3 (8 : Int32) d_3_1 (by decide) rfl ?_
 obtain ⟨p1, ep1, rp1⟩ : ∃ p : Int32, (ush32 i1 (8 : Int32)) = p ∧ 0 ≤ p.toInt ∧ p.toInt ≤ 16777215 := ⟨_, rfl, (by have h1 := ushr_eq i1 (8 : Int32) 8 (by decide) (by decide); have h2 := rng32 i1; omega)⟩
 refine r_iushr H 4 p1 d_3_3 ep1 rfl ?_
 refine r_bipush H 6 (7 : Int32) d_3_4 (by decide) rfl ?_
 obtain ⟨p2, ep2, rp2⟩ : ∃ p : Int32, (p1 &&& (7 : Int32)) = p ∧ 0 ≤ p.toInt ∧ p.toInt ≤ 7 := ⟨_, rfl, (by have h := c_and p1 (7 : Int32) (by decide); have : (7 : Int32).toInt = 7 := (by decide); omega)⟩
 refine r_iand H 7 p2 d_3_6 ep2 rfl ?_
 refine r_istoreN H 8 #[.val (.int i1), .val (.int p2)] d_3_7 rfl rfl ?_
 refine r_iloadN H 9 d_3_8 rfl rfl ?_
 refine r_ifne H 15 12 d_3_9 (by decide) (by decide) rfl (fun c3 => ?_) (fun c3 => ?_)
 ·
  have rr4 : 1 ≤ p2.toInt ∧ p2.toInt ≤ 7 := by have := rp2; have : (0 : Int32).toInt = 0 := (by decide); have hc_ := c3; simp only [Int32.lt_iff_toInt_lt, ← Int32.toInt_inj] at hc_; omega
  refine r_iloadN H 16 d_3_15 rfl rfl ?_
  refine r_iconst H 17 (1 : Int32) d_3_16 (by decide) rfl ?_
  refine r_icmpne H 23 20 d_3_17 (by decide) (by decide) rfl (fun c5 => ?_) (fun c5 => ?_)
  ·
   have rr6 : 2 ≤ p2.toInt ∧ p2.toInt ≤ 7 := by have := rr4; have : (1 : Int32).toInt = 1 := (by decide); have hc_ := c5; simp only [Int32.lt_iff_toInt_lt, ← Int32.toInt_inj] at hc_; omega
   refine r_iloadN H 24 d_3_23 rfl rfl ?_
   refine r_iconst H 25 (2 : Int32) d_3_24 (by decide) rfl ?_
   refine r_icmpne H 31 28 d_3_25 (by decide) (by decide) rfl (fun c7 => ?_) (fun c7 => ?_)
   ·
    have rr8 : 3 ≤ p2.toInt ∧ p2.toInt ≤ 7 := by have := rr6; have : (2 : Int32).toInt = 2 := (by decide); have hc_ := c7; simp only [Int32.lt_iff_toInt_lt, ← Int32.toInt_inj] at hc_; omega
    refine r_iloadN H 32 d_3_31 rfl rfl ?_
    refine r_iconst H 33 (3 : Int32) d_3_32 (by decide) rfl ?_
    refine r_icmpne H 39 36 d_3_33 (by decide) (by decide) rfl (fun c9 => ?_) (fun c9 => ?_)
    ·
     have rr10 : 4 ≤ p2.toInt ∧ p2.toInt ≤ 7 := by have := rr8; have : (3 : Int32).toInt = 3 := (by decide); have hc_ := c9; simp only [Int32.lt_iff_toInt_lt, ← Int32.toInt_inj] at hc_; omega
     refine r_iloadN H 40 d_3_39 rfl rfl ?_
     refine r_iconst H 41 (4 : Int32) d_3_40 (by decide) rfl ?_
     refine r_icmpne H 47 44 d_3_41 (by decide) (by decide) rfl (fun c11 => ?_) (fun c11 => ?_)
     ·
      have rr12 : 5 ≤ p2.toInt ∧ p2.toInt ≤ 7 := by have := rr10; have : (4 : Int32).toInt = 4 := (by decide); have hc_ := c11; simp only [Int32.lt_iff_toInt_lt, ← Int32.toInt_inj] at hc_; omega
      refine r_iloadN H 48 d_3_47 rfl rfl ?_
      refine r_sipush H 51 (255 : Int32) d_3_48 (by decide) rfl ?_
      obtain ⟨p13, ep13, rp13⟩ : ∃ p : Int32, (i1 &&& (255 : Int32)) = p ∧ 0 ≤ p.toInt ∧ p.toInt ≤ 255 := ⟨_, rfl, (by have h := c_and i1 (255 : Int32) (by decide); have : (255 : Int32).toInt = 255 := (by decide); omega)⟩
      refine r_iand H 52 p13 d_3_51 ep13 rfl ?_
      refine r_i2c H 53 p13 d_3_52 (i2c_id (by have := rp13; omega)) rfl ?_
      subst ep1 ep2 ep13
      exact r_nreturn (i1 &&& (255 : Int32)) H (by simp) d_3_53 (nar_char_id (by have := rp13; omega)) (by decide) (by decide) nlr (fun _ t => t) (⟨_, rfl, rfl, (by unfold fn_pick_1; rw [if_neg c3, if_neg c5, if_neg c7, if_neg c9, if_neg c11]), (by have := rp13; omega)⟩)
     ·
      have rr14 : 4 ≤ p2.toInt ∧ p2.toInt ≤ 4 := by have := rr10; have : (4 : Int32).toInt = 4 := (by decide); have hc_ := c11; simp only [Int32.lt_iff_toInt_lt, ← Int32.toInt_inj] at hc_; omega
      refine r_bipush H 46 (112 : Int32) d_3_44 (by decide) rfl ?_
      subst ep1 ep2
      exact r_nreturn (112 : Int32) H (by simp) d_3_46 (by decide) (by decide) (by decide) nlr (fun _ t => t) (⟨_, rfl, rfl, (by unfold fn_pick_1; rw [if_neg c3, if_neg c5, if_neg c7, if_neg c9, if_pos c11]), (by have : (112 : Int32).toInt = 112 := (by decide); omega)⟩)
    ·
     have rr15 : 3 ≤ p2.toInt ∧ p2.toInt ≤ 3 := by have := rr8; have : (3 : Int32).toInt = 3 := (by decide); have hc_ := c9; simp only [Int32.lt_iff_toInt_lt, ← Int32.toInt_inj] at hc_; omega
     refine r_bipush H 38 (108 : Int32) d_3_36 (by decide) rfl ?_
     subst ep1 ep2
     exact r_nreturn (108 : Int32) H (by simp) d_3_38 (by decide) (by decide) (by decide) nlr (fun _ t => t) (⟨_, rfl, rfl, (by unfold fn_pick_1; rw [if_neg c3, if_neg c5, if_neg c7, if_pos c9]), (by have : (108 : Int32).toInt = 108 := (by decide); omega)⟩)
   ·
    have rr16 : 2 ≤ p2.toInt ∧ p2.toInt ≤ 2 := by have := rr6; have : (2 : Int32).toInt = 2 := (by decide); have hc_ := c7; simp only [Int32.lt_iff_toInt_lt, ← Int32.toInt_inj] at hc_; omega
    refine r_bipush H 30 (101 : Int32) d_3_28 (by decide) rfl ?_
    subst ep1 ep2
    exact r_nreturn (101 : Int32) H (by simp) d_3_30 (by decide) (by decide) (by decide) nlr (fun _ t => t) (⟨_, rfl, rfl, (by unfold fn_pick_1; rw [if_neg c3, if_neg c5, if_pos c7]), (by have : (101 : Int32).toInt = 101 := (by decide); omega)⟩)
  ·
   have rr17 : 1 ≤ p2.toInt ∧ p2.toInt ≤ 1 := by have := rr4; have : (1 : Int32).toInt = 1 := (by decide); have hc_ := c5; simp only [Int32.lt_iff_toInt_lt, ← Int32.toInt_inj] at hc_; omega
   refine r_bipush H 22 (104 : Int32) d_3_20 (by decide) rfl ?_
   subst ep1 ep2
   exact r_nreturn (104 : Int32) H (by simp) d_3_22 (by decide) (by decide) (by decide) nlr (fun _ t => t) (⟨_, rfl, rfl, (by unfold fn_pick_1; rw [if_neg c3, if_pos c5]), (by have : (104 : Int32).toInt = 104 := (by decide); omega)⟩)
 ·
  have rr18 : 0 ≤ p2.toInt ∧ p2.toInt ≤ 0 := by have := rp2; have : (0 : Int32).toInt = 0 := (by decide); have hc_ := c3; simp only [Int32.lt_iff_toInt_lt, ← Int32.toInt_inj] at hc_; omega
  refine r_bipush H 14 (45 : Int32) d_3_12 (by decide) rfl ?_
  subst ep1 ep2
  exact r_nreturn (45 : Int32) H (by simp) d_3_14 (by decide) (by decide) (by decide) nlr (fun _ t => t) (⟨_, rfl, rfl, (by unfold fn_pick_1; rw [if_pos c3]), (by have : (45 : Int32).toInt = 45 := (by decide); omega)⟩)
def Q_compress_6 (Z : State) (a2 : Addr) (i1 : Int32) (i2 : Int32) (i3 : Int32) (c2 : ClassId) (h0 : Heap) (v : Option Value) (h : Heap) : Prop := v = some (.int (3 : Int32)) ∧ Keep h0 h [a2] ∧ Ar Z h a2 c2 .byte [(.int (cB8 i1)), (.int (cB8 i2)), (.int (cB8 i3))] ∧ Exa Z h a2 "[B"
def R_compress_6 : Room := { frames := 0, cells := 0, slots := 0, locals := 0 }
theorem rm_compress_6 {w : Bool} {Z : State} {a0 : Array Value} (hw : HW a0 Z) (Ts : List String) (a1 : Addr) (a2 : Addr) (i1 : Int32) (i2 : Int32) (i3 : Int32) (c1 : ClassId) (c2 : ClassId) (h0 : Heap) (f : Nat) (Zf : Z.heap.size ≤ f) (Z0 : f ≤ h0.size) (A_a1 : Ar Z h0 a1 c1 .char [(.int i1), (.int i2), (.int i3)]) (A_a2 : Ar Z h0 a2 c2 .byte [(.int (0 : Int32)), (.int (0 : Int32)), (.int (0 : Int32))]) (g_a2 : f ≤ a2) (E_a2 : Exa Z h0 a2 "[B") (E_a1 : Exa Z h0 a1 "[C") (r_i1 : 0 ≤ i1.toInt ∧ i1.toInt ≤ 255) (r_i2 : 0 ≤ i2.toInt ∧ i2.toInt ≤ 255) (r_i3 : 0 ≤ i3.toInt ∧ i3.toInt ≤ 255) :
  Con w [] Z (⟨"java/lang/StringUTF16", "compress", "([CI[BII)I"⟩ : MethodName) jdk_52_method_21_code 7 (some .int) R_compress_6 Ts Ts f #[(.ref a1), (.int (0 : Int32)), (.ref a2), (.int (0 : Int32)), (.int (3 : Int32))] h0 (Q_compress_6 Z a2 i1 i2 i3 c2 h0) := by
 refine con_of f #[.val (.ref a1), .val (.int (0 : Int32)), .val (.ref a2), .val (.int (0 : Int32)), .val (.int (3 : Int32)), .unset, .unset] (plainFor_of_name pn_1) (fun m => rfl) Zf ?_
 intro C H hX0
 refine r_iconst H 1 (0 : Int32) d_j52_21_0 (by decide) rfl ?_
 refine r_istore H 3 #[.val (.ref a1), .val (.int (0 : Int32)), .val (.ref a2), .val (.int (0 : Int32)), .val (.int (3 : Int32)), .val (.int (0 : Int32)), .unset] d_j52_21_1 rfl rfl ?_
 refine r_iload H 5 d_j52_21_3 rfl rfl ?_
 refine r_iload H 7 d_j52_21_5 rfl rfl ?_
 refine r_icmpgeF H 10 d_j52_21_7 rfl (by decide) ?_
 refine r_aloadN H 11 d_j52_21_10 rfl rfl rfl ?_
 refine r_iloadN H 12 d_j52_21_11 rfl rfl ?_
 refine r_caload H 13 i1 d_j52_21_12 A_a1 (by decide) rfl rfl ?_
 refine r_istore H 15 #[.val (.ref a1), .val (.int (0 : Int32)), .val (.ref a2), .val (.int (0 : Int32)), .val (.int (3 : Int32)), .val (.int (0 : Int32)), .val (.int i1)] d_j52_21_13 rfl rfl ?_
 refine r_iload H 17 d_j52_21_15 rfl rfl ?_
 refine r_sipush H 20 (255 : Int32) d_j52_21_17 (by decide) rfl ?_
 refine r_icmpleT H 26 d_j52_21_20 (by decide) (by decide) (by have := r_i1; have : (255 : Int32).toInt = 255 := (by decide); simp only [Int32.lt_iff_toInt_lt, ← Int32.toInt_inj]; omega) ?_
 refine r_aloadN H 27 d_j52_21_26 rfl rfl rfl ?_
 refine r_iloadN H 28 d_j52_21_27 rfl rfl ?_
 refine r_iload H 30 d_j52_21_28 rfl rfl ?_
 obtain ⟨p1, ep1, rp1⟩ : ∃ p : Int32, (i1.toInt8.toInt32) = p ∧ -128 ≤ p.toInt ∧ p.toInt ≤ 127 := ⟨_, rfl, (by have h := c_i2b i1; omega)⟩
 refine r_i2b H 31 p1 d_j52_21_30 ep1 rfl ?_
 refine r_bastore H 32 p1 d_j52_21_31 A_a2 (by decide) (Nat.le_of_ble_eq_true rfl) g_a2 (nar_byte_id (by have := rp1; omega)) rfl ?_
 intro h2 K2 A2
 change Ar Z h2 a2 c2 .byte [(.int p1), (.int (0 : Int32)), (.int (0 : Int32))] at A2
 refine r_iinc H 35 #[.val (.ref a1), .val (.int (1 : Int32)), .val (.ref a2), .val (.int (0 : Int32)), .val (.int (3 : Int32)), .val (.int (0 : Int32)), .val (.int i1)] (1 : Int32) d_j52_21_32 rfl (by decide) rfl rfl ?_
 refine r_iinc H 38 #[.val (.ref a1), .val (.int (1 : Int32)), .val (.ref a2), .val (.int (1 : Int32)), .val (.int (3 : Int32)), .val (.int (0 : Int32)), .val (.int i1)] (1 : Int32) d_j52_21_35 rfl (by decide) rfl rfl ?_
 refine r_iinc H 41 #[.val (.ref a1), .val (.int (1 : Int32)), .val (.ref a2), .val (.int (1 : Int32)), .val (.int (3 : Int32)), .val (.int (1 : Int32)), .val (.int i1)] (1 : Int32) d_j52_21_38 rfl (by decide) rfl rfl ?_
 refine r_goto H 3 d_j52_21_41 (by decide) (by decide) ?_
 refine r_iload H 5 d_j52_21_3 rfl rfl ?_
 refine r_iload H 7 d_j52_21_5 rfl rfl ?_
 refine r_icmpgeF H 10 d_j52_21_7 rfl (by decide) ?_
 refine r_aloadN H 11 d_j52_21_10 rfl rfl rfl ?_
 refine r_iloadN H 12 d_j52_21_11 rfl rfl ?_
 have q3 := (E_a1.keep K2)
 have q4 := (E_a2.keep K2)
 have q5 := (A_a1.keep K2 (ninS (ne_exa q3 q4 (by decide)) nin0))
 refine r_caload H 13 i2 d_j52_21_12 q5 (by decide) rfl rfl ?_
 refine r_istore H 15 #[.val (.ref a1), .val (.int (1 : Int32)), .val (.ref a2), .val (.int (1 : Int32)), .val (.int (3 : Int32)), .val (.int (1 : Int32)), .val (.int i2)] d_j52_21_13 rfl rfl ?_
 refine r_iload H 17 d_j52_21_15 rfl rfl ?_
 refine r_sipush H 20 (255 : Int32) d_j52_21_17 (by decide) rfl ?_
 refine r_icmpleT H 26 d_j52_21_20 (by decide) (by decide) (by have := r_i2; have : (255 : Int32).toInt = 255 := (by decide); simp only [Int32.lt_iff_toInt_lt, ← Int32.toInt_inj]; omega) ?_
 refine r_aloadN H 27 d_j52_21_26 rfl rfl rfl ?_
 refine r_iloadN H 28 d_j52_21_27 rfl rfl ?_
 refine r_iload H 30 d_j52_21_28 rfl rfl ?_
 obtain ⟨p6, ep6, rp6⟩ : ∃ p : Int32, (i2.toInt8.toInt32) = p ∧ -128 ≤ p.toInt ∧ p.toInt ≤ 127 := ⟨_, rfl, (by have h := c_i2b i2; omega)⟩
 refine r_i2b H 31 p6 d_j52_21_30 ep6 rfl ?_
 refine r_bastore H 32 p6 d_j52_21_31 A2 (by decide) (Nat.le_of_ble_eq_true rfl) g_a2 (nar_byte_id (by have := rp6; omega)) rfl ?_
 intro h7 K7 A7
 change Ar Z h7 a2 c2 .byte [(.int p1), (.int p6), (.int (0 : Int32))] at A7
 refine r_iinc H 35 #[.val (.ref a1), .val (.int (2 : Int32)), .val (.ref a2), .val (.int (1 : Int32)), .val (.int (3 : Int32)), .val (.int (1 : Int32)), .val (.int i2)] (2 : Int32) d_j52_21_32 rfl (by decide) rfl rfl ?_
 refine r_iinc H 38 #[.val (.ref a1), .val (.int (2 : Int32)), .val (.ref a2), .val (.int (2 : Int32)), .val (.int (3 : Int32)), .val (.int (1 : Int32)), .val (.int i2)] (2 : Int32) d_j52_21_35 rfl (by decide) rfl rfl ?_
 refine r_iinc H 41 #[.val (.ref a1), .val (.int (2 : Int32)), .val (.ref a2), .val (.int (2 : Int32)), .val (.int (3 : Int32)), .val (.int (2 : Int32)), .val (.int i2)] (2 : Int32) d_j52_21_38 rfl (by decide) rfl rfl ?_
 refine r_goto H 3 d_j52_21_41 (by decide) (by decide) ?_
 refine r_iload H 5 d_j52_21_3 rfl rfl ?_
 refine r_iload H 7 d_j52_21_5 rfl rfl ?_
 refine r_icmpgeF H 10 d_j52_21_7 rfl (by decide) ?_
 refine r_aloadN H 11 d_j52_21_10 rfl rfl rfl ?_
 refine r_iloadN H 12 d_j52_21_11 rfl rfl ?_
 have q8 := (q3.keep K7)
 have q9 := (q4.keep K7)
 have q10 := (q5.keep K7 (ninS (ne_exa q8 q9 (by decide)) nin0))
 refine r_caload H 13 i3 d_j52_21_12 q10 (by decide) rfl rfl ?_
 refine r_istore H 15 #[.val (.ref a1), .val (.int (2 : Int32)), .val (.ref a2), .val (.int (2 : Int32)), .val (.int (3 : Int32)), .val (.int (2 : Int32)), .val (.int i3)] d_j52_21_13 rfl rfl ?_
 refine r_iload H 17 d_j52_21_15 rfl rfl ?_
 refine r_sipush H 20 (255 : Int32) d_j52_21_17 (by decide) rfl ?_
 refine r_icmpleT H 26 d_j52_21_20 (by decide) (by decide) (by have := r_i3; have : (255 : Int32).toInt = 255 := (by decide); simp only [Int32.lt_iff_toInt_lt, ← Int32.toInt_inj]; omega) ?_
 refine r_aloadN H 27 d_j52_21_26 rfl rfl rfl ?_
 refine r_iloadN H 28 d_j52_21_27 rfl rfl ?_
 refine r_iload H 30 d_j52_21_28 rfl rfl ?_
 obtain ⟨p11, ep11, rp11⟩ : ∃ p : Int32, (i3.toInt8.toInt32) = p ∧ -128 ≤ p.toInt ∧ p.toInt ≤ 127 := ⟨_, rfl, (by have h := c_i2b i3; omega)⟩
 refine r_i2b H 31 p11 d_j52_21_30 ep11 rfl ?_
 refine r_bastore H 32 p11 d_j52_21_31 A7 (by decide) (Nat.le_of_ble_eq_true rfl) g_a2 (nar_byte_id (by have := rp11; omega)) rfl ?_
 intro h12 K12 A12
 change Ar Z h12 a2 c2 .byte [(.int p1), (.int p6), (.int p11)] at A12
 refine r_iinc H 35 #[.val (.ref a1), .val (.int (3 : Int32)), .val (.ref a2), .val (.int (2 : Int32)), .val (.int (3 : Int32)), .val (.int (2 : Int32)), .val (.int i3)] (3 : Int32) d_j52_21_32 rfl (by decide) rfl rfl ?_
 refine r_iinc H 38 #[.val (.ref a1), .val (.int (3 : Int32)), .val (.ref a2), .val (.int (3 : Int32)), .val (.int (3 : Int32)), .val (.int (2 : Int32)), .val (.int i3)] (3 : Int32) d_j52_21_35 rfl (by decide) rfl rfl ?_
 refine r_iinc H 41 #[.val (.ref a1), .val (.int (3 : Int32)), .val (.ref a2), .val (.int (3 : Int32)), .val (.int (3 : Int32)), .val (.int (3 : Int32)), .val (.int i3)] (3 : Int32) d_j52_21_38 rfl (by decide) rfl rfl ?_
 refine r_goto H 3 d_j52_21_41 (by decide) (by decide) ?_
 refine r_iload H 5 d_j52_21_3 rfl rfl ?_
 refine r_iload H 7 d_j52_21_5 rfl rfl ?_
 refine r_icmpgeT H 44 d_j52_21_7 (by decide) (by decide) (by decide) ?_
 refine r_iload H 46 d_j52_21_44 rfl rfl ?_
 have k13 : Keep h0 h2 [a2] := Keep.trans (Keep.refl h0 [a2]) K2 (allS (Or.inl (List.mem_of_getElem? (i := 0) rfl)) all0)
 have k14 : Keep h0 h7 [a2] := Keep.trans k13 K7 (allS (Or.inl (List.mem_of_getElem? (i := 0) rfl)) all0)
 have k15 : Keep h0 h12 [a2] := Keep.trans k14 K12 (allS (Or.inl (List.mem_of_getElem? (i := 0) rfl)) all0)
 have q16 := (q9.keep K12)
 subst ep1 ep6 ep11
 exact r_ireturn H d_j52_21_46 (by decide) (by decide) nlr (fun _ t => t) (⟨rfl, k15, A12, q16⟩)
def Q_compress_5 (Z : State) (i1 : Int32) (i2 : Int32) (i3 : Int32) (h0 : Heap) (v : Option Value) (h : Heap) : Prop := ∃ (b1 : Addr) (kc1 : ClassId), v = some (.ref b1) ∧ Keep h0 h [] ∧ h0.size ≤ b1 ∧ Ar Z h b1 kc1 .byte [(.int (cB8 i1)), (.int (cB8 i2)), (.int (cB8 i3))] ∧ Exa Z h b1 "[B"
def R_compress_5 : Room := { frames := 1, cells := 1, slots := 3, locals := 18 }
theorem rm_compress_5 {w : Bool} {Z : State} {a0 : Array Value} (hw : HW a0 Z) (Ts : List String) (a1 : Addr) (i1 : Int32) (i2 : Int32) (i3 : Int32) (c1 : ClassId) (h0 : Heap) (f : Nat) (Zf : Z.heap.size ≤ f) (Z0 : f ≤ h0.size) (A_a1 : Ar Z h0 a1 c1 .char [(.int i1), (.int i2), (.int i3)]) (E_a1 : Exa Z h0 a1 "[C") (r_i1 : 0 ≤ i1.toInt ∧ i1.toInt ≤ 255) (r_i2 : 0 ≤ i2.toInt ∧ i2.toInt ≤ 255) (r_i3 : 0 ≤ i3.toInt ∧ i3.toInt ≤ 255) :
  Con w [] Z (⟨"java/lang/StringUTF16", "compress", "([CII)[B"⟩ : MethodName) jdk_52_method_16_code 6 (some (.array .byte)) R_compress_5 Ts Ts f #[(.ref a1), (.int (0 : Int32)), (.int (3 : Int32))] h0 (Q_compress_5 Z i1 i2 i3 h0) := by
 refine con_of f #[.val (.ref a1), .val (.int (0 : Int32)), .val (.int (3 : Int32)), .unset, .unset, .unset] (plainFor_of_name pn_1) (fun m => rfl) Zf ?_
 intro C H hX0
 refine r_iloadN H 1 d_j52_16_0 rfl rfl ?_
 refine r_newP H 3 "[B" 3 d_j52_16_1 (tw26 hw) rfl (by decide) (by decide) (by decide) (by decide) (by decide) rfl ?_
 intro h1 b1 kc1 g1 l1 K1 E1 A1
 change Ar Z h1 b1 kc1 .byte [(.int (0 : Int32)), (.int (0 : Int32)), (.int (0 : Int32))] at A1
 refine r_astoreN H 4 #[.val (.ref a1), .val (.int (0 : Int32)), .val (.int (3 : Int32)), .val (.ref b1), .unset, .unset] d_j52_16_3 rfl rfl rfl ?_
 refine r_aloadN H 5 d_j52_16_4 rfl rfl rfl ?_
 refine r_iloadN H 6 d_j52_16_5 rfl rfl ?_
 refine r_aloadN H 7 d_j52_16_6 rfl rfl rfl ?_
 refine r_iconst H 8 (0 : Int32) d_j52_16_7 (by decide) rfl ?_
 refine r_iloadN H 9 d_j52_16_8 rfl rfl ?_
 have q2 := (A_a1.keep K1 nin0)
 have q3 := (E_a1.keep K1)
 refine r_static H 12 d_j52_16_9 (tw27 hw) (tw28 hw) (tw24 hw) (tw29 hw) (by decide) (lenOf pd_1 rfl) (rm_compress_6 hw Ts a1 b1 i1 i2 i3 c1 kc1 h1 f Zf (nlt Z0 K1.1) q2 A1 (nlt Z0 (Nat.le_of_eq g1.symm)) E1 q3 r_i1 r_i2 r_i3) (argsL := [(.ref a1), (.int (0 : Int32)), (.ref b1), (.int (0 : Int32)), (.int (3 : Int32))]) (rest := []) rfl (W := 0) (nlq rfl) rfl (by decide) (by decide) (by decide) (by decide) nlr rfl ?_
 rintro _ hh7 ⟨rfl, K4, q5, q6⟩
 refine r_istore H 14 #[.val (.ref a1), .val (.int (0 : Int32)), .val (.int (3 : Int32)), .val (.ref b1), .val (.int (3 : Int32)), .unset] d_j52_16_12 rfl rfl ?_
 refine r_iload H 16 d_j52_16_14 rfl rfl ?_
 refine r_iloadN H 17 d_j52_16_16 rfl rfl ?_
 refine r_icmpeqT H 57 d_j52_16_17 (by decide) (by decide) (by decide) ?_
 refine r_aloadN H 58 d_j52_16_57 rfl rfl rfl ?_
 have k8 : Keep h0 h1 [] := Keep.trans (Keep.refl h0 []) K1 all0
 have k9 : Keep h0 hh7 [] := Keep.trans k8 K4 (allS (Or.inr (nlt nlr (Nat.le_of_eq g1.symm))) all0)
 exact r_areturn H rfl rfl d_j52_16_58 (by decide) (by decide) nlr (fun _ t => t) (⟨b1, kc1, rfl, k9, (nlt nlr (Nat.le_of_eq g1.symm)), q5, q6⟩)
def Q_coderFromArrayLen_7 (Z : State) (h0 : Heap) (v : Option Value) (h : Heap) : Prop := v = some (.int (0 : Int32)) ∧ h0 = h
def R_coderFromArrayLen_7 : Room := { frames := 0, cells := 0, slots := 0, locals := 0 }
theorem rm_coderFromArrayLen_7 {w : Bool} {Z : State} {a0 : Array Value} (hw : HW a0 Z) (Ts : List String) (a1 : Addr) (i1 : Int32) (i2 : Int32) (i3 : Int32) (c1 : ClassId) (h0 : Heap) (f : Nat) (Zf : Z.heap.size ≤ f) (Z0 : f ≤ h0.size) (A_a1 : Ar Z h0 a1 c1 .byte [(.int (cB8 i1)), (.int (cB8 i2)), (.int (cB8 i3))]) :
  Con w [] Z (⟨"java/lang/StringUTF16", "coderFromArrayLen", "([BI)B"⟩ : MethodName) jdk_52_method_15_code 2 (some .byte) R_coderFromArrayLen_7 Ts Ts f #[(.ref a1), (.int (3 : Int32))] h0 (Q_coderFromArrayLen_7 Z h0) := by
 refine con_of f #[.val (.ref a1), .val (.int (3 : Int32))] (plainFor_of_name pn_1) (fun m => rfl) Zf ?_
 intro C H hX0
 refine r_iloadN H 1 d_j52_15_0 rfl rfl ?_
 refine r_aloadN H 2 d_j52_15_1 rfl rfl rfl ?_
 refine r_alen H 3 (3 : Int32) d_j52_15_2 A_a1 rfl rfl ?_
 refine r_isub H 4 (0 : Int32) d_j52_15_3 (by decide) rfl ?_
 refine r_bipush H 6 (31 : Int32) d_j52_15_4 (by decide) rfl ?_
 refine r_iushr H 7 (0 : Int32) d_j52_15_6 (by decide) rfl ?_
 refine r_i2b H 8 (0 : Int32) d_j52_15_7 (by decide) rfl ?_
 exact r_nreturn (0 : Int32) H (by simp) d_j52_15_8 (by decide) (by decide) (by decide) nlr (fun _ t => t) (⟨rfl, rfl⟩)
def Q_init_4 (Z : State) (a1 : Addr) (i1 : Int32) (i2 : Int32) (i3 : Int32) (h0 : Heap) (v : Option Value) (h : Heap) : Prop := ∃ (b1 : Addr) (kc2 : ClassId), v = none ∧ Keep h0 h [a1] ∧ h0.size ≤ b1 ∧ Exa Z h a1 "java/lang/String" ∧ Fld Z h a1 "java/lang/String" "coder" "B" (.int (0 : Int32)) ∧ Fld Z h a1 "java/lang/String" "value" "[B" (.ref b1) ∧ Ar Z h b1 kc2 .byte [(.int (cB8 i1)), (.int (cB8 i2)), (.int (cB8 i3))] ∧ Exa Z h b1 "[B"
def R_init_4 : Room := { frames := 2, cells := 1, slots := 3, locals := 35 }
theorem rm_init_4 {w : Bool} {Z : State} {a0 : Array Value} (hw : HW a0 Z) (Ts : List String) (a1 : Addr) (a2 : Addr) (i1 : Int32) (i2 : Int32) (i3 : Int32) (c1 : ClassId) (cs : Int32) (h0 : Heap) (f : Nat) (Zf : Z.heap.size ≤ f) (Z0 : f ≤ h0.size) (A_a2 : Ar Z h0 a2 c1 .char [(.int i1), (.int i2), (.int i3)]) (E_a2 : Exa Z h0 a2 "[C") (E_a1 : Exa Z h0 a1 "java/lang/String") (F_coder_a1 : Fld Z h0 a1 "java/lang/String" "coder" "B" (.int (0 : Int32))) (g_a1 : f ≤ a1) (F_value_a1 : Fld Z h0 a1 "java/lang/String" "value" "[B" .null) (r_i1 : 0 ≤ i1.toInt ∧ i1.toInt ≤ 255) (r_i2 : 0 ≤ i2.toInt ∧ i2.toInt ≤ 255) (r_i3 : 0 ≤ i3.toInt ∧ i3.toInt ≤ 255) (S_cs : G_S_cs Z cs) (hcs : ¬ cs = 0) :
  Con w [] Z (⟨"java/lang/String", "<init>", "([CIILjava/lang/Void;)V"⟩ : MethodName) jdk_42_method_149_code 6 none R_init_4 Ts Ts f #[(.ref a1), (.ref a2), (.int (0 : Int32)), (.int (3 : Int32)), .null] h0 (Q_init_4 Z a1 i1 i2 i3 h0) := by
 refine con_of f #[.val (.ref a1), .val (.ref a2), .val (.int (0 : Int32)), .val (.int (3 : Int32)), .val .null, .unset] (plainFor_of_name pn_2) (fun m => rfl) Zf ?_
 intro C H hX0
 refine r_aloadN H 1 d_j42_149_0 rfl rfl rfl ?_
 refine r_initO H 4 d_j42_149_1 (tw18 hw) (tw19 hw) (tw20 hw) rfl (by decide) (W := 0) (nlq rfl) (by decide) rfl ?_
 refine r_iloadN H 5 d_j42_149_4 rfl rfl ?_
 refine r_ifneT H 27 d_j42_149_5 (by decide) (by decide) (by decide) ?_
 refine r_gets H 30 d_j42_149_27 (tw21 hw) Via.refl S_cs rfl ?_
 refine r_ifeqF H 33 d_j42_149_30 rfl hcs ?_
 refine r_aloadN H 34 d_j42_149_33 rfl rfl rfl ?_
 refine r_iloadN H 35 d_j42_149_34 rfl rfl ?_
 refine r_iloadN H 36 d_j42_149_35 rfl rfl ?_
 refine r_static H 39 d_j42_149_36 (tw22 hw) (tw23 hw) (tw24 hw) (tw25 hw) (by decide) (lenOf pd_2 rfl) (rm_compress_5 hw Ts a2 i1 i2 i3 c1 h0 f Zf Z0 A_a2 E_a2 r_i1 r_i2 r_i3) (argsL := [(.ref a2), (.int (0 : Int32)), (.int (3 : Int32))]) (rest := []) rfl (W := 0) (nlq rfl) rfl (by decide) (by decide) (by decide) (by decide) nlr rfl ?_
 rintro _ hh7 ⟨b1, kc2, rfl, K3, g4, q5, q6⟩
 refine r_astore H 41 #[.val (.ref a1), .val (.ref a2), .val (.int (0 : Int32)), .val (.int (3 : Int32)), .val .null, .val (.ref b1)] d_j42_149_39 rfl rfl rfl ?_
 refine r_aloadN H 42 d_j42_149_41 rfl rfl rfl ?_
 refine r_aload H 44 d_j42_149_42 rfl rfl rfl ?_
 refine r_iloadN H 45 d_j42_149_44 rfl rfl ?_
 refine r_static H 48 d_j42_149_45 (tw30 hw) (tw31 hw) (tw24 hw) (tw32 hw) (by decide) (lenOf pd_3 rfl) (rm_coderFromArrayLen_7 hw Ts b1 i1 i2 i3 kc2 hh7 f Zf (nlt Z0 K3.1) q5) (argsL := [(.ref b1), (.int (3 : Int32))]) (rest := [(.ref a1)]) rfl (W := 1) (nlq rfl) rfl (by decide) (by decide) (by decide) (by decide) nlr rfl ?_
 rintro _ _ ⟨rfl, rfl⟩
 have q9 := (E_a1.keep K3)
 have q10 := (F_coder_a1.keep K3 nin0)
 refine r_putn H 51 (v' := (.int (0 : Int32))) d_j42_149_48 (tw33 hw) Via.refl q10 q9 (Or.inr ⟨(tw34 hw), rfl, rfl⟩) (tw9 hw) (ty := .byte) (by decide) rfl (by decide) g_a1 rfl ?_
 intro h11 W11 K11 E11 F11
 refine r_aloadN H 52 d_j42_149_51 rfl rfl rfl ?_
 refine r_aload H 54 d_j42_149_52 rfl rfl rfl ?_
 have q12 := ((F_value_a1.keep K3 nin0).other W11 (Or.inr (slot_ne (Or.inr (tw36 hw)) (Or.inr (tw34 hw)) (by decide) (t := (.array .byte)) (t' := .byte) (by decide) (by decide))))
 refine r_putf H 57 d_j42_149_54 (tw35 hw) Via.refl q12 E11 (Or.inr ⟨(tw36 hw), rfl, rfl⟩) (tw9 hw) (ty := (.array .byte)) (by decide) rfl rfl g_a1 rfl ?_
 intro h13 W13 K13 E13 F13
 have k14 : Keep h0 hh7 [a1] := Keep.trans (Keep.refl h0 [a1]) K3 all0
 have k15 : Keep h0 h11 [a1] := Keep.trans k14 K11 (allS (Or.inl (List.mem_of_getElem? (i := 0) rfl)) all0)
 have k16 : Keep h0 h13 [a1] := Keep.trans k15 K13 (allS (Or.inl (List.mem_of_getElem? (i := 0) rfl)) all0)
 have q17 := (F11.other W13 (Or.inr (slot_ne (Or.inr (tw34 hw)) (Or.inr (tw36 hw)) (by decide) (t := .byte) (t' := (.array .byte)) (by decide) (by decide))))
 have q18 := ((q5.keep K11 (ninS (Ne.symm (Nat.ne_of_lt (Nat.lt_of_lt_of_le E_a1.lt (nlt nlr g4)))) nin0)).keep K13 (ninS (Ne.symm (Nat.ne_of_lt (Nat.lt_of_lt_of_le E_a1.lt (nlt nlr g4)))) nin0))
 have q19 := ((q6.keep K11).keep K13)
 exact r_return H d_j42_149_57 (by decide) (by decide) nlr (fun _ t => t) (⟨b1, kc2, rfl, k16, (nlt nlr g4), E13, q17, F13, q18, q19⟩)
def Q_init_3 (Z : State) (a1 : Addr) (i1 : Int32) (i2 : Int32) (i3 : Int32) (h0 : Heap) (v : Option Value) (h : Heap) : Prop := ∃ (b1 : Addr) (kc2 : ClassId), v = none ∧ Keep h0 h [a1] ∧ h0.size ≤ b1 ∧ Exa Z h a1 "java/lang/String" ∧ Fld Z h a1 "java/lang/String" "coder" "B" (.int (0 : Int32)) ∧ Fld Z h a1 "java/lang/String" "value" "[B" (.ref b1) ∧ Ar Z h b1 kc2 .byte [(.int (cB8 i1)), (.int (cB8 i2)), (.int (cB8 i3))] ∧ Exa Z h b1 "[B"
def R_init_3 : Room := { frames := 3, cells := 1, slots := 3, locals := 52 }
theorem rm_init_3 {w : Bool} {Z : State} {a0 : Array Value} (hw : HW a0 Z) (Ts : List String) (a1 : Addr) (a2 : Addr) (i1 : Int32) (i2 : Int32) (i3 : Int32) (c1 : ClassId) (cs : Int32) (h0 : Heap) (f : Nat) (Zf : Z.heap.size ≤ f) (Z0 : f ≤ h0.size) (A_a2 : Ar Z h0 a2 c1 .char [(.int i1), (.int i2), (.int i3)]) (g_a1 : f ≤ a1) (E_a2 : Exa Z h0 a2 "[C") (E_a1 : Exa Z h0 a1 "java/lang/String") (F_coder_a1 : Fld Z h0 a1 "java/lang/String" "coder" "B" (.int (0 : Int32))) (F_value_a1 : Fld Z h0 a1 "java/lang/String" "value" "[B" .null) (r_i1 : 0 ≤ i1.toInt ∧ i1.toInt ≤ 255) (r_i2 : 0 ≤ i2.toInt ∧ i2.toInt ≤ 255) (r_i3 : 0 ≤ i3.toInt ∧ i3.toInt ≤ 255) (S_cs : G_S_cs Z cs) (hcs : ¬ cs = 0) :
  Con w [] Z (⟨"java/lang/String", "<init>", "([C)V"⟩ : MethodName) jdk_42_method_3_code 2 none R_init_3 Ts Ts f #[(.ref a1), (.ref a2)] h0 (Q_init_3 Z a1 i1 i2 i3 h0) := by
 refine con_of f #[.val (.ref a1), .val (.ref a2)] (plainFor_of_name pn_2) (fun m => rfl) Zf ?_
 intro C H hX0
 refine r_aloadN H 1 d_j42_3_0 rfl rfl rfl ?_
 refine r_aloadN H 2 d_j42_3_1 rfl rfl rfl ?_
 refine r_iconst H 3 (0 : Int32) d_j42_3_2 (by decide) rfl ?_
 refine r_aloadN H 4 d_j42_3_3 rfl rfl rfl ?_
 refine r_alen H 5 (3 : Int32) d_j42_3_4 A_a2 rfl rfl ?_
 refine r_null H 6 d_j42_3_5 rfl ?_
 refine r_special H 9 (a := a1) d_j42_3_6 (tw14 hw) (tw15 hw) (tw10 hw) (tw17 hw) (by decide) rfl (lenOf pd_4 rfl) (rm_init_4 hw Ts a1 a2 i1 i2 i3 c1 cs h0 f Zf Z0 A_a2 E_a2 E_a1 F_coder_a1 g_a1 F_value_a1 r_i1 r_i2 r_i3 S_cs hcs) (argsL := [(.ref a2), (.int (0 : Int32)), (.int (3 : Int32)), .null]) (rest := []) rfl (W := 0) (nlq rfl) rfl (by decide) (by decide) (by decide) (by decide) nlr rfl ?_
 rintro _ hh10 ⟨b1, kc2, rfl, K3, g4, q5, q6, q7, q8, q9⟩
 have k11 : Keep h0 hh10 [a1] := Keep.trans (Keep.refl h0 [a1]) K3 (allS (Or.inl (List.mem_of_getElem? (i := 0) rfl)) all0)
 exact r_return H d_j42_3_9 (by decide) (by decide) nlr (fun _ t => t) (⟨b1, kc2, rfl, k11, (nlt nlr g4), q5, q6, q7, q8, q9⟩)
def Q_compress_11 (Z : State) (a2 : Addr) (i1 : Int32) (i2 : Int32) (c2 : ClassId) (h0 : Heap) (v : Option Value) (h : Heap) : Prop := v = some (.int (2 : Int32)) ∧ Keep h0 h [a2] ∧ Ar Z h a2 c2 .byte [(.int (cB8 i1)), (.int (cB8 i2))] ∧ Exa Z h a2 "[B"
def R_compress_11 : Room := { frames := 0, cells := 0, slots := 0, locals := 0 }
theorem rm_compress_11 {w : Bool} {Z : State} {a0 : Array Value} (hw : HW a0 Z) (Ts : List String) (a1 : Addr) (a2 : Addr) (i1 : Int32) (i2 : Int32) (c1 : ClassId) (c2 : ClassId) (h0 : Heap) (f : Nat) (Zf : Z.heap.size ≤ f) (Z0 : f ≤ h0.size) (A_a1 : Ar Z h0 a1 c1 .char [(.int i1), (.int i2)]) (A_a2 : Ar Z h0 a2 c2 .byte [(.int (0 : Int32)), (.int (0 : Int32))]) (g_a2 : f ≤ a2) (E_a2 : Exa Z h0 a2 "[B") (E_a1 : Exa Z h0 a1 "[C") (r_i1 : 0 ≤ i1.toInt ∧ i1.toInt ≤ 255) (r_i2 : 0 ≤ i2.toInt ∧ i2.toInt ≤ 255) :
  Con w [] Z (⟨"java/lang/StringUTF16", "compress", "([CI[BII)I"⟩ : MethodName) jdk_52_method_21_code 7 (some .int) R_compress_11 Ts Ts f #[(.ref a1), (.int (0 : Int32)), (.ref a2), (.int (0 : Int32)), (.int (2 : Int32))] h0 (Q_compress_11 Z a2 i1 i2 c2 h0) := by
 refine con_of f #[.val (.ref a1), .val (.int (0 : Int32)), .val (.ref a2), .val (.int (0 : Int32)), .val (.int (2 : Int32)), .unset, .unset] (plainFor_of_name pn_1) (fun m => rfl) Zf ?_
 intro C H hX0
 refine r_iconst H 1 (0 : Int32) d_j52_21_0 (by decide) rfl ?_
 refine r_istore H 3 #[.val (.ref a1), .val (.int (0 : Int32)), .val (.ref a2), .val (.int (0 : Int32)), .val (.int (2 : Int32)), .val (.int (0 : Int32)), .unset] d_j52_21_1 rfl rfl ?_
 refine r_iload H 5 d_j52_21_3 rfl rfl ?_
 refine r_iload H 7 d_j52_21_5 rfl rfl ?_
 refine r_icmpgeF H 10 d_j52_21_7 rfl (by decide) ?_
 refine r_aloadN H 11 d_j52_21_10 rfl rfl rfl ?_
 refine r_iloadN H 12 d_j52_21_11 rfl rfl ?_
 refine r_caload H 13 i1 d_j52_21_12 A_a1 (by decide) rfl rfl ?_
 refine r_istore H 15 #[.val (.ref a1), .val (.int (0 : Int32)), .val (.ref a2), .val (.int (0 : Int32)), .val (.int (2 : Int32)), .val (.int (0 : Int32)), .val (.int i1)] d_j52_21_13 rfl rfl ?_
 refine r_iload H 17 d_j52_21_15 rfl rfl ?_
 refine r_sipush H 20 (255 : Int32) d_j52_21_17 (by decide) rfl ?_
 refine r_icmpleT H 26 d_j52_21_20 (by decide) (by decide) (by have := r_i1; have : (255 : Int32).toInt = 255 := (by decide); simp only [Int32.lt_iff_toInt_lt, ← Int32.toInt_inj]; omega) ?_
 refine r_aloadN H 27 d_j52_21_26 rfl rfl rfl ?_
 refine r_iloadN H 28 d_j52_21_27 rfl rfl ?_
 refine r_iload H 30 d_j52_21_28 rfl rfl ?_
 obtain ⟨p1, ep1, rp1⟩ : ∃ p : Int32, (i1.toInt8.toInt32) = p ∧ -128 ≤ p.toInt ∧ p.toInt ≤ 127 := ⟨_, rfl, (by have h := c_i2b i1; omega)⟩
 refine r_i2b H 31 p1 d_j52_21_30 ep1 rfl ?_
 refine r_bastore H 32 p1 d_j52_21_31 A_a2 (by decide) (Nat.le_of_ble_eq_true rfl) g_a2 (nar_byte_id (by have := rp1; omega)) rfl ?_
 intro h2 K2 A2
 change Ar Z h2 a2 c2 .byte [(.int p1), (.int (0 : Int32))] at A2
 refine r_iinc H 35 #[.val (.ref a1), .val (.int (1 : Int32)), .val (.ref a2), .val (.int (0 : Int32)), .val (.int (2 : Int32)), .val (.int (0 : Int32)), .val (.int i1)] (1 : Int32) d_j52_21_32 rfl (by decide) rfl rfl ?_
 refine r_iinc H 38 #[.val (.ref a1), .val (.int (1 : Int32)), .val (.ref a2), .val (.int (1 : Int32)), .val (.int (2 : Int32)), .val (.int (0 : Int32)), .val (.int i1)] (1 : Int32) d_j52_21_35 rfl (by decide) rfl rfl ?_
 refine r_iinc H 41 #[.val (.ref a1), .val (.int (1 : Int32)), .val (.ref a2), .val (.int (1 : Int32)), .val (.int (2 : Int32)), .val (.int (1 : Int32)), .val (.int i1)] (1 : Int32) d_j52_21_38 rfl (by decide) rfl rfl ?_
 refine r_goto H 3 d_j52_21_41 (by decide) (by decide) ?_
 refine r_iload H 5 d_j52_21_3 rfl rfl ?_
 refine r_iload H 7 d_j52_21_5 rfl rfl ?_
 refine r_icmpgeF H 10 d_j52_21_7 rfl (by decide) ?_
 refine r_aloadN H 11 d_j52_21_10 rfl rfl rfl ?_
 refine r_iloadN H 12 d_j52_21_11 rfl rfl ?_
 have q3 := (E_a1.keep K2)
 have q4 := (E_a2.keep K2)
 have q5 := (A_a1.keep K2 (ninS (ne_exa q3 q4 (by decide)) nin0))
 refine r_caload H 13 i2 d_j52_21_12 q5 (by decide) rfl rfl ?_
 refine r_istore H 15 #[.val (.ref a1), .val (.int (1 : Int32)), .val (.ref a2), .val (.int (1 : Int32)), .val (.int (2 : Int32)), .val (.int (1 : Int32)), .val (.int i2)] d_j52_21_13 rfl rfl ?_
 refine r_iload H 17 d_j52_21_15 rfl rfl ?_
 refine r_sipush H 20 (255 : Int32) d_j52_21_17 (by decide) rfl ?_
 refine r_icmpleT H 26 d_j52_21_20 (by decide) (by decide) (by have := r_i2; have : (255 : Int32).toInt = 255 := (by decide); simp only [Int32.lt_iff_toInt_lt, ← Int32.toInt_inj]; omega) ?_
 refine r_aloadN H 27 d_j52_21_26 rfl rfl rfl ?_
 refine r_iloadN H 28 d_j52_21_27 rfl rfl ?_
 refine r_iload H 30 d_j52_21_28 rfl rfl ?_
 obtain ⟨p6, ep6, rp6⟩ : ∃ p : Int32, (i2.toInt8.toInt32) = p ∧ -128 ≤ p.toInt ∧ p.toInt ≤ 127 := ⟨_, rfl, (by have h := c_i2b i2; omega)⟩
 refine r_i2b H 31 p6 d_j52_21_30 ep6 rfl ?_
 refine r_bastore H 32 p6 d_j52_21_31 A2 (by decide) (Nat.le_of_ble_eq_true rfl) g_a2 (nar_byte_id (by have := rp6; omega)) rfl ?_
 intro h7 K7 A7
 change Ar Z h7 a2 c2 .byte [(.int p1), (.int p6)] at A7
 refine r_iinc H 35 #[.val (.ref a1), .val (.int (2 : Int32)), .val (.ref a2), .val (.int (1 : Int32)), .val (.int (2 : Int32)), .val (.int (1 : Int32)), .val (.int i2)] (2 : Int32) d_j52_21_32 rfl (by decide) rfl rfl ?_
 refine r_iinc H 38 #[.val (.ref a1), .val (.int (2 : Int32)), .val (.ref a2), .val (.int (2 : Int32)), .val (.int (2 : Int32)), .val (.int (1 : Int32)), .val (.int i2)] (2 : Int32) d_j52_21_35 rfl (by decide) rfl rfl ?_
 refine r_iinc H 41 #[.val (.ref a1), .val (.int (2 : Int32)), .val (.ref a2), .val (.int (2 : Int32)), .val (.int (2 : Int32)), .val (.int (2 : Int32)), .val (.int i2)] (2 : Int32) d_j52_21_38 rfl (by decide) rfl rfl ?_
 refine r_goto H 3 d_j52_21_41 (by decide) (by decide) ?_
 refine r_iload H 5 d_j52_21_3 rfl rfl ?_
 refine r_iload H 7 d_j52_21_5 rfl rfl ?_
 refine r_icmpgeT H 44 d_j52_21_7 (by decide) (by decide) (by decide) ?_
 refine r_iload H 46 d_j52_21_44 rfl rfl ?_
 have k8 : Keep h0 h2 [a2] := Keep.trans (Keep.refl h0 [a2]) K2 (allS (Or.inl (List.mem_of_getElem? (i := 0) rfl)) all0)
 have k9 : Keep h0 h7 [a2] := Keep.trans k8 K7 (allS (Or.inl (List.mem_of_getElem? (i := 0) rfl)) all0)
 have q10 := (q4.keep K7)
 subst ep1 ep6
 exact r_ireturn H d_j52_21_46 (by decide) (by decide) nlr (fun _ t => t) (⟨rfl, k9, A7, q10⟩)
def Q_compress_10 (Z : State) (i1 : Int32) (i2 : Int32) (h0 : Heap) (v : Option Value) (h : Heap) : Prop := ∃ (b1 : Addr) (kc1 : ClassId), v = some (.ref b1) ∧ Keep h0 h [] ∧ h0.size ≤ b1 ∧ Ar Z h b1 kc1 .byte [(.int (cB8 i1)), (.int (cB8 i2))] ∧ Exa Z h b1 "[B"
def R_compress_10 : Room := { frames := 1, cells := 1, slots := 2, locals := 18 }
theorem rm_compress_10 {w : Bool} {Z : State} {a0 : Array Value} (hw : HW a0 Z) (Ts : List String) (a1 : Addr) (i1 : Int32) (i2 : Int32) (c1 : ClassId) (h0 : Heap) (f : Nat) (Zf : Z.heap.size ≤ f) (Z0 : f ≤ h0.size) (A_a1 : Ar Z h0 a1 c1 .char [(.int i1), (.int i2)]) (E_a1 : Exa Z h0 a1 "[C") (r_i1 : 0 ≤ i1.toInt ∧ i1.toInt ≤ 255) (r_i2 : 0 ≤ i2.toInt ∧ i2.toInt ≤ 255) :
  Con w [] Z (⟨"java/lang/StringUTF16", "compress", "([CII)[B"⟩ : MethodName) jdk_52_method_16_code 6 (some (.array .byte)) R_compress_10 Ts Ts f #[(.ref a1), (.int (0 : Int32)), (.int (2 : Int32))] h0 (Q_compress_10 Z i1 i2 h0) := by
 refine con_of f #[.val (.ref a1), .val (.int (0 : Int32)), .val (.int (2 : Int32)), .unset, .unset, .unset] (plainFor_of_name pn_1) (fun m => rfl) Zf ?_
 intro C H hX0
 refine r_iloadN H 1 d_j52_16_0 rfl rfl ?_
 refine r_newP H 3 "[B" 2 d_j52_16_1 (tw26 hw) rfl (by decide) (by decide) (by decide) (by decide) (by decide) rfl ?_
 intro h1 b1 kc1 g1 l1 K1 E1 A1
 change Ar Z h1 b1 kc1 .byte [(.int (0 : Int32)), (.int (0 : Int32))] at A1
 refine r_astoreN H 4 #[.val (.ref a1), .val (.int (0 : Int32)), .val (.int (2 : Int32)), .val (.ref b1), .unset, .unset] d_j52_16_3 rfl rfl rfl ?_
 refine r_aloadN H 5 d_j52_16_4 rfl rfl rfl ?_
 refine r_iloadN H 6 d_j52_16_5 rfl rfl ?_
 refine r_aloadN H 7 d_j52_16_6 rfl rfl rfl ?_
 refine r_iconst H 8 (0 : Int32) d_j52_16_7 (by decide) rfl ?_
 refine r_iloadN H 9 d_j52_16_8 rfl rfl ?_
 have q2 := (A_a1.keep K1 nin0)
 have q3 := (E_a1.keep K1)
 refine r_static H 12 d_j52_16_9 (tw27 hw) (tw28 hw) (tw24 hw) (tw29 hw) (by decide) (lenOf pd_1 rfl) (rm_compress_11 hw Ts a1 b1 i1 i2 c1 kc1 h1 f Zf (nlt Z0 K1.1) q2 A1 (nlt Z0 (Nat.le_of_eq g1.symm)) E1 q3 r_i1 r_i2) (argsL := [(.ref a1), (.int (0 : Int32)), (.ref b1), (.int (0 : Int32)), (.int (2 : Int32))]) (rest := []) rfl (W := 0) (nlq rfl) rfl (by decide) (by decide) (by decide) (by decide) nlr rfl ?_
 rintro _ hh7 ⟨rfl, K4, q5, q6⟩
 refine r_istore H 14 #[.val (.ref a1), .val (.int (0 : Int32)), .val (.int (2 : Int32)), .val (.ref b1), .val (.int (2 : Int32)), .unset] d_j52_16_12 rfl rfl ?_
 refine r_iload H 16 d_j52_16_14 rfl rfl ?_
 refine r_iloadN H 17 d_j52_16_16 rfl rfl ?_
 refine r_icmpeqT H 57 d_j52_16_17 (by decide) (by decide) (by decide) ?_
 refine r_aloadN H 58 d_j52_16_57 rfl rfl rfl ?_
 have k8 : Keep h0 h1 [] := Keep.trans (Keep.refl h0 []) K1 all0
 have k9 : Keep h0 hh7 [] := Keep.trans k8 K4 (allS (Or.inr (nlt nlr (Nat.le_of_eq g1.symm))) all0)
 exact r_areturn H rfl rfl d_j52_16_58 (by decide) (by decide) nlr (fun _ t => t) (⟨b1, kc1, rfl, k9, (nlt nlr (Nat.le_of_eq g1.symm)), q5, q6⟩)
def Q_coderFromArrayLen_12 (Z : State) (h0 : Heap) (v : Option Value) (h : Heap) : Prop := v = some (.int (0 : Int32)) ∧ h0 = h
def R_coderFromArrayLen_12 : Room := { frames := 0, cells := 0, slots := 0, locals := 0 }
theorem rm_coderFromArrayLen_12 {w : Bool} {Z : State} {a0 : Array Value} (hw : HW a0 Z) (Ts : List String) (a1 : Addr) (i1 : Int32) (i2 : Int32) (c1 : ClassId) (h0 : Heap) (f : Nat) (Zf : Z.heap.size ≤ f) (Z0 : f ≤ h0.size) (A_a1 : Ar Z h0 a1 c1 .byte [(.int (cB8 i1)), (.int (cB8 i2))]) :
  Con w [] Z (⟨"java/lang/StringUTF16", "coderFromArrayLen", "([BI)B"⟩ : MethodName) jdk_52_method_15_code 2 (some .byte) R_coderFromArrayLen_12 Ts Ts f #[(.ref a1), (.int (2 : Int32))] h0 (Q_coderFromArrayLen_12 Z h0) := by
 refine con_of f #[.val (.ref a1), .val (.int (2 : Int32))] (plainFor_of_name pn_1) (fun m => rfl) Zf ?_
 intro C H hX0
 refine r_iloadN H 1 d_j52_15_0 rfl rfl ?_
 refine r_aloadN H 2 d_j52_15_1 rfl rfl rfl ?_
 refine r_alen H 3 (2 : Int32) d_j52_15_2 A_a1 rfl rfl ?_
 refine r_isub H 4 (0 : Int32) d_j52_15_3 (by decide) rfl ?_
 refine r_bipush H 6 (31 : Int32) d_j52_15_4 (by decide) rfl ?_
 refine r_iushr H 7 (0 : Int32) d_j52_15_6 (by decide) rfl ?_
 refine r_i2b H 8 (0 : Int32) d_j52_15_7 (by decide) rfl ?_
 exact r_nreturn (0 : Int32) H (by simp) d_j52_15_8 (by decide) (by decide) (by decide) nlr (fun _ t => t) (⟨rfl, rfl⟩)
def Q_init_9 (Z : State) (a1 : Addr) (i1 : Int32) (i2 : Int32) (h0 : Heap) (v : Option Value) (h : Heap) : Prop := ∃ (b1 : Addr) (kc2 : ClassId), v = none ∧ Keep h0 h [a1] ∧ h0.size ≤ b1 ∧ Exa Z h a1 "java/lang/String" ∧ Fld Z h a1 "java/lang/String" "coder" "B" (.int (0 : Int32)) ∧ Fld Z h a1 "java/lang/String" "value" "[B" (.ref b1) ∧ Ar Z h b1 kc2 .byte [(.int (cB8 i1)), (.int (cB8 i2))] ∧ Exa Z h b1 "[B"
def R_init_9 : Room := { frames := 2, cells := 1, slots := 2, locals := 35 }
theorem rm_init_9 {w : Bool} {Z : State} {a0 : Array Value} (hw : HW a0 Z) (Ts : List String) (a1 : Addr) (a2 : Addr) (i1 : Int32) (i2 : Int32) (c1 : ClassId) (cs : Int32) (h0 : Heap) (f : Nat) (Zf : Z.heap.size ≤ f) (Z0 : f ≤ h0.size) (A_a2 : Ar Z h0 a2 c1 .char [(.int i1), (.int i2)]) (E_a2 : Exa Z h0 a2 "[C") (E_a1 : Exa Z h0 a1 "java/lang/String") (F_coder_a1 : Fld Z h0 a1 "java/lang/String" "coder" "B" (.int (0 : Int32))) (g_a1 : f ≤ a1) (F_value_a1 : Fld Z h0 a1 "java/lang/String" "value" "[B" .null) (r_i1 : 0 ≤ i1.toInt ∧ i1.toInt ≤ 255) (r_i2 : 0 ≤ i2.toInt ∧ i2.toInt ≤ 255) (S_cs : G_S_cs Z cs) (hcs : ¬ cs = 0) :
  Con w [] Z (⟨"java/lang/String", "<init>", "([CIILjava/lang/Void;)V"⟩ : MethodName) jdk_42_method_149_code 6 none R_init_9 Ts Ts f #[(.ref a1), (.ref a2), (.int (0 : Int32)), (.int (2 : Int32)), .null] h0 (Q_init_9 Z a1 i1 i2 h0) := by
 refine con_of f #[.val (.ref a1), .val (.ref a2), .val (.int (0 : Int32)), .val (.int (2 : Int32)), .val .null, .unset] (plainFor_of_name pn_2) (fun m => rfl) Zf ?_
 intro C H hX0
 refine r_aloadN H 1 d_j42_149_0 rfl rfl rfl ?_
 refine r_initO H 4 d_j42_149_1 (tw18 hw) (tw19 hw) (tw20 hw) rfl (by decide) (W := 0) (nlq rfl) (by decide) rfl ?_
 refine r_iloadN H 5 d_j42_149_4 rfl rfl ?_
 refine r_ifneT H 27 d_j42_149_5 (by decide) (by decide) (by decide) ?_
 refine r_gets H 30 d_j42_149_27 (tw21 hw) Via.refl S_cs rfl ?_
 refine r_ifeqF H 33 d_j42_149_30 rfl hcs ?_
 refine r_aloadN H 34 d_j42_149_33 rfl rfl rfl ?_
 refine r_iloadN H 35 d_j42_149_34 rfl rfl ?_
 refine r_iloadN H 36 d_j42_149_35 rfl rfl ?_
 refine r_static H 39 d_j42_149_36 (tw22 hw) (tw23 hw) (tw24 hw) (tw25 hw) (by decide) (lenOf pd_2 rfl) (rm_compress_10 hw Ts a2 i1 i2 c1 h0 f Zf Z0 A_a2 E_a2 r_i1 r_i2) (argsL := [(.ref a2), (.int (0 : Int32)), (.int (2 : Int32))]) (rest := []) rfl (W := 0) (nlq rfl) rfl (by decide) (by decide) (by decide) (by decide) nlr rfl ?_
 rintro _ hh7 ⟨b1, kc2, rfl, K3, g4, q5, q6⟩
 refine r_astore H 41 #[.val (.ref a1), .val (.ref a2), .val (.int (0 : Int32)), .val (.int (2 : Int32)), .val .null, .val (.ref b1)] d_j42_149_39 rfl rfl rfl ?_
 refine r_aloadN H 42 d_j42_149_41 rfl rfl rfl ?_
 refine r_aload H 44 d_j42_149_42 rfl rfl rfl ?_
 refine r_iloadN H 45 d_j42_149_44 rfl rfl ?_
 refine r_static H 48 d_j42_149_45 (tw30 hw) (tw31 hw) (tw24 hw) (tw32 hw) (by decide) (lenOf pd_3 rfl) (rm_coderFromArrayLen_12 hw Ts b1 i1 i2 kc2 hh7 f Zf (nlt Z0 K3.1) q5) (argsL := [(.ref b1), (.int (2 : Int32))]) (rest := [(.ref a1)]) rfl (W := 1) (nlq rfl) rfl (by decide) (by decide) (by decide) (by decide) nlr rfl ?_
 rintro _ _ ⟨rfl, rfl⟩
 have q9 := (E_a1.keep K3)
 have q10 := (F_coder_a1.keep K3 nin0)
 refine r_putn H 51 (v' := (.int (0 : Int32))) d_j42_149_48 (tw33 hw) Via.refl q10 q9 (Or.inr ⟨(tw34 hw), rfl, rfl⟩) (tw9 hw) (ty := .byte) (by decide) rfl (by decide) g_a1 rfl ?_
 intro h11 W11 K11 E11 F11
 refine r_aloadN H 52 d_j42_149_51 rfl rfl rfl ?_
 refine r_aload H 54 d_j42_149_52 rfl rfl rfl ?_
 have q12 := ((F_value_a1.keep K3 nin0).other W11 (Or.inr (slot_ne (Or.inr (tw36 hw)) (Or.inr (tw34 hw)) (by decide) (t := (.array .byte)) (t' := .byte) (by decide) (by decide))))
 refine r_putf H 57 d_j42_149_54 (tw35 hw) Via.refl q12 E11 (Or.inr ⟨(tw36 hw), rfl, rfl⟩) (tw9 hw) (ty := (.array .byte)) (by decide) rfl rfl g_a1 rfl ?_
 intro h13 W13 K13 E13 F13
 have k14 : Keep h0 hh7 [a1] := Keep.trans (Keep.refl h0 [a1]) K3 all0
 have k15 : Keep h0 h11 [a1] := Keep.trans k14 K11 (allS (Or.inl (List.mem_of_getElem? (i := 0) rfl)) all0)
 have k16 : Keep h0 h13 [a1] := Keep.trans k15 K13 (allS (Or.inl (List.mem_of_getElem? (i := 0) rfl)) all0)
 have q17 := (F11.other W13 (Or.inr (slot_ne (Or.inr (tw34 hw)) (Or.inr (tw36 hw)) (by decide) (t := .byte) (t' := (.array .byte)) (by decide) (by decide))))
 have q18 := ((q5.keep K11 (ninS (Ne.symm (Nat.ne_of_lt (Nat.lt_of_lt_of_le E_a1.lt (nlt nlr g4)))) nin0)).keep K13 (ninS (Ne.symm (Nat.ne_of_lt (Nat.lt_of_lt_of_le E_a1.lt (nlt nlr g4)))) nin0))
 have q19 := ((q6.keep K11).keep K13)
 exact r_return H d_j42_149_57 (by decide) (by decide) nlr (fun _ t => t) (⟨b1, kc2, rfl, k16, (nlt nlr g4), E13, q17, F13, q18, q19⟩)
def Q_init_8 (Z : State) (a1 : Addr) (i1 : Int32) (i2 : Int32) (h0 : Heap) (v : Option Value) (h : Heap) : Prop := ∃ (b1 : Addr) (kc2 : ClassId), v = none ∧ Keep h0 h [a1] ∧ h0.size ≤ b1 ∧ Exa Z h a1 "java/lang/String" ∧ Fld Z h a1 "java/lang/String" "coder" "B" (.int (0 : Int32)) ∧ Fld Z h a1 "java/lang/String" "value" "[B" (.ref b1) ∧ Ar Z h b1 kc2 .byte [(.int (cB8 i1)), (.int (cB8 i2))] ∧ Exa Z h b1 "[B"
def R_init_8 : Room := { frames := 3, cells := 1, slots := 2, locals := 52 }
theorem rm_init_8 {w : Bool} {Z : State} {a0 : Array Value} (hw : HW a0 Z) (Ts : List String) (a1 : Addr) (a2 : Addr) (i1 : Int32) (i2 : Int32) (c1 : ClassId) (cs : Int32) (h0 : Heap) (f : Nat) (Zf : Z.heap.size ≤ f) (Z0 : f ≤ h0.size) (A_a2 : Ar Z h0 a2 c1 .char [(.int i1), (.int i2)]) (g_a1 : f ≤ a1) (E_a2 : Exa Z h0 a2 "[C") (E_a1 : Exa Z h0 a1 "java/lang/String") (F_coder_a1 : Fld Z h0 a1 "java/lang/String" "coder" "B" (.int (0 : Int32))) (F_value_a1 : Fld Z h0 a1 "java/lang/String" "value" "[B" .null) (r_i1 : 0 ≤ i1.toInt ∧ i1.toInt ≤ 255) (r_i2 : 0 ≤ i2.toInt ∧ i2.toInt ≤ 255) (S_cs : G_S_cs Z cs) (hcs : ¬ cs = 0) :
  Con w [] Z (⟨"java/lang/String", "<init>", "([C)V"⟩ : MethodName) jdk_42_method_3_code 2 none R_init_8 Ts Ts f #[(.ref a1), (.ref a2)] h0 (Q_init_8 Z a1 i1 i2 h0) := by
 refine con_of f #[.val (.ref a1), .val (.ref a2)] (plainFor_of_name pn_2) (fun m => rfl) Zf ?_
 intro C H hX0
 refine r_aloadN H 1 d_j42_3_0 rfl rfl rfl ?_
 refine r_aloadN H 2 d_j42_3_1 rfl rfl rfl ?_
 refine r_iconst H 3 (0 : Int32) d_j42_3_2 (by decide) rfl ?_
 refine r_aloadN H 4 d_j42_3_3 rfl rfl rfl ?_
 refine r_alen H 5 (2 : Int32) d_j42_3_4 A_a2 rfl rfl ?_
 refine r_null H 6 d_j42_3_5 rfl ?_
 refine r_special H 9 (a := a1) d_j42_3_6 (tw14 hw) (tw15 hw) (tw10 hw) (tw17 hw) (by decide) rfl (lenOf pd_4 rfl) (rm_init_9 hw Ts a1 a2 i1 i2 c1 cs h0 f Zf Z0 A_a2 E_a2 E_a1 F_coder_a1 g_a1 F_value_a1 r_i1 r_i2 S_cs hcs) (argsL := [(.ref a2), (.int (0 : Int32)), (.int (2 : Int32)), .null]) (rest := []) rfl (W := 0) (nlq rfl) rfl (by decide) (by decide) (by decide) (by decide) nlr rfl ?_
 rintro _ hh10 ⟨b1, kc2, rfl, K3, g4, q5, q6, q7, q8, q9⟩
 have k11 : Keep h0 hh10 [a1] := Keep.trans (Keep.refl h0 [a1]) K3 (allS (Or.inl (List.mem_of_getElem? (i := 0) rfl)) all0)
 exact r_return H d_j42_3_9 (by decide) (by decide) nlr (fun _ t => t) (⟨b1, kc2, rfl, k11, (nlt nlr g4), q5, q6, q7, q8, q9⟩)
def Q_word_2 (Z : State) (i1 : Int32) (i2 : Int32) (i3 : Int32) (i4 : Int32) (h0 : Heap) (v : Option Value) (h : Heap) : Prop := (∃ (b3 : Addr) (b21 : Addr) (kc22 : ClassId), v = some (.ref b3) ∧ (¬ i1 = (2 : Int32)) ∧ Keep h0 h [] ∧ h0.size ≤ b3 ∧ h0.size ≤ b21 ∧ b3 < b21 ∧ Exa Z h b3 "java/lang/String" ∧ Fld Z h b3 "java/lang/String" "coder" "B" (.int (0 : Int32)) ∧ Fld Z h b3 "java/lang/String" "value" "[B" (.ref b21) ∧ Ar Z h b21 kc22 .byte [(.int (cB8 i2)), (.int (cB8 i3)), (.int (cB8 i4))] ∧ Exa Z h b21 "[B") ∨ (∃ (b41 : Addr) (b55 : Addr) (kc56 : ClassId), v = some (.ref b41) ∧ (i1 = (2 : Int32)) ∧ Keep h0 h [] ∧ h0.size ≤ b41 ∧ h0.size ≤ b55 ∧ b41 < b55 ∧ Exa Z h b41 "java/lang/String" ∧ Fld Z h b41 "java/lang/String" "coder" "B" (.int (0 : Int32)) ∧ Fld Z h b41 "java/lang/String" "value" "[B" (.ref b55) ∧ Ar Z h b55 kc56 .byte [(.int (cB8 i2)), (.int (cB8 i3))] ∧ Exa Z h b55 "[B")
def R_word_2 : Room := { frames := 4, cells := 3, slots := 10, locals := 66 }
theorem rm_word_2 {w : Bool} {Z : State} {a0 : Array Value} (hw : HW a0 Z) (Ts : List String) (a1 : Addr) (i1 : Int32) (i2 : Int32) (i3 : Int32) (i4 : Int32) (i5 : Int32) (i6 : Int32) (i7 : Int32) (i8 : Int32) (c1 : ClassId) (cs : Int32) (h0 : Heap) (f : Nat) (Zf : Z.heap.size ≤ f) (Z0 : f ≤ h0.size) (A_a1 : Ar Z h0 a1 c1 .char [(.int i2), (.int i3), (.int i4), (.int i5), (.int i6), (.int i7), (.int i8)]) (r_i1 : 2 ≤ i1.toInt ∧ i1.toInt ≤ 3) (r_i2 : 0 ≤ i2.toInt ∧ i2.toInt ≤ 255) (r_i3 : 0 ≤ i3.toInt ∧ i3.toInt ≤ 255) (r_i4 : 0 ≤ i4.toInt ∧ i4.toInt ≤ 255) (S_cs : G_S_cs Z cs) (hcs : ¬ cs = 0) :
  Con w [] Z (⟨"com/example/maniera/maniera/cli/CommandLineIsHelpPinLaw", "word", "([CI)Ljava/lang/String;"⟩ : MethodName) method_4_code 2 (some (.object "java/lang/String")) R_word_2 Ts Ts f #[(.ref a1), (.int i1)] h0 (Q_word_2 Z i1 i2 i3 i4 h0) := by
 refine con_of f #[.val (.ref a1), .val (.int i1)] (plainFor_of_name pn_0) (fun m => rfl) Zf ?_
 intro C H hX0
 refine r_iloadN H 1 d_4_0 rfl rfl ?_
 refine r_ifneT H 15 d_4_1 (by decide) (by decide) (by have := r_i1; have : (0 : Int32).toInt = 0 := (by decide); simp only [Int32.lt_iff_toInt_lt, ← Int32.toInt_inj]; omega) ?_
 refine r_iloadN H 16 d_4_15 rfl rfl ?_
 refine r_iconst H 17 (1 : Int32) d_4_16 (by decide) rfl ?_
 refine r_icmpneT H 37 d_4_17 (by decide) (by decide) (by have := r_i1; have : (1 : Int32).toInt = 1 := (by decide); simp only [Int32.lt_iff_toInt_lt, ← Int32.toInt_inj]; omega) ?_
 refine r_iloadN H 38 d_4_37 rfl rfl ?_
 refine r_iconst H 39 (2 : Int32) d_4_38 (by decide) rfl ?_
 refine r_icmpne H 65 42 d_4_39 (by decide) (by decide) rfl (fun c1 => ?_) (fun c1 => ?_)
 ·
  have rr2 : 3 ≤ i1.toInt ∧ i1.toInt ≤ 3 := by have := r_i1; have : (2 : Int32).toInt = 2 := (by decide); have hc_ := c1; simp only [Int32.lt_iff_toInt_lt, ← Int32.toInt_inj] at hc_; omega
  refine r_iloadN H 66 d_4_65 rfl rfl ?_
  refine r_iconst H 67 (3 : Int32) d_4_66 (by decide) rfl ?_
  refine r_icmpneF H 70 d_4_67 rfl (by have := rr2; have : (3 : Int32).toInt = 3 := (by decide); simp only [Int32.lt_iff_toInt_lt, ← Int32.toInt_inj]; omega) ?_
  refine r_new H 73 d_4_70 (tw8 hw) (tw9 hw) (tw10 hw) (by decide) (by decide) rfl ?_
  intro h3 b3 g3 l3 K3 E3 D3
  refine r_dup H 74 d_4_73 rfl rfl ?_
  refine r_iconst H 75 (3 : Int32) d_4_74 (by decide) rfl ?_
  refine r_newP H 77 "[C" 3 d_4_75 (tw0 hw) rfl (by decide) (by decide) (by decide) (by decide) (by decide) rfl ?_
  intro h4 b4 kc4 g4 l4 K4 E4 A4
  change Ar Z h4 b4 kc4 .char [(.int (0 : Int32)), (.int (0 : Int32)), (.int (0 : Int32))] at A4
  refine r_dup H 78 d_4_77 rfl rfl ?_
  refine r_iconst H 79 (0 : Int32) d_4_78 (by decide) rfl ?_
  refine r_aloadN H 80 d_4_79 rfl rfl rfl ?_
  refine r_iconst H 81 (0 : Int32) d_4_80 (by decide) rfl ?_
  have q5 := ((A_a1.keep K3 nin0).keep K4 nin0)
  refine r_caload H 82 i2 d_4_81 q5 (by decide) rfl rfl ?_
  refine r_castore H 83 i2 d_4_82 A4 (by decide) (Nat.le_of_ble_eq_true rfl) (nlt (nlt Z0 K3.1) (Nat.le_of_eq g4.symm)) (nar_char_id (by have := r_i2; omega)) rfl ?_
  intro h6 K6 A6
  change Ar Z h6 b4 kc4 .char [(.int i2), (.int (0 : Int32)), (.int (0 : Int32))] at A6
  refine r_dup H 84 d_4_83 rfl rfl ?_
  refine r_iconst H 85 (1 : Int32) d_4_84 (by decide) rfl ?_
  refine r_aloadN H 86 d_4_85 rfl rfl rfl ?_
  refine r_iconst H 87 (1 : Int32) d_4_86 (by decide) rfl ?_
  have q7 := (q5.keep K6 (ninS (Nat.ne_of_lt (Nat.lt_of_lt_of_le A_a1.lt (nlt K3.1 (Nat.le_of_eq g4.symm)))) nin0))
  refine r_caload H 88 i3 d_4_87 q7 (by decide) rfl rfl ?_
  refine r_castore H 89 i3 d_4_88 A6 (by decide) (Nat.le_of_ble_eq_true rfl) (nlt (nlt Z0 K3.1) (Nat.le_of_eq g4.symm)) (nar_char_id (by have := r_i3; omega)) rfl ?_
  intro h8 K8 A8
  have q9 := (E4.keep K6)
  change Ar Z h8 b4 kc4 .char [(.int i2), (.int i3), (.int (0 : Int32))] at A8
  refine r_dup H 90 d_4_89 rfl rfl ?_
  refine r_iconst H 91 (2 : Int32) d_4_90 (by decide) rfl ?_
  refine r_aloadN H 92 d_4_91 rfl rfl rfl ?_
  refine r_iconst H 93 (2 : Int32) d_4_92 (by decide) rfl ?_
  have q10 := (q7.keep K8 (ninS (Nat.ne_of_lt (Nat.lt_of_lt_of_le A_a1.lt (nlt K3.1 (Nat.le_of_eq g4.symm)))) nin0))
  refine r_caload H 94 i4 d_4_93 q10 (by decide) rfl rfl ?_
  refine r_castore H 95 i4 d_4_94 A8 (by decide) (Nat.le_of_ble_eq_true rfl) (nlt (nlt Z0 K3.1) (Nat.le_of_eq g4.symm)) (nar_char_id (by have := r_i4; omega)) rfl ?_
  intro h11 K11 A11
  have q12 := (q9.keep K8)
  change Ar Z h11 b4 kc4 .char [(.int i2), (.int i3), (.int i4)] at A11
  have q13 := (q12.keep K11)
  have q14 := ((((E3.keep K4).keep K6).keep K8).keep K11)
  have q15 := (((((show Fld Z h3 b3 "java/lang/String" "coder" "B" (.int (0 : Int32)) from D3 (Or.inr (tw34 hw)) (ty := .byte) (by decide)).keep K4 nin0).keep K6 (ninS (Nat.ne_of_lt (Nat.lt_of_lt_of_le E3.lt (nlt nlr (Nat.le_of_eq g4.symm)))) nin0)).keep K8 (ninS (Nat.ne_of_lt (Nat.lt_of_lt_of_le E3.lt (nlt nlr (Nat.le_of_eq g4.symm)))) nin0)).keep K11 (ninS (Nat.ne_of_lt (Nat.lt_of_lt_of_le E3.lt (nlt nlr (Nat.le_of_eq g4.symm)))) nin0))
  have q16 := (((((show Fld Z h3 b3 "java/lang/String" "value" "[B" .null from D3 (Or.inr (tw36 hw)) (ty := (.array .byte)) (by decide)).keep K4 nin0).keep K6 (ninS (Nat.ne_of_lt (Nat.lt_of_lt_of_le E3.lt (nlt nlr (Nat.le_of_eq g4.symm)))) nin0)).keep K8 (ninS (Nat.ne_of_lt (Nat.lt_of_lt_of_le E3.lt (nlt nlr (Nat.le_of_eq g4.symm)))) nin0)).keep K11 (ninS (Nat.ne_of_lt (Nat.lt_of_lt_of_le E3.lt (nlt nlr (Nat.le_of_eq g4.symm)))) nin0))
  have z17 := Nat.le_trans K3.1 K4.1
  have z18 := Nat.le_trans z17 K6.1
  have z19 := Nat.le_trans z18 K8.1
  have z20 := Nat.le_trans z19 K11.1
  refine r_special H 98 (a := b3) d_4_95 (tw11 hw) (tw12 hw) (tw10 hw) (tw13 hw) (by decide) rfl (lenOf pd_5 rfl) (rm_init_3 hw Ts b3 b4 i2 i3 i4 kc4 cs h11 f Zf (nlt Z0 z20) A11 (nlt Z0 (Nat.le_of_eq g3.symm)) q13 q14 q15 q16 r_i2 r_i3 r_i4 S_cs hcs) (argsL := [(.ref b4)]) (rest := [(.ref b3)]) rfl (W := 1) (nlq rfl) rfl (by decide) (by decide) (by decide) (by decide) nlr rfl ?_
  rintro _ hh30 ⟨b21, kc22, rfl, K23, g24, q25, q26, q27, q28, q29⟩
  have k31 : Keep h0 h3 [] := Keep.trans (Keep.refl h0 []) K3 all0
  have k32 : Keep h0 h4 [] := Keep.trans k31 K4 all0
  have k33 : Keep h0 h6 [] := Keep.trans k32 K6 (allS (Or.inr (nlt K3.1 (Nat.le_of_eq g4.symm))) all0)
  have k34 : Keep h0 h8 [] := Keep.trans k33 K8 (allS (Or.inr (nlt K3.1 (Nat.le_of_eq g4.symm))) all0)
  have k35 : Keep h0 h11 [] := Keep.trans k34 K11 (allS (Or.inr (nlt K3.1 (Nat.le_of_eq g4.symm))) all0)
  have k36 : Keep h0 hh30 [] := Keep.trans k35 K23 (allS (Or.inr (nlt nlr (Nat.le_of_eq g3.symm))) all0)
  have z37 := Nat.le_trans K4.1 K6.1
  have z38 := Nat.le_trans z37 K8.1
  have z39 := Nat.le_trans z38 K11.1
  exact r_areturn H rfl rfl d_4_98 (by decide) (by decide) nlr (fun _ t => t) (Or.inl ⟨b3, b21, kc22, rfl, c1, k36, (nlt nlr (Nat.le_of_eq g3.symm)), (nlt z20 g24), (Nat.lt_of_lt_of_le E3.lt (nlt z39 g24)), q25, q26, q27, q28, q29⟩)
 ·
  have rr40 : 2 ≤ i1.toInt ∧ i1.toInt ≤ 2 := by have := r_i1; have : (2 : Int32).toInt = 2 := (by decide); have hc_ := c1; simp only [Int32.lt_iff_toInt_lt, ← Int32.toInt_inj] at hc_; omega
  refine r_new H 45 d_4_42 (tw8 hw) (tw9 hw) (tw10 hw) (by decide) (by decide) rfl ?_
  intro h41 b41 g41 l41 K41 E41 D41
  refine r_dup H 46 d_4_45 rfl rfl ?_
  refine r_iconst H 47 (2 : Int32) d_4_46 (by decide) rfl ?_
  refine r_newP H 49 "[C" 2 d_4_47 (tw0 hw) rfl (by decide) (by decide) (by decide) (by decide) (by decide) rfl ?_
  intro h42 b42 kc42 g42 l42 K42 E42 A42
  change Ar Z h42 b42 kc42 .char [(.int (0 : Int32)), (.int (0 : Int32))] at A42
  refine r_dup H 50 d_4_49 rfl rfl ?_
  refine r_iconst H 51 (0 : Int32) d_4_50 (by decide) rfl ?_
  refine r_aloadN H 52 d_4_51 rfl rfl rfl ?_
  refine r_iconst H 53 (0 : Int32) d_4_52 (by decide) rfl ?_
  have q43 := ((A_a1.keep K41 nin0).keep K42 nin0)
  refine r_caload H 54 i2 d_4_53 q43 (by decide) rfl rfl ?_
  refine r_castore H 55 i2 d_4_54 A42 (by decide) (Nat.le_of_ble_eq_true rfl) (nlt (nlt Z0 K41.1) (Nat.le_of_eq g42.symm)) (nar_char_id (by have := r_i2; omega)) rfl ?_
  intro h44 K44 A44
  change Ar Z h44 b42 kc42 .char [(.int i2), (.int (0 : Int32))] at A44
  refine r_dup H 56 d_4_55 rfl rfl ?_
  refine r_iconst H 57 (1 : Int32) d_4_56 (by decide) rfl ?_
  refine r_aloadN H 58 d_4_57 rfl rfl rfl ?_
  refine r_iconst H 59 (1 : Int32) d_4_58 (by decide) rfl ?_
  have q45 := (q43.keep K44 (ninS (Nat.ne_of_lt (Nat.lt_of_lt_of_le A_a1.lt (nlt K41.1 (Nat.le_of_eq g42.symm)))) nin0))
  refine r_caload H 60 i3 d_4_59 q45 (by decide) rfl rfl ?_
  refine r_castore H 61 i3 d_4_60 A44 (by decide) (Nat.le_of_ble_eq_true rfl) (nlt (nlt Z0 K41.1) (Nat.le_of_eq g42.symm)) (nar_char_id (by have := r_i3; omega)) rfl ?_
  intro h46 K46 A46
  have q47 := (E42.keep K44)
  change Ar Z h46 b42 kc42 .char [(.int i2), (.int i3)] at A46
  have q48 := (q47.keep K46)
  have q49 := (((E41.keep K42).keep K44).keep K46)
  have q50 := ((((show Fld Z h41 b41 "java/lang/String" "coder" "B" (.int (0 : Int32)) from D41 (Or.inr (tw34 hw)) (ty := .byte) (by decide)).keep K42 nin0).keep K44 (ninS (Nat.ne_of_lt (Nat.lt_of_lt_of_le E41.lt (nlt nlr (Nat.le_of_eq g42.symm)))) nin0)).keep K46 (ninS (Nat.ne_of_lt (Nat.lt_of_lt_of_le E41.lt (nlt nlr (Nat.le_of_eq g42.symm)))) nin0))
  have q51 := ((((show Fld Z h41 b41 "java/lang/String" "value" "[B" .null from D41 (Or.inr (tw36 hw)) (ty := (.array .byte)) (by decide)).keep K42 nin0).keep K44 (ninS (Nat.ne_of_lt (Nat.lt_of_lt_of_le E41.lt (nlt nlr (Nat.le_of_eq g42.symm)))) nin0)).keep K46 (ninS (Nat.ne_of_lt (Nat.lt_of_lt_of_le E41.lt (nlt nlr (Nat.le_of_eq g42.symm)))) nin0))
  have z52 := Nat.le_trans K41.1 K42.1
  have z53 := Nat.le_trans z52 K44.1
  have z54 := Nat.le_trans z53 K46.1
  refine r_special H 64 (a := b41) d_4_61 (tw11 hw) (tw12 hw) (tw10 hw) (tw13 hw) (by decide) rfl (lenOf pd_5 rfl) (rm_init_8 hw Ts b41 b42 i2 i3 kc42 cs h46 f Zf (nlt Z0 z54) A46 (nlt Z0 (Nat.le_of_eq g41.symm)) q48 q49 q50 q51 r_i2 r_i3 S_cs hcs) (argsL := [(.ref b42)]) (rest := [(.ref b41)]) rfl (W := 1) (nlq rfl) rfl (by decide) (by decide) (by decide) (by decide) nlr rfl ?_
  rintro _ hh64 ⟨b55, kc56, rfl, K57, g58, q59, q60, q61, q62, q63⟩
  have k65 : Keep h0 h41 [] := Keep.trans (Keep.refl h0 []) K41 all0
  have k66 : Keep h0 h42 [] := Keep.trans k65 K42 all0
  have k67 : Keep h0 h44 [] := Keep.trans k66 K44 (allS (Or.inr (nlt K41.1 (Nat.le_of_eq g42.symm))) all0)
  have k68 : Keep h0 h46 [] := Keep.trans k67 K46 (allS (Or.inr (nlt K41.1 (Nat.le_of_eq g42.symm))) all0)
  have k69 : Keep h0 hh64 [] := Keep.trans k68 K57 (allS (Or.inr (nlt nlr (Nat.le_of_eq g41.symm))) all0)
  have z70 := Nat.le_trans K42.1 K44.1
  have z71 := Nat.le_trans z70 K46.1
  exact r_areturn H rfl rfl d_4_64 (by decide) (by decide) nlr (fun _ t => t) (Or.inr (⟨b41, b55, kc56, rfl, c1, k69, (nlt nlr (Nat.le_of_eq g41.symm)), (nlt z54 g58), (Nat.lt_of_lt_of_le E41.lt (nlt z71 g58)), q59, q60, q61, q62, q63⟩))
def Q_equals_15 (Z : State) (h0 : Heap) (v : Option Value) (h : Heap) : Prop := v = some (.int (0 : Int32)) ∧ h0 = h
def R_equals_15 : Room := { frames := 0, cells := 0, slots := 0, locals := 0 }
theorem rm_equals_15 {w : Bool} {Z : State} {a0 : Array Value} (hw : HW a0 Z) (Ts : List String) (a1 : Addr) (a2 : Addr) (i1 : Int32) (i2 : Int32) (i3 : Int32) (c1 : ClassId) (c2 : ClassId) (h0 : Heap) (f : Nat) (Zf : Z.heap.size ≤ f) (Z0 : f ≤ h0.size) (A_a1 : Ar Z h0 a1 c1 .byte [(.int i1), (.int i2), (.int i3)]) (A_a2 : Ar Z h0 a2 c2 .byte [(.int (45 : Int32)), (.int (45 : Int32)), (.int (104 : Int32)), (.int (101 : Int32)), (.int (108 : Int32)), (.int (112 : Int32))]) :
  Con w [] Z (⟨"java/lang/StringLatin1", "equals", "([B[B)Z"⟩ : MethodName) jdk_43_method_13_code 3 (some .boolean) R_equals_15 Ts Ts f #[(.ref a1), (.ref a2)] h0 (Q_equals_15 Z h0) := by
 refine con_of f #[.val (.ref a1), .val (.ref a2), .unset] (plainFor_of_name pn_3) (fun m => rfl) Zf ?_
 intro C H hX0
 refine r_aloadN H 1 d_j43_13_0 rfl rfl rfl ?_
 refine r_alen H 2 (3 : Int32) d_j43_13_1 A_a1 rfl rfl ?_
 refine r_aloadN H 3 d_j43_13_2 rfl rfl rfl ?_
 refine r_alen H 4 (6 : Int32) d_j43_13_3 A_a2 rfl rfl ?_
 refine r_icmpneT H 34 d_j43_13_4 (by decide) (by decide) (by decide) ?_
 refine r_iconst H 35 (0 : Int32) d_j43_13_34 (by decide) rfl ?_
 exact r_nreturn (0 : Int32) H (by simp) d_j43_13_35 (by decide) (by decide) (by decide) nlr (fun _ t => t) (⟨rfl, rfl⟩)
def Q_equals_14 (Z : State) (h0 : Heap) (v : Option Value) (h : Heap) : Prop := v = some (.int (0 : Int32)) ∧ h0 = h
def R_equals_14 : Room := { frames := 1, cells := 0, slots := 0, locals := 14 }
theorem rm_equals_14 {w : Bool} {Z : State} {a0 : Array Value} (hw : HW a0 Z) (Ts : List String) (a1 : Addr) (a2 : Addr) (a3 : Addr) (a4 : Addr) (i1 : Int32) (i2 : Int32) (i3 : Int32) (c1 : ClassId) (c2 : ClassId) (cs : Int32) (h0 : Heap) (f : Nat) (Zf : Z.heap.size ≤ f) (Z0 : f ≤ h0.size) (F_value_a1 : Fld Z h0 a1 "java/lang/String" "value" "[B" (.ref a3)) (F_value_a2 : Fld Z h0 a2 "java/lang/String" "value" "[B" (.ref a4)) (A_a3 : Ar Z h0 a3 c1 .byte [(.int i1), (.int i2), (.int i3)]) (A_a4 : Ar Z h0 a4 c2 .byte [(.int (45 : Int32)), (.int (45 : Int32)), (.int (104 : Int32)), (.int (101 : Int32)), (.int (108 : Int32)), (.int (112 : Int32))]) (E_a2 : Exa Z h0 a2 "java/lang/String") (F_coder_a1 : Fld Z h0 a1 "java/lang/String" "coder" "B" (.int (0 : Int32))) (F_coder_a2 : Fld Z h0 a2 "java/lang/String" "coder" "B" (.int (0 : Int32))) (S_cs : G_S_cs Z cs) (hcs : ¬ cs = 0) :
  Con w [] Z (⟨"java/lang/String", "equals", "(Ljava/lang/Object;)Z"⟩ : MethodName) jdk_42_method_66_code 3 (some .boolean) R_equals_14 Ts Ts f #[(.ref a1), (.ref a2)] h0 (Q_equals_14 Z h0) := by
 refine con_of f #[.val (.ref a1), .val (.ref a2), .unset] (plainFor_of_name pn_2) (fun m => rfl) Zf ?_
 intro C H hX0
 refine r_aloadN H 1 d_j42_66_0 rfl rfl rfl ?_
 refine r_aloadN H 2 d_j42_66_1 rfl rfl rfl ?_
 by_cases hab1 : a1 = a2
 · exact absurd (str_eqv (hab1 ▸ F_value_a1) F_value_a2 A_a3 A_a4) (by simp)
 refine r_acmp H 7 false d_j42_66_2 rfl rfl (decide_eq_false fun q => hab1 (Value.ref.inj q)) (by decide) (by decide) ?_
 refine r_aloadN H 8 d_j42_66_7 rfl rfl rfl ?_
 refine r_instY H 11 d_j42_66_8 (tw49 hw) (Ins.self E_a2) rfl ?_
 refine r_ifeqF H 14 d_j42_66_11 rfl (by decide) ?_
 refine r_aloadN H 15 d_j42_66_14 rfl rfl rfl ?_
 refine r_castY H 18 d_j42_66_15 (tw49 hw) (Ins.self E_a2) rfl ?_
 refine r_astoreN H 19 #[.val (.ref a1), .val (.ref a2), .val (.ref a2)] d_j42_66_18 rfl rfl rfl ?_
 refine r_gets H 22 d_j42_66_19 (tw21 hw) Via.refl S_cs rfl ?_
 refine r_ifeqF H 25 d_j42_66_22 rfl hcs ?_
 refine r_aloadN H 26 d_j42_66_25 rfl rfl rfl ?_
 refine r_getf H 29 d_j42_66_26 (tw33 hw) Via.refl F_coder_a1 rfl ?_
 refine r_aloadN H 30 d_j42_66_29 rfl rfl rfl ?_
 refine r_getf H 33 d_j42_66_30 (tw33 hw) Via.refl F_coder_a2 rfl ?_
 refine r_icmpneF H 36 d_j42_66_33 rfl (by decide) ?_
 refine r_aloadN H 37 d_j42_66_36 rfl rfl rfl ?_
 refine r_getf H 40 d_j42_66_37 (tw35 hw) Via.refl F_value_a1 rfl ?_
 refine r_aloadN H 41 d_j42_66_40 rfl rfl rfl ?_
 refine r_getf H 44 d_j42_66_41 (tw35 hw) Via.refl F_value_a2 rfl ?_
 refine r_static H 47 d_j42_66_44 (tw50 hw) (tw51 hw) (tw52 hw) (tw53 hw) (by decide) (lenOf pd_7 rfl) (rm_equals_15 hw Ts a3 a4 i1 i2 i3 c1 c2 h0 f Zf Z0 A_a3 A_a4) (argsL := [(.ref a3), (.ref a4)]) (rest := []) rfl (W := 0) (nlq rfl) rfl (by decide) (by decide) (by decide) (by decide) nlr rfl ?_
 rintro _ _ ⟨rfl, rfl⟩
 refine r_ifeqT H 54 d_j42_66_47 (by decide) (by decide) (by decide) ?_
 refine r_iconst H 55 (0 : Int32) d_j42_66_54 (by decide) rfl ?_
 exact r_nreturn (0 : Int32) H (by simp) d_j42_66_55 (by decide) (by decide) (by decide) nlr (fun _ t => t) (⟨rfl, rfl⟩)
def Q_equals_17 (Z : State) (h0 : Heap) (v : Option Value) (h : Heap) : Prop := v = some (.int (0 : Int32)) ∧ h0 = h
def R_equals_17 : Room := { frames := 0, cells := 0, slots := 0, locals := 0 }
theorem rm_equals_17 {w : Bool} {Z : State} {a0 : Array Value} (hw : HW a0 Z) (Ts : List String) (a1 : Addr) (a2 : Addr) (i1 : Int32) (i2 : Int32) (i3 : Int32) (c1 : ClassId) (c2 : ClassId) (h0 : Heap) (f : Nat) (Zf : Z.heap.size ≤ f) (Z0 : f ≤ h0.size) (A_a1 : Ar Z h0 a1 c1 .byte [(.int i1), (.int i2), (.int i3)]) (A_a2 : Ar Z h0 a2 c2 .byte [(.int (45 : Int32)), (.int (104 : Int32))]) :
  Con w [] Z (⟨"java/lang/StringLatin1", "equals", "([B[B)Z"⟩ : MethodName) jdk_43_method_13_code 3 (some .boolean) R_equals_17 Ts Ts f #[(.ref a1), (.ref a2)] h0 (Q_equals_17 Z h0) := by
 refine con_of f #[.val (.ref a1), .val (.ref a2), .unset] (plainFor_of_name pn_3) (fun m => rfl) Zf ?_
 intro C H hX0
 refine r_aloadN H 1 d_j43_13_0 rfl rfl rfl ?_
 refine r_alen H 2 (3 : Int32) d_j43_13_1 A_a1 rfl rfl ?_
 refine r_aloadN H 3 d_j43_13_2 rfl rfl rfl ?_
 refine r_alen H 4 (2 : Int32) d_j43_13_3 A_a2 rfl rfl ?_
 refine r_icmpneT H 34 d_j43_13_4 (by decide) (by decide) (by decide) ?_
 refine r_iconst H 35 (0 : Int32) d_j43_13_34 (by decide) rfl ?_
 exact r_nreturn (0 : Int32) H (by simp) d_j43_13_35 (by decide) (by decide) (by decide) nlr (fun _ t => t) (⟨rfl, rfl⟩)
def Q_equals_16 (Z : State) (h0 : Heap) (v : Option Value) (h : Heap) : Prop := v = some (.int (0 : Int32)) ∧ h0 = h
def R_equals_16 : Room := { frames := 1, cells := 0, slots := 0, locals := 14 }
theorem rm_equals_16 {w : Bool} {Z : State} {a0 : Array Value} (hw : HW a0 Z) (Ts : List String) (a1 : Addr) (a2 : Addr) (a3 : Addr) (a4 : Addr) (i1 : Int32) (i2 : Int32) (i3 : Int32) (c1 : ClassId) (c2 : ClassId) (cs : Int32) (h0 : Heap) (f : Nat) (Zf : Z.heap.size ≤ f) (Z0 : f ≤ h0.size) (F_value_a1 : Fld Z h0 a1 "java/lang/String" "value" "[B" (.ref a3)) (F_value_a2 : Fld Z h0 a2 "java/lang/String" "value" "[B" (.ref a4)) (A_a3 : Ar Z h0 a3 c1 .byte [(.int i1), (.int i2), (.int i3)]) (A_a4 : Ar Z h0 a4 c2 .byte [(.int (45 : Int32)), (.int (104 : Int32))]) (E_a2 : Exa Z h0 a2 "java/lang/String") (F_coder_a1 : Fld Z h0 a1 "java/lang/String" "coder" "B" (.int (0 : Int32))) (F_coder_a2 : Fld Z h0 a2 "java/lang/String" "coder" "B" (.int (0 : Int32))) (S_cs : G_S_cs Z cs) (hcs : ¬ cs = 0) :
  Con w [] Z (⟨"java/lang/String", "equals", "(Ljava/lang/Object;)Z"⟩ : MethodName) jdk_42_method_66_code 3 (some .boolean) R_equals_16 Ts Ts f #[(.ref a1), (.ref a2)] h0 (Q_equals_16 Z h0) := by
 refine con_of f #[.val (.ref a1), .val (.ref a2), .unset] (plainFor_of_name pn_2) (fun m => rfl) Zf ?_
 intro C H hX0
 refine r_aloadN H 1 d_j42_66_0 rfl rfl rfl ?_
 refine r_aloadN H 2 d_j42_66_1 rfl rfl rfl ?_
 by_cases hab1 : a1 = a2
 · exact absurd (str_eqv (hab1 ▸ F_value_a1) F_value_a2 A_a3 A_a4) (by simp)
 refine r_acmp H 7 false d_j42_66_2 rfl rfl (decide_eq_false fun q => hab1 (Value.ref.inj q)) (by decide) (by decide) ?_
 refine r_aloadN H 8 d_j42_66_7 rfl rfl rfl ?_
 refine r_instY H 11 d_j42_66_8 (tw49 hw) (Ins.self E_a2) rfl ?_
 refine r_ifeqF H 14 d_j42_66_11 rfl (by decide) ?_
 refine r_aloadN H 15 d_j42_66_14 rfl rfl rfl ?_
 refine r_castY H 18 d_j42_66_15 (tw49 hw) (Ins.self E_a2) rfl ?_
 refine r_astoreN H 19 #[.val (.ref a1), .val (.ref a2), .val (.ref a2)] d_j42_66_18 rfl rfl rfl ?_
 refine r_gets H 22 d_j42_66_19 (tw21 hw) Via.refl S_cs rfl ?_
 refine r_ifeqF H 25 d_j42_66_22 rfl hcs ?_
 refine r_aloadN H 26 d_j42_66_25 rfl rfl rfl ?_
 refine r_getf H 29 d_j42_66_26 (tw33 hw) Via.refl F_coder_a1 rfl ?_
 refine r_aloadN H 30 d_j42_66_29 rfl rfl rfl ?_
 refine r_getf H 33 d_j42_66_30 (tw33 hw) Via.refl F_coder_a2 rfl ?_
 refine r_icmpneF H 36 d_j42_66_33 rfl (by decide) ?_
 refine r_aloadN H 37 d_j42_66_36 rfl rfl rfl ?_
 refine r_getf H 40 d_j42_66_37 (tw35 hw) Via.refl F_value_a1 rfl ?_
 refine r_aloadN H 41 d_j42_66_40 rfl rfl rfl ?_
 refine r_getf H 44 d_j42_66_41 (tw35 hw) Via.refl F_value_a2 rfl ?_
 refine r_static H 47 d_j42_66_44 (tw50 hw) (tw51 hw) (tw52 hw) (tw53 hw) (by decide) (lenOf pd_7 rfl) (rm_equals_17 hw Ts a3 a4 i1 i2 i3 c1 c2 h0 f Zf Z0 A_a3 A_a4) (argsL := [(.ref a3), (.ref a4)]) (rest := []) rfl (W := 0) (nlq rfl) rfl (by decide) (by decide) (by decide) (by decide) nlr rfl ?_
 rintro _ _ ⟨rfl, rfl⟩
 refine r_ifeqT H 54 d_j42_66_47 (by decide) (by decide) (by decide) ?_
 refine r_iconst H 55 (0 : Int32) d_j42_66_54 (by decide) rfl ?_
 exact r_nreturn (0 : Int32) H (by simp) d_j42_66_55 (by decide) (by decide) (by decide) nlr (fun _ t => t) (⟨rfl, rfl⟩)
def Q_isHelp_13 (Z : State) (h0 : Heap) (v : Option Value) (h : Heap) : Prop := v = some (.int (0 : Int32)) ∧ Keep h0 h []
def R_isHelp_13 : Room := { frames := 2, cells := 4, slots := 40, locals := 28 }
theorem rm_isHelp_13 {Z : State} {a0 : Array Value} (hw : HW a0 Z) (Ts : List String) (a1 : Addr) (a2 : Addr) (i1 : Int32) (i2 : Int32) (i3 : Int32) (c1 : ClassId) (cs : Int32) (h0 : Heap) (f : Nat) (Zf : Z.heap.size ≤ f) (Z0 : f ≤ h0.size) (E_a1 : Exa Z h0 a1 "java/lang/String") (F_value_a1 : Fld Z h0 a1 "java/lang/String" "value" "[B" (.ref a2)) (A_a2 : Ar Z h0 a2 c1 .byte [(.int i1), (.int i2), (.int i3)]) (F_coder_a1 : Fld Z h0 a1 "java/lang/String" "coder" "B" (.int (0 : Int32))) (wS : G_wS Z a0) (hcw : G_hcw Z a0) (hh0 : G_hh0 Z) (S_cs : G_S_cs Z cs) (hh1 : G_hh1 Z) (hT__2d__2d_help : "--help" ∉ Ts) (hT__2d_h : "-h" ∉ Ts) (hcs : ¬ cs = 0) :
  Con true [] Z (⟨"com/example/maniera/maniera/cli/CommandLine", "isHelp", "(Ljava/lang/String;)Z"⟩ : MethodName) prog_2_method_4_code 1 (some .boolean) R_isHelp_13 Ts ("--help" :: "-h" :: Ts) f #[(.ref a1)] h0 (Q_isHelp_13 Z h0) := by
 refine con_of h0.size #[.val (.ref a1)] (plainFor_of_name pn_4) (fun m => rfl) (nlt Zf Z0) ?_
 intro C H hX0
 refine r_aloadN H 1 d_g2_4_0 rfl rfl rfl ?_
 refine r_ldcS H 3 (vs := [(.int (45 : Int32)), (.int (45 : Int32)), (.int (104 : Int32)), (.int (101 : Int32)), (.int (108 : Int32)), (.int (112 : Int32))]) (z := (6 : Int32)) 24 d_g2_4_1 (tw41 hw) wS hT__2d__2d_help hh0 hcw ⟨by decide, by decide⟩ (by decide) (by decide) (by decide) (by decide) (by decide) (by decide) rfl ?_
 intro h1 la1 lv1 kl1 K1 E1 C1 V1 A1 D1
 have q2 := (F_value_a1.keep K1 nin0)
 have q3 := (A_a2.keep K1 nin0)
 have q4 := (F_coder_a1.keep K1 nin0)
 have q5 := (E_a1.keep K1)
 refine r_virtual H 6 (z := (⟨"java/lang/String", "equals", "(Ljava/lang/Object;)Z"⟩ : MethodName)) (a := a1) d_g2_4_3 (tw44 hw) (tw45 hw) (nf_sel (tw47 hw)) (tw47 hw) (tw46 hw) (tw10 hw) (tw48 hw) (by decide) q5 (lenOf pd_8 rfl) (rm_equals_14 hw ("--help" :: Ts) a1 la1 a2 lv1 i1 i2 i3 c1 kl1 cs h1 h0.size (nlt Zf Z0) K1.1 q2 V1 q3 A1 E1 q4 C1 S_cs hcs) (argsL := [(.ref la1)]) (rest := []) rfl (W := 0) (nlq rfl) rfl (by decide) (by decide) (by decide) (by decide) nlr rfl ?_
 rintro _ _ ⟨rfl, rfl⟩
 refine r_ifneF H 9 d_g2_4_6 rfl (by decide) ?_
 refine r_aloadN H 10 d_g2_4_9 rfl rfl rfl ?_
 refine r_ldcS H 12 (vs := [(.int (45 : Int32)), (.int (104 : Int32))]) (z := (2 : Int32)) 8 d_g2_4_10 (tw54 hw) wS (nin_cons (by decide) hT__2d_h) hh1 hcw ⟨by decide, by decide⟩ (by decide) (by decide) (by decide) (by decide) (by decide) (by decide) rfl ?_
 intro h7 la7 lv7 kl7 K7 E7 C7 V7 A7 D7
 have q8 := (q2.keep K7 nin0)
 have q9 := (q3.keep K7 nin0)
 have q10 := (q4.keep K7 nin0)
 have z11 := Nat.le_trans K1.1 K7.1
 have q12 := (q5.keep K7)
 refine r_virtual H 15 (z := (⟨"java/lang/String", "equals", "(Ljava/lang/Object;)Z"⟩ : MethodName)) (a := a1) d_g2_4_12 (tw44 hw) (tw45 hw) (nf_sel (tw47 hw)) (tw47 hw) (tw46 hw) (tw10 hw) (tw48 hw) (by decide) q12 (lenOf pd_8 rfl) (rm_equals_16 hw ("-h" :: "--help" :: Ts) a1 la7 a2 lv7 i1 i2 i3 c1 kl7 cs h7 h0.size (nlt Zf Z0) z11 q8 V7 q9 A7 E7 q10 C7 S_cs hcs) (argsL := [(.ref la7)]) (rest := []) rfl (W := 0) (nlq rfl) rfl (by decide) (by decide) (by decide) (by decide) nlr rfl ?_
 rintro _ _ ⟨rfl, rfl⟩
 refine r_ifeqT H 22 d_g2_4_15 (by decide) (by decide) (by decide) ?_
 refine r_iconst H 23 (0 : Int32) d_g2_4_22 (by decide) rfl ?_
 have k14 : Keep h0 h1 [] := Keep.trans (Keep.refl h0 []) K1 all0
 have k15 : Keep h0 h7 [] := Keep.trans k14 K7 all0
 exact r_nreturn (0 : Int32) H (by simp) d_g2_4_23 (by decide) (by decide) (by decide) Z0 (by intro t ht; simp only [List.mem_cons] at ht ⊢; rcases ht with ht | ht | ht <;> simp [ht]) (⟨rfl, k15⟩)
def Q_equals_20 (Z : State) (h0 : Heap) (v : Option Value) (h : Heap) : Prop := v = some (.int (0 : Int32)) ∧ h0 = h
def R_equals_20 : Room := { frames := 0, cells := 0, slots := 0, locals := 0 }
theorem rm_equals_20 {w : Bool} {Z : State} {a0 : Array Value} (hw : HW a0 Z) (Ts : List String) (a1 : Addr) (a2 : Addr) (i1 : Int32) (i2 : Int32) (c1 : ClassId) (c2 : ClassId) (h0 : Heap) (f : Nat) (Zf : Z.heap.size ≤ f) (Z0 : f ≤ h0.size) (A_a1 : Ar Z h0 a1 c1 .byte [(.int i1), (.int i2)]) (A_a2 : Ar Z h0 a2 c2 .byte [(.int (45 : Int32)), (.int (45 : Int32)), (.int (104 : Int32)), (.int (101 : Int32)), (.int (108 : Int32)), (.int (112 : Int32))]) :
  Con w [] Z (⟨"java/lang/StringLatin1", "equals", "([B[B)Z"⟩ : MethodName) jdk_43_method_13_code 3 (some .boolean) R_equals_20 Ts Ts f #[(.ref a1), (.ref a2)] h0 (Q_equals_20 Z h0) := by
 refine con_of f #[.val (.ref a1), .val (.ref a2), .unset] (plainFor_of_name pn_3) (fun m => rfl) Zf ?_
 intro C H hX0
 refine r_aloadN H 1 d_j43_13_0 rfl rfl rfl ?_
 refine r_alen H 2 (2 : Int32) d_j43_13_1 A_a1 rfl rfl ?_
 refine r_aloadN H 3 d_j43_13_2 rfl rfl rfl ?_
 refine r_alen H 4 (6 : Int32) d_j43_13_3 A_a2 rfl rfl ?_
 refine r_icmpneT H 34 d_j43_13_4 (by decide) (by decide) (by decide) ?_
 refine r_iconst H 35 (0 : Int32) d_j43_13_34 (by decide) rfl ?_
 exact r_nreturn (0 : Int32) H (by simp) d_j43_13_35 (by decide) (by decide) (by decide) nlr (fun _ t => t) (⟨rfl, rfl⟩)
def Q_equals_19 (Z : State) (h0 : Heap) (v : Option Value) (h : Heap) : Prop := v = some (.int (0 : Int32)) ∧ h0 = h
def R_equals_19 : Room := { frames := 1, cells := 0, slots := 0, locals := 14 }
theorem rm_equals_19 {w : Bool} {Z : State} {a0 : Array Value} (hw : HW a0 Z) (Ts : List String) (a1 : Addr) (a2 : Addr) (a3 : Addr) (a4 : Addr) (i1 : Int32) (i2 : Int32) (c1 : ClassId) (c2 : ClassId) (cs : Int32) (h0 : Heap) (f : Nat) (Zf : Z.heap.size ≤ f) (Z0 : f ≤ h0.size) (F_value_a1 : Fld Z h0 a1 "java/lang/String" "value" "[B" (.ref a3)) (F_value_a2 : Fld Z h0 a2 "java/lang/String" "value" "[B" (.ref a4)) (A_a3 : Ar Z h0 a3 c1 .byte [(.int i1), (.int i2)]) (A_a4 : Ar Z h0 a4 c2 .byte [(.int (45 : Int32)), (.int (45 : Int32)), (.int (104 : Int32)), (.int (101 : Int32)), (.int (108 : Int32)), (.int (112 : Int32))]) (E_a2 : Exa Z h0 a2 "java/lang/String") (F_coder_a1 : Fld Z h0 a1 "java/lang/String" "coder" "B" (.int (0 : Int32))) (F_coder_a2 : Fld Z h0 a2 "java/lang/String" "coder" "B" (.int (0 : Int32))) (S_cs : G_S_cs Z cs) (hcs : ¬ cs = 0) :
  Con w [] Z (⟨"java/lang/String", "equals", "(Ljava/lang/Object;)Z"⟩ : MethodName) jdk_42_method_66_code 3 (some .boolean) R_equals_19 Ts Ts f #[(.ref a1), (.ref a2)] h0 (Q_equals_19 Z h0) := by
 refine con_of f #[.val (.ref a1), .val (.ref a2), .unset] (plainFor_of_name pn_2) (fun m => rfl) Zf ?_
 intro C H hX0
 refine r_aloadN H 1 d_j42_66_0 rfl rfl rfl ?_
 refine r_aloadN H 2 d_j42_66_1 rfl rfl rfl ?_
 by_cases hab1 : a1 = a2
 · exact absurd (str_eqv (hab1 ▸ F_value_a1) F_value_a2 A_a3 A_a4) (by simp)
 refine r_acmp H 7 false d_j42_66_2 rfl rfl (decide_eq_false fun q => hab1 (Value.ref.inj q)) (by decide) (by decide) ?_
 refine r_aloadN H 8 d_j42_66_7 rfl rfl rfl ?_
 refine r_instY H 11 d_j42_66_8 (tw49 hw) (Ins.self E_a2) rfl ?_
 refine r_ifeqF H 14 d_j42_66_11 rfl (by decide) ?_
 refine r_aloadN H 15 d_j42_66_14 rfl rfl rfl ?_
 refine r_castY H 18 d_j42_66_15 (tw49 hw) (Ins.self E_a2) rfl ?_
 refine r_astoreN H 19 #[.val (.ref a1), .val (.ref a2), .val (.ref a2)] d_j42_66_18 rfl rfl rfl ?_
 refine r_gets H 22 d_j42_66_19 (tw21 hw) Via.refl S_cs rfl ?_
 refine r_ifeqF H 25 d_j42_66_22 rfl hcs ?_
 refine r_aloadN H 26 d_j42_66_25 rfl rfl rfl ?_
 refine r_getf H 29 d_j42_66_26 (tw33 hw) Via.refl F_coder_a1 rfl ?_
 refine r_aloadN H 30 d_j42_66_29 rfl rfl rfl ?_
 refine r_getf H 33 d_j42_66_30 (tw33 hw) Via.refl F_coder_a2 rfl ?_
 refine r_icmpneF H 36 d_j42_66_33 rfl (by decide) ?_
 refine r_aloadN H 37 d_j42_66_36 rfl rfl rfl ?_
 refine r_getf H 40 d_j42_66_37 (tw35 hw) Via.refl F_value_a1 rfl ?_
 refine r_aloadN H 41 d_j42_66_40 rfl rfl rfl ?_
 refine r_getf H 44 d_j42_66_41 (tw35 hw) Via.refl F_value_a2 rfl ?_
 refine r_static H 47 d_j42_66_44 (tw50 hw) (tw51 hw) (tw52 hw) (tw53 hw) (by decide) (lenOf pd_7 rfl) (rm_equals_20 hw Ts a3 a4 i1 i2 c1 c2 h0 f Zf Z0 A_a3 A_a4) (argsL := [(.ref a3), (.ref a4)]) (rest := []) rfl (W := 0) (nlq rfl) rfl (by decide) (by decide) (by decide) (by decide) nlr rfl ?_
 rintro _ _ ⟨rfl, rfl⟩
 refine r_ifeqT H 54 d_j42_66_47 (by decide) (by decide) (by decide) ?_
 refine r_iconst H 55 (0 : Int32) d_j42_66_54 (by decide) rfl ?_
 exact r_nreturn (0 : Int32) H (by simp) d_j42_66_55 (by decide) (by decide) (by decide) nlr (fun _ t => t) (⟨rfl, rfl⟩)
def fn_equals_22 (i1 : Int32) (i2 : Int32) : Int32 := (if i1 = (45 : Int32) then (if i2 = (104 : Int32) then (1 : Int32) else (0 : Int32)) else (0 : Int32))
def Q_equals_22 (Z : State) (i1 : Int32) (i2 : Int32) (h0 : Heap) (v : Option Value) (h : Heap) : Prop := ∃ z : Int32, v = some (.int z) ∧ h0 = h ∧ (fn_equals_22 i1 i2) = z ∧ (0 ≤ z.toInt ∧ z.toInt ≤ 1)
def R_equals_22 : Room := { frames := 0, cells := 0, slots := 0, locals := 0 }
theorem rm_equals_22 {w : Bool} {Z : State} {a0 : Array Value} (hw : HW a0 Z) (Ts : List String) (a1 : Addr) (a2 : Addr) (i1 : Int32) (i2 : Int32) (c1 : ClassId) (c2 : ClassId) (h0 : Heap) (f : Nat) (Zf : Z.heap.size ≤ f) (Z0 : f ≤ h0.size) (A_a1 : Ar Z h0 a1 c1 .byte [(.int i1), (.int i2)]) (A_a2 : Ar Z h0 a2 c2 .byte [(.int (45 : Int32)), (.int (104 : Int32))]) :
  Con w [] Z (⟨"java/lang/StringLatin1", "equals", "([B[B)Z"⟩ : MethodName) jdk_43_method_13_code 3 (some .boolean) R_equals_22 Ts Ts f #[(.ref a1), (.ref a2)] h0 (Q_equals_22 Z i1 i2 h0) := by
 refine con_of f #[.val (.ref a1), .val (.ref a2), .unset] (plainFor_of_name pn_3) (fun m => rfl) Zf ?_
 intro C H hX0
 refine r_aloadN H 1 d_j43_13_0 rfl rfl rfl ?_
 refine r_alen H 2 (2 : Int32) d_j43_13_1 A_a1 rfl rfl ?_
 refine r_aloadN H 3 d_j43_13_2 rfl rfl rfl ?_
 refine r_alen H 4 (2 : Int32) d_j43_13_3 A_a2 rfl rfl ?_
 refine r_icmpneF H 7 d_j43_13_4 rfl (by decide) ?_
 refine r_iconst H 8 (0 : Int32) d_j43_13_7 (by decide) rfl ?_
 refine r_istoreN H 9 #[.val (.ref a1), .val (.ref a2), .val (.int (0 : Int32))] d_j43_13_8 rfl rfl ?_
 refine r_iloadN H 10 d_j43_13_9 rfl rfl ?_
 refine r_aloadN H 11 d_j43_13_10 rfl rfl rfl ?_
 refine r_alen H 12 (2 : Int32) d_j43_13_11 A_a1 rfl rfl ?_
 refine r_icmpgeF H 15 d_j43_13_12 rfl (by decide) ?_
 refine r_aloadN H 16 d_j43_13_15 rfl rfl rfl ?_
 refine r_iloadN H 17 d_j43_13_16 rfl rfl ?_
 refine r_baload H 18 i1 d_j43_13_17 A_a1 (by decide) rfl rfl ?_
 refine r_aloadN H 19 d_j43_13_18 rfl rfl rfl ?_
 refine r_iloadN H 20 d_j43_13_19 rfl rfl ?_
 refine r_baload H 21 (45 : Int32) d_j43_13_20 A_a2 (by decide) rfl rfl ?_
 refine r_icmpeq H 26 24 d_j43_13_21 (by decide) (by decide) rfl (fun c1 => ?_) (fun c1 => ?_)
 ·
  refine r_iinc H 29 #[.val (.ref a1), .val (.ref a2), .val (.int (1 : Int32))] (1 : Int32) d_j43_13_26 rfl (by decide) rfl rfl ?_
  refine r_goto H 9 d_j43_13_29 (by decide) (by decide) ?_
  refine r_iloadN H 10 d_j43_13_9 rfl rfl ?_
  refine r_aloadN H 11 d_j43_13_10 rfl rfl rfl ?_
  refine r_alen H 12 (2 : Int32) d_j43_13_11 A_a1 rfl rfl ?_
  refine r_icmpgeF H 15 d_j43_13_12 rfl (by decide) ?_
  refine r_aloadN H 16 d_j43_13_15 rfl rfl rfl ?_
  refine r_iloadN H 17 d_j43_13_16 rfl rfl ?_
  refine r_baload H 18 i2 d_j43_13_17 A_a1 (by decide) rfl rfl ?_
  refine r_aloadN H 19 d_j43_13_18 rfl rfl rfl ?_
  refine r_iloadN H 20 d_j43_13_19 rfl rfl ?_
  refine r_baload H 21 (104 : Int32) d_j43_13_20 A_a2 (by decide) rfl rfl ?_
  refine r_icmpeq H 26 24 d_j43_13_21 (by decide) (by decide) rfl (fun c2 => ?_) (fun c2 => ?_)
  ·
   refine r_iinc H 29 #[.val (.ref a1), .val (.ref a2), .val (.int (2 : Int32))] (2 : Int32) d_j43_13_26 rfl (by decide) rfl rfl ?_
   refine r_goto H 9 d_j43_13_29 (by decide) (by decide) ?_
   refine r_iloadN H 10 d_j43_13_9 rfl rfl ?_
   refine r_aloadN H 11 d_j43_13_10 rfl rfl rfl ?_
   refine r_alen H 12 (2 : Int32) d_j43_13_11 A_a1 rfl rfl ?_
   refine r_icmpgeT H 32 d_j43_13_12 (by decide) (by decide) (by decide) ?_
   refine r_iconst H 33 (1 : Int32) d_j43_13_32 (by decide) rfl ?_
   exact r_nreturn (1 : Int32) H (by simp) d_j43_13_33 (by decide) (by decide) (by decide) nlr (fun _ t => t) (⟨_, rfl, rfl, (by unfold fn_equals_22; rw [if_pos c1, if_pos c2]), (by have : (1 : Int32).toInt = 1 := (by decide); omega)⟩)
  ·
   refine r_iconst H 25 (0 : Int32) d_j43_13_24 (by decide) rfl ?_
   exact r_nreturn (0 : Int32) H (by simp) d_j43_13_25 (by decide) (by decide) (by decide) nlr (fun _ t => t) (⟨_, rfl, rfl, (by unfold fn_equals_22; rw [if_pos c1, if_neg c2]), (by have : (0 : Int32).toInt = 0 := (by decide); omega)⟩)
 ·
  refine r_iconst H 25 (0 : Int32) d_j43_13_24 (by decide) rfl ?_
  exact r_nreturn (0 : Int32) H (by simp) d_j43_13_25 (by decide) (by decide) (by decide) nlr (fun _ t => t) (⟨_, rfl, rfl, (by unfold fn_equals_22; rw [if_neg c1]), (by have : (0 : Int32).toInt = 0 := (by decide); omega)⟩)
def fn_equals_21 (i1 : Int32) (i2 : Int32) : Int32 := (if (fn_equals_22 i1 i2) = (0 : Int32) then (0 : Int32) else (1 : Int32))
def Q_equals_21 (Z : State) (i1 : Int32) (i2 : Int32) (h0 : Heap) (v : Option Value) (h : Heap) : Prop := ∃ z : Int32, v = some (.int z) ∧ h0 = h ∧ (fn_equals_21 i1 i2) = z ∧ (0 ≤ z.toInt ∧ z.toInt ≤ 1)
def R_equals_21 : Room := { frames := 1, cells := 0, slots := 0, locals := 14 }
theorem rm_equals_21 {w : Bool} {Z : State} {a0 : Array Value} (hw : HW a0 Z) (Ts : List String) (a1 : Addr) (a2 : Addr) (a3 : Addr) (a4 : Addr) (i1 : Int32) (i2 : Int32) (c1 : ClassId) (c2 : ClassId) (cs : Int32) (h0 : Heap) (f : Nat) (Zf : Z.heap.size ≤ f) (Z0 : f ≤ h0.size) (F_value_a1 : Fld Z h0 a1 "java/lang/String" "value" "[B" (.ref a3)) (F_value_a2 : Fld Z h0 a2 "java/lang/String" "value" "[B" (.ref a4)) (A_a3 : Ar Z h0 a3 c1 .byte [(.int i1), (.int i2)]) (A_a4 : Ar Z h0 a4 c2 .byte [(.int (45 : Int32)), (.int (104 : Int32))]) (E_a2 : Exa Z h0 a2 "java/lang/String") (F_coder_a1 : Fld Z h0 a1 "java/lang/String" "coder" "B" (.int (0 : Int32))) (F_coder_a2 : Fld Z h0 a2 "java/lang/String" "coder" "B" (.int (0 : Int32))) (S_cs : G_S_cs Z cs) (hcs : ¬ cs = 0) :
  Con w [] Z (⟨"java/lang/String", "equals", "(Ljava/lang/Object;)Z"⟩ : MethodName) jdk_42_method_66_code 3 (some .boolean) R_equals_21 Ts Ts f #[(.ref a1), (.ref a2)] h0 (Q_equals_21 Z i1 i2 h0) := by
 refine con_of f #[.val (.ref a1), .val (.ref a2), .unset] (plainFor_of_name pn_2) (fun m => rfl) Zf ?_
 intro C H hX0
 refine r_aloadN H 1 d_j42_66_0 rfl rfl rfl ?_
 refine r_aloadN H 2 d_j42_66_1 rfl rfl rfl ?_
 by_cases hab1 : a1 = a2
 ·
  refine r_acmp H 5 true d_j42_66_2 rfl rfl (decide_eq_true (congrArg Value.ref hab1)) (by decide) (by decide) ?_
  refine r_iconst H 6 (1 : Int32) d_j42_66_5 (by decide) rfl ?_
  exact r_nreturn (1 : Int32) H (by simp) d_j42_66_6 (by decide) (by decide) (by decide) nlr (fun _ t => t) (⟨_, rfl, rfl, (by have hv := str_eqv (hab1 ▸ F_value_a1) F_value_a2 A_a3 A_a4; simp at hv; simp [hv, fn_equals_22, fn_equals_21]), (by have : (1 : Int32).toInt = 1 := (by decide); omega)⟩)
 ·
  refine r_acmp H 7 false d_j42_66_2 rfl rfl (decide_eq_false fun q => hab1 (Value.ref.inj q)) (by decide) (by decide) ?_
  refine r_aloadN H 8 d_j42_66_7 rfl rfl rfl ?_
  refine r_instY H 11 d_j42_66_8 (tw49 hw) (Ins.self E_a2) rfl ?_
  refine r_ifeqF H 14 d_j42_66_11 rfl (by decide) ?_
  refine r_aloadN H 15 d_j42_66_14 rfl rfl rfl ?_
  refine r_castY H 18 d_j42_66_15 (tw49 hw) (Ins.self E_a2) rfl ?_
  refine r_astoreN H 19 #[.val (.ref a1), .val (.ref a2), .val (.ref a2)] d_j42_66_18 rfl rfl rfl ?_
  refine r_gets H 22 d_j42_66_19 (tw21 hw) Via.refl S_cs rfl ?_
  refine r_ifeqF H 25 d_j42_66_22 rfl hcs ?_
  refine r_aloadN H 26 d_j42_66_25 rfl rfl rfl ?_
  refine r_getf H 29 d_j42_66_26 (tw33 hw) Via.refl F_coder_a1 rfl ?_
  refine r_aloadN H 30 d_j42_66_29 rfl rfl rfl ?_
  refine r_getf H 33 d_j42_66_30 (tw33 hw) Via.refl F_coder_a2 rfl ?_
  refine r_icmpneF H 36 d_j42_66_33 rfl (by decide) ?_
  refine r_aloadN H 37 d_j42_66_36 rfl rfl rfl ?_
  refine r_getf H 40 d_j42_66_37 (tw35 hw) Via.refl F_value_a1 rfl ?_
  refine r_aloadN H 41 d_j42_66_40 rfl rfl rfl ?_
  refine r_getf H 44 d_j42_66_41 (tw35 hw) Via.refl F_value_a2 rfl ?_
  refine r_static H 47 d_j42_66_44 (tw50 hw) (tw51 hw) (tw52 hw) (tw53 hw) (by decide) (lenOf pd_7 rfl) (rm_equals_22 hw Ts a3 a4 i1 i2 c1 c2 h0 f Zf Z0 A_a3 A_a4) (argsL := [(.ref a3), (.ref a4)]) (rest := []) rfl (W := 0) (nlq rfl) rfl (by decide) (by decide) (by decide) (by decide) nlr rfl ?_
  rintro _ _ ⟨p2, rfl, rfl, ep2, rp2⟩
  refine Run.join (P := fun z => (if p2 = (0 : Int32) then (0 : Int32) else (1 : Int32)) = z ∧ (0 ≤ z.toInt ∧ z.toInt ≤ 1)) (pcB := 55) (LB := fun z => #[.val (.ref a1), .val (.ref a2), .val (.ref a2)]) (SB := fun z => [(.int z)]) (fun key => ?_) ?_
  ·
   refine r_ifeq H 54 50 d_j42_66_47 (by decide) (by decide) rfl (fun c4 => ?_) (fun c4 => ?_)
   ·
    have rr5 : 0 ≤ p2.toInt ∧ p2.toInt ≤ 0 := by have := rp2; have : (0 : Int32).toInt = 0 := (by decide); have hc_ := c4; simp only [Int32.lt_iff_toInt_lt, ← Int32.toInt_inj] at hc_; omega
    refine r_iconst H 55 (0 : Int32) d_j42_66_54 (by decide) rfl ?_
    exact key (0 : Int32) ⟨(by rw [if_pos c4]), (by have : (0 : Int32).toInt = 0 := (by decide); omega)⟩
   ·
    have rr6 : 1 ≤ p2.toInt ∧ p2.toInt ≤ 1 := by have := rp2; have : (0 : Int32).toInt = 0 := (by decide); have hc_ := c4; simp only [Int32.lt_iff_toInt_lt, ← Int32.toInt_inj] at hc_; omega
    refine r_iconst H 51 (1 : Int32) d_j42_66_50 (by decide) rfl ?_
    refine r_goto H 55 d_j42_66_51 (by decide) (by decide) ?_
    exact key (1 : Int32) ⟨(by rw [if_neg c4]), (by have : (1 : Int32).toInt = 1 := (by decide); omega)⟩
  rintro p7 ⟨ep7, rp7⟩
  subst ep2 ep7
  exact r_nreturn (if (fn_equals_22 i1 i2) = (0 : Int32) then (0 : Int32) else (1 : Int32)) H (by simp) d_j42_66_55 (nar_bool_id (by have := rp7; omega)) (by decide) (by decide) nlr (fun _ t => t) (⟨_, rfl, rfl, rfl, (by have := rp7; omega)⟩)
def Q_isHelp_18 (Z : State) (i1 : Int32) (i2 : Int32) (h0 : Heap) (v : Option Value) (h : Heap) : Prop := ∃ (z : Int32), v = some (.int z) ∧ (if (fn_equals_21 i1 i2) = (0 : Int32) then (0 : Int32) else (1 : Int32)) = z ∧ (0 ≤ z.toInt ∧ z.toInt ≤ 1) ∧ Keep h0 h []
def R_isHelp_18 : Room := { frames := 2, cells := 4, slots := 40, locals := 28 }
theorem rm_isHelp_18 {Z : State} {a0 : Array Value} (hw : HW a0 Z) (Ts : List String) (a1 : Addr) (a2 : Addr) (i1 : Int32) (i2 : Int32) (c1 : ClassId) (cs : Int32) (h0 : Heap) (f : Nat) (Zf : Z.heap.size ≤ f) (Z0 : f ≤ h0.size) (E_a1 : Exa Z h0 a1 "java/lang/String") (F_value_a1 : Fld Z h0 a1 "java/lang/String" "value" "[B" (.ref a2)) (A_a2 : Ar Z h0 a2 c1 .byte [(.int i1), (.int i2)]) (F_coder_a1 : Fld Z h0 a1 "java/lang/String" "coder" "B" (.int (0 : Int32))) (wS : G_wS Z a0) (hcw : G_hcw Z a0) (hh0 : G_hh0 Z) (S_cs : G_S_cs Z cs) (hh1 : G_hh1 Z) (hT__2d__2d_help : "--help" ∉ Ts) (hT__2d_h : "-h" ∉ Ts) (hcs : ¬ cs = 0) :
  Con true [] Z (⟨"com/example/maniera/maniera/cli/CommandLine", "isHelp", "(Ljava/lang/String;)Z"⟩ : MethodName) prog_2_method_4_code 1 (some .boolean) R_isHelp_18 Ts ("--help" :: "-h" :: Ts) f #[(.ref a1)] h0 (Q_isHelp_18 Z i1 i2 h0) := by
 refine con_of h0.size #[.val (.ref a1)] (plainFor_of_name pn_4) (fun m => rfl) (nlt Zf Z0) ?_
 intro C H hX0
 refine r_aloadN H 1 d_g2_4_0 rfl rfl rfl ?_
 refine r_ldcS H 3 (vs := [(.int (45 : Int32)), (.int (45 : Int32)), (.int (104 : Int32)), (.int (101 : Int32)), (.int (108 : Int32)), (.int (112 : Int32))]) (z := (6 : Int32)) 24 d_g2_4_1 (tw41 hw) wS hT__2d__2d_help hh0 hcw ⟨by decide, by decide⟩ (by decide) (by decide) (by decide) (by decide) (by decide) (by decide) rfl ?_
 intro h1 la1 lv1 kl1 K1 E1 C1 V1 A1 D1
 have q2 := (F_value_a1.keep K1 nin0)
 have q3 := (A_a2.keep K1 nin0)
 have q4 := (F_coder_a1.keep K1 nin0)
 have q5 := (E_a1.keep K1)
 refine r_virtual H 6 (z := (⟨"java/lang/String", "equals", "(Ljava/lang/Object;)Z"⟩ : MethodName)) (a := a1) d_g2_4_3 (tw44 hw) (tw45 hw) (nf_sel (tw47 hw)) (tw47 hw) (tw46 hw) (tw10 hw) (tw48 hw) (by decide) q5 (lenOf pd_8 rfl) (rm_equals_19 hw ("--help" :: Ts) a1 la1 a2 lv1 i1 i2 c1 kl1 cs h1 h0.size (nlt Zf Z0) K1.1 q2 V1 q3 A1 E1 q4 C1 S_cs hcs) (argsL := [(.ref la1)]) (rest := []) rfl (W := 0) (nlq rfl) rfl (by decide) (by decide) (by decide) (by decide) nlr rfl ?_
 rintro _ _ ⟨rfl, rfl⟩
 refine r_ifneF H 9 d_g2_4_6 rfl (by decide) ?_
 refine r_aloadN H 10 d_g2_4_9 rfl rfl rfl ?_
 refine r_ldcS H 12 (vs := [(.int (45 : Int32)), (.int (104 : Int32))]) (z := (2 : Int32)) 8 d_g2_4_10 (tw54 hw) wS (nin_cons (by decide) hT__2d_h) hh1 hcw ⟨by decide, by decide⟩ (by decide) (by decide) (by decide) (by decide) (by decide) (by decide) rfl ?_
 intro h7 la7 lv7 kl7 K7 E7 C7 V7 A7 D7
 have q8 := (q2.keep K7 nin0)
 have q9 := (q3.keep K7 nin0)
 have q10 := (q4.keep K7 nin0)
 have z11 := Nat.le_trans K1.1 K7.1
 have q12 := (q5.keep K7)
 refine r_virtual H 15 (z := (⟨"java/lang/String", "equals", "(Ljava/lang/Object;)Z"⟩ : MethodName)) (a := a1) d_g2_4_12 (tw44 hw) (tw45 hw) (nf_sel (tw47 hw)) (tw47 hw) (tw46 hw) (tw10 hw) (tw48 hw) (by decide) q12 (lenOf pd_8 rfl) (rm_equals_21 hw ("-h" :: "--help" :: Ts) a1 la7 a2 lv7 i1 i2 c1 kl7 cs h7 h0.size (nlt Zf Z0) z11 q8 V7 q9 A7 E7 q10 C7 S_cs hcs) (argsL := [(.ref la7)]) (rest := []) rfl (W := 0) (nlq rfl) rfl (by decide) (by decide) (by decide) (by decide) nlr rfl ?_
 rintro _ _ ⟨p13, rfl, rfl, ep13, rp13⟩
 refine Run.join (P := fun z => (if p13 = (0 : Int32) then (0 : Int32) else (1 : Int32)) = z ∧ (0 ≤ z.toInt ∧ z.toInt ≤ 1)) (pcB := 23) (LB := fun z => #[.val (.ref a1)]) (SB := fun z => [(.int z)]) (fun key => ?_) ?_
 ·
  refine r_ifeq H 22 18 d_g2_4_15 (by decide) (by decide) rfl (fun c15 => ?_) (fun c15 => ?_)
  ·
   have rr16 : 0 ≤ p13.toInt ∧ p13.toInt ≤ 0 := by have := rp13; have : (0 : Int32).toInt = 0 := (by decide); have hc_ := c15; simp only [Int32.lt_iff_toInt_lt, ← Int32.toInt_inj] at hc_; omega
   refine r_iconst H 23 (0 : Int32) d_g2_4_22 (by decide) rfl ?_
   exact key (0 : Int32) ⟨(by rw [if_pos c15]), (by have : (0 : Int32).toInt = 0 := (by decide); omega)⟩
  ·
   have rr17 : 1 ≤ p13.toInt ∧ p13.toInt ≤ 1 := by have := rp13; have : (0 : Int32).toInt = 0 := (by decide); have hc_ := c15; simp only [Int32.lt_iff_toInt_lt, ← Int32.toInt_inj] at hc_; omega
   refine r_iconst H 19 (1 : Int32) d_g2_4_18 (by decide) rfl ?_
   refine r_goto H 23 d_g2_4_19 (by decide) (by decide) ?_
   exact key (1 : Int32) ⟨(by rw [if_neg c15]), (by have : (1 : Int32).toInt = 1 := (by decide); omega)⟩
 rintro p18 ⟨ep18, rp18⟩
 have k19 : Keep h0 h1 [] := Keep.trans (Keep.refl h0 []) K1 all0
 have k20 : Keep h0 h7 [] := Keep.trans k19 K7 all0
 subst ep13 ep18
 exact r_nreturn (if (fn_equals_21 i1 i2) = (0 : Int32) then (0 : Int32) else (1 : Int32)) H (by simp) d_g2_4_23 (nar_bool_id (by have := rp18; omega)) (by decide) (by decide) Z0 (by intro t ht; simp only [List.mem_cons] at ht ⊢; rcases ht with ht | ht | ht <;> simp [ht]) (⟨_, rfl, rfl, (by have := rp18; omega), k20⟩)
def Q_compress_27 (Z : State) (a2 : Addr) (i1 : Int32) (i2 : Int32) (i3 : Int32) (i4 : Int32) (i5 : Int32) (i6 : Int32) (i7 : Int32) (c2 : ClassId) (h0 : Heap) (v : Option Value) (h : Heap) : Prop := v = some (.int (7 : Int32)) ∧ Keep h0 h [a2] ∧ Ar Z h a2 c2 .byte [(.int (cB8 i1)), (.int (cB8 i2)), (.int (cB8 i3)), (.int (cB8 i4)), (.int (cB8 i5)), (.int (cB8 i6)), (.int (cB8 i7))] ∧ Exa Z h a2 "[B"
def R_compress_27 : Room := { frames := 0, cells := 0, slots := 0, locals := 0 }
theorem rm_compress_27 {w : Bool} {Z : State} {a0 : Array Value} (hw : HW a0 Z) (Ts : List String) (a1 : Addr) (a2 : Addr) (i1 : Int32) (i2 : Int32) (i3 : Int32) (i4 : Int32) (i5 : Int32) (i6 : Int32) (i7 : Int32) (c1 : ClassId) (c2 : ClassId) (h0 : Heap) (f : Nat) (Zf : Z.heap.size ≤ f) (Z0 : f ≤ h0.size) (A_a1 : Ar Z h0 a1 c1 .char [(.int i1), (.int i2), (.int i3), (.int i4), (.int i5), (.int i6), (.int i7)]) (A_a2 : Ar Z h0 a2 c2 .byte [(.int (0 : Int32)), (.int (0 : Int32)), (.int (0 : Int32)), (.int (0 : Int32)), (.int (0 : Int32)), (.int (0 : Int32)), (.int (0 : Int32))]) (g_a2 : f ≤ a2) (E_a2 : Exa Z h0 a2 "[B") (E_a1 : Exa Z h0 a1 "[C") (r_i1 : 0 ≤ i1.toInt ∧ i1.toInt ≤ 255) (r_i2 : 0 ≤ i2.toInt ∧ i2.toInt ≤ 255) (r_i3 : 0 ≤ i3.toInt ∧ i3.toInt ≤ 255) (r_i4 : 0 ≤ i4.toInt ∧ i4.toInt ≤ 255) (r_i5 : 0 ≤ i5.toInt ∧ i5.toInt ≤ 255) (r_i6 : 0 ≤ i6.toInt ∧ i6.toInt ≤ 255) (r_i7 : 0 ≤ i7.toInt ∧ i7.toInt ≤ 255) :
  Con w [] Z (⟨"java/lang/StringUTF16", "compress", "([CI[BII)I"⟩ : MethodName) jdk_52_method_21_code 7 (some .int) R_compress_27 Ts Ts f #[(.ref a1), (.int (0 : Int32)), (.ref a2), (.int (0 : Int32)), (.int (7 : Int32))] h0 (Q_compress_27 Z a2 i1 i2 i3 i4 i5 i6 i7 c2 h0) := by
 refine con_of f #[.val (.ref a1), .val (.int (0 : Int32)), .val (.ref a2), .val (.int (0 : Int32)), .val (.int (7 : Int32)), .unset, .unset] (plainFor_of_name pn_1) (fun m => rfl) Zf ?_
 intro C H hX0
 refine r_iconst H 1 (0 : Int32) d_j52_21_0 (by decide) rfl ?_
 refine r_istore H 3 #[.val (.ref a1), .val (.int (0 : Int32)), .val (.ref a2), .val (.int (0 : Int32)), .val (.int (7 : Int32)), .val (.int (0 : Int32)), .unset] d_j52_21_1 rfl rfl ?_
 refine r_iload H 5 d_j52_21_3 rfl rfl ?_
 refine r_iload H 7 d_j52_21_5 rfl rfl ?_
 refine r_icmpgeF H 10 d_j52_21_7 rfl (by decide) ?_
 refine r_aloadN H 11 d_j52_21_10 rfl rfl rfl ?_
 refine r_iloadN H 12 d_j52_21_11 rfl rfl ?_
 refine r_caload H 13 i1 d_j52_21_12 A_a1 (by decide) rfl rfl ?_
 refine r_istore H 15 #[.val (.ref a1), .val (.int (0 : Int32)), .val (.ref a2), .val (.int (0 : Int32)), .val (.int (7 : Int32)), .val (.int (0 : Int32)), .val (.int i1)] d_j52_21_13 rfl rfl ?_
 refine r_iload H 17 d_j52_21_15 rfl rfl ?_
 refine r_sipush H 20 (255 : Int32) d_j52_21_17 (by decide) rfl ?_
 refine r_icmpleT H 26 d_j52_21_20 (by decide) (by decide) (by have := r_i1; have : (255 : Int32).toInt = 255 := (by decide); simp only [Int32.lt_iff_toInt_lt, ← Int32.toInt_inj]; omega) ?_
 refine r_aloadN H 27 d_j52_21_26 rfl rfl rfl ?_
 refine r_iloadN H 28 d_j52_21_27 rfl rfl ?_
 refine r_iload H 30 d_j52_21_28 rfl rfl ?_
 obtain ⟨p1, ep1, rp1⟩ : ∃ p : Int32, (i1.toInt8.toInt32) = p ∧ -128 ≤ p.toInt ∧ p.toInt ≤ 127 := ⟨_, rfl, (by have h := c_i2b i1; omega)⟩
 refine r_i2b H 31 p1 d_j52_21_30 ep1 rfl ?_
 refine r_bastore H 32 p1 d_j52_21_31 A_a2 (by decide) (Nat.le_of_ble_eq_true rfl) g_a2 (nar_byte_id (by have := rp1; omega)) rfl ?_
 intro h2 K2 A2
 change Ar Z h2 a2 c2 .byte [(.int p1), (.int (0 : Int32)), (.int (0 : Int32)), (.int (0 : Int32)), (.int (0 : Int32)), (.int (0 : Int32)), (.int (0 : Int32))] at A2
 refine r_iinc H 35 #[.val (.ref a1), .val (.int (1 : Int32)), .val (.ref a2), .val (.int (0 : Int32)), .val (.int (7 : Int32)), .val (.int (0 : Int32)), .val (.int i1)] (1 : Int32) d_j52_21_32 rfl (by decide) rfl rfl ?_
 refine r_iinc H 38 #[.val (.ref a1), .val (.int (1 : Int32)), .val (.ref a2), .val (.int (1 : Int32)), .val (.int (7 : Int32)), .val (.int (0 : Int32)), .val (.int i1)] (1 : Int32) d_j52_21_35 rfl (by decide) rfl rfl ?_
 refine r_iinc H 41 #[.val (.ref a1), .val (.int (1 : Int32)), .val (.ref a2), .val (.int (1 : Int32)), .val (.int (7 : Int32)), .val (.int (1 : Int32)), .val (.int i1)] (1 : Int32) d_j52_21_38 rfl (by decide) rfl rfl ?_
 refine r_goto H 3 d_j52_21_41 (by decide) (by decide) ?_
 refine r_iload H 5 d_j52_21_3 rfl rfl ?_
 refine r_iload H 7 d_j52_21_5 rfl rfl ?_
 refine r_icmpgeF H 10 d_j52_21_7 rfl (by decide) ?_
 refine r_aloadN H 11 d_j52_21_10 rfl rfl rfl ?_
 refine r_iloadN H 12 d_j52_21_11 rfl rfl ?_
 have q3 := (E_a1.keep K2)
 have q4 := (E_a2.keep K2)
 have q5 := (A_a1.keep K2 (ninS (ne_exa q3 q4 (by decide)) nin0))
 refine r_caload H 13 i2 d_j52_21_12 q5 (by decide) rfl rfl ?_
 refine r_istore H 15 #[.val (.ref a1), .val (.int (1 : Int32)), .val (.ref a2), .val (.int (1 : Int32)), .val (.int (7 : Int32)), .val (.int (1 : Int32)), .val (.int i2)] d_j52_21_13 rfl rfl ?_
 refine r_iload H 17 d_j52_21_15 rfl rfl ?_
 refine r_sipush H 20 (255 : Int32) d_j52_21_17 (by decide) rfl ?_
 refine r_icmpleT H 26 d_j52_21_20 (by decide) (by decide) (by have := r_i2; have : (255 : Int32).toInt = 255 := (by decide); simp only [Int32.lt_iff_toInt_lt, ← Int32.toInt_inj]; omega) ?_
 refine r_aloadN H 27 d_j52_21_26 rfl rfl rfl ?_
 refine r_iloadN H 28 d_j52_21_27 rfl rfl ?_
 refine r_iload H 30 d_j52_21_28 rfl rfl ?_
 obtain ⟨p6, ep6, rp6⟩ : ∃ p : Int32, (i2.toInt8.toInt32) = p ∧ -128 ≤ p.toInt ∧ p.toInt ≤ 127 := ⟨_, rfl, (by have h := c_i2b i2; omega)⟩
 refine r_i2b H 31 p6 d_j52_21_30 ep6 rfl ?_
 refine r_bastore H 32 p6 d_j52_21_31 A2 (by decide) (Nat.le_of_ble_eq_true rfl) g_a2 (nar_byte_id (by have := rp6; omega)) rfl ?_
 intro h7 K7 A7
 change Ar Z h7 a2 c2 .byte [(.int p1), (.int p6), (.int (0 : Int32)), (.int (0 : Int32)), (.int (0 : Int32)), (.int (0 : Int32)), (.int (0 : Int32))] at A7
 refine r_iinc H 35 #[.val (.ref a1), .val (.int (2 : Int32)), .val (.ref a2), .val (.int (1 : Int32)), .val (.int (7 : Int32)), .val (.int (1 : Int32)), .val (.int i2)] (2 : Int32) d_j52_21_32 rfl (by decide) rfl rfl ?_
 refine r_iinc H 38 #[.val (.ref a1), .val (.int (2 : Int32)), .val (.ref a2), .val (.int (2 : Int32)), .val (.int (7 : Int32)), .val (.int (1 : Int32)), .val (.int i2)] (2 : Int32) d_j52_21_35 rfl (by decide) rfl rfl ?_
 refine r_iinc H 41 #[.val (.ref a1), .val (.int (2 : Int32)), .val (.ref a2), .val (.int (2 : Int32)), .val (.int (7 : Int32)), .val (.int (2 : Int32)), .val (.int i2)] (2 : Int32) d_j52_21_38 rfl (by decide) rfl rfl ?_
 refine r_goto H 3 d_j52_21_41 (by decide) (by decide) ?_
 refine r_iload H 5 d_j52_21_3 rfl rfl ?_
 refine r_iload H 7 d_j52_21_5 rfl rfl ?_
 refine r_icmpgeF H 10 d_j52_21_7 rfl (by decide) ?_
 refine r_aloadN H 11 d_j52_21_10 rfl rfl rfl ?_
 refine r_iloadN H 12 d_j52_21_11 rfl rfl ?_
 have q8 := (q3.keep K7)
 have q9 := (q4.keep K7)
 have q10 := (q5.keep K7 (ninS (ne_exa q8 q9 (by decide)) nin0))
 refine r_caload H 13 i3 d_j52_21_12 q10 (by decide) rfl rfl ?_
 refine r_istore H 15 #[.val (.ref a1), .val (.int (2 : Int32)), .val (.ref a2), .val (.int (2 : Int32)), .val (.int (7 : Int32)), .val (.int (2 : Int32)), .val (.int i3)] d_j52_21_13 rfl rfl ?_
 refine r_iload H 17 d_j52_21_15 rfl rfl ?_
 refine r_sipush H 20 (255 : Int32) d_j52_21_17 (by decide) rfl ?_
 refine r_icmpleT H 26 d_j52_21_20 (by decide) (by decide) (by have := r_i3; have : (255 : Int32).toInt = 255 := (by decide); simp only [Int32.lt_iff_toInt_lt, ← Int32.toInt_inj]; omega) ?_
 refine r_aloadN H 27 d_j52_21_26 rfl rfl rfl ?_
 refine r_iloadN H 28 d_j52_21_27 rfl rfl ?_
 refine r_iload H 30 d_j52_21_28 rfl rfl ?_
 obtain ⟨p11, ep11, rp11⟩ : ∃ p : Int32, (i3.toInt8.toInt32) = p ∧ -128 ≤ p.toInt ∧ p.toInt ≤ 127 := ⟨_, rfl, (by have h := c_i2b i3; omega)⟩
 refine r_i2b H 31 p11 d_j52_21_30 ep11 rfl ?_
 refine r_bastore H 32 p11 d_j52_21_31 A7 (by decide) (Nat.le_of_ble_eq_true rfl) g_a2 (nar_byte_id (by have := rp11; omega)) rfl ?_
 intro h12 K12 A12
 change Ar Z h12 a2 c2 .byte [(.int p1), (.int p6), (.int p11), (.int (0 : Int32)), (.int (0 : Int32)), (.int (0 : Int32)), (.int (0 : Int32))] at A12
 refine r_iinc H 35 #[.val (.ref a1), .val (.int (3 : Int32)), .val (.ref a2), .val (.int (2 : Int32)), .val (.int (7 : Int32)), .val (.int (2 : Int32)), .val (.int i3)] (3 : Int32) d_j52_21_32 rfl (by decide) rfl rfl ?_
 refine r_iinc H 38 #[.val (.ref a1), .val (.int (3 : Int32)), .val (.ref a2), .val (.int (3 : Int32)), .val (.int (7 : Int32)), .val (.int (2 : Int32)), .val (.int i3)] (3 : Int32) d_j52_21_35 rfl (by decide) rfl rfl ?_
 refine r_iinc H 41 #[.val (.ref a1), .val (.int (3 : Int32)), .val (.ref a2), .val (.int (3 : Int32)), .val (.int (7 : Int32)), .val (.int (3 : Int32)), .val (.int i3)] (3 : Int32) d_j52_21_38 rfl (by decide) rfl rfl ?_
 refine r_goto H 3 d_j52_21_41 (by decide) (by decide) ?_
 refine r_iload H 5 d_j52_21_3 rfl rfl ?_
 refine r_iload H 7 d_j52_21_5 rfl rfl ?_
 refine r_icmpgeF H 10 d_j52_21_7 rfl (by decide) ?_
 refine r_aloadN H 11 d_j52_21_10 rfl rfl rfl ?_
 refine r_iloadN H 12 d_j52_21_11 rfl rfl ?_
 have q13 := (q8.keep K12)
 have q14 := (q9.keep K12)
 have q15 := (q10.keep K12 (ninS (ne_exa q13 q14 (by decide)) nin0))
 refine r_caload H 13 i4 d_j52_21_12 q15 (by decide) rfl rfl ?_
 refine r_istore H 15 #[.val (.ref a1), .val (.int (3 : Int32)), .val (.ref a2), .val (.int (3 : Int32)), .val (.int (7 : Int32)), .val (.int (3 : Int32)), .val (.int i4)] d_j52_21_13 rfl rfl ?_
 refine r_iload H 17 d_j52_21_15 rfl rfl ?_
 refine r_sipush H 20 (255 : Int32) d_j52_21_17 (by decide) rfl ?_
 refine r_icmpleT H 26 d_j52_21_20 (by decide) (by decide) (by have := r_i4; have : (255 : Int32).toInt = 255 := (by decide); simp only [Int32.lt_iff_toInt_lt, ← Int32.toInt_inj]; omega) ?_
 refine r_aloadN H 27 d_j52_21_26 rfl rfl rfl ?_
 refine r_iloadN H 28 d_j52_21_27 rfl rfl ?_
 refine r_iload H 30 d_j52_21_28 rfl rfl ?_
 obtain ⟨p16, ep16, rp16⟩ : ∃ p : Int32, (i4.toInt8.toInt32) = p ∧ -128 ≤ p.toInt ∧ p.toInt ≤ 127 := ⟨_, rfl, (by have h := c_i2b i4; omega)⟩
 refine r_i2b H 31 p16 d_j52_21_30 ep16 rfl ?_
 refine r_bastore H 32 p16 d_j52_21_31 A12 (by decide) (Nat.le_of_ble_eq_true rfl) g_a2 (nar_byte_id (by have := rp16; omega)) rfl ?_
 intro h17 K17 A17
 change Ar Z h17 a2 c2 .byte [(.int p1), (.int p6), (.int p11), (.int p16), (.int (0 : Int32)), (.int (0 : Int32)), (.int (0 : Int32))] at A17
 refine r_iinc H 35 #[.val (.ref a1), .val (.int (4 : Int32)), .val (.ref a2), .val (.int (3 : Int32)), .val (.int (7 : Int32)), .val (.int (3 : Int32)), .val (.int i4)] (4 : Int32) d_j52_21_32 rfl (by decide) rfl rfl ?_
 refine r_iinc H 38 #[.val (.ref a1), .val (.int (4 : Int32)), .val (.ref a2), .val (.int (4 : Int32)), .val (.int (7 : Int32)), .val (.int (3 : Int32)), .val (.int i4)] (4 : Int32) d_j52_21_35 rfl (by decide) rfl rfl ?_
 refine r_iinc H 41 #[.val (.ref a1), .val (.int (4 : Int32)), .val (.ref a2), .val (.int (4 : Int32)), .val (.int (7 : Int32)), .val (.int (4 : Int32)), .val (.int i4)] (4 : Int32) d_j52_21_38 rfl (by decide) rfl rfl ?_
 refine r_goto H 3 d_j52_21_41 (by decide) (by decide) ?_
 refine r_iload H 5 d_j52_21_3 rfl rfl ?_
 refine r_iload H 7 d_j52_21_5 rfl rfl ?_
 refine r_icmpgeF H 10 d_j52_21_7 rfl (by decide) ?_
 refine r_aloadN H 11 d_j52_21_10 rfl rfl rfl ?_
 refine r_iloadN H 12 d_j52_21_11 rfl rfl ?_
 have q18 := (q13.keep K17)
 have q19 := (q14.keep K17)
 have q20 := (q15.keep K17 (ninS (ne_exa q18 q19 (by decide)) nin0))
 refine r_caload H 13 i5 d_j52_21_12 q20 (by decide) rfl rfl ?_
 refine r_istore H 15 #[.val (.ref a1), .val (.int (4 : Int32)), .val (.ref a2), .val (.int (4 : Int32)), .val (.int (7 : Int32)), .val (.int (4 : Int32)), .val (.int i5)] d_j52_21_13 rfl rfl ?_
 refine r_iload H 17 d_j52_21_15 rfl rfl ?_
 refine r_sipush H 20 (255 : Int32) d_j52_21_17 (by decide) rfl ?_
 refine r_icmpleT H 26 d_j52_21_20 (by decide) (by decide) (by have := r_i5; have : (255 : Int32).toInt = 255 := (by decide); simp only [Int32.lt_iff_toInt_lt, ← Int32.toInt_inj]; omega) ?_
 refine r_aloadN H 27 d_j52_21_26 rfl rfl rfl ?_
 refine r_iloadN H 28 d_j52_21_27 rfl rfl ?_
 refine r_iload H 30 d_j52_21_28 rfl rfl ?_
 obtain ⟨p21, ep21, rp21⟩ : ∃ p : Int32, (i5.toInt8.toInt32) = p ∧ -128 ≤ p.toInt ∧ p.toInt ≤ 127 := ⟨_, rfl, (by have h := c_i2b i5; omega)⟩
 refine r_i2b H 31 p21 d_j52_21_30 ep21 rfl ?_
 refine r_bastore H 32 p21 d_j52_21_31 A17 (by decide) (Nat.le_of_ble_eq_true rfl) g_a2 (nar_byte_id (by have := rp21; omega)) rfl ?_
 intro h22 K22 A22
 change Ar Z h22 a2 c2 .byte [(.int p1), (.int p6), (.int p11), (.int p16), (.int p21), (.int (0 : Int32)), (.int (0 : Int32))] at A22
 refine r_iinc H 35 #[.val (.ref a1), .val (.int (5 : Int32)), .val (.ref a2), .val (.int (4 : Int32)), .val (.int (7 : Int32)), .val (.int (4 : Int32)), .val (.int i5)] (5 : Int32) d_j52_21_32 rfl (by decide) rfl rfl ?_
 refine r_iinc H 38 #[.val (.ref a1), .val (.int (5 : Int32)), .val (.ref a2), .val (.int (5 : Int32)), .val (.int (7 : Int32)), .val (.int (4 : Int32)), .val (.int i5)] (5 : Int32) d_j52_21_35 rfl (by decide) rfl rfl ?_
 refine r_iinc H 41 #[.val (.ref a1), .val (.int (5 : Int32)), .val (.ref a2), .val (.int (5 : Int32)), .val (.int (7 : Int32)), .val (.int (5 : Int32)), .val (.int i5)] (5 : Int32) d_j52_21_38 rfl (by decide) rfl rfl ?_
 refine r_goto H 3 d_j52_21_41 (by decide) (by decide) ?_
 refine r_iload H 5 d_j52_21_3 rfl rfl ?_
 refine r_iload H 7 d_j52_21_5 rfl rfl ?_
 refine r_icmpgeF H 10 d_j52_21_7 rfl (by decide) ?_
 refine r_aloadN H 11 d_j52_21_10 rfl rfl rfl ?_
 refine r_iloadN H 12 d_j52_21_11 rfl rfl ?_
 have q23 := (q18.keep K22)
 have q24 := (q19.keep K22)
 have q25 := (q20.keep K22 (ninS (ne_exa q23 q24 (by decide)) nin0))
 refine r_caload H 13 i6 d_j52_21_12 q25 (by decide) rfl rfl ?_
 refine r_istore H 15 #[.val (.ref a1), .val (.int (5 : Int32)), .val (.ref a2), .val (.int (5 : Int32)), .val (.int (7 : Int32)), .val (.int (5 : Int32)), .val (.int i6)] d_j52_21_13 rfl rfl ?_
 refine r_iload H 17 d_j52_21_15 rfl rfl ?_
 refine r_sipush H 20 (255 : Int32) d_j52_21_17 (by decide) rfl ?_
 refine r_icmpleT H 26 d_j52_21_20 (by decide) (by decide) (by have := r_i6; have : (255 : Int32).toInt = 255 := (by decide); simp only [Int32.lt_iff_toInt_lt, ← Int32.toInt_inj]; omega) ?_
 refine r_aloadN H 27 d_j52_21_26 rfl rfl rfl ?_
 refine r_iloadN H 28 d_j52_21_27 rfl rfl ?_
 refine r_iload H 30 d_j52_21_28 rfl rfl ?_
 obtain ⟨p26, ep26, rp26⟩ : ∃ p : Int32, (i6.toInt8.toInt32) = p ∧ -128 ≤ p.toInt ∧ p.toInt ≤ 127 := ⟨_, rfl, (by have h := c_i2b i6; omega)⟩
 refine r_i2b H 31 p26 d_j52_21_30 ep26 rfl ?_
 refine r_bastore H 32 p26 d_j52_21_31 A22 (by decide) (Nat.le_of_ble_eq_true rfl) g_a2 (nar_byte_id (by have := rp26; omega)) rfl ?_
 intro h27 K27 A27
 change Ar Z h27 a2 c2 .byte [(.int p1), (.int p6), (.int p11), (.int p16), (.int p21), (.int p26), (.int (0 : Int32))] at A27
 refine r_iinc H 35 #[.val (.ref a1), .val (.int (6 : Int32)), .val (.ref a2), .val (.int (5 : Int32)), .val (.int (7 : Int32)), .val (.int (5 : Int32)), .val (.int i6)] (6 : Int32) d_j52_21_32 rfl (by decide) rfl rfl ?_
 refine r_iinc H 38 #[.val (.ref a1), .val (.int (6 : Int32)), .val (.ref a2), .val (.int (6 : Int32)), .val (.int (7 : Int32)), .val (.int (5 : Int32)), .val (.int i6)] (6 : Int32) d_j52_21_35 rfl (by decide) rfl rfl ?_
 refine r_iinc H 41 #[.val (.ref a1), .val (.int (6 : Int32)), .val (.ref a2), .val (.int (6 : Int32)), .val (.int (7 : Int32)), .val (.int (6 : Int32)), .val (.int i6)] (6 : Int32) d_j52_21_38 rfl (by decide) rfl rfl ?_
 refine r_goto H 3 d_j52_21_41 (by decide) (by decide) ?_
 refine r_iload H 5 d_j52_21_3 rfl rfl ?_
 refine r_iload H 7 d_j52_21_5 rfl rfl ?_
 refine r_icmpgeF H 10 d_j52_21_7 rfl (by decide) ?_
 refine r_aloadN H 11 d_j52_21_10 rfl rfl rfl ?_
 refine r_iloadN H 12 d_j52_21_11 rfl rfl ?_
 have q28 := (q23.keep K27)
 have q29 := (q24.keep K27)
 have q30 := (q25.keep K27 (ninS (ne_exa q28 q29 (by decide)) nin0))
 refine r_caload H 13 i7 d_j52_21_12 q30 (by decide) rfl rfl ?_
 refine r_istore H 15 #[.val (.ref a1), .val (.int (6 : Int32)), .val (.ref a2), .val (.int (6 : Int32)), .val (.int (7 : Int32)), .val (.int (6 : Int32)), .val (.int i7)] d_j52_21_13 rfl rfl ?_
 refine r_iload H 17 d_j52_21_15 rfl rfl ?_
 refine r_sipush H 20 (255 : Int32) d_j52_21_17 (by decide) rfl ?_
 refine r_icmpleT H 26 d_j52_21_20 (by decide) (by decide) (by have := r_i7; have : (255 : Int32).toInt = 255 := (by decide); simp only [Int32.lt_iff_toInt_lt, ← Int32.toInt_inj]; omega) ?_
 refine r_aloadN H 27 d_j52_21_26 rfl rfl rfl ?_
 refine r_iloadN H 28 d_j52_21_27 rfl rfl ?_
 refine r_iload H 30 d_j52_21_28 rfl rfl ?_
 obtain ⟨p31, ep31, rp31⟩ : ∃ p : Int32, (i7.toInt8.toInt32) = p ∧ -128 ≤ p.toInt ∧ p.toInt ≤ 127 := ⟨_, rfl, (by have h := c_i2b i7; omega)⟩
 refine r_i2b H 31 p31 d_j52_21_30 ep31 rfl ?_
 refine r_bastore H 32 p31 d_j52_21_31 A27 (by decide) (Nat.le_of_ble_eq_true rfl) g_a2 (nar_byte_id (by have := rp31; omega)) rfl ?_
 intro h32 K32 A32
 change Ar Z h32 a2 c2 .byte [(.int p1), (.int p6), (.int p11), (.int p16), (.int p21), (.int p26), (.int p31)] at A32
 refine r_iinc H 35 #[.val (.ref a1), .val (.int (7 : Int32)), .val (.ref a2), .val (.int (6 : Int32)), .val (.int (7 : Int32)), .val (.int (6 : Int32)), .val (.int i7)] (7 : Int32) d_j52_21_32 rfl (by decide) rfl rfl ?_
 refine r_iinc H 38 #[.val (.ref a1), .val (.int (7 : Int32)), .val (.ref a2), .val (.int (7 : Int32)), .val (.int (7 : Int32)), .val (.int (6 : Int32)), .val (.int i7)] (7 : Int32) d_j52_21_35 rfl (by decide) rfl rfl ?_
 refine r_iinc H 41 #[.val (.ref a1), .val (.int (7 : Int32)), .val (.ref a2), .val (.int (7 : Int32)), .val (.int (7 : Int32)), .val (.int (7 : Int32)), .val (.int i7)] (7 : Int32) d_j52_21_38 rfl (by decide) rfl rfl ?_
 refine r_goto H 3 d_j52_21_41 (by decide) (by decide) ?_
 refine r_iload H 5 d_j52_21_3 rfl rfl ?_
 refine r_iload H 7 d_j52_21_5 rfl rfl ?_
 refine r_icmpgeT H 44 d_j52_21_7 (by decide) (by decide) (by decide) ?_
 refine r_iload H 46 d_j52_21_44 rfl rfl ?_
 have k33 : Keep h0 h2 [a2] := Keep.trans (Keep.refl h0 [a2]) K2 (allS (Or.inl (List.mem_of_getElem? (i := 0) rfl)) all0)
 have k34 : Keep h0 h7 [a2] := Keep.trans k33 K7 (allS (Or.inl (List.mem_of_getElem? (i := 0) rfl)) all0)
 have k35 : Keep h0 h12 [a2] := Keep.trans k34 K12 (allS (Or.inl (List.mem_of_getElem? (i := 0) rfl)) all0)
 have k36 : Keep h0 h17 [a2] := Keep.trans k35 K17 (allS (Or.inl (List.mem_of_getElem? (i := 0) rfl)) all0)
 have k37 : Keep h0 h22 [a2] := Keep.trans k36 K22 (allS (Or.inl (List.mem_of_getElem? (i := 0) rfl)) all0)
 have k38 : Keep h0 h27 [a2] := Keep.trans k37 K27 (allS (Or.inl (List.mem_of_getElem? (i := 0) rfl)) all0)
 have k39 : Keep h0 h32 [a2] := Keep.trans k38 K32 (allS (Or.inl (List.mem_of_getElem? (i := 0) rfl)) all0)
 have q40 := (q29.keep K32)
 subst ep1 ep6 ep11 ep16 ep21 ep26 ep31
 exact r_ireturn H d_j52_21_46 (by decide) (by decide) nlr (fun _ t => t) (⟨rfl, k39, A32, q40⟩)
def Q_compress_26 (Z : State) (i1 : Int32) (i2 : Int32) (i3 : Int32) (i4 : Int32) (i5 : Int32) (i6 : Int32) (i7 : Int32) (h0 : Heap) (v : Option Value) (h : Heap) : Prop := ∃ (b1 : Addr) (kc1 : ClassId), v = some (.ref b1) ∧ Keep h0 h [] ∧ h0.size ≤ b1 ∧ Ar Z h b1 kc1 .byte [(.int (cB8 i1)), (.int (cB8 i2)), (.int (cB8 i3)), (.int (cB8 i4)), (.int (cB8 i5)), (.int (cB8 i6)), (.int (cB8 i7))] ∧ Exa Z h b1 "[B"
def R_compress_26 : Room := { frames := 1, cells := 1, slots := 7, locals := 18 }
theorem rm_compress_26 {w : Bool} {Z : State} {a0 : Array Value} (hw : HW a0 Z) (Ts : List String) (a1 : Addr) (i1 : Int32) (i2 : Int32) (i3 : Int32) (i4 : Int32) (i5 : Int32) (i6 : Int32) (i7 : Int32) (c1 : ClassId) (h0 : Heap) (f : Nat) (Zf : Z.heap.size ≤ f) (Z0 : f ≤ h0.size) (A_a1 : Ar Z h0 a1 c1 .char [(.int i1), (.int i2), (.int i3), (.int i4), (.int i5), (.int i6), (.int i7)]) (E_a1 : Exa Z h0 a1 "[C") (r_i1 : 0 ≤ i1.toInt ∧ i1.toInt ≤ 255) (r_i2 : 0 ≤ i2.toInt ∧ i2.toInt ≤ 255) (r_i3 : 0 ≤ i3.toInt ∧ i3.toInt ≤ 255) (r_i4 : 0 ≤ i4.toInt ∧ i4.toInt ≤ 255) (r_i5 : 0 ≤ i5.toInt ∧ i5.toInt ≤ 255) (r_i6 : 0 ≤ i6.toInt ∧ i6.toInt ≤ 255) (r_i7 : 0 ≤ i7.toInt ∧ i7.toInt ≤ 255) :
  Con w [] Z (⟨"java/lang/StringUTF16", "compress", "([CII)[B"⟩ : MethodName) jdk_52_method_16_code 6 (some (.array .byte)) R_compress_26 Ts Ts f #[(.ref a1), (.int (0 : Int32)), (.int (7 : Int32))] h0 (Q_compress_26 Z i1 i2 i3 i4 i5 i6 i7 h0) := by
 refine con_of f #[.val (.ref a1), .val (.int (0 : Int32)), .val (.int (7 : Int32)), .unset, .unset, .unset] (plainFor_of_name pn_1) (fun m => rfl) Zf ?_
 intro C H hX0
 refine r_iloadN H 1 d_j52_16_0 rfl rfl ?_
 refine r_newP H 3 "[B" 7 d_j52_16_1 (tw26 hw) rfl (by decide) (by decide) (by decide) (by decide) (by decide) rfl ?_
 intro h1 b1 kc1 g1 l1 K1 E1 A1
 change Ar Z h1 b1 kc1 .byte [(.int (0 : Int32)), (.int (0 : Int32)), (.int (0 : Int32)), (.int (0 : Int32)), (.int (0 : Int32)), (.int (0 : Int32)), (.int (0 : Int32))] at A1
 refine r_astoreN H 4 #[.val (.ref a1), .val (.int (0 : Int32)), .val (.int (7 : Int32)), .val (.ref b1), .unset, .unset] d_j52_16_3 rfl rfl rfl ?_
 refine r_aloadN H 5 d_j52_16_4 rfl rfl rfl ?_
 refine r_iloadN H 6 d_j52_16_5 rfl rfl ?_
 refine r_aloadN H 7 d_j52_16_6 rfl rfl rfl ?_
 refine r_iconst H 8 (0 : Int32) d_j52_16_7 (by decide) rfl ?_
 refine r_iloadN H 9 d_j52_16_8 rfl rfl ?_
 have q2 := (A_a1.keep K1 nin0)
 have q3 := (E_a1.keep K1)
 refine r_static H 12 d_j52_16_9 (tw27 hw) (tw28 hw) (tw24 hw) (tw29 hw) (by decide) (lenOf pd_1 rfl) (rm_compress_27 hw Ts a1 b1 i1 i2 i3 i4 i5 i6 i7 c1 kc1 h1 f Zf (nlt Z0 K1.1) q2 A1 (nlt Z0 (Nat.le_of_eq g1.symm)) E1 q3 r_i1 r_i2 r_i3 r_i4 r_i5 r_i6 r_i7) (argsL := [(.ref a1), (.int (0 : Int32)), (.ref b1), (.int (0 : Int32)), (.int (7 : Int32))]) (rest := []) rfl (W := 0) (nlq rfl) rfl (by decide) (by decide) (by decide) (by decide) nlr rfl ?_
 rintro _ hh7 ⟨rfl, K4, q5, q6⟩
 refine r_istore H 14 #[.val (.ref a1), .val (.int (0 : Int32)), .val (.int (7 : Int32)), .val (.ref b1), .val (.int (7 : Int32)), .unset] d_j52_16_12 rfl rfl ?_
 refine r_iload H 16 d_j52_16_14 rfl rfl ?_
 refine r_iloadN H 17 d_j52_16_16 rfl rfl ?_
 refine r_icmpeqT H 57 d_j52_16_17 (by decide) (by decide) (by decide) ?_
 refine r_aloadN H 58 d_j52_16_57 rfl rfl rfl ?_
 have k8 : Keep h0 h1 [] := Keep.trans (Keep.refl h0 []) K1 all0
 have k9 : Keep h0 hh7 [] := Keep.trans k8 K4 (allS (Or.inr (nlt nlr (Nat.le_of_eq g1.symm))) all0)
 exact r_areturn H rfl rfl d_j52_16_58 (by decide) (by decide) nlr (fun _ t => t) (⟨b1, kc1, rfl, k9, (nlt nlr (Nat.le_of_eq g1.symm)), q5, q6⟩)
def Q_coderFromArrayLen_28 (Z : State) (h0 : Heap) (v : Option Value) (h : Heap) : Prop := v = some (.int (0 : Int32)) ∧ h0 = h
def R_coderFromArrayLen_28 : Room := { frames := 0, cells := 0, slots := 0, locals := 0 }
theorem rm_coderFromArrayLen_28 {w : Bool} {Z : State} {a0 : Array Value} (hw : HW a0 Z) (Ts : List String) (a1 : Addr) (i1 : Int32) (i2 : Int32) (i3 : Int32) (i4 : Int32) (i5 : Int32) (i6 : Int32) (i7 : Int32) (c1 : ClassId) (h0 : Heap) (f : Nat) (Zf : Z.heap.size ≤ f) (Z0 : f ≤ h0.size) (A_a1 : Ar Z h0 a1 c1 .byte [(.int (cB8 i1)), (.int (cB8 i2)), (.int (cB8 i3)), (.int (cB8 i4)), (.int (cB8 i5)), (.int (cB8 i6)), (.int (cB8 i7))]) :
  Con w [] Z (⟨"java/lang/StringUTF16", "coderFromArrayLen", "([BI)B"⟩ : MethodName) jdk_52_method_15_code 2 (some .byte) R_coderFromArrayLen_28 Ts Ts f #[(.ref a1), (.int (7 : Int32))] h0 (Q_coderFromArrayLen_28 Z h0) := by
 refine con_of f #[.val (.ref a1), .val (.int (7 : Int32))] (plainFor_of_name pn_1) (fun m => rfl) Zf ?_
 intro C H hX0
 refine r_iloadN H 1 d_j52_15_0 rfl rfl ?_
 refine r_aloadN H 2 d_j52_15_1 rfl rfl rfl ?_
 refine r_alen H 3 (7 : Int32) d_j52_15_2 A_a1 rfl rfl ?_
 refine r_isub H 4 (0 : Int32) d_j52_15_3 (by decide) rfl ?_
 refine r_bipush H 6 (31 : Int32) d_j52_15_4 (by decide) rfl ?_
 refine r_iushr H 7 (0 : Int32) d_j52_15_6 (by decide) rfl ?_
 refine r_i2b H 8 (0 : Int32) d_j52_15_7 (by decide) rfl ?_
 exact r_nreturn (0 : Int32) H (by simp) d_j52_15_8 (by decide) (by decide) (by decide) nlr (fun _ t => t) (⟨rfl, rfl⟩)
def Q_init_25 (Z : State) (a1 : Addr) (i1 : Int32) (i2 : Int32) (i3 : Int32) (i4 : Int32) (i5 : Int32) (i6 : Int32) (i7 : Int32) (h0 : Heap) (v : Option Value) (h : Heap) : Prop := ∃ (b1 : Addr) (kc2 : ClassId), v = none ∧ Keep h0 h [a1] ∧ h0.size ≤ b1 ∧ Exa Z h a1 "java/lang/String" ∧ Fld Z h a1 "java/lang/String" "coder" "B" (.int (0 : Int32)) ∧ Fld Z h a1 "java/lang/String" "value" "[B" (.ref b1) ∧ Ar Z h b1 kc2 .byte [(.int (cB8 i1)), (.int (cB8 i2)), (.int (cB8 i3)), (.int (cB8 i4)), (.int (cB8 i5)), (.int (cB8 i6)), (.int (cB8 i7))] ∧ Exa Z h b1 "[B"
def R_init_25 : Room := { frames := 2, cells := 1, slots := 7, locals := 35 }
theorem rm_init_25 {w : Bool} {Z : State} {a0 : Array Value} (hw : HW a0 Z) (Ts : List String) (a1 : Addr) (a2 : Addr) (i1 : Int32) (i2 : Int32) (i3 : Int32) (i4 : Int32) (i5 : Int32) (i6 : Int32) (i7 : Int32) (c1 : ClassId) (cs : Int32) (h0 : Heap) (f : Nat) (Zf : Z.heap.size ≤ f) (Z0 : f ≤ h0.size) (A_a2 : Ar Z h0 a2 c1 .char [(.int i1), (.int i2), (.int i3), (.int i4), (.int i5), (.int i6), (.int i7)]) (E_a2 : Exa Z h0 a2 "[C") (E_a1 : Exa Z h0 a1 "java/lang/String") (F_coder_a1 : Fld Z h0 a1 "java/lang/String" "coder" "B" (.int (0 : Int32))) (g_a1 : f ≤ a1) (F_value_a1 : Fld Z h0 a1 "java/lang/String" "value" "[B" .null) (r_i1 : 0 ≤ i1.toInt ∧ i1.toInt ≤ 255) (r_i2 : 0 ≤ i2.toInt ∧ i2.toInt ≤ 255) (r_i3 : 0 ≤ i3.toInt ∧ i3.toInt ≤ 255) (r_i4 : 0 ≤ i4.toInt ∧ i4.toInt ≤ 255) (r_i5 : 0 ≤ i5.toInt ∧ i5.toInt ≤ 255) (r_i6 : 0 ≤ i6.toInt ∧ i6.toInt ≤ 255) (r_i7 : 0 ≤ i7.toInt ∧ i7.toInt ≤ 255) (S_cs : G_S_cs Z cs) (hcs : ¬ cs = 0) :
  Con w [] Z (⟨"java/lang/String", "<init>", "([CIILjava/lang/Void;)V"⟩ : MethodName) jdk_42_method_149_code 6 none R_init_25 Ts Ts f #[(.ref a1), (.ref a2), (.int (0 : Int32)), (.int (7 : Int32)), .null] h0 (Q_init_25 Z a1 i1 i2 i3 i4 i5 i6 i7 h0) := by
 refine con_of f #[.val (.ref a1), .val (.ref a2), .val (.int (0 : Int32)), .val (.int (7 : Int32)), .val .null, .unset] (plainFor_of_name pn_2) (fun m => rfl) Zf ?_
 intro C H hX0
 refine r_aloadN H 1 d_j42_149_0 rfl rfl rfl ?_
 refine r_initO H 4 d_j42_149_1 (tw18 hw) (tw19 hw) (tw20 hw) rfl (by decide) (W := 0) (nlq rfl) (by decide) rfl ?_
 refine r_iloadN H 5 d_j42_149_4 rfl rfl ?_
 refine r_ifneT H 27 d_j42_149_5 (by decide) (by decide) (by decide) ?_
 refine r_gets H 30 d_j42_149_27 (tw21 hw) Via.refl S_cs rfl ?_
 refine r_ifeqF H 33 d_j42_149_30 rfl hcs ?_
 refine r_aloadN H 34 d_j42_149_33 rfl rfl rfl ?_
 refine r_iloadN H 35 d_j42_149_34 rfl rfl ?_
 refine r_iloadN H 36 d_j42_149_35 rfl rfl ?_
 refine r_static H 39 d_j42_149_36 (tw22 hw) (tw23 hw) (tw24 hw) (tw25 hw) (by decide) (lenOf pd_2 rfl) (rm_compress_26 hw Ts a2 i1 i2 i3 i4 i5 i6 i7 c1 h0 f Zf Z0 A_a2 E_a2 r_i1 r_i2 r_i3 r_i4 r_i5 r_i6 r_i7) (argsL := [(.ref a2), (.int (0 : Int32)), (.int (7 : Int32))]) (rest := []) rfl (W := 0) (nlq rfl) rfl (by decide) (by decide) (by decide) (by decide) nlr rfl ?_
 rintro _ hh7 ⟨b1, kc2, rfl, K3, g4, q5, q6⟩
 refine r_astore H 41 #[.val (.ref a1), .val (.ref a2), .val (.int (0 : Int32)), .val (.int (7 : Int32)), .val .null, .val (.ref b1)] d_j42_149_39 rfl rfl rfl ?_
 refine r_aloadN H 42 d_j42_149_41 rfl rfl rfl ?_
 refine r_aload H 44 d_j42_149_42 rfl rfl rfl ?_
 refine r_iloadN H 45 d_j42_149_44 rfl rfl ?_
 refine r_static H 48 d_j42_149_45 (tw30 hw) (tw31 hw) (tw24 hw) (tw32 hw) (by decide) (lenOf pd_3 rfl) (rm_coderFromArrayLen_28 hw Ts b1 i1 i2 i3 i4 i5 i6 i7 kc2 hh7 f Zf (nlt Z0 K3.1) q5) (argsL := [(.ref b1), (.int (7 : Int32))]) (rest := [(.ref a1)]) rfl (W := 1) (nlq rfl) rfl (by decide) (by decide) (by decide) (by decide) nlr rfl ?_
 rintro _ _ ⟨rfl, rfl⟩
 have q9 := (E_a1.keep K3)
 have q10 := (F_coder_a1.keep K3 nin0)
 refine r_putn H 51 (v' := (.int (0 : Int32))) d_j42_149_48 (tw33 hw) Via.refl q10 q9 (Or.inr ⟨(tw34 hw), rfl, rfl⟩) (tw9 hw) (ty := .byte) (by decide) rfl (by decide) g_a1 rfl ?_
 intro h11 W11 K11 E11 F11
 refine r_aloadN H 52 d_j42_149_51 rfl rfl rfl ?_
 refine r_aload H 54 d_j42_149_52 rfl rfl rfl ?_
 have q12 := ((F_value_a1.keep K3 nin0).other W11 (Or.inr (slot_ne (Or.inr (tw36 hw)) (Or.inr (tw34 hw)) (by decide) (t := (.array .byte)) (t' := .byte) (by decide) (by decide))))
 refine r_putf H 57 d_j42_149_54 (tw35 hw) Via.refl q12 E11 (Or.inr ⟨(tw36 hw), rfl, rfl⟩) (tw9 hw) (ty := (.array .byte)) (by decide) rfl rfl g_a1 rfl ?_
 intro h13 W13 K13 E13 F13
 have k14 : Keep h0 hh7 [a1] := Keep.trans (Keep.refl h0 [a1]) K3 all0
 have k15 : Keep h0 h11 [a1] := Keep.trans k14 K11 (allS (Or.inl (List.mem_of_getElem? (i := 0) rfl)) all0)
 have k16 : Keep h0 h13 [a1] := Keep.trans k15 K13 (allS (Or.inl (List.mem_of_getElem? (i := 0) rfl)) all0)
 have q17 := (F11.other W13 (Or.inr (slot_ne (Or.inr (tw34 hw)) (Or.inr (tw36 hw)) (by decide) (t := .byte) (t' := (.array .byte)) (by decide) (by decide))))
 have q18 := ((q5.keep K11 (ninS (Ne.symm (Nat.ne_of_lt (Nat.lt_of_lt_of_le E_a1.lt (nlt nlr g4)))) nin0)).keep K13 (ninS (Ne.symm (Nat.ne_of_lt (Nat.lt_of_lt_of_le E_a1.lt (nlt nlr g4)))) nin0))
 have q19 := ((q6.keep K11).keep K13)
 exact r_return H d_j42_149_57 (by decide) (by decide) nlr (fun _ t => t) (⟨b1, kc2, rfl, k16, (nlt nlr g4), E13, q17, F13, q18, q19⟩)
def Q_init_24 (Z : State) (a1 : Addr) (i1 : Int32) (i2 : Int32) (i3 : Int32) (i4 : Int32) (i5 : Int32) (i6 : Int32) (i7 : Int32) (h0 : Heap) (v : Option Value) (h : Heap) : Prop := ∃ (b1 : Addr) (kc2 : ClassId), v = none ∧ Keep h0 h [a1] ∧ h0.size ≤ b1 ∧ Exa Z h a1 "java/lang/String" ∧ Fld Z h a1 "java/lang/String" "coder" "B" (.int (0 : Int32)) ∧ Fld Z h a1 "java/lang/String" "value" "[B" (.ref b1) ∧ Ar Z h b1 kc2 .byte [(.int (cB8 i1)), (.int (cB8 i2)), (.int (cB8 i3)), (.int (cB8 i4)), (.int (cB8 i5)), (.int (cB8 i6)), (.int (cB8 i7))] ∧ Exa Z h b1 "[B"
def R_init_24 : Room := { frames := 3, cells := 1, slots := 7, locals := 52 }
theorem rm_init_24 {w : Bool} {Z : State} {a0 : Array Value} (hw : HW a0 Z) (Ts : List String) (a1 : Addr) (a2 : Addr) (i1 : Int32) (i2 : Int32) (i3 : Int32) (i4 : Int32) (i5 : Int32) (i6 : Int32) (i7 : Int32) (c1 : ClassId) (cs : Int32) (h0 : Heap) (f : Nat) (Zf : Z.heap.size ≤ f) (Z0 : f ≤ h0.size) (A_a2 : Ar Z h0 a2 c1 .char [(.int i1), (.int i2), (.int i3), (.int i4), (.int i5), (.int i6), (.int i7)]) (g_a1 : f ≤ a1) (E_a2 : Exa Z h0 a2 "[C") (E_a1 : Exa Z h0 a1 "java/lang/String") (F_coder_a1 : Fld Z h0 a1 "java/lang/String" "coder" "B" (.int (0 : Int32))) (F_value_a1 : Fld Z h0 a1 "java/lang/String" "value" "[B" .null) (r_i1 : 0 ≤ i1.toInt ∧ i1.toInt ≤ 255) (r_i2 : 0 ≤ i2.toInt ∧ i2.toInt ≤ 255) (r_i3 : 0 ≤ i3.toInt ∧ i3.toInt ≤ 255) (r_i4 : 0 ≤ i4.toInt ∧ i4.toInt ≤ 255) (r_i5 : 0 ≤ i5.toInt ∧ i5.toInt ≤ 255) (r_i6 : 0 ≤ i6.toInt ∧ i6.toInt ≤ 255) (r_i7 : 0 ≤ i7.toInt ∧ i7.toInt ≤ 255) (S_cs : G_S_cs Z cs) (hcs : ¬ cs = 0) :
  Con w [] Z (⟨"java/lang/String", "<init>", "([C)V"⟩ : MethodName) jdk_42_method_3_code 2 none R_init_24 Ts Ts f #[(.ref a1), (.ref a2)] h0 (Q_init_24 Z a1 i1 i2 i3 i4 i5 i6 i7 h0) := by
 refine con_of f #[.val (.ref a1), .val (.ref a2)] (plainFor_of_name pn_2) (fun m => rfl) Zf ?_
 intro C H hX0
 refine r_aloadN H 1 d_j42_3_0 rfl rfl rfl ?_
 refine r_aloadN H 2 d_j42_3_1 rfl rfl rfl ?_
 refine r_iconst H 3 (0 : Int32) d_j42_3_2 (by decide) rfl ?_
 refine r_aloadN H 4 d_j42_3_3 rfl rfl rfl ?_
 refine r_alen H 5 (7 : Int32) d_j42_3_4 A_a2 rfl rfl ?_
 refine r_null H 6 d_j42_3_5 rfl ?_
 refine r_special H 9 (a := a1) d_j42_3_6 (tw14 hw) (tw15 hw) (tw10 hw) (tw17 hw) (by decide) rfl (lenOf pd_4 rfl) (rm_init_25 hw Ts a1 a2 i1 i2 i3 i4 i5 i6 i7 c1 cs h0 f Zf Z0 A_a2 E_a2 E_a1 F_coder_a1 g_a1 F_value_a1 r_i1 r_i2 r_i3 r_i4 r_i5 r_i6 r_i7 S_cs hcs) (argsL := [(.ref a2), (.int (0 : Int32)), (.int (7 : Int32)), .null]) (rest := []) rfl (W := 0) (nlq rfl) rfl (by decide) (by decide) (by decide) (by decide) nlr rfl ?_
 rintro _ hh10 ⟨b1, kc2, rfl, K3, g4, q5, q6, q7, q8, q9⟩
 have k11 : Keep h0 hh10 [a1] := Keep.trans (Keep.refl h0 [a1]) K3 (allS (Or.inl (List.mem_of_getElem? (i := 0) rfl)) all0)
 exact r_return H d_j42_3_9 (by decide) (by decide) nlr (fun _ t => t) (⟨b1, kc2, rfl, k11, (nlt nlr g4), q5, q6, q7, q8, q9⟩)
def Q_compress_32 (Z : State) (a2 : Addr) (i1 : Int32) (i2 : Int32) (i3 : Int32) (i4 : Int32) (i5 : Int32) (i6 : Int32) (c2 : ClassId) (h0 : Heap) (v : Option Value) (h : Heap) : Prop := v = some (.int (6 : Int32)) ∧ Keep h0 h [a2] ∧ Ar Z h a2 c2 .byte [(.int (cB8 i1)), (.int (cB8 i2)), (.int (cB8 i3)), (.int (cB8 i4)), (.int (cB8 i5)), (.int (cB8 i6))] ∧ Exa Z h a2 "[B"
def R_compress_32 : Room := { frames := 0, cells := 0, slots := 0, locals := 0 }
theorem rm_compress_32 {w : Bool} {Z : State} {a0 : Array Value} (hw : HW a0 Z) (Ts : List String) (a1 : Addr) (a2 : Addr) (i1 : Int32) (i2 : Int32) (i3 : Int32) (i4 : Int32) (i5 : Int32) (i6 : Int32) (c1 : ClassId) (c2 : ClassId) (h0 : Heap) (f : Nat) (Zf : Z.heap.size ≤ f) (Z0 : f ≤ h0.size) (A_a1 : Ar Z h0 a1 c1 .char [(.int i1), (.int i2), (.int i3), (.int i4), (.int i5), (.int i6)]) (A_a2 : Ar Z h0 a2 c2 .byte [(.int (0 : Int32)), (.int (0 : Int32)), (.int (0 : Int32)), (.int (0 : Int32)), (.int (0 : Int32)), (.int (0 : Int32))]) (g_a2 : f ≤ a2) (E_a2 : Exa Z h0 a2 "[B") (E_a1 : Exa Z h0 a1 "[C") (r_i1 : 0 ≤ i1.toInt ∧ i1.toInt ≤ 255) (r_i2 : 0 ≤ i2.toInt ∧ i2.toInt ≤ 255) (r_i3 : 0 ≤ i3.toInt ∧ i3.toInt ≤ 255) (r_i4 : 0 ≤ i4.toInt ∧ i4.toInt ≤ 255) (r_i5 : 0 ≤ i5.toInt ∧ i5.toInt ≤ 255) (r_i6 : 0 ≤ i6.toInt ∧ i6.toInt ≤ 255) :
  Con w [] Z (⟨"java/lang/StringUTF16", "compress", "([CI[BII)I"⟩ : MethodName) jdk_52_method_21_code 7 (some .int) R_compress_32 Ts Ts f #[(.ref a1), (.int (0 : Int32)), (.ref a2), (.int (0 : Int32)), (.int (6 : Int32))] h0 (Q_compress_32 Z a2 i1 i2 i3 i4 i5 i6 c2 h0) := by
 refine con_of f #[.val (.ref a1), .val (.int (0 : Int32)), .val (.ref a2), .val (.int (0 : Int32)), .val (.int (6 : Int32)), .unset, .unset] (plainFor_of_name pn_1) (fun m => rfl) Zf ?_
 intro C H hX0
 refine r_iconst H 1 (0 : Int32) d_j52_21_0 (by decide) rfl ?_
 refine r_istore H 3 #[.val (.ref a1), .val (.int (0 : Int32)), .val (.ref a2), .val (.int (0 : Int32)), .val (.int (6 : Int32)), .val (.int (0 : Int32)), .unset] d_j52_21_1 rfl rfl ?_
 refine r_iload H 5 d_j52_21_3 rfl rfl ?_
 refine r_iload H 7 d_j52_21_5 rfl rfl ?_
 refine r_icmpgeF H 10 d_j52_21_7 rfl (by decide) ?_
 refine r_aloadN H 11 d_j52_21_10 rfl rfl rfl ?_
 refine r_iloadN H 12 d_j52_21_11 rfl rfl ?_
 refine r_caload H 13 i1 d_j52_21_12 A_a1 (by decide) rfl rfl ?_
 refine r_istore H 15 #[.val (.ref a1), .val (.int (0 : Int32)), .val (.ref a2), .val (.int (0 : Int32)), .val (.int (6 : Int32)), .val (.int (0 : Int32)), .val (.int i1)] d_j52_21_13 rfl rfl ?_
 refine r_iload H 17 d_j52_21_15 rfl rfl ?_
 refine r_sipush H 20 (255 : Int32) d_j52_21_17 (by decide) rfl ?_
 refine r_icmpleT H 26 d_j52_21_20 (by decide) (by decide) (by have := r_i1; have : (255 : Int32).toInt = 255 := (by decide); simp only [Int32.lt_iff_toInt_lt, ← Int32.toInt_inj]; omega) ?_
 refine r_aloadN H 27 d_j52_21_26 rfl rfl rfl ?_
 refine r_iloadN H 28 d_j52_21_27 rfl rfl ?_
 refine r_iload H 30 d_j52_21_28 rfl rfl ?_
 obtain ⟨p1, ep1, rp1⟩ : ∃ p : Int32, (i1.toInt8.toInt32) = p ∧ -128 ≤ p.toInt ∧ p.toInt ≤ 127 := ⟨_, rfl, (by have h := c_i2b i1; omega)⟩
 refine r_i2b H 31 p1 d_j52_21_30 ep1 rfl ?_
 refine r_bastore H 32 p1 d_j52_21_31 A_a2 (by decide) (Nat.le_of_ble_eq_true rfl) g_a2 (nar_byte_id (by have := rp1; omega)) rfl ?_
 intro h2 K2 A2
 change Ar Z h2 a2 c2 .byte [(.int p1), (.int (0 : Int32)), (.int (0 : Int32)), (.int (0 : Int32)), (.int (0 : Int32)), (.int (0 : Int32))] at A2
 refine r_iinc H 35 #[.val (.ref a1), .val (.int (1 : Int32)), .val (.ref a2), .val (.int (0 : Int32)), .val (.int (6 : Int32)), .val (.int (0 : Int32)), .val (.int i1)] (1 : Int32) d_j52_21_32 rfl (by decide) rfl rfl ?_
 refine r_iinc H 38 #[.val (.ref a1), .val (.int (1 : Int32)), .val (.ref a2), .val (.int (1 : Int32)), .val (.int (6 : Int32)), .val (.int (0 : Int32)), .val (.int i1)] (1 : Int32) d_j52_21_35 rfl (by decide) rfl rfl ?_
 refine r_iinc H 41 #[.val (.ref a1), .val (.int (1 : Int32)), .val (.ref a2), .val (.int (1 : Int32)), .val (.int (6 : Int32)), .val (.int (1 : Int32)), .val (.int i1)] (1 : Int32) d_j52_21_38 rfl (by decide) rfl rfl ?_
 refine r_goto H 3 d_j52_21_41 (by decide) (by decide) ?_
 refine r_iload H 5 d_j52_21_3 rfl rfl ?_
 refine r_iload H 7 d_j52_21_5 rfl rfl ?_
 refine r_icmpgeF H 10 d_j52_21_7 rfl (by decide) ?_
 refine r_aloadN H 11 d_j52_21_10 rfl rfl rfl ?_
 refine r_iloadN H 12 d_j52_21_11 rfl rfl ?_
 have q3 := (E_a1.keep K2)
 have q4 := (E_a2.keep K2)
 have q5 := (A_a1.keep K2 (ninS (ne_exa q3 q4 (by decide)) nin0))
 refine r_caload H 13 i2 d_j52_21_12 q5 (by decide) rfl rfl ?_
 refine r_istore H 15 #[.val (.ref a1), .val (.int (1 : Int32)), .val (.ref a2), .val (.int (1 : Int32)), .val (.int (6 : Int32)), .val (.int (1 : Int32)), .val (.int i2)] d_j52_21_13 rfl rfl ?_
 refine r_iload H 17 d_j52_21_15 rfl rfl ?_
 refine r_sipush H 20 (255 : Int32) d_j52_21_17 (by decide) rfl ?_
 refine r_icmpleT H 26 d_j52_21_20 (by decide) (by decide) (by have := r_i2; have : (255 : Int32).toInt = 255 := (by decide); simp only [Int32.lt_iff_toInt_lt, ← Int32.toInt_inj]; omega) ?_
 refine r_aloadN H 27 d_j52_21_26 rfl rfl rfl ?_
 refine r_iloadN H 28 d_j52_21_27 rfl rfl ?_
 refine r_iload H 30 d_j52_21_28 rfl rfl ?_
 obtain ⟨p6, ep6, rp6⟩ : ∃ p : Int32, (i2.toInt8.toInt32) = p ∧ -128 ≤ p.toInt ∧ p.toInt ≤ 127 := ⟨_, rfl, (by have h := c_i2b i2; omega)⟩
 refine r_i2b H 31 p6 d_j52_21_30 ep6 rfl ?_
 refine r_bastore H 32 p6 d_j52_21_31 A2 (by decide) (Nat.le_of_ble_eq_true rfl) g_a2 (nar_byte_id (by have := rp6; omega)) rfl ?_
 intro h7 K7 A7
 change Ar Z h7 a2 c2 .byte [(.int p1), (.int p6), (.int (0 : Int32)), (.int (0 : Int32)), (.int (0 : Int32)), (.int (0 : Int32))] at A7
 refine r_iinc H 35 #[.val (.ref a1), .val (.int (2 : Int32)), .val (.ref a2), .val (.int (1 : Int32)), .val (.int (6 : Int32)), .val (.int (1 : Int32)), .val (.int i2)] (2 : Int32) d_j52_21_32 rfl (by decide) rfl rfl ?_
 refine r_iinc H 38 #[.val (.ref a1), .val (.int (2 : Int32)), .val (.ref a2), .val (.int (2 : Int32)), .val (.int (6 : Int32)), .val (.int (1 : Int32)), .val (.int i2)] (2 : Int32) d_j52_21_35 rfl (by decide) rfl rfl ?_
 refine r_iinc H 41 #[.val (.ref a1), .val (.int (2 : Int32)), .val (.ref a2), .val (.int (2 : Int32)), .val (.int (6 : Int32)), .val (.int (2 : Int32)), .val (.int i2)] (2 : Int32) d_j52_21_38 rfl (by decide) rfl rfl ?_
 refine r_goto H 3 d_j52_21_41 (by decide) (by decide) ?_
 refine r_iload H 5 d_j52_21_3 rfl rfl ?_
 refine r_iload H 7 d_j52_21_5 rfl rfl ?_
 refine r_icmpgeF H 10 d_j52_21_7 rfl (by decide) ?_
 refine r_aloadN H 11 d_j52_21_10 rfl rfl rfl ?_
 refine r_iloadN H 12 d_j52_21_11 rfl rfl ?_
 have q8 := (q3.keep K7)
 have q9 := (q4.keep K7)
 have q10 := (q5.keep K7 (ninS (ne_exa q8 q9 (by decide)) nin0))
 refine r_caload H 13 i3 d_j52_21_12 q10 (by decide) rfl rfl ?_
 refine r_istore H 15 #[.val (.ref a1), .val (.int (2 : Int32)), .val (.ref a2), .val (.int (2 : Int32)), .val (.int (6 : Int32)), .val (.int (2 : Int32)), .val (.int i3)] d_j52_21_13 rfl rfl ?_
 refine r_iload H 17 d_j52_21_15 rfl rfl ?_
 refine r_sipush H 20 (255 : Int32) d_j52_21_17 (by decide) rfl ?_
 refine r_icmpleT H 26 d_j52_21_20 (by decide) (by decide) (by have := r_i3; have : (255 : Int32).toInt = 255 := (by decide); simp only [Int32.lt_iff_toInt_lt, ← Int32.toInt_inj]; omega) ?_
 refine r_aloadN H 27 d_j52_21_26 rfl rfl rfl ?_
 refine r_iloadN H 28 d_j52_21_27 rfl rfl ?_
 refine r_iload H 30 d_j52_21_28 rfl rfl ?_
 obtain ⟨p11, ep11, rp11⟩ : ∃ p : Int32, (i3.toInt8.toInt32) = p ∧ -128 ≤ p.toInt ∧ p.toInt ≤ 127 := ⟨_, rfl, (by have h := c_i2b i3; omega)⟩
 refine r_i2b H 31 p11 d_j52_21_30 ep11 rfl ?_
 refine r_bastore H 32 p11 d_j52_21_31 A7 (by decide) (Nat.le_of_ble_eq_true rfl) g_a2 (nar_byte_id (by have := rp11; omega)) rfl ?_
 intro h12 K12 A12
 change Ar Z h12 a2 c2 .byte [(.int p1), (.int p6), (.int p11), (.int (0 : Int32)), (.int (0 : Int32)), (.int (0 : Int32))] at A12
 refine r_iinc H 35 #[.val (.ref a1), .val (.int (3 : Int32)), .val (.ref a2), .val (.int (2 : Int32)), .val (.int (6 : Int32)), .val (.int (2 : Int32)), .val (.int i3)] (3 : Int32) d_j52_21_32 rfl (by decide) rfl rfl ?_
 refine r_iinc H 38 #[.val (.ref a1), .val (.int (3 : Int32)), .val (.ref a2), .val (.int (3 : Int32)), .val (.int (6 : Int32)), .val (.int (2 : Int32)), .val (.int i3)] (3 : Int32) d_j52_21_35 rfl (by decide) rfl rfl ?_
 refine r_iinc H 41 #[.val (.ref a1), .val (.int (3 : Int32)), .val (.ref a2), .val (.int (3 : Int32)), .val (.int (6 : Int32)), .val (.int (3 : Int32)), .val (.int i3)] (3 : Int32) d_j52_21_38 rfl (by decide) rfl rfl ?_
 refine r_goto H 3 d_j52_21_41 (by decide) (by decide) ?_
 refine r_iload H 5 d_j52_21_3 rfl rfl ?_
 refine r_iload H 7 d_j52_21_5 rfl rfl ?_
 refine r_icmpgeF H 10 d_j52_21_7 rfl (by decide) ?_
 refine r_aloadN H 11 d_j52_21_10 rfl rfl rfl ?_
 refine r_iloadN H 12 d_j52_21_11 rfl rfl ?_
 have q13 := (q8.keep K12)
 have q14 := (q9.keep K12)
 have q15 := (q10.keep K12 (ninS (ne_exa q13 q14 (by decide)) nin0))
 refine r_caload H 13 i4 d_j52_21_12 q15 (by decide) rfl rfl ?_
 refine r_istore H 15 #[.val (.ref a1), .val (.int (3 : Int32)), .val (.ref a2), .val (.int (3 : Int32)), .val (.int (6 : Int32)), .val (.int (3 : Int32)), .val (.int i4)] d_j52_21_13 rfl rfl ?_
 refine r_iload H 17 d_j52_21_15 rfl rfl ?_
 refine r_sipush H 20 (255 : Int32) d_j52_21_17 (by decide) rfl ?_
 refine r_icmpleT H 26 d_j52_21_20 (by decide) (by decide) (by have := r_i4; have : (255 : Int32).toInt = 255 := (by decide); simp only [Int32.lt_iff_toInt_lt, ← Int32.toInt_inj]; omega) ?_
 refine r_aloadN H 27 d_j52_21_26 rfl rfl rfl ?_
 refine r_iloadN H 28 d_j52_21_27 rfl rfl ?_
 refine r_iload H 30 d_j52_21_28 rfl rfl ?_
 obtain ⟨p16, ep16, rp16⟩ : ∃ p : Int32, (i4.toInt8.toInt32) = p ∧ -128 ≤ p.toInt ∧ p.toInt ≤ 127 := ⟨_, rfl, (by have h := c_i2b i4; omega)⟩
 refine r_i2b H 31 p16 d_j52_21_30 ep16 rfl ?_
 refine r_bastore H 32 p16 d_j52_21_31 A12 (by decide) (Nat.le_of_ble_eq_true rfl) g_a2 (nar_byte_id (by have := rp16; omega)) rfl ?_
 intro h17 K17 A17
 change Ar Z h17 a2 c2 .byte [(.int p1), (.int p6), (.int p11), (.int p16), (.int (0 : Int32)), (.int (0 : Int32))] at A17
 refine r_iinc H 35 #[.val (.ref a1), .val (.int (4 : Int32)), .val (.ref a2), .val (.int (3 : Int32)), .val (.int (6 : Int32)), .val (.int (3 : Int32)), .val (.int i4)] (4 : Int32) d_j52_21_32 rfl (by decide) rfl rfl ?_
 refine r_iinc H 38 #[.val (.ref a1), .val (.int (4 : Int32)), .val (.ref a2), .val (.int (4 : Int32)), .val (.int (6 : Int32)), .val (.int (3 : Int32)), .val (.int i4)] (4 : Int32) d_j52_21_35 rfl (by decide) rfl rfl ?_
 refine r_iinc H 41 #[.val (.ref a1), .val (.int (4 : Int32)), .val (.ref a2), .val (.int (4 : Int32)), .val (.int (6 : Int32)), .val (.int (4 : Int32)), .val (.int i4)] (4 : Int32) d_j52_21_38 rfl (by decide) rfl rfl ?_
 refine r_goto H 3 d_j52_21_41 (by decide) (by decide) ?_
 refine r_iload H 5 d_j52_21_3 rfl rfl ?_
 refine r_iload H 7 d_j52_21_5 rfl rfl ?_
 refine r_icmpgeF H 10 d_j52_21_7 rfl (by decide) ?_
 refine r_aloadN H 11 d_j52_21_10 rfl rfl rfl ?_
 refine r_iloadN H 12 d_j52_21_11 rfl rfl ?_
 have q18 := (q13.keep K17)
 have q19 := (q14.keep K17)
 have q20 := (q15.keep K17 (ninS (ne_exa q18 q19 (by decide)) nin0))
 refine r_caload H 13 i5 d_j52_21_12 q20 (by decide) rfl rfl ?_
 refine r_istore H 15 #[.val (.ref a1), .val (.int (4 : Int32)), .val (.ref a2), .val (.int (4 : Int32)), .val (.int (6 : Int32)), .val (.int (4 : Int32)), .val (.int i5)] d_j52_21_13 rfl rfl ?_
 refine r_iload H 17 d_j52_21_15 rfl rfl ?_
 refine r_sipush H 20 (255 : Int32) d_j52_21_17 (by decide) rfl ?_
 refine r_icmpleT H 26 d_j52_21_20 (by decide) (by decide) (by have := r_i5; have : (255 : Int32).toInt = 255 := (by decide); simp only [Int32.lt_iff_toInt_lt, ← Int32.toInt_inj]; omega) ?_
 refine r_aloadN H 27 d_j52_21_26 rfl rfl rfl ?_
 refine r_iloadN H 28 d_j52_21_27 rfl rfl ?_
 refine r_iload H 30 d_j52_21_28 rfl rfl ?_
 obtain ⟨p21, ep21, rp21⟩ : ∃ p : Int32, (i5.toInt8.toInt32) = p ∧ -128 ≤ p.toInt ∧ p.toInt ≤ 127 := ⟨_, rfl, (by have h := c_i2b i5; omega)⟩
 refine r_i2b H 31 p21 d_j52_21_30 ep21 rfl ?_
 refine r_bastore H 32 p21 d_j52_21_31 A17 (by decide) (Nat.le_of_ble_eq_true rfl) g_a2 (nar_byte_id (by have := rp21; omega)) rfl ?_
 intro h22 K22 A22
 change Ar Z h22 a2 c2 .byte [(.int p1), (.int p6), (.int p11), (.int p16), (.int p21), (.int (0 : Int32))] at A22
 refine r_iinc H 35 #[.val (.ref a1), .val (.int (5 : Int32)), .val (.ref a2), .val (.int (4 : Int32)), .val (.int (6 : Int32)), .val (.int (4 : Int32)), .val (.int i5)] (5 : Int32) d_j52_21_32 rfl (by decide) rfl rfl ?_
 refine r_iinc H 38 #[.val (.ref a1), .val (.int (5 : Int32)), .val (.ref a2), .val (.int (5 : Int32)), .val (.int (6 : Int32)), .val (.int (4 : Int32)), .val (.int i5)] (5 : Int32) d_j52_21_35 rfl (by decide) rfl rfl ?_
 refine r_iinc H 41 #[.val (.ref a1), .val (.int (5 : Int32)), .val (.ref a2), .val (.int (5 : Int32)), .val (.int (6 : Int32)), .val (.int (5 : Int32)), .val (.int i5)] (5 : Int32) d_j52_21_38 rfl (by decide) rfl rfl ?_
 refine r_goto H 3 d_j52_21_41 (by decide) (by decide) ?_
 refine r_iload H 5 d_j52_21_3 rfl rfl ?_
 refine r_iload H 7 d_j52_21_5 rfl rfl ?_
 refine r_icmpgeF H 10 d_j52_21_7 rfl (by decide) ?_
 refine r_aloadN H 11 d_j52_21_10 rfl rfl rfl ?_
 refine r_iloadN H 12 d_j52_21_11 rfl rfl ?_
 have q23 := (q18.keep K22)
 have q24 := (q19.keep K22)
 have q25 := (q20.keep K22 (ninS (ne_exa q23 q24 (by decide)) nin0))
 refine r_caload H 13 i6 d_j52_21_12 q25 (by decide) rfl rfl ?_
 refine r_istore H 15 #[.val (.ref a1), .val (.int (5 : Int32)), .val (.ref a2), .val (.int (5 : Int32)), .val (.int (6 : Int32)), .val (.int (5 : Int32)), .val (.int i6)] d_j52_21_13 rfl rfl ?_
 refine r_iload H 17 d_j52_21_15 rfl rfl ?_
 refine r_sipush H 20 (255 : Int32) d_j52_21_17 (by decide) rfl ?_
 refine r_icmpleT H 26 d_j52_21_20 (by decide) (by decide) (by have := r_i6; have : (255 : Int32).toInt = 255 := (by decide); simp only [Int32.lt_iff_toInt_lt, ← Int32.toInt_inj]; omega) ?_
 refine r_aloadN H 27 d_j52_21_26 rfl rfl rfl ?_
 refine r_iloadN H 28 d_j52_21_27 rfl rfl ?_
 refine r_iload H 30 d_j52_21_28 rfl rfl ?_
 obtain ⟨p26, ep26, rp26⟩ : ∃ p : Int32, (i6.toInt8.toInt32) = p ∧ -128 ≤ p.toInt ∧ p.toInt ≤ 127 := ⟨_, rfl, (by have h := c_i2b i6; omega)⟩
 refine r_i2b H 31 p26 d_j52_21_30 ep26 rfl ?_
 refine r_bastore H 32 p26 d_j52_21_31 A22 (by decide) (Nat.le_of_ble_eq_true rfl) g_a2 (nar_byte_id (by have := rp26; omega)) rfl ?_
 intro h27 K27 A27
 change Ar Z h27 a2 c2 .byte [(.int p1), (.int p6), (.int p11), (.int p16), (.int p21), (.int p26)] at A27
 refine r_iinc H 35 #[.val (.ref a1), .val (.int (6 : Int32)), .val (.ref a2), .val (.int (5 : Int32)), .val (.int (6 : Int32)), .val (.int (5 : Int32)), .val (.int i6)] (6 : Int32) d_j52_21_32 rfl (by decide) rfl rfl ?_
 refine r_iinc H 38 #[.val (.ref a1), .val (.int (6 : Int32)), .val (.ref a2), .val (.int (6 : Int32)), .val (.int (6 : Int32)), .val (.int (5 : Int32)), .val (.int i6)] (6 : Int32) d_j52_21_35 rfl (by decide) rfl rfl ?_
 refine r_iinc H 41 #[.val (.ref a1), .val (.int (6 : Int32)), .val (.ref a2), .val (.int (6 : Int32)), .val (.int (6 : Int32)), .val (.int (6 : Int32)), .val (.int i6)] (6 : Int32) d_j52_21_38 rfl (by decide) rfl rfl ?_
 refine r_goto H 3 d_j52_21_41 (by decide) (by decide) ?_
 refine r_iload H 5 d_j52_21_3 rfl rfl ?_
 refine r_iload H 7 d_j52_21_5 rfl rfl ?_
 refine r_icmpgeT H 44 d_j52_21_7 (by decide) (by decide) (by decide) ?_
 refine r_iload H 46 d_j52_21_44 rfl rfl ?_
 have k28 : Keep h0 h2 [a2] := Keep.trans (Keep.refl h0 [a2]) K2 (allS (Or.inl (List.mem_of_getElem? (i := 0) rfl)) all0)
 have k29 : Keep h0 h7 [a2] := Keep.trans k28 K7 (allS (Or.inl (List.mem_of_getElem? (i := 0) rfl)) all0)
 have k30 : Keep h0 h12 [a2] := Keep.trans k29 K12 (allS (Or.inl (List.mem_of_getElem? (i := 0) rfl)) all0)
 have k31 : Keep h0 h17 [a2] := Keep.trans k30 K17 (allS (Or.inl (List.mem_of_getElem? (i := 0) rfl)) all0)
 have k32 : Keep h0 h22 [a2] := Keep.trans k31 K22 (allS (Or.inl (List.mem_of_getElem? (i := 0) rfl)) all0)
 have k33 : Keep h0 h27 [a2] := Keep.trans k32 K27 (allS (Or.inl (List.mem_of_getElem? (i := 0) rfl)) all0)
 have q34 := (q24.keep K27)
 subst ep1 ep6 ep11 ep16 ep21 ep26
 exact r_ireturn H d_j52_21_46 (by decide) (by decide) nlr (fun _ t => t) (⟨rfl, k33, A27, q34⟩)
def Q_compress_31 (Z : State) (i1 : Int32) (i2 : Int32) (i3 : Int32) (i4 : Int32) (i5 : Int32) (i6 : Int32) (h0 : Heap) (v : Option Value) (h : Heap) : Prop := ∃ (b1 : Addr) (kc1 : ClassId), v = some (.ref b1) ∧ Keep h0 h [] ∧ h0.size ≤ b1 ∧ Ar Z h b1 kc1 .byte [(.int (cB8 i1)), (.int (cB8 i2)), (.int (cB8 i3)), (.int (cB8 i4)), (.int (cB8 i5)), (.int (cB8 i6))] ∧ Exa Z h b1 "[B"
def R_compress_31 : Room := { frames := 1, cells := 1, slots := 6, locals := 18 }
theorem rm_compress_31 {w : Bool} {Z : State} {a0 : Array Value} (hw : HW a0 Z) (Ts : List String) (a1 : Addr) (i1 : Int32) (i2 : Int32) (i3 : Int32) (i4 : Int32) (i5 : Int32) (i6 : Int32) (c1 : ClassId) (h0 : Heap) (f : Nat) (Zf : Z.heap.size ≤ f) (Z0 : f ≤ h0.size) (A_a1 : Ar Z h0 a1 c1 .char [(.int i1), (.int i2), (.int i3), (.int i4), (.int i5), (.int i6)]) (E_a1 : Exa Z h0 a1 "[C") (r_i1 : 0 ≤ i1.toInt ∧ i1.toInt ≤ 255) (r_i2 : 0 ≤ i2.toInt ∧ i2.toInt ≤ 255) (r_i3 : 0 ≤ i3.toInt ∧ i3.toInt ≤ 255) (r_i4 : 0 ≤ i4.toInt ∧ i4.toInt ≤ 255) (r_i5 : 0 ≤ i5.toInt ∧ i5.toInt ≤ 255) (r_i6 : 0 ≤ i6.toInt ∧ i6.toInt ≤ 255) :
  Con w [] Z (⟨"java/lang/StringUTF16", "compress", "([CII)[B"⟩ : MethodName) jdk_52_method_16_code 6 (some (.array .byte)) R_compress_31 Ts Ts f #[(.ref a1), (.int (0 : Int32)), (.int (6 : Int32))] h0 (Q_compress_31 Z i1 i2 i3 i4 i5 i6 h0) := by
 refine con_of f #[.val (.ref a1), .val (.int (0 : Int32)), .val (.int (6 : Int32)), .unset, .unset, .unset] (plainFor_of_name pn_1) (fun m => rfl) Zf ?_
 intro C H hX0
 refine r_iloadN H 1 d_j52_16_0 rfl rfl ?_
 refine r_newP H 3 "[B" 6 d_j52_16_1 (tw26 hw) rfl (by decide) (by decide) (by decide) (by decide) (by decide) rfl ?_
 intro h1 b1 kc1 g1 l1 K1 E1 A1
 change Ar Z h1 b1 kc1 .byte [(.int (0 : Int32)), (.int (0 : Int32)), (.int (0 : Int32)), (.int (0 : Int32)), (.int (0 : Int32)), (.int (0 : Int32))] at A1
 refine r_astoreN H 4 #[.val (.ref a1), .val (.int (0 : Int32)), .val (.int (6 : Int32)), .val (.ref b1), .unset, .unset] d_j52_16_3 rfl rfl rfl ?_
 refine r_aloadN H 5 d_j52_16_4 rfl rfl rfl ?_
 refine r_iloadN H 6 d_j52_16_5 rfl rfl ?_
 refine r_aloadN H 7 d_j52_16_6 rfl rfl rfl ?_
 refine r_iconst H 8 (0 : Int32) d_j52_16_7 (by decide) rfl ?_
 refine r_iloadN H 9 d_j52_16_8 rfl rfl ?_
 have q2 := (A_a1.keep K1 nin0)
 have q3 := (E_a1.keep K1)
 refine r_static H 12 d_j52_16_9 (tw27 hw) (tw28 hw) (tw24 hw) (tw29 hw) (by decide) (lenOf pd_1 rfl) (rm_compress_32 hw Ts a1 b1 i1 i2 i3 i4 i5 i6 c1 kc1 h1 f Zf (nlt Z0 K1.1) q2 A1 (nlt Z0 (Nat.le_of_eq g1.symm)) E1 q3 r_i1 r_i2 r_i3 r_i4 r_i5 r_i6) (argsL := [(.ref a1), (.int (0 : Int32)), (.ref b1), (.int (0 : Int32)), (.int (6 : Int32))]) (rest := []) rfl (W := 0) (nlq rfl) rfl (by decide) (by decide) (by decide) (by decide) nlr rfl ?_
 rintro _ hh7 ⟨rfl, K4, q5, q6⟩
 refine r_istore H 14 #[.val (.ref a1), .val (.int (0 : Int32)), .val (.int (6 : Int32)), .val (.ref b1), .val (.int (6 : Int32)), .unset] d_j52_16_12 rfl rfl ?_
 refine r_iload H 16 d_j52_16_14 rfl rfl ?_
 refine r_iloadN H 17 d_j52_16_16 rfl rfl ?_
 refine r_icmpeqT H 57 d_j52_16_17 (by decide) (by decide) (by decide) ?_
 refine r_aloadN H 58 d_j52_16_57 rfl rfl rfl ?_
 have k8 : Keep h0 h1 [] := Keep.trans (Keep.refl h0 []) K1 all0
 have k9 : Keep h0 hh7 [] := Keep.trans k8 K4 (allS (Or.inr (nlt nlr (Nat.le_of_eq g1.symm))) all0)
 exact r_areturn H rfl rfl d_j52_16_58 (by decide) (by decide) nlr (fun _ t => t) (⟨b1, kc1, rfl, k9, (nlt nlr (Nat.le_of_eq g1.symm)), q5, q6⟩)
def Q_coderFromArrayLen_33 (Z : State) (h0 : Heap) (v : Option Value) (h : Heap) : Prop := v = some (.int (0 : Int32)) ∧ h0 = h
def R_coderFromArrayLen_33 : Room := { frames := 0, cells := 0, slots := 0, locals := 0 }
theorem rm_coderFromArrayLen_33 {w : Bool} {Z : State} {a0 : Array Value} (hw : HW a0 Z) (Ts : List String) (a1 : Addr) (i1 : Int32) (i2 : Int32) (i3 : Int32) (i4 : Int32) (i5 : Int32) (i6 : Int32) (c1 : ClassId) (h0 : Heap) (f : Nat) (Zf : Z.heap.size ≤ f) (Z0 : f ≤ h0.size) (A_a1 : Ar Z h0 a1 c1 .byte [(.int (cB8 i1)), (.int (cB8 i2)), (.int (cB8 i3)), (.int (cB8 i4)), (.int (cB8 i5)), (.int (cB8 i6))]) :
  Con w [] Z (⟨"java/lang/StringUTF16", "coderFromArrayLen", "([BI)B"⟩ : MethodName) jdk_52_method_15_code 2 (some .byte) R_coderFromArrayLen_33 Ts Ts f #[(.ref a1), (.int (6 : Int32))] h0 (Q_coderFromArrayLen_33 Z h0) := by
 refine con_of f #[.val (.ref a1), .val (.int (6 : Int32))] (plainFor_of_name pn_1) (fun m => rfl) Zf ?_
 intro C H hX0
 refine r_iloadN H 1 d_j52_15_0 rfl rfl ?_
 refine r_aloadN H 2 d_j52_15_1 rfl rfl rfl ?_
 refine r_alen H 3 (6 : Int32) d_j52_15_2 A_a1 rfl rfl ?_
 refine r_isub H 4 (0 : Int32) d_j52_15_3 (by decide) rfl ?_
 refine r_bipush H 6 (31 : Int32) d_j52_15_4 (by decide) rfl ?_
 refine r_iushr H 7 (0 : Int32) d_j52_15_6 (by decide) rfl ?_
 refine r_i2b H 8 (0 : Int32) d_j52_15_7 (by decide) rfl ?_
 exact r_nreturn (0 : Int32) H (by simp) d_j52_15_8 (by decide) (by decide) (by decide) nlr (fun _ t => t) (⟨rfl, rfl⟩)
def Q_init_30 (Z : State) (a1 : Addr) (i1 : Int32) (i2 : Int32) (i3 : Int32) (i4 : Int32) (i5 : Int32) (i6 : Int32) (h0 : Heap) (v : Option Value) (h : Heap) : Prop := ∃ (b1 : Addr) (kc2 : ClassId), v = none ∧ Keep h0 h [a1] ∧ h0.size ≤ b1 ∧ Exa Z h a1 "java/lang/String" ∧ Fld Z h a1 "java/lang/String" "coder" "B" (.int (0 : Int32)) ∧ Fld Z h a1 "java/lang/String" "value" "[B" (.ref b1) ∧ Ar Z h b1 kc2 .byte [(.int (cB8 i1)), (.int (cB8 i2)), (.int (cB8 i3)), (.int (cB8 i4)), (.int (cB8 i5)), (.int (cB8 i6))] ∧ Exa Z h b1 "[B"
def R_init_30 : Room := { frames := 2, cells := 1, slots := 6, locals := 35 }
theorem rm_init_30 {w : Bool} {Z : State} {a0 : Array Value} (hw : HW a0 Z) (Ts : List String) (a1 : Addr) (a2 : Addr) (i1 : Int32) (i2 : Int32) (i3 : Int32) (i4 : Int32) (i5 : Int32) (i6 : Int32) (c1 : ClassId) (cs : Int32) (h0 : Heap) (f : Nat) (Zf : Z.heap.size ≤ f) (Z0 : f ≤ h0.size) (A_a2 : Ar Z h0 a2 c1 .char [(.int i1), (.int i2), (.int i3), (.int i4), (.int i5), (.int i6)]) (E_a2 : Exa Z h0 a2 "[C") (E_a1 : Exa Z h0 a1 "java/lang/String") (F_coder_a1 : Fld Z h0 a1 "java/lang/String" "coder" "B" (.int (0 : Int32))) (g_a1 : f ≤ a1) (F_value_a1 : Fld Z h0 a1 "java/lang/String" "value" "[B" .null) (r_i1 : 0 ≤ i1.toInt ∧ i1.toInt ≤ 255) (r_i2 : 0 ≤ i2.toInt ∧ i2.toInt ≤ 255) (r_i3 : 0 ≤ i3.toInt ∧ i3.toInt ≤ 255) (r_i4 : 0 ≤ i4.toInt ∧ i4.toInt ≤ 255) (r_i5 : 0 ≤ i5.toInt ∧ i5.toInt ≤ 255) (r_i6 : 0 ≤ i6.toInt ∧ i6.toInt ≤ 255) (S_cs : G_S_cs Z cs) (hcs : ¬ cs = 0) :
  Con w [] Z (⟨"java/lang/String", "<init>", "([CIILjava/lang/Void;)V"⟩ : MethodName) jdk_42_method_149_code 6 none R_init_30 Ts Ts f #[(.ref a1), (.ref a2), (.int (0 : Int32)), (.int (6 : Int32)), .null] h0 (Q_init_30 Z a1 i1 i2 i3 i4 i5 i6 h0) := by
 refine con_of f #[.val (.ref a1), .val (.ref a2), .val (.int (0 : Int32)), .val (.int (6 : Int32)), .val .null, .unset] (plainFor_of_name pn_2) (fun m => rfl) Zf ?_
 intro C H hX0
 refine r_aloadN H 1 d_j42_149_0 rfl rfl rfl ?_
 refine r_initO H 4 d_j42_149_1 (tw18 hw) (tw19 hw) (tw20 hw) rfl (by decide) (W := 0) (nlq rfl) (by decide) rfl ?_
 refine r_iloadN H 5 d_j42_149_4 rfl rfl ?_
 refine r_ifneT H 27 d_j42_149_5 (by decide) (by decide) (by decide) ?_
 refine r_gets H 30 d_j42_149_27 (tw21 hw) Via.refl S_cs rfl ?_
 refine r_ifeqF H 33 d_j42_149_30 rfl hcs ?_
 refine r_aloadN H 34 d_j42_149_33 rfl rfl rfl ?_
 refine r_iloadN H 35 d_j42_149_34 rfl rfl ?_
 refine r_iloadN H 36 d_j42_149_35 rfl rfl ?_
 refine r_static H 39 d_j42_149_36 (tw22 hw) (tw23 hw) (tw24 hw) (tw25 hw) (by decide) (lenOf pd_2 rfl) (rm_compress_31 hw Ts a2 i1 i2 i3 i4 i5 i6 c1 h0 f Zf Z0 A_a2 E_a2 r_i1 r_i2 r_i3 r_i4 r_i5 r_i6) (argsL := [(.ref a2), (.int (0 : Int32)), (.int (6 : Int32))]) (rest := []) rfl (W := 0) (nlq rfl) rfl (by decide) (by decide) (by decide) (by decide) nlr rfl ?_
 rintro _ hh7 ⟨b1, kc2, rfl, K3, g4, q5, q6⟩
 refine r_astore H 41 #[.val (.ref a1), .val (.ref a2), .val (.int (0 : Int32)), .val (.int (6 : Int32)), .val .null, .val (.ref b1)] d_j42_149_39 rfl rfl rfl ?_
 refine r_aloadN H 42 d_j42_149_41 rfl rfl rfl ?_
 refine r_aload H 44 d_j42_149_42 rfl rfl rfl ?_
 refine r_iloadN H 45 d_j42_149_44 rfl rfl ?_
 refine r_static H 48 d_j42_149_45 (tw30 hw) (tw31 hw) (tw24 hw) (tw32 hw) (by decide) (lenOf pd_3 rfl) (rm_coderFromArrayLen_33 hw Ts b1 i1 i2 i3 i4 i5 i6 kc2 hh7 f Zf (nlt Z0 K3.1) q5) (argsL := [(.ref b1), (.int (6 : Int32))]) (rest := [(.ref a1)]) rfl (W := 1) (nlq rfl) rfl (by decide) (by decide) (by decide) (by decide) nlr rfl ?_
 rintro _ _ ⟨rfl, rfl⟩
 have q9 := (E_a1.keep K3)
 have q10 := (F_coder_a1.keep K3 nin0)
 refine r_putn H 51 (v' := (.int (0 : Int32))) d_j42_149_48 (tw33 hw) Via.refl q10 q9 (Or.inr ⟨(tw34 hw), rfl, rfl⟩) (tw9 hw) (ty := .byte) (by decide) rfl (by decide) g_a1 rfl ?_
 intro h11 W11 K11 E11 F11
 refine r_aloadN H 52 d_j42_149_51 rfl rfl rfl ?_
 refine r_aload H 54 d_j42_149_52 rfl rfl rfl ?_
 have q12 := ((F_value_a1.keep K3 nin0).other W11 (Or.inr (slot_ne (Or.inr (tw36 hw)) (Or.inr (tw34 hw)) (by decide) (t := (.array .byte)) (t' := .byte) (by decide) (by decide))))
 refine r_putf H 57 d_j42_149_54 (tw35 hw) Via.refl q12 E11 (Or.inr ⟨(tw36 hw), rfl, rfl⟩) (tw9 hw) (ty := (.array .byte)) (by decide) rfl rfl g_a1 rfl ?_
 intro h13 W13 K13 E13 F13
 have k14 : Keep h0 hh7 [a1] := Keep.trans (Keep.refl h0 [a1]) K3 all0
 have k15 : Keep h0 h11 [a1] := Keep.trans k14 K11 (allS (Or.inl (List.mem_of_getElem? (i := 0) rfl)) all0)
 have k16 : Keep h0 h13 [a1] := Keep.trans k15 K13 (allS (Or.inl (List.mem_of_getElem? (i := 0) rfl)) all0)
 have q17 := (F11.other W13 (Or.inr (slot_ne (Or.inr (tw34 hw)) (Or.inr (tw36 hw)) (by decide) (t := .byte) (t' := (.array .byte)) (by decide) (by decide))))
 have q18 := ((q5.keep K11 (ninS (Ne.symm (Nat.ne_of_lt (Nat.lt_of_lt_of_le E_a1.lt (nlt nlr g4)))) nin0)).keep K13 (ninS (Ne.symm (Nat.ne_of_lt (Nat.lt_of_lt_of_le E_a1.lt (nlt nlr g4)))) nin0))
 have q19 := ((q6.keep K11).keep K13)
 exact r_return H d_j42_149_57 (by decide) (by decide) nlr (fun _ t => t) (⟨b1, kc2, rfl, k16, (nlt nlr g4), E13, q17, F13, q18, q19⟩)
def Q_init_29 (Z : State) (a1 : Addr) (i1 : Int32) (i2 : Int32) (i3 : Int32) (i4 : Int32) (i5 : Int32) (i6 : Int32) (h0 : Heap) (v : Option Value) (h : Heap) : Prop := ∃ (b1 : Addr) (kc2 : ClassId), v = none ∧ Keep h0 h [a1] ∧ h0.size ≤ b1 ∧ Exa Z h a1 "java/lang/String" ∧ Fld Z h a1 "java/lang/String" "coder" "B" (.int (0 : Int32)) ∧ Fld Z h a1 "java/lang/String" "value" "[B" (.ref b1) ∧ Ar Z h b1 kc2 .byte [(.int (cB8 i1)), (.int (cB8 i2)), (.int (cB8 i3)), (.int (cB8 i4)), (.int (cB8 i5)), (.int (cB8 i6))] ∧ Exa Z h b1 "[B"
def R_init_29 : Room := { frames := 3, cells := 1, slots := 6, locals := 52 }
theorem rm_init_29 {w : Bool} {Z : State} {a0 : Array Value} (hw : HW a0 Z) (Ts : List String) (a1 : Addr) (a2 : Addr) (i1 : Int32) (i2 : Int32) (i3 : Int32) (i4 : Int32) (i5 : Int32) (i6 : Int32) (c1 : ClassId) (cs : Int32) (h0 : Heap) (f : Nat) (Zf : Z.heap.size ≤ f) (Z0 : f ≤ h0.size) (A_a2 : Ar Z h0 a2 c1 .char [(.int i1), (.int i2), (.int i3), (.int i4), (.int i5), (.int i6)]) (g_a1 : f ≤ a1) (E_a2 : Exa Z h0 a2 "[C") (E_a1 : Exa Z h0 a1 "java/lang/String") (F_coder_a1 : Fld Z h0 a1 "java/lang/String" "coder" "B" (.int (0 : Int32))) (F_value_a1 : Fld Z h0 a1 "java/lang/String" "value" "[B" .null) (r_i1 : 0 ≤ i1.toInt ∧ i1.toInt ≤ 255) (r_i2 : 0 ≤ i2.toInt ∧ i2.toInt ≤ 255) (r_i3 : 0 ≤ i3.toInt ∧ i3.toInt ≤ 255) (r_i4 : 0 ≤ i4.toInt ∧ i4.toInt ≤ 255) (r_i5 : 0 ≤ i5.toInt ∧ i5.toInt ≤ 255) (r_i6 : 0 ≤ i6.toInt ∧ i6.toInt ≤ 255) (S_cs : G_S_cs Z cs) (hcs : ¬ cs = 0) :
  Con w [] Z (⟨"java/lang/String", "<init>", "([C)V"⟩ : MethodName) jdk_42_method_3_code 2 none R_init_29 Ts Ts f #[(.ref a1), (.ref a2)] h0 (Q_init_29 Z a1 i1 i2 i3 i4 i5 i6 h0) := by
 refine con_of f #[.val (.ref a1), .val (.ref a2)] (plainFor_of_name pn_2) (fun m => rfl) Zf ?_
 intro C H hX0
 refine r_aloadN H 1 d_j42_3_0 rfl rfl rfl ?_
 refine r_aloadN H 2 d_j42_3_1 rfl rfl rfl ?_
 refine r_iconst H 3 (0 : Int32) d_j42_3_2 (by decide) rfl ?_
 refine r_aloadN H 4 d_j42_3_3 rfl rfl rfl ?_
 refine r_alen H 5 (6 : Int32) d_j42_3_4 A_a2 rfl rfl ?_
 refine r_null H 6 d_j42_3_5 rfl ?_
 refine r_special H 9 (a := a1) d_j42_3_6 (tw14 hw) (tw15 hw) (tw10 hw) (tw17 hw) (by decide) rfl (lenOf pd_4 rfl) (rm_init_30 hw Ts a1 a2 i1 i2 i3 i4 i5 i6 c1 cs h0 f Zf Z0 A_a2 E_a2 E_a1 F_coder_a1 g_a1 F_value_a1 r_i1 r_i2 r_i3 r_i4 r_i5 r_i6 S_cs hcs) (argsL := [(.ref a2), (.int (0 : Int32)), (.int (6 : Int32)), .null]) (rest := []) rfl (W := 0) (nlq rfl) rfl (by decide) (by decide) (by decide) (by decide) nlr rfl ?_
 rintro _ hh10 ⟨b1, kc2, rfl, K3, g4, q5, q6, q7, q8, q9⟩
 have k11 : Keep h0 hh10 [a1] := Keep.trans (Keep.refl h0 [a1]) K3 (allS (Or.inl (List.mem_of_getElem? (i := 0) rfl)) all0)
 exact r_return H d_j42_3_9 (by decide) (by decide) nlr (fun _ t => t) (⟨b1, kc2, rfl, k11, (nlt nlr g4), q5, q6, q7, q8, q9⟩)
def Q_word_23 (Z : State) (i1 : Int32) (i2 : Int32) (i3 : Int32) (i4 : Int32) (i5 : Int32) (i6 : Int32) (i7 : Int32) (i8 : Int32) (h0 : Heap) (v : Option Value) (h : Heap) : Prop := (∃ (b3 : Addr) (b37 : Addr) (kc38 : ClassId), v = some (.ref b3) ∧ (¬ i1 = (6 : Int32)) ∧ Keep h0 h [] ∧ h0.size ≤ b3 ∧ h0.size ≤ b37 ∧ b3 < b37 ∧ Exa Z h b3 "java/lang/String" ∧ Fld Z h b3 "java/lang/String" "coder" "B" (.int (0 : Int32)) ∧ Fld Z h b3 "java/lang/String" "value" "[B" (.ref b37) ∧ Ar Z h b37 kc38 .byte [(.int (cB8 i2)), (.int (cB8 i3)), (.int (cB8 i4)), (.int (cB8 i5)), (.int (cB8 i6)), (.int (cB8 i7)), (.int (cB8 i8))] ∧ Exa Z h b37 "[B") ∨ (∃ (b65 : Addr) (b95 : Addr) (kc96 : ClassId), v = some (.ref b65) ∧ (i1 = (6 : Int32)) ∧ Keep h0 h [] ∧ h0.size ≤ b65 ∧ h0.size ≤ b95 ∧ b65 < b95 ∧ Exa Z h b65 "java/lang/String" ∧ Fld Z h b65 "java/lang/String" "coder" "B" (.int (0 : Int32)) ∧ Fld Z h b65 "java/lang/String" "value" "[B" (.ref b95) ∧ Ar Z h b95 kc96 .byte [(.int (cB8 i2)), (.int (cB8 i3)), (.int (cB8 i4)), (.int (cB8 i5)), (.int (cB8 i6)), (.int (cB8 i7))] ∧ Exa Z h b95 "[B")
def R_word_23 : Room := { frames := 4, cells := 3, slots := 18, locals := 66 }
theorem rm_word_23 {w : Bool} {Z : State} {a0 : Array Value} (hw : HW a0 Z) (Ts : List String) (a1 : Addr) (i1 : Int32) (i2 : Int32) (i3 : Int32) (i4 : Int32) (i5 : Int32) (i6 : Int32) (i7 : Int32) (i8 : Int32) (c1 : ClassId) (cs : Int32) (h0 : Heap) (f : Nat) (Zf : Z.heap.size ≤ f) (Z0 : f ≤ h0.size) (A_a1 : Ar Z h0 a1 c1 .char [(.int i2), (.int i3), (.int i4), (.int i5), (.int i6), (.int i7), (.int i8)]) (r_i1 : 6 ≤ i1.toInt ∧ i1.toInt ≤ 7) (r_i2 : 0 ≤ i2.toInt ∧ i2.toInt ≤ 255) (r_i3 : 0 ≤ i3.toInt ∧ i3.toInt ≤ 255) (r_i4 : 0 ≤ i4.toInt ∧ i4.toInt ≤ 255) (r_i5 : 0 ≤ i5.toInt ∧ i5.toInt ≤ 255) (r_i6 : 0 ≤ i6.toInt ∧ i6.toInt ≤ 255) (r_i7 : 0 ≤ i7.toInt ∧ i7.toInt ≤ 255) (r_i8 : 0 ≤ i8.toInt ∧ i8.toInt ≤ 255) (S_cs : G_S_cs Z cs) (hcs : ¬ cs = 0) :
  Con w [] Z (⟨"com/example/maniera/maniera/cli/CommandLineIsHelpPinLaw", "word", "([CI)Ljava/lang/String;"⟩ : MethodName) method_4_code 2 (some (.object "java/lang/String")) R_word_23 Ts Ts f #[(.ref a1), (.int i1)] h0 (Q_word_23 Z i1 i2 i3 i4 i5 i6 i7 i8 h0) := by
 refine con_of f #[.val (.ref a1), .val (.int i1)] (plainFor_of_name pn_0) (fun m => rfl) Zf ?_
 intro C H hX0
 refine r_iloadN H 1 d_4_0 rfl rfl ?_
 refine r_ifneT H 15 d_4_1 (by decide) (by decide) (by have := r_i1; have : (0 : Int32).toInt = 0 := (by decide); simp only [Int32.lt_iff_toInt_lt, ← Int32.toInt_inj]; omega) ?_
 refine r_iloadN H 16 d_4_15 rfl rfl ?_
 refine r_iconst H 17 (1 : Int32) d_4_16 (by decide) rfl ?_
 refine r_icmpneT H 37 d_4_17 (by decide) (by decide) (by have := r_i1; have : (1 : Int32).toInt = 1 := (by decide); simp only [Int32.lt_iff_toInt_lt, ← Int32.toInt_inj]; omega) ?_
 refine r_iloadN H 38 d_4_37 rfl rfl ?_
 refine r_iconst H 39 (2 : Int32) d_4_38 (by decide) rfl ?_
 refine r_icmpneT H 65 d_4_39 (by decide) (by decide) (by have := r_i1; have : (2 : Int32).toInt = 2 := (by decide); simp only [Int32.lt_iff_toInt_lt, ← Int32.toInt_inj]; omega) ?_
 refine r_iloadN H 66 d_4_65 rfl rfl ?_
 refine r_iconst H 67 (3 : Int32) d_4_66 (by decide) rfl ?_
 refine r_icmpneT H 99 d_4_67 (by decide) (by decide) (by have := r_i1; have : (3 : Int32).toInt = 3 := (by decide); simp only [Int32.lt_iff_toInt_lt, ← Int32.toInt_inj]; omega) ?_
 refine r_iloadN H 100 d_4_99 rfl rfl ?_
 refine r_iconst H 101 (4 : Int32) d_4_100 (by decide) rfl ?_
 refine r_icmpneT H 139 d_4_101 (by decide) (by decide) (by have := r_i1; have : (4 : Int32).toInt = 4 := (by decide); simp only [Int32.lt_iff_toInt_lt, ← Int32.toInt_inj]; omega) ?_
 refine r_iloadN H 140 d_4_139 rfl rfl ?_
 refine r_iconst H 141 (5 : Int32) d_4_140 (by decide) rfl ?_
 refine r_icmpneT H 185 d_4_141 (by decide) (by decide) (by have := r_i1; have : (5 : Int32).toInt = 5 := (by decide); simp only [Int32.lt_iff_toInt_lt, ← Int32.toInt_inj]; omega) ?_
 refine r_iloadN H 186 d_4_185 rfl rfl ?_
 refine r_bipush H 188 (6 : Int32) d_4_186 (by decide) rfl ?_
 refine r_icmpne H 239 191 d_4_188 (by decide) (by decide) rfl (fun c1 => ?_) (fun c1 => ?_)
 ·
  have rr2 : 7 ≤ i1.toInt ∧ i1.toInt ≤ 7 := by have := r_i1; have : (6 : Int32).toInt = 6 := (by decide); have hc_ := c1; simp only [Int32.lt_iff_toInt_lt, ← Int32.toInt_inj] at hc_; omega
  refine r_new H 242 d_4_239 (tw8 hw) (tw9 hw) (tw10 hw) (by decide) (by decide) rfl ?_
  intro h3 b3 g3 l3 K3 E3 D3
  refine r_dup H 243 d_4_242 rfl rfl ?_
  refine r_bipush H 245 (7 : Int32) d_4_243 (by decide) rfl ?_
  refine r_newP H 247 "[C" 7 d_4_245 (tw0 hw) rfl (by decide) (by decide) (by decide) (by decide) (by decide) rfl ?_
  intro h4 b4 kc4 g4 l4 K4 E4 A4
  change Ar Z h4 b4 kc4 .char [(.int (0 : Int32)), (.int (0 : Int32)), (.int (0 : Int32)), (.int (0 : Int32)), (.int (0 : Int32)), (.int (0 : Int32)), (.int (0 : Int32))] at A4
  refine r_dup H 248 d_4_247 rfl rfl ?_
  refine r_iconst H 249 (0 : Int32) d_4_248 (by decide) rfl ?_
  refine r_aloadN H 250 d_4_249 rfl rfl rfl ?_
  refine r_iconst H 251 (0 : Int32) d_4_250 (by decide) rfl ?_
  have q5 := ((A_a1.keep K3 nin0).keep K4 nin0)
  refine r_caload H 252 i2 d_4_251 q5 (by decide) rfl rfl ?_
  refine r_castore H 253 i2 d_4_252 A4 (by decide) (Nat.le_of_ble_eq_true rfl) (nlt (nlt Z0 K3.1) (Nat.le_of_eq g4.symm)) (nar_char_id (by have := r_i2; omega)) rfl ?_
  intro h6 K6 A6
  change Ar Z h6 b4 kc4 .char [(.int i2), (.int (0 : Int32)), (.int (0 : Int32)), (.int (0 : Int32)), (.int (0 : Int32)), (.int (0 : Int32)), (.int (0 : Int32))] at A6
  refine r_dup H 254 d_4_253 rfl rfl ?_
  refine r_iconst H 255 (1 : Int32) d_4_254 (by decide) rfl ?_
  refine r_aloadN H 256 d_4_255 rfl rfl rfl ?_
  refine r_iconst H 257 (1 : Int32) d_4_256 (by decide) rfl ?_
  have q7 := (q5.keep K6 (ninS (Nat.ne_of_lt (Nat.lt_of_lt_of_le A_a1.lt (nlt K3.1 (Nat.le_of_eq g4.symm)))) nin0))
  refine r_caload H 258 i3 d_4_257 q7 (by decide) rfl rfl ?_
  refine r_castore H 259 i3 d_4_258 A6 (by decide) (Nat.le_of_ble_eq_true rfl) (nlt (nlt Z0 K3.1) (Nat.le_of_eq g4.symm)) (nar_char_id (by have := r_i3; omega)) rfl ?_
  intro h8 K8 A8
  have q9 := (E4.keep K6)
  change Ar Z h8 b4 kc4 .char [(.int i2), (.int i3), (.int (0 : Int32)), (.int (0 : Int32)), (.int (0 : Int32)), (.int (0 : Int32)), (.int (0 : Int32))] at A8
  refine r_dup H 260 d_4_259 rfl rfl ?_
  refine r_iconst H 261 (2 : Int32) d_4_260 (by decide) rfl ?_
  refine r_aloadN H 262 d_4_261 rfl rfl rfl ?_
  refine r_iconst H 263 (2 : Int32) d_4_262 (by decide) rfl ?_
  have q10 := (q7.keep K8 (ninS (Nat.ne_of_lt (Nat.lt_of_lt_of_le A_a1.lt (nlt K3.1 (Nat.le_of_eq g4.symm)))) nin0))
  refine r_caload H 264 i4 d_4_263 q10 (by decide) rfl rfl ?_
  refine r_castore H 265 i4 d_4_264 A8 (by decide) (Nat.le_of_ble_eq_true rfl) (nlt (nlt Z0 K3.1) (Nat.le_of_eq g4.symm)) (nar_char_id (by have := r_i4; omega)) rfl ?_
  intro h11 K11 A11
  have q12 := (q9.keep K8)
  change Ar Z h11 b4 kc4 .char [(.int i2), (.int i3), (.int i4), (.int (0 : Int32)), (.int (0 : Int32)), (.int (0 : Int32)), (.int (0 : Int32))] at A11
  refine r_dup H 266 d_4_265 rfl rfl ?_
  refine r_iconst H 267 (3 : Int32) d_4_266 (by decide) rfl ?_
  refine r_aloadN H 268 d_4_267 rfl rfl rfl ?_
  refine r_iconst H 269 (3 : Int32) d_4_268 (by decide) rfl ?_
  have q13 := (q10.keep K11 (ninS (Nat.ne_of_lt (Nat.lt_of_lt_of_le A_a1.lt (nlt K3.1 (Nat.le_of_eq g4.symm)))) nin0))
  refine r_caload H 270 i5 d_4_269 q13 (by decide) rfl rfl ?_
  refine r_castore H 271 i5 d_4_270 A11 (by decide) (Nat.le_of_ble_eq_true rfl) (nlt (nlt Z0 K3.1) (Nat.le_of_eq g4.symm)) (nar_char_id (by have := r_i5; omega)) rfl ?_
  intro h14 K14 A14
  have q15 := (q12.keep K11)
  change Ar Z h14 b4 kc4 .char [(.int i2), (.int i3), (.int i4), (.int i5), (.int (0 : Int32)), (.int (0 : Int32)), (.int (0 : Int32))] at A14
  refine r_dup H 272 d_4_271 rfl rfl ?_
  refine r_iconst H 273 (4 : Int32) d_4_272 (by decide) rfl ?_
  refine r_aloadN H 274 d_4_273 rfl rfl rfl ?_
  refine r_iconst H 275 (4 : Int32) d_4_274 (by decide) rfl ?_
  have q16 := (q13.keep K14 (ninS (Nat.ne_of_lt (Nat.lt_of_lt_of_le A_a1.lt (nlt K3.1 (Nat.le_of_eq g4.symm)))) nin0))
  refine r_caload H 276 i6 d_4_275 q16 (by decide) rfl rfl ?_
  refine r_castore H 277 i6 d_4_276 A14 (by decide) (Nat.le_of_ble_eq_true rfl) (nlt (nlt Z0 K3.1) (Nat.le_of_eq g4.symm)) (nar_char_id (by have := r_i6; omega)) rfl ?_
  intro h17 K17 A17
  have q18 := (q15.keep K14)
  change Ar Z h17 b4 kc4 .char [(.int i2), (.int i3), (.int i4), (.int i5), (.int i6), (.int (0 : Int32)), (.int (0 : Int32))] at A17
  refine r_dup H 278 d_4_277 rfl rfl ?_
  refine r_iconst H 279 (5 : Int32) d_4_278 (by decide) rfl ?_
  refine r_aloadN H 280 d_4_279 rfl rfl rfl ?_
  refine r_iconst H 281 (5 : Int32) d_4_280 (by decide) rfl ?_
  have q19 := (q16.keep K17 (ninS (Nat.ne_of_lt (Nat.lt_of_lt_of_le A_a1.lt (nlt K3.1 (Nat.le_of_eq g4.symm)))) nin0))
  refine r_caload H 282 i7 d_4_281 q19 (by decide) rfl rfl ?_
  refine r_castore H 283 i7 d_4_282 A17 (by decide) (Nat.le_of_ble_eq_true rfl) (nlt (nlt Z0 K3.1) (Nat.le_of_eq g4.symm)) (nar_char_id (by have := r_i7; omega)) rfl ?_
  intro h20 K20 A20
  have q21 := (q18.keep K17)
  change Ar Z h20 b4 kc4 .char [(.int i2), (.int i3), (.int i4), (.int i5), (.int i6), (.int i7), (.int (0 : Int32))] at A20
  refine r_dup H 284 d_4_283 rfl rfl ?_
  refine r_bipush H 286 (6 : Int32) d_4_284 (by decide) rfl ?_
  refine r_aloadN H 287 d_4_286 rfl rfl rfl ?_
  refine r_bipush H 289 (6 : Int32) d_4_287 (by decide) rfl ?_
  have q22 := (q19.keep K20 (ninS (Nat.ne_of_lt (Nat.lt_of_lt_of_le A_a1.lt (nlt K3.1 (Nat.le_of_eq g4.symm)))) nin0))
  refine r_caload H 290 i8 d_4_289 q22 (by decide) rfl rfl ?_
  refine r_castore H 291 i8 d_4_290 A20 (by decide) (Nat.le_of_ble_eq_true rfl) (nlt (nlt Z0 K3.1) (Nat.le_of_eq g4.symm)) (nar_char_id (by have := r_i8; omega)) rfl ?_
  intro h23 K23 A23
  have q24 := (q21.keep K20)
  change Ar Z h23 b4 kc4 .char [(.int i2), (.int i3), (.int i4), (.int i5), (.int i6), (.int i7), (.int i8)] at A23
  have q25 := (q24.keep K23)
  have q26 := ((((((((E3.keep K4).keep K6).keep K8).keep K11).keep K14).keep K17).keep K20).keep K23)
  have q27 := (((((((((show Fld Z h3 b3 "java/lang/String" "coder" "B" (.int (0 : Int32)) from D3 (Or.inr (tw34 hw)) (ty := .byte) (by decide)).keep K4 nin0).keep K6 (ninS (Nat.ne_of_lt (Nat.lt_of_lt_of_le E3.lt (nlt nlr (Nat.le_of_eq g4.symm)))) nin0)).keep K8 (ninS (Nat.ne_of_lt (Nat.lt_of_lt_of_le E3.lt (nlt nlr (Nat.le_of_eq g4.symm)))) nin0)).keep K11 (ninS (Nat.ne_of_lt (Nat.lt_of_lt_of_le E3.lt (nlt nlr (Nat.le_of_eq g4.symm)))) nin0)).keep K14 (ninS (Nat.ne_of_lt (Nat.lt_of_lt_of_le E3.lt (nlt nlr (Nat.le_of_eq g4.symm)))) nin0)).keep K17 (ninS (Nat.ne_of_lt (Nat.lt_of_lt_of_le E3.lt (nlt nlr (Nat.le_of_eq g4.symm)))) nin0)).keep K20 (ninS (Nat.ne_of_lt (Nat.lt_of_lt_of_le E3.lt (nlt nlr (Nat.le_of_eq g4.symm)))) nin0)).keep K23 (ninS (Nat.ne_of_lt (Nat.lt_of_lt_of_le E3.lt (nlt nlr (Nat.le_of_eq g4.symm)))) nin0))
  have q28 := (((((((((show Fld Z h3 b3 "java/lang/String" "value" "[B" .null from D3 (Or.inr (tw36 hw)) (ty := (.array .byte)) (by decide)).keep K4 nin0).keep K6 (ninS (Nat.ne_of_lt (Nat.lt_of_lt_of_le E3.lt (nlt nlr (Nat.le_of_eq g4.symm)))) nin0)).keep K8 (ninS (Nat.ne_of_lt (Nat.lt_of_lt_of_le E3.lt (nlt nlr (Nat.le_of_eq g4.symm)))) nin0)).keep K11 (ninS (Nat.ne_of_lt (Nat.lt_of_lt_of_le E3.lt (nlt nlr (Nat.le_of_eq g4.symm)))) nin0)).keep K14 (ninS (Nat.ne_of_lt (Nat.lt_of_lt_of_le E3.lt (nlt nlr (Nat.le_of_eq g4.symm)))) nin0)).keep K17 (ninS (Nat.ne_of_lt (Nat.lt_of_lt_of_le E3.lt (nlt nlr (Nat.le_of_eq g4.symm)))) nin0)).keep K20 (ninS (Nat.ne_of_lt (Nat.lt_of_lt_of_le E3.lt (nlt nlr (Nat.le_of_eq g4.symm)))) nin0)).keep K23 (ninS (Nat.ne_of_lt (Nat.lt_of_lt_of_le E3.lt (nlt nlr (Nat.le_of_eq g4.symm)))) nin0))
  have z29 := Nat.le_trans K3.1 K4.1
  have z30 := Nat.le_trans z29 K6.1
  have z31 := Nat.le_trans z30 K8.1
  have z32 := Nat.le_trans z31 K11.1
  have z33 := Nat.le_trans z32 K14.1
  have z34 := Nat.le_trans z33 K17.1
  have z35 := Nat.le_trans z34 K20.1
  have z36 := Nat.le_trans z35 K23.1
  refine r_special H 294 (a := b3) d_4_291 (tw11 hw) (tw12 hw) (tw10 hw) (tw13 hw) (by decide) rfl (lenOf pd_5 rfl) (rm_init_24 hw Ts b3 b4 i2 i3 i4 i5 i6 i7 i8 kc4 cs h23 f Zf (nlt Z0 z36) A23 (nlt Z0 (Nat.le_of_eq g3.symm)) q25 q26 q27 q28 r_i2 r_i3 r_i4 r_i5 r_i6 r_i7 r_i8 S_cs hcs) (argsL := [(.ref b4)]) (rest := [(.ref b3)]) rfl (W := 1) (nlq rfl) rfl (by decide) (by decide) (by decide) (by decide) nlr rfl ?_
  rintro _ hh46 ⟨b37, kc38, rfl, K39, g40, q41, q42, q43, q44, q45⟩
  have k47 : Keep h0 h3 [] := Keep.trans (Keep.refl h0 []) K3 all0
  have k48 : Keep h0 h4 [] := Keep.trans k47 K4 all0
  have k49 : Keep h0 h6 [] := Keep.trans k48 K6 (allS (Or.inr (nlt K3.1 (Nat.le_of_eq g4.symm))) all0)
  have k50 : Keep h0 h8 [] := Keep.trans k49 K8 (allS (Or.inr (nlt K3.1 (Nat.le_of_eq g4.symm))) all0)
  have k51 : Keep h0 h11 [] := Keep.trans k50 K11 (allS (Or.inr (nlt K3.1 (Nat.le_of_eq g4.symm))) all0)
  have k52 : Keep h0 h14 [] := Keep.trans k51 K14 (allS (Or.inr (nlt K3.1 (Nat.le_of_eq g4.symm))) all0)
  have k53 : Keep h0 h17 [] := Keep.trans k52 K17 (allS (Or.inr (nlt K3.1 (Nat.le_of_eq g4.symm))) all0)
  have k54 : Keep h0 h20 [] := Keep.trans k53 K20 (allS (Or.inr (nlt K3.1 (Nat.le_of_eq g4.symm))) all0)
  have k55 : Keep h0 h23 [] := Keep.trans k54 K23 (allS (Or.inr (nlt K3.1 (Nat.le_of_eq g4.symm))) all0)
  have k56 : Keep h0 hh46 [] := Keep.trans k55 K39 (allS (Or.inr (nlt nlr (Nat.le_of_eq g3.symm))) all0)
  have z57 := Nat.le_trans K4.1 K6.1
  have z58 := Nat.le_trans z57 K8.1
  have z59 := Nat.le_trans z58 K11.1
  have z60 := Nat.le_trans z59 K14.1
  have z61 := Nat.le_trans z60 K17.1
  have z62 := Nat.le_trans z61 K20.1
  have z63 := Nat.le_trans z62 K23.1
  exact r_areturn H rfl rfl d_4_294 (by decide) (by decide) nlr (fun _ t => t) (Or.inl ⟨b3, b37, kc38, rfl, c1, k56, (nlt nlr (Nat.le_of_eq g3.symm)), (nlt z36 g40), (Nat.lt_of_lt_of_le E3.lt (nlt z63 g40)), q41, q42, q43, q44, q45⟩)
 ·
  have rr64 : 6 ≤ i1.toInt ∧ i1.toInt ≤ 6 := by have := r_i1; have : (6 : Int32).toInt = 6 := (by decide); have hc_ := c1; simp only [Int32.lt_iff_toInt_lt, ← Int32.toInt_inj] at hc_; omega
  refine r_new H 194 d_4_191 (tw8 hw) (tw9 hw) (tw10 hw) (by decide) (by decide) rfl ?_
  intro h65 b65 g65 l65 K65 E65 D65
  refine r_dup H 195 d_4_194 rfl rfl ?_
  refine r_bipush H 197 (6 : Int32) d_4_195 (by decide) rfl ?_
  refine r_newP H 199 "[C" 6 d_4_197 (tw0 hw) rfl (by decide) (by decide) (by decide) (by decide) (by decide) rfl ?_
  intro h66 b66 kc66 g66 l66 K66 E66 A66
  change Ar Z h66 b66 kc66 .char [(.int (0 : Int32)), (.int (0 : Int32)), (.int (0 : Int32)), (.int (0 : Int32)), (.int (0 : Int32)), (.int (0 : Int32))] at A66
  refine r_dup H 200 d_4_199 rfl rfl ?_
  refine r_iconst H 201 (0 : Int32) d_4_200 (by decide) rfl ?_
  refine r_aloadN H 202 d_4_201 rfl rfl rfl ?_
  refine r_iconst H 203 (0 : Int32) d_4_202 (by decide) rfl ?_
  have q67 := ((A_a1.keep K65 nin0).keep K66 nin0)
  refine r_caload H 204 i2 d_4_203 q67 (by decide) rfl rfl ?_
  refine r_castore H 205 i2 d_4_204 A66 (by decide) (Nat.le_of_ble_eq_true rfl) (nlt (nlt Z0 K65.1) (Nat.le_of_eq g66.symm)) (nar_char_id (by have := r_i2; omega)) rfl ?_
  intro h68 K68 A68
  change Ar Z h68 b66 kc66 .char [(.int i2), (.int (0 : Int32)), (.int (0 : Int32)), (.int (0 : Int32)), (.int (0 : Int32)), (.int (0 : Int32))] at A68
  refine r_dup H 206 d_4_205 rfl rfl ?_
  refine r_iconst H 207 (1 : Int32) d_4_206 (by decide) rfl ?_
  refine r_aloadN H 208 d_4_207 rfl rfl rfl ?_
  refine r_iconst H 209 (1 : Int32) d_4_208 (by decide) rfl ?_
  have q69 := (q67.keep K68 (ninS (Nat.ne_of_lt (Nat.lt_of_lt_of_le A_a1.lt (nlt K65.1 (Nat.le_of_eq g66.symm)))) nin0))
  refine r_caload H 210 i3 d_4_209 q69 (by decide) rfl rfl ?_
  refine r_castore H 211 i3 d_4_210 A68 (by decide) (Nat.le_of_ble_eq_true rfl) (nlt (nlt Z0 K65.1) (Nat.le_of_eq g66.symm)) (nar_char_id (by have := r_i3; omega)) rfl ?_
  intro h70 K70 A70
  have q71 := (E66.keep K68)
  change Ar Z h70 b66 kc66 .char [(.int i2), (.int i3), (.int (0 : Int32)), (.int (0 : Int32)), (.int (0 : Int32)), (.int (0 : Int32))] at A70
  refine r_dup H 212 d_4_211 rfl rfl ?_
  refine r_iconst H 213 (2 : Int32) d_4_212 (by decide) rfl ?_
  refine r_aloadN H 214 d_4_213 rfl rfl rfl ?_
  refine r_iconst H 215 (2 : Int32) d_4_214 (by decide) rfl ?_
  have q72 := (q69.keep K70 (ninS (Nat.ne_of_lt (Nat.lt_of_lt_of_le A_a1.lt (nlt K65.1 (Nat.le_of_eq g66.symm)))) nin0))
  refine r_caload H 216 i4 d_4_215 q72 (by decide) rfl rfl ?_
  refine r_castore H 217 i4 d_4_216 A70 (by decide) (Nat.le_of_ble_eq_true rfl) (nlt (nlt Z0 K65.1) (Nat.le_of_eq g66.symm)) (nar_char_id (by have := r_i4; omega)) rfl ?_
  intro h73 K73 A73
  have q74 := (q71.keep K70)
  change Ar Z h73 b66 kc66 .char [(.int i2), (.int i3), (.int i4), (.int (0 : Int32)), (.int (0 : Int32)), (.int (0 : Int32))] at A73
  refine r_dup H 218 d_4_217 rfl rfl ?_
  refine r_iconst H 219 (3 : Int32) d_4_218 (by decide) rfl ?_
  refine r_aloadN H 220 d_4_219 rfl rfl rfl ?_
  refine r_iconst H 221 (3 : Int32) d_4_220 (by decide) rfl ?_
  have q75 := (q72.keep K73 (ninS (Nat.ne_of_lt (Nat.lt_of_lt_of_le A_a1.lt (nlt K65.1 (Nat.le_of_eq g66.symm)))) nin0))
  refine r_caload H 222 i5 d_4_221 q75 (by decide) rfl rfl ?_
  refine r_castore H 223 i5 d_4_222 A73 (by decide) (Nat.le_of_ble_eq_true rfl) (nlt (nlt Z0 K65.1) (Nat.le_of_eq g66.symm)) (nar_char_id (by have := r_i5; omega)) rfl ?_
  intro h76 K76 A76
  have q77 := (q74.keep K73)
  change Ar Z h76 b66 kc66 .char [(.int i2), (.int i3), (.int i4), (.int i5), (.int (0 : Int32)), (.int (0 : Int32))] at A76
  refine r_dup H 224 d_4_223 rfl rfl ?_
  refine r_iconst H 225 (4 : Int32) d_4_224 (by decide) rfl ?_
  refine r_aloadN H 226 d_4_225 rfl rfl rfl ?_
  refine r_iconst H 227 (4 : Int32) d_4_226 (by decide) rfl ?_
  have q78 := (q75.keep K76 (ninS (Nat.ne_of_lt (Nat.lt_of_lt_of_le A_a1.lt (nlt K65.1 (Nat.le_of_eq g66.symm)))) nin0))
  refine r_caload H 228 i6 d_4_227 q78 (by decide) rfl rfl ?_
  refine r_castore H 229 i6 d_4_228 A76 (by decide) (Nat.le_of_ble_eq_true rfl) (nlt (nlt Z0 K65.1) (Nat.le_of_eq g66.symm)) (nar_char_id (by have := r_i6; omega)) rfl ?_
  intro h79 K79 A79
  have q80 := (q77.keep K76)
  change Ar Z h79 b66 kc66 .char [(.int i2), (.int i3), (.int i4), (.int i5), (.int i6), (.int (0 : Int32))] at A79
  refine r_dup H 230 d_4_229 rfl rfl ?_
  refine r_iconst H 231 (5 : Int32) d_4_230 (by decide) rfl ?_
  refine r_aloadN H 232 d_4_231 rfl rfl rfl ?_
  refine r_iconst H 233 (5 : Int32) d_4_232 (by decide) rfl ?_
  have q81 := (q78.keep K79 (ninS (Nat.ne_of_lt (Nat.lt_of_lt_of_le A_a1.lt (nlt K65.1 (Nat.le_of_eq g66.symm)))) nin0))
  refine r_caload H 234 i7 d_4_233 q81 (by decide) rfl rfl ?_
  refine r_castore H 235 i7 d_4_234 A79 (by decide) (Nat.le_of_ble_eq_true rfl) (nlt (nlt Z0 K65.1) (Nat.le_of_eq g66.symm)) (nar_char_id (by have := r_i7; omega)) rfl ?_
  intro h82 K82 A82
  have q83 := (q80.keep K79)
  change Ar Z h82 b66 kc66 .char [(.int i2), (.int i3), (.int i4), (.int i5), (.int i6), (.int i7)] at A82
  have q84 := (q83.keep K82)
  have q85 := (((((((E65.keep K66).keep K68).keep K70).keep K73).keep K76).keep K79).keep K82)
  have q86 := ((((((((show Fld Z h65 b65 "java/lang/String" "coder" "B" (.int (0 : Int32)) from D65 (Or.inr (tw34 hw)) (ty := .byte) (by decide)).keep K66 nin0).keep K68 (ninS (Nat.ne_of_lt (Nat.lt_of_lt_of_le E65.lt (nlt nlr (Nat.le_of_eq g66.symm)))) nin0)).keep K70 (ninS (Nat.ne_of_lt (Nat.lt_of_lt_of_le E65.lt (nlt nlr (Nat.le_of_eq g66.symm)))) nin0)).keep K73 (ninS (Nat.ne_of_lt (Nat.lt_of_lt_of_le E65.lt (nlt nlr (Nat.le_of_eq g66.symm)))) nin0)).keep K76 (ninS (Nat.ne_of_lt (Nat.lt_of_lt_of_le E65.lt (nlt nlr (Nat.le_of_eq g66.symm)))) nin0)).keep K79 (ninS (Nat.ne_of_lt (Nat.lt_of_lt_of_le E65.lt (nlt nlr (Nat.le_of_eq g66.symm)))) nin0)).keep K82 (ninS (Nat.ne_of_lt (Nat.lt_of_lt_of_le E65.lt (nlt nlr (Nat.le_of_eq g66.symm)))) nin0))
  have q87 := ((((((((show Fld Z h65 b65 "java/lang/String" "value" "[B" .null from D65 (Or.inr (tw36 hw)) (ty := (.array .byte)) (by decide)).keep K66 nin0).keep K68 (ninS (Nat.ne_of_lt (Nat.lt_of_lt_of_le E65.lt (nlt nlr (Nat.le_of_eq g66.symm)))) nin0)).keep K70 (ninS (Nat.ne_of_lt (Nat.lt_of_lt_of_le E65.lt (nlt nlr (Nat.le_of_eq g66.symm)))) nin0)).keep K73 (ninS (Nat.ne_of_lt (Nat.lt_of_lt_of_le E65.lt (nlt nlr (Nat.le_of_eq g66.symm)))) nin0)).keep K76 (ninS (Nat.ne_of_lt (Nat.lt_of_lt_of_le E65.lt (nlt nlr (Nat.le_of_eq g66.symm)))) nin0)).keep K79 (ninS (Nat.ne_of_lt (Nat.lt_of_lt_of_le E65.lt (nlt nlr (Nat.le_of_eq g66.symm)))) nin0)).keep K82 (ninS (Nat.ne_of_lt (Nat.lt_of_lt_of_le E65.lt (nlt nlr (Nat.le_of_eq g66.symm)))) nin0))
  have z88 := Nat.le_trans K65.1 K66.1
  have z89 := Nat.le_trans z88 K68.1
  have z90 := Nat.le_trans z89 K70.1
  have z91 := Nat.le_trans z90 K73.1
  have z92 := Nat.le_trans z91 K76.1
  have z93 := Nat.le_trans z92 K79.1
  have z94 := Nat.le_trans z93 K82.1
  refine r_special H 238 (a := b65) d_4_235 (tw11 hw) (tw12 hw) (tw10 hw) (tw13 hw) (by decide) rfl (lenOf pd_5 rfl) (rm_init_29 hw Ts b65 b66 i2 i3 i4 i5 i6 i7 kc66 cs h82 f Zf (nlt Z0 z94) A82 (nlt Z0 (Nat.le_of_eq g65.symm)) q84 q85 q86 q87 r_i2 r_i3 r_i4 r_i5 r_i6 r_i7 S_cs hcs) (argsL := [(.ref b66)]) (rest := [(.ref b65)]) rfl (W := 1) (nlq rfl) rfl (by decide) (by decide) (by decide) (by decide) nlr rfl ?_
  rintro _ hh104 ⟨b95, kc96, rfl, K97, g98, q99, q100, q101, q102, q103⟩
  have k105 : Keep h0 h65 [] := Keep.trans (Keep.refl h0 []) K65 all0
  have k106 : Keep h0 h66 [] := Keep.trans k105 K66 all0
  have k107 : Keep h0 h68 [] := Keep.trans k106 K68 (allS (Or.inr (nlt K65.1 (Nat.le_of_eq g66.symm))) all0)
  have k108 : Keep h0 h70 [] := Keep.trans k107 K70 (allS (Or.inr (nlt K65.1 (Nat.le_of_eq g66.symm))) all0)
  have k109 : Keep h0 h73 [] := Keep.trans k108 K73 (allS (Or.inr (nlt K65.1 (Nat.le_of_eq g66.symm))) all0)
  have k110 : Keep h0 h76 [] := Keep.trans k109 K76 (allS (Or.inr (nlt K65.1 (Nat.le_of_eq g66.symm))) all0)
  have k111 : Keep h0 h79 [] := Keep.trans k110 K79 (allS (Or.inr (nlt K65.1 (Nat.le_of_eq g66.symm))) all0)
  have k112 : Keep h0 h82 [] := Keep.trans k111 K82 (allS (Or.inr (nlt K65.1 (Nat.le_of_eq g66.symm))) all0)
  have k113 : Keep h0 hh104 [] := Keep.trans k112 K97 (allS (Or.inr (nlt nlr (Nat.le_of_eq g65.symm))) all0)
  have z114 := Nat.le_trans K66.1 K68.1
  have z115 := Nat.le_trans z114 K70.1
  have z116 := Nat.le_trans z115 K73.1
  have z117 := Nat.le_trans z116 K76.1
  have z118 := Nat.le_trans z117 K79.1
  have z119 := Nat.le_trans z118 K82.1
  exact r_areturn H rfl rfl d_4_238 (by decide) (by decide) nlr (fun _ t => t) (Or.inr (⟨b65, b95, kc96, rfl, c1, k113, (nlt nlr (Nat.le_of_eq g65.symm)), (nlt z94 g98), (Nat.lt_of_lt_of_le E65.lt (nlt z119 g98)), q99, q100, q101, q102, q103⟩))
def Q_equals_36 (Z : State) (h0 : Heap) (v : Option Value) (h : Heap) : Prop := v = some (.int (0 : Int32)) ∧ h0 = h
def R_equals_36 : Room := { frames := 0, cells := 0, slots := 0, locals := 0 }
theorem rm_equals_36 {w : Bool} {Z : State} {a0 : Array Value} (hw : HW a0 Z) (Ts : List String) (a1 : Addr) (a2 : Addr) (i1 : Int32) (i2 : Int32) (i3 : Int32) (i4 : Int32) (i5 : Int32) (i6 : Int32) (i7 : Int32) (c1 : ClassId) (c2 : ClassId) (h0 : Heap) (f : Nat) (Zf : Z.heap.size ≤ f) (Z0 : f ≤ h0.size) (A_a1 : Ar Z h0 a1 c1 .byte [(.int i1), (.int i2), (.int i3), (.int i4), (.int i5), (.int i6), (.int i7)]) (A_a2 : Ar Z h0 a2 c2 .byte [(.int (45 : Int32)), (.int (45 : Int32)), (.int (104 : Int32)), (.int (101 : Int32)), (.int (108 : Int32)), (.int (112 : Int32))]) :
  Con w [] Z (⟨"java/lang/StringLatin1", "equals", "([B[B)Z"⟩ : MethodName) jdk_43_method_13_code 3 (some .boolean) R_equals_36 Ts Ts f #[(.ref a1), (.ref a2)] h0 (Q_equals_36 Z h0) := by
 refine con_of f #[.val (.ref a1), .val (.ref a2), .unset] (plainFor_of_name pn_3) (fun m => rfl) Zf ?_
 intro C H hX0
 refine r_aloadN H 1 d_j43_13_0 rfl rfl rfl ?_
 refine r_alen H 2 (7 : Int32) d_j43_13_1 A_a1 rfl rfl ?_
 refine r_aloadN H 3 d_j43_13_2 rfl rfl rfl ?_
 refine r_alen H 4 (6 : Int32) d_j43_13_3 A_a2 rfl rfl ?_
 refine r_icmpneT H 34 d_j43_13_4 (by decide) (by decide) (by decide) ?_
 refine r_iconst H 35 (0 : Int32) d_j43_13_34 (by decide) rfl ?_
 exact r_nreturn (0 : Int32) H (by simp) d_j43_13_35 (by decide) (by decide) (by decide) nlr (fun _ t => t) (⟨rfl, rfl⟩)
def Q_equals_35 (Z : State) (h0 : Heap) (v : Option Value) (h : Heap) : Prop := v = some (.int (0 : Int32)) ∧ h0 = h
def R_equals_35 : Room := { frames := 1, cells := 0, slots := 0, locals := 14 }
theorem rm_equals_35 {w : Bool} {Z : State} {a0 : Array Value} (hw : HW a0 Z) (Ts : List String) (a1 : Addr) (a2 : Addr) (a3 : Addr) (a4 : Addr) (i1 : Int32) (i2 : Int32) (i3 : Int32) (i4 : Int32) (i5 : Int32) (i6 : Int32) (i7 : Int32) (c1 : ClassId) (c2 : ClassId) (cs : Int32) (h0 : Heap) (f : Nat) (Zf : Z.heap.size ≤ f) (Z0 : f ≤ h0.size) (F_value_a1 : Fld Z h0 a1 "java/lang/String" "value" "[B" (.ref a3)) (F_value_a2 : Fld Z h0 a2 "java/lang/String" "value" "[B" (.ref a4)) (A_a3 : Ar Z h0 a3 c1 .byte [(.int i1), (.int i2), (.int i3), (.int i4), (.int i5), (.int i6), (.int i7)]) (A_a4 : Ar Z h0 a4 c2 .byte [(.int (45 : Int32)), (.int (45 : Int32)), (.int (104 : Int32)), (.int (101 : Int32)), (.int (108 : Int32)), (.int (112 : Int32))]) (E_a2 : Exa Z h0 a2 "java/lang/String") (F_coder_a1 : Fld Z h0 a1 "java/lang/String" "coder" "B" (.int (0 : Int32))) (F_coder_a2 : Fld Z h0 a2 "java/lang/String" "coder" "B" (.int (0 : Int32))) (S_cs : G_S_cs Z cs) (hcs : ¬ cs = 0) :
  Con w [] Z (⟨"java/lang/String", "equals", "(Ljava/lang/Object;)Z"⟩ : MethodName) jdk_42_method_66_code 3 (some .boolean) R_equals_35 Ts Ts f #[(.ref a1), (.ref a2)] h0 (Q_equals_35 Z h0) := by
 refine con_of f #[.val (.ref a1), .val (.ref a2), .unset] (plainFor_of_name pn_2) (fun m => rfl) Zf ?_
 intro C H hX0
 refine r_aloadN H 1 d_j42_66_0 rfl rfl rfl ?_
 refine r_aloadN H 2 d_j42_66_1 rfl rfl rfl ?_
 by_cases hab1 : a1 = a2
 · exact absurd (str_eqv (hab1 ▸ F_value_a1) F_value_a2 A_a3 A_a4) (by simp)
 refine r_acmp H 7 false d_j42_66_2 rfl rfl (decide_eq_false fun q => hab1 (Value.ref.inj q)) (by decide) (by decide) ?_
 refine r_aloadN H 8 d_j42_66_7 rfl rfl rfl ?_
 refine r_instY H 11 d_j42_66_8 (tw49 hw) (Ins.self E_a2) rfl ?_
 refine r_ifeqF H 14 d_j42_66_11 rfl (by decide) ?_
 refine r_aloadN H 15 d_j42_66_14 rfl rfl rfl ?_
 refine r_castY H 18 d_j42_66_15 (tw49 hw) (Ins.self E_a2) rfl ?_
 refine r_astoreN H 19 #[.val (.ref a1), .val (.ref a2), .val (.ref a2)] d_j42_66_18 rfl rfl rfl ?_
 refine r_gets H 22 d_j42_66_19 (tw21 hw) Via.refl S_cs rfl ?_
 refine r_ifeqF H 25 d_j42_66_22 rfl hcs ?_
 refine r_aloadN H 26 d_j42_66_25 rfl rfl rfl ?_
 refine r_getf H 29 d_j42_66_26 (tw33 hw) Via.refl F_coder_a1 rfl ?_
 refine r_aloadN H 30 d_j42_66_29 rfl rfl rfl ?_
 refine r_getf H 33 d_j42_66_30 (tw33 hw) Via.refl F_coder_a2 rfl ?_
 refine r_icmpneF H 36 d_j42_66_33 rfl (by decide) ?_
 refine r_aloadN H 37 d_j42_66_36 rfl rfl rfl ?_
 refine r_getf H 40 d_j42_66_37 (tw35 hw) Via.refl F_value_a1 rfl ?_
 refine r_aloadN H 41 d_j42_66_40 rfl rfl rfl ?_
 refine r_getf H 44 d_j42_66_41 (tw35 hw) Via.refl F_value_a2 rfl ?_
 refine r_static H 47 d_j42_66_44 (tw50 hw) (tw51 hw) (tw52 hw) (tw53 hw) (by decide) (lenOf pd_7 rfl) (rm_equals_36 hw Ts a3 a4 i1 i2 i3 i4 i5 i6 i7 c1 c2 h0 f Zf Z0 A_a3 A_a4) (argsL := [(.ref a3), (.ref a4)]) (rest := []) rfl (W := 0) (nlq rfl) rfl (by decide) (by decide) (by decide) (by decide) nlr rfl ?_
 rintro _ _ ⟨rfl, rfl⟩
 refine r_ifeqT H 54 d_j42_66_47 (by decide) (by decide) (by decide) ?_
 refine r_iconst H 55 (0 : Int32) d_j42_66_54 (by decide) rfl ?_
 exact r_nreturn (0 : Int32) H (by simp) d_j42_66_55 (by decide) (by decide) (by decide) nlr (fun _ t => t) (⟨rfl, rfl⟩)
def Q_equals_38 (Z : State) (h0 : Heap) (v : Option Value) (h : Heap) : Prop := v = some (.int (0 : Int32)) ∧ h0 = h
def R_equals_38 : Room := { frames := 0, cells := 0, slots := 0, locals := 0 }
theorem rm_equals_38 {w : Bool} {Z : State} {a0 : Array Value} (hw : HW a0 Z) (Ts : List String) (a1 : Addr) (a2 : Addr) (i1 : Int32) (i2 : Int32) (i3 : Int32) (i4 : Int32) (i5 : Int32) (i6 : Int32) (i7 : Int32) (c1 : ClassId) (c2 : ClassId) (h0 : Heap) (f : Nat) (Zf : Z.heap.size ≤ f) (Z0 : f ≤ h0.size) (A_a1 : Ar Z h0 a1 c1 .byte [(.int i1), (.int i2), (.int i3), (.int i4), (.int i5), (.int i6), (.int i7)]) (A_a2 : Ar Z h0 a2 c2 .byte [(.int (45 : Int32)), (.int (104 : Int32))]) :
  Con w [] Z (⟨"java/lang/StringLatin1", "equals", "([B[B)Z"⟩ : MethodName) jdk_43_method_13_code 3 (some .boolean) R_equals_38 Ts Ts f #[(.ref a1), (.ref a2)] h0 (Q_equals_38 Z h0) := by
 refine con_of f #[.val (.ref a1), .val (.ref a2), .unset] (plainFor_of_name pn_3) (fun m => rfl) Zf ?_
 intro C H hX0
 refine r_aloadN H 1 d_j43_13_0 rfl rfl rfl ?_
 refine r_alen H 2 (7 : Int32) d_j43_13_1 A_a1 rfl rfl ?_
 refine r_aloadN H 3 d_j43_13_2 rfl rfl rfl ?_
 refine r_alen H 4 (2 : Int32) d_j43_13_3 A_a2 rfl rfl ?_
 refine r_icmpneT H 34 d_j43_13_4 (by decide) (by decide) (by decide) ?_
 refine r_iconst H 35 (0 : Int32) d_j43_13_34 (by decide) rfl ?_
 exact r_nreturn (0 : Int32) H (by simp) d_j43_13_35 (by decide) (by decide) (by decide) nlr (fun _ t => t) (⟨rfl, rfl⟩)
def Q_equals_37 (Z : State) (h0 : Heap) (v : Option Value) (h : Heap) : Prop := v = some (.int (0 : Int32)) ∧ h0 = h
def R_equals_37 : Room := { frames := 1, cells := 0, slots := 0, locals := 14 }
theorem rm_equals_37 {w : Bool} {Z : State} {a0 : Array Value} (hw : HW a0 Z) (Ts : List String) (a1 : Addr) (a2 : Addr) (a3 : Addr) (a4 : Addr) (i1 : Int32) (i2 : Int32) (i3 : Int32) (i4 : Int32) (i5 : Int32) (i6 : Int32) (i7 : Int32) (c1 : ClassId) (c2 : ClassId) (cs : Int32) (h0 : Heap) (f : Nat) (Zf : Z.heap.size ≤ f) (Z0 : f ≤ h0.size) (F_value_a1 : Fld Z h0 a1 "java/lang/String" "value" "[B" (.ref a3)) (F_value_a2 : Fld Z h0 a2 "java/lang/String" "value" "[B" (.ref a4)) (A_a3 : Ar Z h0 a3 c1 .byte [(.int i1), (.int i2), (.int i3), (.int i4), (.int i5), (.int i6), (.int i7)]) (A_a4 : Ar Z h0 a4 c2 .byte [(.int (45 : Int32)), (.int (104 : Int32))]) (E_a2 : Exa Z h0 a2 "java/lang/String") (F_coder_a1 : Fld Z h0 a1 "java/lang/String" "coder" "B" (.int (0 : Int32))) (F_coder_a2 : Fld Z h0 a2 "java/lang/String" "coder" "B" (.int (0 : Int32))) (S_cs : G_S_cs Z cs) (hcs : ¬ cs = 0) :
  Con w [] Z (⟨"java/lang/String", "equals", "(Ljava/lang/Object;)Z"⟩ : MethodName) jdk_42_method_66_code 3 (some .boolean) R_equals_37 Ts Ts f #[(.ref a1), (.ref a2)] h0 (Q_equals_37 Z h0) := by
 refine con_of f #[.val (.ref a1), .val (.ref a2), .unset] (plainFor_of_name pn_2) (fun m => rfl) Zf ?_
 intro C H hX0
 refine r_aloadN H 1 d_j42_66_0 rfl rfl rfl ?_
 refine r_aloadN H 2 d_j42_66_1 rfl rfl rfl ?_
 by_cases hab1 : a1 = a2
 · exact absurd (str_eqv (hab1 ▸ F_value_a1) F_value_a2 A_a3 A_a4) (by simp)
 refine r_acmp H 7 false d_j42_66_2 rfl rfl (decide_eq_false fun q => hab1 (Value.ref.inj q)) (by decide) (by decide) ?_
 refine r_aloadN H 8 d_j42_66_7 rfl rfl rfl ?_
 refine r_instY H 11 d_j42_66_8 (tw49 hw) (Ins.self E_a2) rfl ?_
 refine r_ifeqF H 14 d_j42_66_11 rfl (by decide) ?_
 refine r_aloadN H 15 d_j42_66_14 rfl rfl rfl ?_
 refine r_castY H 18 d_j42_66_15 (tw49 hw) (Ins.self E_a2) rfl ?_
 refine r_astoreN H 19 #[.val (.ref a1), .val (.ref a2), .val (.ref a2)] d_j42_66_18 rfl rfl rfl ?_
 refine r_gets H 22 d_j42_66_19 (tw21 hw) Via.refl S_cs rfl ?_
 refine r_ifeqF H 25 d_j42_66_22 rfl hcs ?_
 refine r_aloadN H 26 d_j42_66_25 rfl rfl rfl ?_
 refine r_getf H 29 d_j42_66_26 (tw33 hw) Via.refl F_coder_a1 rfl ?_
 refine r_aloadN H 30 d_j42_66_29 rfl rfl rfl ?_
 refine r_getf H 33 d_j42_66_30 (tw33 hw) Via.refl F_coder_a2 rfl ?_
 refine r_icmpneF H 36 d_j42_66_33 rfl (by decide) ?_
 refine r_aloadN H 37 d_j42_66_36 rfl rfl rfl ?_
 refine r_getf H 40 d_j42_66_37 (tw35 hw) Via.refl F_value_a1 rfl ?_
 refine r_aloadN H 41 d_j42_66_40 rfl rfl rfl ?_
 refine r_getf H 44 d_j42_66_41 (tw35 hw) Via.refl F_value_a2 rfl ?_
 refine r_static H 47 d_j42_66_44 (tw50 hw) (tw51 hw) (tw52 hw) (tw53 hw) (by decide) (lenOf pd_7 rfl) (rm_equals_38 hw Ts a3 a4 i1 i2 i3 i4 i5 i6 i7 c1 c2 h0 f Zf Z0 A_a3 A_a4) (argsL := [(.ref a3), (.ref a4)]) (rest := []) rfl (W := 0) (nlq rfl) rfl (by decide) (by decide) (by decide) (by decide) nlr rfl ?_
 rintro _ _ ⟨rfl, rfl⟩
 refine r_ifeqT H 54 d_j42_66_47 (by decide) (by decide) (by decide) ?_
 refine r_iconst H 55 (0 : Int32) d_j42_66_54 (by decide) rfl ?_
 exact r_nreturn (0 : Int32) H (by simp) d_j42_66_55 (by decide) (by decide) (by decide) nlr (fun _ t => t) (⟨rfl, rfl⟩)
def Q_isHelp_34 (Z : State) (h0 : Heap) (v : Option Value) (h : Heap) : Prop := v = some (.int (0 : Int32)) ∧ Keep h0 h []
def R_isHelp_34 : Room := { frames := 2, cells := 4, slots := 40, locals := 28 }
theorem rm_isHelp_34 {Z : State} {a0 : Array Value} (hw : HW a0 Z) (Ts : List String) (a1 : Addr) (a2 : Addr) (i1 : Int32) (i2 : Int32) (i3 : Int32) (i4 : Int32) (i5 : Int32) (i6 : Int32) (i7 : Int32) (c1 : ClassId) (cs : Int32) (h0 : Heap) (f : Nat) (Zf : Z.heap.size ≤ f) (Z0 : f ≤ h0.size) (E_a1 : Exa Z h0 a1 "java/lang/String") (F_value_a1 : Fld Z h0 a1 "java/lang/String" "value" "[B" (.ref a2)) (A_a2 : Ar Z h0 a2 c1 .byte [(.int i1), (.int i2), (.int i3), (.int i4), (.int i5), (.int i6), (.int i7)]) (F_coder_a1 : Fld Z h0 a1 "java/lang/String" "coder" "B" (.int (0 : Int32))) (wS : G_wS Z a0) (hcw : G_hcw Z a0) (hh0 : G_hh0 Z) (S_cs : G_S_cs Z cs) (hh1 : G_hh1 Z) (hT__2d__2d_help : "--help" ∉ Ts) (hT__2d_h : "-h" ∉ Ts) (hcs : ¬ cs = 0) :
  Con true [] Z (⟨"com/example/maniera/maniera/cli/CommandLine", "isHelp", "(Ljava/lang/String;)Z"⟩ : MethodName) prog_2_method_4_code 1 (some .boolean) R_isHelp_34 Ts ("--help" :: "-h" :: Ts) f #[(.ref a1)] h0 (Q_isHelp_34 Z h0) := by
 refine con_of h0.size #[.val (.ref a1)] (plainFor_of_name pn_4) (fun m => rfl) (nlt Zf Z0) ?_
 intro C H hX0
 refine r_aloadN H 1 d_g2_4_0 rfl rfl rfl ?_
 refine r_ldcS H 3 (vs := [(.int (45 : Int32)), (.int (45 : Int32)), (.int (104 : Int32)), (.int (101 : Int32)), (.int (108 : Int32)), (.int (112 : Int32))]) (z := (6 : Int32)) 24 d_g2_4_1 (tw41 hw) wS hT__2d__2d_help hh0 hcw ⟨by decide, by decide⟩ (by decide) (by decide) (by decide) (by decide) (by decide) (by decide) rfl ?_
 intro h1 la1 lv1 kl1 K1 E1 C1 V1 A1 D1
 have q2 := (F_value_a1.keep K1 nin0)
 have q3 := (A_a2.keep K1 nin0)
 have q4 := (F_coder_a1.keep K1 nin0)
 have q5 := (E_a1.keep K1)
 refine r_virtual H 6 (z := (⟨"java/lang/String", "equals", "(Ljava/lang/Object;)Z"⟩ : MethodName)) (a := a1) d_g2_4_3 (tw44 hw) (tw45 hw) (nf_sel (tw47 hw)) (tw47 hw) (tw46 hw) (tw10 hw) (tw48 hw) (by decide) q5 (lenOf pd_8 rfl) (rm_equals_35 hw ("--help" :: Ts) a1 la1 a2 lv1 i1 i2 i3 i4 i5 i6 i7 c1 kl1 cs h1 h0.size (nlt Zf Z0) K1.1 q2 V1 q3 A1 E1 q4 C1 S_cs hcs) (argsL := [(.ref la1)]) (rest := []) rfl (W := 0) (nlq rfl) rfl (by decide) (by decide) (by decide) (by decide) nlr rfl ?_
 rintro _ _ ⟨rfl, rfl⟩
 refine r_ifneF H 9 d_g2_4_6 rfl (by decide) ?_
 refine r_aloadN H 10 d_g2_4_9 rfl rfl rfl ?_
 refine r_ldcS H 12 (vs := [(.int (45 : Int32)), (.int (104 : Int32))]) (z := (2 : Int32)) 8 d_g2_4_10 (tw54 hw) wS (nin_cons (by decide) hT__2d_h) hh1 hcw ⟨by decide, by decide⟩ (by decide) (by decide) (by decide) (by decide) (by decide) (by decide) rfl ?_
 intro h7 la7 lv7 kl7 K7 E7 C7 V7 A7 D7
 have q8 := (q2.keep K7 nin0)
 have q9 := (q3.keep K7 nin0)
 have q10 := (q4.keep K7 nin0)
 have z11 := Nat.le_trans K1.1 K7.1
 have q12 := (q5.keep K7)
 refine r_virtual H 15 (z := (⟨"java/lang/String", "equals", "(Ljava/lang/Object;)Z"⟩ : MethodName)) (a := a1) d_g2_4_12 (tw44 hw) (tw45 hw) (nf_sel (tw47 hw)) (tw47 hw) (tw46 hw) (tw10 hw) (tw48 hw) (by decide) q12 (lenOf pd_8 rfl) (rm_equals_37 hw ("-h" :: "--help" :: Ts) a1 la7 a2 lv7 i1 i2 i3 i4 i5 i6 i7 c1 kl7 cs h7 h0.size (nlt Zf Z0) z11 q8 V7 q9 A7 E7 q10 C7 S_cs hcs) (argsL := [(.ref la7)]) (rest := []) rfl (W := 0) (nlq rfl) rfl (by decide) (by decide) (by decide) (by decide) nlr rfl ?_
 rintro _ _ ⟨rfl, rfl⟩
 refine r_ifeqT H 22 d_g2_4_15 (by decide) (by decide) (by decide) ?_
 refine r_iconst H 23 (0 : Int32) d_g2_4_22 (by decide) rfl ?_
 have k14 : Keep h0 h1 [] := Keep.trans (Keep.refl h0 []) K1 all0
 have k15 : Keep h0 h7 [] := Keep.trans k14 K7 all0
 exact r_nreturn (0 : Int32) H (by simp) d_g2_4_23 (by decide) (by decide) (by decide) Z0 (by intro t ht; simp only [List.mem_cons] at ht ⊢; rcases ht with ht | ht | ht <;> simp [ht]) (⟨rfl, k15⟩)
def fn_equals_41 (i1 : Int32) (i2 : Int32) (i3 : Int32) (i4 : Int32) (i5 : Int32) (i6 : Int32) : Int32 := (if i1 = (45 : Int32) then (if i2 = (45 : Int32) then (if i3 = (104 : Int32) then (if i4 = (101 : Int32) then (if i5 = (108 : Int32) then (if i6 = (112 : Int32) then (1 : Int32) else (0 : Int32)) else (0 : Int32)) else (0 : Int32)) else (0 : Int32)) else (0 : Int32)) else (0 : Int32))
def Q_equals_41 (Z : State) (i1 : Int32) (i2 : Int32) (i3 : Int32) (i4 : Int32) (i5 : Int32) (i6 : Int32) (h0 : Heap) (v : Option Value) (h : Heap) : Prop := ∃ z : Int32, v = some (.int z) ∧ h0 = h ∧ (fn_equals_41 i1 i2 i3 i4 i5 i6) = z ∧ (0 ≤ z.toInt ∧ z.toInt ≤ 1)
def R_equals_41 : Room := { frames := 0, cells := 0, slots := 0, locals := 0 }
theorem rm_equals_41 {w : Bool} {Z : State} {a0 : Array Value} (hw : HW a0 Z) (Ts : List String) (a1 : Addr) (a2 : Addr) (i1 : Int32) (i2 : Int32) (i3 : Int32) (i4 : Int32) (i5 : Int32) (i6 : Int32) (c1 : ClassId) (c2 : ClassId) (h0 : Heap) (f : Nat) (Zf : Z.heap.size ≤ f) (Z0 : f ≤ h0.size) (A_a1 : Ar Z h0 a1 c1 .byte [(.int i1), (.int i2), (.int i3), (.int i4), (.int i5), (.int i6)]) (A_a2 : Ar Z h0 a2 c2 .byte [(.int (45 : Int32)), (.int (45 : Int32)), (.int (104 : Int32)), (.int (101 : Int32)), (.int (108 : Int32)), (.int (112 : Int32))]) :
  Con w [] Z (⟨"java/lang/StringLatin1", "equals", "([B[B)Z"⟩ : MethodName) jdk_43_method_13_code 3 (some .boolean) R_equals_41 Ts Ts f #[(.ref a1), (.ref a2)] h0 (Q_equals_41 Z i1 i2 i3 i4 i5 i6 h0) := by
 refine con_of f #[.val (.ref a1), .val (.ref a2), .unset] (plainFor_of_name pn_3) (fun m => rfl) Zf ?_
 intro C H hX0
 refine r_aloadN H 1 d_j43_13_0 rfl rfl rfl ?_
 refine r_alen H 2 (6 : Int32) d_j43_13_1 A_a1 rfl rfl ?_
 refine r_aloadN H 3 d_j43_13_2 rfl rfl rfl ?_
 refine r_alen H 4 (6 : Int32) d_j43_13_3 A_a2 rfl rfl ?_
 refine r_icmpneF H 7 d_j43_13_4 rfl (by decide) ?_
 refine r_iconst H 8 (0 : Int32) d_j43_13_7 (by decide) rfl ?_
 refine r_istoreN H 9 #[.val (.ref a1), .val (.ref a2), .val (.int (0 : Int32))] d_j43_13_8 rfl rfl ?_
 refine r_iloadN H 10 d_j43_13_9 rfl rfl ?_
 refine r_aloadN H 11 d_j43_13_10 rfl rfl rfl ?_
 refine r_alen H 12 (6 : Int32) d_j43_13_11 A_a1 rfl rfl ?_
 refine r_icmpgeF H 15 d_j43_13_12 rfl (by decide) ?_
 refine r_aloadN H 16 d_j43_13_15 rfl rfl rfl ?_
 refine r_iloadN H 17 d_j43_13_16 rfl rfl ?_
 refine r_baload H 18 i1 d_j43_13_17 A_a1 (by decide) rfl rfl ?_
 refine r_aloadN H 19 d_j43_13_18 rfl rfl rfl ?_
 refine r_iloadN H 20 d_j43_13_19 rfl rfl ?_
 refine r_baload H 21 (45 : Int32) d_j43_13_20 A_a2 (by decide) rfl rfl ?_
 refine r_icmpeq H 26 24 d_j43_13_21 (by decide) (by decide) rfl (fun c1 => ?_) (fun c1 => ?_)
 ·
  refine r_iinc H 29 #[.val (.ref a1), .val (.ref a2), .val (.int (1 : Int32))] (1 : Int32) d_j43_13_26 rfl (by decide) rfl rfl ?_
  refine r_goto H 9 d_j43_13_29 (by decide) (by decide) ?_
  refine r_iloadN H 10 d_j43_13_9 rfl rfl ?_
  refine r_aloadN H 11 d_j43_13_10 rfl rfl rfl ?_
  refine r_alen H 12 (6 : Int32) d_j43_13_11 A_a1 rfl rfl ?_
  refine r_icmpgeF H 15 d_j43_13_12 rfl (by decide) ?_
  refine r_aloadN H 16 d_j43_13_15 rfl rfl rfl ?_
  refine r_iloadN H 17 d_j43_13_16 rfl rfl ?_
  refine r_baload H 18 i2 d_j43_13_17 A_a1 (by decide) rfl rfl ?_
  refine r_aloadN H 19 d_j43_13_18 rfl rfl rfl ?_
  refine r_iloadN H 20 d_j43_13_19 rfl rfl ?_
  refine r_baload H 21 (45 : Int32) d_j43_13_20 A_a2 (by decide) rfl rfl ?_
  refine r_icmpeq H 26 24 d_j43_13_21 (by decide) (by decide) rfl (fun c2 => ?_) (fun c2 => ?_)
  ·
   refine r_iinc H 29 #[.val (.ref a1), .val (.ref a2), .val (.int (2 : Int32))] (2 : Int32) d_j43_13_26 rfl (by decide) rfl rfl ?_
   refine r_goto H 9 d_j43_13_29 (by decide) (by decide) ?_
   refine r_iloadN H 10 d_j43_13_9 rfl rfl ?_
   refine r_aloadN H 11 d_j43_13_10 rfl rfl rfl ?_
   refine r_alen H 12 (6 : Int32) d_j43_13_11 A_a1 rfl rfl ?_
   refine r_icmpgeF H 15 d_j43_13_12 rfl (by decide) ?_
   refine r_aloadN H 16 d_j43_13_15 rfl rfl rfl ?_
   refine r_iloadN H 17 d_j43_13_16 rfl rfl ?_
   refine r_baload H 18 i3 d_j43_13_17 A_a1 (by decide) rfl rfl ?_
   refine r_aloadN H 19 d_j43_13_18 rfl rfl rfl ?_
   refine r_iloadN H 20 d_j43_13_19 rfl rfl ?_
   refine r_baload H 21 (104 : Int32) d_j43_13_20 A_a2 (by decide) rfl rfl ?_
   refine r_icmpeq H 26 24 d_j43_13_21 (by decide) (by decide) rfl (fun c3 => ?_) (fun c3 => ?_)
   ·
    refine r_iinc H 29 #[.val (.ref a1), .val (.ref a2), .val (.int (3 : Int32))] (3 : Int32) d_j43_13_26 rfl (by decide) rfl rfl ?_
    refine r_goto H 9 d_j43_13_29 (by decide) (by decide) ?_
    refine r_iloadN H 10 d_j43_13_9 rfl rfl ?_
    refine r_aloadN H 11 d_j43_13_10 rfl rfl rfl ?_
    refine r_alen H 12 (6 : Int32) d_j43_13_11 A_a1 rfl rfl ?_
    refine r_icmpgeF H 15 d_j43_13_12 rfl (by decide) ?_
    refine r_aloadN H 16 d_j43_13_15 rfl rfl rfl ?_
    refine r_iloadN H 17 d_j43_13_16 rfl rfl ?_
    refine r_baload H 18 i4 d_j43_13_17 A_a1 (by decide) rfl rfl ?_
    refine r_aloadN H 19 d_j43_13_18 rfl rfl rfl ?_
    refine r_iloadN H 20 d_j43_13_19 rfl rfl ?_
    refine r_baload H 21 (101 : Int32) d_j43_13_20 A_a2 (by decide) rfl rfl ?_
    refine r_icmpeq H 26 24 d_j43_13_21 (by decide) (by decide) rfl (fun c4 => ?_) (fun c4 => ?_)
    ·
     refine r_iinc H 29 #[.val (.ref a1), .val (.ref a2), .val (.int (4 : Int32))] (4 : Int32) d_j43_13_26 rfl (by decide) rfl rfl ?_
     refine r_goto H 9 d_j43_13_29 (by decide) (by decide) ?_
     refine r_iloadN H 10 d_j43_13_9 rfl rfl ?_
     refine r_aloadN H 11 d_j43_13_10 rfl rfl rfl ?_
     refine r_alen H 12 (6 : Int32) d_j43_13_11 A_a1 rfl rfl ?_
     refine r_icmpgeF H 15 d_j43_13_12 rfl (by decide) ?_
     refine r_aloadN H 16 d_j43_13_15 rfl rfl rfl ?_
     refine r_iloadN H 17 d_j43_13_16 rfl rfl ?_
     refine r_baload H 18 i5 d_j43_13_17 A_a1 (by decide) rfl rfl ?_
     refine r_aloadN H 19 d_j43_13_18 rfl rfl rfl ?_
     refine r_iloadN H 20 d_j43_13_19 rfl rfl ?_
     refine r_baload H 21 (108 : Int32) d_j43_13_20 A_a2 (by decide) rfl rfl ?_
     refine r_icmpeq H 26 24 d_j43_13_21 (by decide) (by decide) rfl (fun c5 => ?_) (fun c5 => ?_)
     ·
      refine r_iinc H 29 #[.val (.ref a1), .val (.ref a2), .val (.int (5 : Int32))] (5 : Int32) d_j43_13_26 rfl (by decide) rfl rfl ?_
      refine r_goto H 9 d_j43_13_29 (by decide) (by decide) ?_
      refine r_iloadN H 10 d_j43_13_9 rfl rfl ?_
      refine r_aloadN H 11 d_j43_13_10 rfl rfl rfl ?_
      refine r_alen H 12 (6 : Int32) d_j43_13_11 A_a1 rfl rfl ?_
      refine r_icmpgeF H 15 d_j43_13_12 rfl (by decide) ?_
      refine r_aloadN H 16 d_j43_13_15 rfl rfl rfl ?_
      refine r_iloadN H 17 d_j43_13_16 rfl rfl ?_
      refine r_baload H 18 i6 d_j43_13_17 A_a1 (by decide) rfl rfl ?_
      refine r_aloadN H 19 d_j43_13_18 rfl rfl rfl ?_
      refine r_iloadN H 20 d_j43_13_19 rfl rfl ?_
      refine r_baload H 21 (112 : Int32) d_j43_13_20 A_a2 (by decide) rfl rfl ?_
      refine r_icmpeq H 26 24 d_j43_13_21 (by decide) (by decide) rfl (fun c6 => ?_) (fun c6 => ?_)
      ·
       refine r_iinc H 29 #[.val (.ref a1), .val (.ref a2), .val (.int (6 : Int32))] (6 : Int32) d_j43_13_26 rfl (by decide) rfl rfl ?_
       refine r_goto H 9 d_j43_13_29 (by decide) (by decide) ?_
       refine r_iloadN H 10 d_j43_13_9 rfl rfl ?_
       refine r_aloadN H 11 d_j43_13_10 rfl rfl rfl ?_
       refine r_alen H 12 (6 : Int32) d_j43_13_11 A_a1 rfl rfl ?_
       refine r_icmpgeT H 32 d_j43_13_12 (by decide) (by decide) (by decide) ?_
       refine r_iconst H 33 (1 : Int32) d_j43_13_32 (by decide) rfl ?_
       exact r_nreturn (1 : Int32) H (by simp) d_j43_13_33 (by decide) (by decide) (by decide) nlr (fun _ t => t) (⟨_, rfl, rfl, (by unfold fn_equals_41; rw [if_pos c1, if_pos c2, if_pos c3, if_pos c4, if_pos c5, if_pos c6]), (by have : (1 : Int32).toInt = 1 := (by decide); omega)⟩)
      ·
       refine r_iconst H 25 (0 : Int32) d_j43_13_24 (by decide) rfl ?_
       exact r_nreturn (0 : Int32) H (by simp) d_j43_13_25 (by decide) (by decide) (by decide) nlr (fun _ t => t) (⟨_, rfl, rfl, (by unfold fn_equals_41; rw [if_pos c1, if_pos c2, if_pos c3, if_pos c4, if_pos c5, if_neg c6]), (by have : (0 : Int32).toInt = 0 := (by decide); omega)⟩)
     ·
      refine r_iconst H 25 (0 : Int32) d_j43_13_24 (by decide) rfl ?_
      exact r_nreturn (0 : Int32) H (by simp) d_j43_13_25 (by decide) (by decide) (by decide) nlr (fun _ t => t) (⟨_, rfl, rfl, (by unfold fn_equals_41; rw [if_pos c1, if_pos c2, if_pos c3, if_pos c4, if_neg c5]), (by have : (0 : Int32).toInt = 0 := (by decide); omega)⟩)
    ·
     refine r_iconst H 25 (0 : Int32) d_j43_13_24 (by decide) rfl ?_
     exact r_nreturn (0 : Int32) H (by simp) d_j43_13_25 (by decide) (by decide) (by decide) nlr (fun _ t => t) (⟨_, rfl, rfl, (by unfold fn_equals_41; rw [if_pos c1, if_pos c2, if_pos c3, if_neg c4]), (by have : (0 : Int32).toInt = 0 := (by decide); omega)⟩)
   ·
    refine r_iconst H 25 (0 : Int32) d_j43_13_24 (by decide) rfl ?_
    exact r_nreturn (0 : Int32) H (by simp) d_j43_13_25 (by decide) (by decide) (by decide) nlr (fun _ t => t) (⟨_, rfl, rfl, (by unfold fn_equals_41; rw [if_pos c1, if_pos c2, if_neg c3]), (by have : (0 : Int32).toInt = 0 := (by decide); omega)⟩)
  ·
   refine r_iconst H 25 (0 : Int32) d_j43_13_24 (by decide) rfl ?_
   exact r_nreturn (0 : Int32) H (by simp) d_j43_13_25 (by decide) (by decide) (by decide) nlr (fun _ t => t) (⟨_, rfl, rfl, (by unfold fn_equals_41; rw [if_pos c1, if_neg c2]), (by have : (0 : Int32).toInt = 0 := (by decide); omega)⟩)
 ·
  refine r_iconst H 25 (0 : Int32) d_j43_13_24 (by decide) rfl ?_
  exact r_nreturn (0 : Int32) H (by simp) d_j43_13_25 (by decide) (by decide) (by decide) nlr (fun _ t => t) (⟨_, rfl, rfl, (by unfold fn_equals_41; rw [if_neg c1]), (by have : (0 : Int32).toInt = 0 := (by decide); omega)⟩)
def fn_equals_40 (i1 : Int32) (i2 : Int32) (i3 : Int32) (i4 : Int32) (i5 : Int32) (i6 : Int32) : Int32 := (if (fn_equals_41 i1 i2 i3 i4 i5 i6) = (0 : Int32) then (0 : Int32) else (1 : Int32))
def Q_equals_40 (Z : State) (i1 : Int32) (i2 : Int32) (i3 : Int32) (i4 : Int32) (i5 : Int32) (i6 : Int32) (h0 : Heap) (v : Option Value) (h : Heap) : Prop := ∃ z : Int32, v = some (.int z) ∧ h0 = h ∧ (fn_equals_40 i1 i2 i3 i4 i5 i6) = z ∧ (0 ≤ z.toInt ∧ z.toInt ≤ 1)
def R_equals_40 : Room := { frames := 1, cells := 0, slots := 0, locals := 14 }
theorem rm_equals_40 {w : Bool} {Z : State} {a0 : Array Value} (hw : HW a0 Z) (Ts : List String) (a1 : Addr) (a2 : Addr) (a3 : Addr) (a4 : Addr) (i1 : Int32) (i2 : Int32) (i3 : Int32) (i4 : Int32) (i5 : Int32) (i6 : Int32) (c1 : ClassId) (c2 : ClassId) (cs : Int32) (h0 : Heap) (f : Nat) (Zf : Z.heap.size ≤ f) (Z0 : f ≤ h0.size) (F_value_a1 : Fld Z h0 a1 "java/lang/String" "value" "[B" (.ref a3)) (F_value_a2 : Fld Z h0 a2 "java/lang/String" "value" "[B" (.ref a4)) (A_a3 : Ar Z h0 a3 c1 .byte [(.int i1), (.int i2), (.int i3), (.int i4), (.int i5), (.int i6)]) (A_a4 : Ar Z h0 a4 c2 .byte [(.int (45 : Int32)), (.int (45 : Int32)), (.int (104 : Int32)), (.int (101 : Int32)), (.int (108 : Int32)), (.int (112 : Int32))]) (E_a2 : Exa Z h0 a2 "java/lang/String") (F_coder_a1 : Fld Z h0 a1 "java/lang/String" "coder" "B" (.int (0 : Int32))) (F_coder_a2 : Fld Z h0 a2 "java/lang/String" "coder" "B" (.int (0 : Int32))) (S_cs : G_S_cs Z cs) (hcs : ¬ cs = 0) :
  Con w [] Z (⟨"java/lang/String", "equals", "(Ljava/lang/Object;)Z"⟩ : MethodName) jdk_42_method_66_code 3 (some .boolean) R_equals_40 Ts Ts f #[(.ref a1), (.ref a2)] h0 (Q_equals_40 Z i1 i2 i3 i4 i5 i6 h0) := by
 refine con_of f #[.val (.ref a1), .val (.ref a2), .unset] (plainFor_of_name pn_2) (fun m => rfl) Zf ?_
 intro C H hX0
 refine r_aloadN H 1 d_j42_66_0 rfl rfl rfl ?_
 refine r_aloadN H 2 d_j42_66_1 rfl rfl rfl ?_
 by_cases hab1 : a1 = a2
 ·
  refine r_acmp H 5 true d_j42_66_2 rfl rfl (decide_eq_true (congrArg Value.ref hab1)) (by decide) (by decide) ?_
  refine r_iconst H 6 (1 : Int32) d_j42_66_5 (by decide) rfl ?_
  exact r_nreturn (1 : Int32) H (by simp) d_j42_66_6 (by decide) (by decide) (by decide) nlr (fun _ t => t) (⟨_, rfl, rfl, (by have hv := str_eqv (hab1 ▸ F_value_a1) F_value_a2 A_a3 A_a4; simp at hv; simp [hv, fn_equals_41, fn_equals_40]), (by have : (1 : Int32).toInt = 1 := (by decide); omega)⟩)
 ·
  refine r_acmp H 7 false d_j42_66_2 rfl rfl (decide_eq_false fun q => hab1 (Value.ref.inj q)) (by decide) (by decide) ?_
  refine r_aloadN H 8 d_j42_66_7 rfl rfl rfl ?_
  refine r_instY H 11 d_j42_66_8 (tw49 hw) (Ins.self E_a2) rfl ?_
  refine r_ifeqF H 14 d_j42_66_11 rfl (by decide) ?_
  refine r_aloadN H 15 d_j42_66_14 rfl rfl rfl ?_
  refine r_castY H 18 d_j42_66_15 (tw49 hw) (Ins.self E_a2) rfl ?_
  refine r_astoreN H 19 #[.val (.ref a1), .val (.ref a2), .val (.ref a2)] d_j42_66_18 rfl rfl rfl ?_
  refine r_gets H 22 d_j42_66_19 (tw21 hw) Via.refl S_cs rfl ?_
  refine r_ifeqF H 25 d_j42_66_22 rfl hcs ?_
  refine r_aloadN H 26 d_j42_66_25 rfl rfl rfl ?_
  refine r_getf H 29 d_j42_66_26 (tw33 hw) Via.refl F_coder_a1 rfl ?_
  refine r_aloadN H 30 d_j42_66_29 rfl rfl rfl ?_
  refine r_getf H 33 d_j42_66_30 (tw33 hw) Via.refl F_coder_a2 rfl ?_
  refine r_icmpneF H 36 d_j42_66_33 rfl (by decide) ?_
  refine r_aloadN H 37 d_j42_66_36 rfl rfl rfl ?_
  refine r_getf H 40 d_j42_66_37 (tw35 hw) Via.refl F_value_a1 rfl ?_
  refine r_aloadN H 41 d_j42_66_40 rfl rfl rfl ?_
  refine r_getf H 44 d_j42_66_41 (tw35 hw) Via.refl F_value_a2 rfl ?_
  refine r_static H 47 d_j42_66_44 (tw50 hw) (tw51 hw) (tw52 hw) (tw53 hw) (by decide) (lenOf pd_7 rfl) (rm_equals_41 hw Ts a3 a4 i1 i2 i3 i4 i5 i6 c1 c2 h0 f Zf Z0 A_a3 A_a4) (argsL := [(.ref a3), (.ref a4)]) (rest := []) rfl (W := 0) (nlq rfl) rfl (by decide) (by decide) (by decide) (by decide) nlr rfl ?_
  rintro _ _ ⟨p2, rfl, rfl, ep2, rp2⟩
  refine Run.join (P := fun z => (if p2 = (0 : Int32) then (0 : Int32) else (1 : Int32)) = z ∧ (0 ≤ z.toInt ∧ z.toInt ≤ 1)) (pcB := 55) (LB := fun z => #[.val (.ref a1), .val (.ref a2), .val (.ref a2)]) (SB := fun z => [(.int z)]) (fun key => ?_) ?_
  ·
   refine r_ifeq H 54 50 d_j42_66_47 (by decide) (by decide) rfl (fun c4 => ?_) (fun c4 => ?_)
   ·
    have rr5 : 0 ≤ p2.toInt ∧ p2.toInt ≤ 0 := by have := rp2; have : (0 : Int32).toInt = 0 := (by decide); have hc_ := c4; simp only [Int32.lt_iff_toInt_lt, ← Int32.toInt_inj] at hc_; omega
    refine r_iconst H 55 (0 : Int32) d_j42_66_54 (by decide) rfl ?_
    exact key (0 : Int32) ⟨(by rw [if_pos c4]), (by have : (0 : Int32).toInt = 0 := (by decide); omega)⟩
   ·
    have rr6 : 1 ≤ p2.toInt ∧ p2.toInt ≤ 1 := by have := rp2; have : (0 : Int32).toInt = 0 := (by decide); have hc_ := c4; simp only [Int32.lt_iff_toInt_lt, ← Int32.toInt_inj] at hc_; omega
    refine r_iconst H 51 (1 : Int32) d_j42_66_50 (by decide) rfl ?_
    refine r_goto H 55 d_j42_66_51 (by decide) (by decide) ?_
    exact key (1 : Int32) ⟨(by rw [if_neg c4]), (by have : (1 : Int32).toInt = 1 := (by decide); omega)⟩
  rintro p7 ⟨ep7, rp7⟩
  subst ep2 ep7
  exact r_nreturn (if (fn_equals_41 i1 i2 i3 i4 i5 i6) = (0 : Int32) then (0 : Int32) else (1 : Int32)) H (by simp) d_j42_66_55 (nar_bool_id (by have := rp7; omega)) (by decide) (by decide) nlr (fun _ t => t) (⟨_, rfl, rfl, rfl, (by have := rp7; omega)⟩)
def Q_equals_43 (Z : State) (h0 : Heap) (v : Option Value) (h : Heap) : Prop := v = some (.int (0 : Int32)) ∧ h0 = h
def R_equals_43 : Room := { frames := 0, cells := 0, slots := 0, locals := 0 }
theorem rm_equals_43 {w : Bool} {Z : State} {a0 : Array Value} (hw : HW a0 Z) (Ts : List String) (a1 : Addr) (a2 : Addr) (i1 : Int32) (i2 : Int32) (i3 : Int32) (i4 : Int32) (i5 : Int32) (i6 : Int32) (c1 : ClassId) (c2 : ClassId) (h0 : Heap) (f : Nat) (Zf : Z.heap.size ≤ f) (Z0 : f ≤ h0.size) (A_a1 : Ar Z h0 a1 c1 .byte [(.int i1), (.int i2), (.int i3), (.int i4), (.int i5), (.int i6)]) (A_a2 : Ar Z h0 a2 c2 .byte [(.int (45 : Int32)), (.int (104 : Int32))]) :
  Con w [] Z (⟨"java/lang/StringLatin1", "equals", "([B[B)Z"⟩ : MethodName) jdk_43_method_13_code 3 (some .boolean) R_equals_43 Ts Ts f #[(.ref a1), (.ref a2)] h0 (Q_equals_43 Z h0) := by
 refine con_of f #[.val (.ref a1), .val (.ref a2), .unset] (plainFor_of_name pn_3) (fun m => rfl) Zf ?_
 intro C H hX0
 refine r_aloadN H 1 d_j43_13_0 rfl rfl rfl ?_
 refine r_alen H 2 (6 : Int32) d_j43_13_1 A_a1 rfl rfl ?_
 refine r_aloadN H 3 d_j43_13_2 rfl rfl rfl ?_
 refine r_alen H 4 (2 : Int32) d_j43_13_3 A_a2 rfl rfl ?_
 refine r_icmpneT H 34 d_j43_13_4 (by decide) (by decide) (by decide) ?_
 refine r_iconst H 35 (0 : Int32) d_j43_13_34 (by decide) rfl ?_
 exact r_nreturn (0 : Int32) H (by simp) d_j43_13_35 (by decide) (by decide) (by decide) nlr (fun _ t => t) (⟨rfl, rfl⟩)
def Q_equals_42 (Z : State) (h0 : Heap) (v : Option Value) (h : Heap) : Prop := v = some (.int (0 : Int32)) ∧ h0 = h
def R_equals_42 : Room := { frames := 1, cells := 0, slots := 0, locals := 14 }
theorem rm_equals_42 {w : Bool} {Z : State} {a0 : Array Value} (hw : HW a0 Z) (Ts : List String) (a1 : Addr) (a2 : Addr) (a3 : Addr) (a4 : Addr) (i1 : Int32) (i2 : Int32) (i3 : Int32) (i4 : Int32) (i5 : Int32) (i6 : Int32) (c1 : ClassId) (c2 : ClassId) (cs : Int32) (h0 : Heap) (f : Nat) (Zf : Z.heap.size ≤ f) (Z0 : f ≤ h0.size) (F_value_a1 : Fld Z h0 a1 "java/lang/String" "value" "[B" (.ref a3)) (F_value_a2 : Fld Z h0 a2 "java/lang/String" "value" "[B" (.ref a4)) (A_a3 : Ar Z h0 a3 c1 .byte [(.int i1), (.int i2), (.int i3), (.int i4), (.int i5), (.int i6)]) (A_a4 : Ar Z h0 a4 c2 .byte [(.int (45 : Int32)), (.int (104 : Int32))]) (E_a2 : Exa Z h0 a2 "java/lang/String") (F_coder_a1 : Fld Z h0 a1 "java/lang/String" "coder" "B" (.int (0 : Int32))) (F_coder_a2 : Fld Z h0 a2 "java/lang/String" "coder" "B" (.int (0 : Int32))) (S_cs : G_S_cs Z cs) (hcs : ¬ cs = 0) :
  Con w [] Z (⟨"java/lang/String", "equals", "(Ljava/lang/Object;)Z"⟩ : MethodName) jdk_42_method_66_code 3 (some .boolean) R_equals_42 Ts Ts f #[(.ref a1), (.ref a2)] h0 (Q_equals_42 Z h0) := by
 refine con_of f #[.val (.ref a1), .val (.ref a2), .unset] (plainFor_of_name pn_2) (fun m => rfl) Zf ?_
 intro C H hX0
 refine r_aloadN H 1 d_j42_66_0 rfl rfl rfl ?_
 refine r_aloadN H 2 d_j42_66_1 rfl rfl rfl ?_
 by_cases hab1 : a1 = a2
 · exact absurd (str_eqv (hab1 ▸ F_value_a1) F_value_a2 A_a3 A_a4) (by simp)
 refine r_acmp H 7 false d_j42_66_2 rfl rfl (decide_eq_false fun q => hab1 (Value.ref.inj q)) (by decide) (by decide) ?_
 refine r_aloadN H 8 d_j42_66_7 rfl rfl rfl ?_
 refine r_instY H 11 d_j42_66_8 (tw49 hw) (Ins.self E_a2) rfl ?_
 refine r_ifeqF H 14 d_j42_66_11 rfl (by decide) ?_
 refine r_aloadN H 15 d_j42_66_14 rfl rfl rfl ?_
 refine r_castY H 18 d_j42_66_15 (tw49 hw) (Ins.self E_a2) rfl ?_
 refine r_astoreN H 19 #[.val (.ref a1), .val (.ref a2), .val (.ref a2)] d_j42_66_18 rfl rfl rfl ?_
 refine r_gets H 22 d_j42_66_19 (tw21 hw) Via.refl S_cs rfl ?_
 refine r_ifeqF H 25 d_j42_66_22 rfl hcs ?_
 refine r_aloadN H 26 d_j42_66_25 rfl rfl rfl ?_
 refine r_getf H 29 d_j42_66_26 (tw33 hw) Via.refl F_coder_a1 rfl ?_
 refine r_aloadN H 30 d_j42_66_29 rfl rfl rfl ?_
 refine r_getf H 33 d_j42_66_30 (tw33 hw) Via.refl F_coder_a2 rfl ?_
 refine r_icmpneF H 36 d_j42_66_33 rfl (by decide) ?_
 refine r_aloadN H 37 d_j42_66_36 rfl rfl rfl ?_
 refine r_getf H 40 d_j42_66_37 (tw35 hw) Via.refl F_value_a1 rfl ?_
 refine r_aloadN H 41 d_j42_66_40 rfl rfl rfl ?_
 refine r_getf H 44 d_j42_66_41 (tw35 hw) Via.refl F_value_a2 rfl ?_
 refine r_static H 47 d_j42_66_44 (tw50 hw) (tw51 hw) (tw52 hw) (tw53 hw) (by decide) (lenOf pd_7 rfl) (rm_equals_43 hw Ts a3 a4 i1 i2 i3 i4 i5 i6 c1 c2 h0 f Zf Z0 A_a3 A_a4) (argsL := [(.ref a3), (.ref a4)]) (rest := []) rfl (W := 0) (nlq rfl) rfl (by decide) (by decide) (by decide) (by decide) nlr rfl ?_
 rintro _ _ ⟨rfl, rfl⟩
 refine r_ifeqT H 54 d_j42_66_47 (by decide) (by decide) (by decide) ?_
 refine r_iconst H 55 (0 : Int32) d_j42_66_54 (by decide) rfl ?_
 exact r_nreturn (0 : Int32) H (by simp) d_j42_66_55 (by decide) (by decide) (by decide) nlr (fun _ t => t) (⟨rfl, rfl⟩)
def Q_isHelp_39 (Z : State) (i1 : Int32) (i2 : Int32) (i3 : Int32) (i4 : Int32) (i5 : Int32) (i6 : Int32) (h0 : Heap) (v : Option Value) (h : Heap) : Prop := (v = some (.int (1 : Int32)) ∧ (¬ (fn_equals_40 i1 i2 i3 i4 i5 i6) = (0 : Int32)) ∧ Keep h0 h []) ∨ (v = some (.int (0 : Int32)) ∧ ((fn_equals_40 i1 i2 i3 i4 i5 i6) = (0 : Int32)) ∧ Keep h0 h [])
def R_isHelp_39 : Room := { frames := 2, cells := 4, slots := 40, locals := 28 }
theorem rm_isHelp_39 {Z : State} {a0 : Array Value} (hw : HW a0 Z) (Ts : List String) (a1 : Addr) (a2 : Addr) (i1 : Int32) (i2 : Int32) (i3 : Int32) (i4 : Int32) (i5 : Int32) (i6 : Int32) (c1 : ClassId) (cs : Int32) (h0 : Heap) (f : Nat) (Zf : Z.heap.size ≤ f) (Z0 : f ≤ h0.size) (E_a1 : Exa Z h0 a1 "java/lang/String") (F_value_a1 : Fld Z h0 a1 "java/lang/String" "value" "[B" (.ref a2)) (A_a2 : Ar Z h0 a2 c1 .byte [(.int i1), (.int i2), (.int i3), (.int i4), (.int i5), (.int i6)]) (F_coder_a1 : Fld Z h0 a1 "java/lang/String" "coder" "B" (.int (0 : Int32))) (wS : G_wS Z a0) (hcw : G_hcw Z a0) (hh0 : G_hh0 Z) (S_cs : G_S_cs Z cs) (hh1 : G_hh1 Z) (hT__2d__2d_help : "--help" ∉ Ts) (hT__2d_h : "-h" ∉ Ts) (hcs : ¬ cs = 0) :
  Con true [] Z (⟨"com/example/maniera/maniera/cli/CommandLine", "isHelp", "(Ljava/lang/String;)Z"⟩ : MethodName) prog_2_method_4_code 1 (some .boolean) R_isHelp_39 Ts ("--help" :: "-h" :: Ts) f #[(.ref a1)] h0 (Q_isHelp_39 Z i1 i2 i3 i4 i5 i6 h0) := by
 refine con_of h0.size #[.val (.ref a1)] (plainFor_of_name pn_4) (fun m => rfl) (nlt Zf Z0) ?_
 intro C H hX0
 refine r_aloadN H 1 d_g2_4_0 rfl rfl rfl ?_
 refine r_ldcS H 3 (vs := [(.int (45 : Int32)), (.int (45 : Int32)), (.int (104 : Int32)), (.int (101 : Int32)), (.int (108 : Int32)), (.int (112 : Int32))]) (z := (6 : Int32)) 24 d_g2_4_1 (tw41 hw) wS hT__2d__2d_help hh0 hcw ⟨by decide, by decide⟩ (by decide) (by decide) (by decide) (by decide) (by decide) (by decide) rfl ?_
 intro h1 la1 lv1 kl1 K1 E1 C1 V1 A1 D1
 have q2 := (F_value_a1.keep K1 nin0)
 have q3 := (A_a2.keep K1 nin0)
 have q4 := (F_coder_a1.keep K1 nin0)
 have q5 := (E_a1.keep K1)
 refine r_virtual H 6 (z := (⟨"java/lang/String", "equals", "(Ljava/lang/Object;)Z"⟩ : MethodName)) (a := a1) d_g2_4_3 (tw44 hw) (tw45 hw) (nf_sel (tw47 hw)) (tw47 hw) (tw46 hw) (tw10 hw) (tw48 hw) (by decide) q5 (lenOf pd_8 rfl) (rm_equals_40 hw ("--help" :: Ts) a1 la1 a2 lv1 i1 i2 i3 i4 i5 i6 c1 kl1 cs h1 h0.size (nlt Zf Z0) K1.1 q2 V1 q3 A1 E1 q4 C1 S_cs hcs) (argsL := [(.ref la1)]) (rest := []) rfl (W := 0) (nlq rfl) rfl (by decide) (by decide) (by decide) (by decide) nlr rfl ?_
 rintro _ _ ⟨p6, rfl, rfl, ep6, rp6⟩
 refine r_ifne H 18 9 d_g2_4_6 (by decide) (by decide) rfl (fun c8 => ?_) (fun c8 => ?_)
 ·
  have rr9 : 1 ≤ p6.toInt ∧ p6.toInt ≤ 1 := by have := rp6; have : (0 : Int32).toInt = 0 := (by decide); have hc_ := c8; simp only [Int32.lt_iff_toInt_lt, ← Int32.toInt_inj] at hc_; omega
  refine r_iconst H 19 (1 : Int32) d_g2_4_18 (by decide) rfl ?_
  refine r_goto H 23 d_g2_4_19 (by decide) (by decide) ?_
  have k10 : Keep h0 h1 [] := Keep.trans (Keep.refl h0 []) K1 all0
  subst ep6
  exact r_nreturn (1 : Int32) H (by simp) d_g2_4_23 (by decide) (by decide) (by decide) Z0 (by intro t ht; simp only [List.mem_cons] at ht ⊢; rcases ht with ht | ht <;> simp [ht]) (Or.inl ⟨rfl, c8, k10⟩)
 ·
  have rr11 : 0 ≤ p6.toInt ∧ p6.toInt ≤ 0 := by have := rp6; have : (0 : Int32).toInt = 0 := (by decide); have hc_ := c8; simp only [Int32.lt_iff_toInt_lt, ← Int32.toInt_inj] at hc_; omega
  refine r_aloadN H 10 d_g2_4_9 rfl rfl rfl ?_
  refine r_ldcS H 12 (vs := [(.int (45 : Int32)), (.int (104 : Int32))]) (z := (2 : Int32)) 8 d_g2_4_10 (tw54 hw) wS (nin_cons (by decide) hT__2d_h) hh1 hcw ⟨by decide, by decide⟩ (by decide) (by decide) (by decide) (by decide) (by decide) (by decide) rfl ?_
  intro h12 la12 lv12 kl12 K12 E12 C12 V12 A12 D12
  have q13 := (q2.keep K12 nin0)
  have q14 := (q3.keep K12 nin0)
  have q15 := (q4.keep K12 nin0)
  have z16 := Nat.le_trans K1.1 K12.1
  have q17 := (q5.keep K12)
  refine r_virtual H 15 (z := (⟨"java/lang/String", "equals", "(Ljava/lang/Object;)Z"⟩ : MethodName)) (a := a1) d_g2_4_12 (tw44 hw) (tw45 hw) (nf_sel (tw47 hw)) (tw47 hw) (tw46 hw) (tw10 hw) (tw48 hw) (by decide) q17 (lenOf pd_8 rfl) (rm_equals_42 hw ("-h" :: "--help" :: Ts) a1 la12 a2 lv12 i1 i2 i3 i4 i5 i6 c1 kl12 cs h12 h0.size (nlt Zf Z0) z16 q13 V12 q14 A12 E12 q15 C12 S_cs hcs) (argsL := [(.ref la12)]) (rest := []) rfl (W := 0) (nlq rfl) rfl (by decide) (by decide) (by decide) (by decide) nlr rfl ?_
  rintro _ _ ⟨rfl, rfl⟩
  refine r_ifeqT H 22 d_g2_4_15 (by decide) (by decide) (by decide) ?_
  refine r_iconst H 23 (0 : Int32) d_g2_4_22 (by decide) rfl ?_
  have k19 : Keep h0 h1 [] := Keep.trans (Keep.refl h0 []) K1 all0
  have k20 : Keep h0 h12 [] := Keep.trans k19 K12 all0
  subst ep6
  exact r_nreturn (0 : Int32) H (by simp) d_g2_4_23 (by decide) (by decide) (by decide) Z0 (by intro t ht; simp only [List.mem_cons] at ht ⊢; rcases ht with ht | ht | ht <;> simp [ht]) (Or.inr (⟨rfl, c8, k20⟩))
def Q_compress_48 (Z : State) (a2 : Addr) (i1 : Int32) (i2 : Int32) (i3 : Int32) (i4 : Int32) (i5 : Int32) (c2 : ClassId) (h0 : Heap) (v : Option Value) (h : Heap) : Prop := v = some (.int (5 : Int32)) ∧ Keep h0 h [a2] ∧ Ar Z h a2 c2 .byte [(.int (cB8 i1)), (.int (cB8 i2)), (.int (cB8 i3)), (.int (cB8 i4)), (.int (cB8 i5))] ∧ Exa Z h a2 "[B"
def R_compress_48 : Room := { frames := 0, cells := 0, slots := 0, locals := 0 }
theorem rm_compress_48 {w : Bool} {Z : State} {a0 : Array Value} (hw : HW a0 Z) (Ts : List String) (a1 : Addr) (a2 : Addr) (i1 : Int32) (i2 : Int32) (i3 : Int32) (i4 : Int32) (i5 : Int32) (c1 : ClassId) (c2 : ClassId) (h0 : Heap) (f : Nat) (Zf : Z.heap.size ≤ f) (Z0 : f ≤ h0.size) (A_a1 : Ar Z h0 a1 c1 .char [(.int i1), (.int i2), (.int i3), (.int i4), (.int i5)]) (A_a2 : Ar Z h0 a2 c2 .byte [(.int (0 : Int32)), (.int (0 : Int32)), (.int (0 : Int32)), (.int (0 : Int32)), (.int (0 : Int32))]) (g_a2 : f ≤ a2) (E_a2 : Exa Z h0 a2 "[B") (E_a1 : Exa Z h0 a1 "[C") (r_i1 : 0 ≤ i1.toInt ∧ i1.toInt ≤ 255) (r_i2 : 0 ≤ i2.toInt ∧ i2.toInt ≤ 255) (r_i3 : 0 ≤ i3.toInt ∧ i3.toInt ≤ 255) (r_i4 : 0 ≤ i4.toInt ∧ i4.toInt ≤ 255) (r_i5 : 0 ≤ i5.toInt ∧ i5.toInt ≤ 255) :
  Con w [] Z (⟨"java/lang/StringUTF16", "compress", "([CI[BII)I"⟩ : MethodName) jdk_52_method_21_code 7 (some .int) R_compress_48 Ts Ts f #[(.ref a1), (.int (0 : Int32)), (.ref a2), (.int (0 : Int32)), (.int (5 : Int32))] h0 (Q_compress_48 Z a2 i1 i2 i3 i4 i5 c2 h0) := by
 refine con_of f #[.val (.ref a1), .val (.int (0 : Int32)), .val (.ref a2), .val (.int (0 : Int32)), .val (.int (5 : Int32)), .unset, .unset] (plainFor_of_name pn_1) (fun m => rfl) Zf ?_
 intro C H hX0
 refine r_iconst H 1 (0 : Int32) d_j52_21_0 (by decide) rfl ?_
 refine r_istore H 3 #[.val (.ref a1), .val (.int (0 : Int32)), .val (.ref a2), .val (.int (0 : Int32)), .val (.int (5 : Int32)), .val (.int (0 : Int32)), .unset] d_j52_21_1 rfl rfl ?_
 refine r_iload H 5 d_j52_21_3 rfl rfl ?_
 refine r_iload H 7 d_j52_21_5 rfl rfl ?_
 refine r_icmpgeF H 10 d_j52_21_7 rfl (by decide) ?_
 refine r_aloadN H 11 d_j52_21_10 rfl rfl rfl ?_
 refine r_iloadN H 12 d_j52_21_11 rfl rfl ?_
 refine r_caload H 13 i1 d_j52_21_12 A_a1 (by decide) rfl rfl ?_
 refine r_istore H 15 #[.val (.ref a1), .val (.int (0 : Int32)), .val (.ref a2), .val (.int (0 : Int32)), .val (.int (5 : Int32)), .val (.int (0 : Int32)), .val (.int i1)] d_j52_21_13 rfl rfl ?_
 refine r_iload H 17 d_j52_21_15 rfl rfl ?_
 refine r_sipush H 20 (255 : Int32) d_j52_21_17 (by decide) rfl ?_
 refine r_icmpleT H 26 d_j52_21_20 (by decide) (by decide) (by have := r_i1; have : (255 : Int32).toInt = 255 := (by decide); simp only [Int32.lt_iff_toInt_lt, ← Int32.toInt_inj]; omega) ?_
 refine r_aloadN H 27 d_j52_21_26 rfl rfl rfl ?_
 refine r_iloadN H 28 d_j52_21_27 rfl rfl ?_
 refine r_iload H 30 d_j52_21_28 rfl rfl ?_
 obtain ⟨p1, ep1, rp1⟩ : ∃ p : Int32, (i1.toInt8.toInt32) = p ∧ -128 ≤ p.toInt ∧ p.toInt ≤ 127 := ⟨_, rfl, (by have h := c_i2b i1; omega)⟩
 refine r_i2b H 31 p1 d_j52_21_30 ep1 rfl ?_
 refine r_bastore H 32 p1 d_j52_21_31 A_a2 (by decide) (Nat.le_of_ble_eq_true rfl) g_a2 (nar_byte_id (by have := rp1; omega)) rfl ?_
 intro h2 K2 A2
 change Ar Z h2 a2 c2 .byte [(.int p1), (.int (0 : Int32)), (.int (0 : Int32)), (.int (0 : Int32)), (.int (0 : Int32))] at A2
 refine r_iinc H 35 #[.val (.ref a1), .val (.int (1 : Int32)), .val (.ref a2), .val (.int (0 : Int32)), .val (.int (5 : Int32)), .val (.int (0 : Int32)), .val (.int i1)] (1 : Int32) d_j52_21_32 rfl (by decide) rfl rfl ?_
 refine r_iinc H 38 #[.val (.ref a1), .val (.int (1 : Int32)), .val (.ref a2), .val (.int (1 : Int32)), .val (.int (5 : Int32)), .val (.int (0 : Int32)), .val (.int i1)] (1 : Int32) d_j52_21_35 rfl (by decide) rfl rfl ?_
 refine r_iinc H 41 #[.val (.ref a1), .val (.int (1 : Int32)), .val (.ref a2), .val (.int (1 : Int32)), .val (.int (5 : Int32)), .val (.int (1 : Int32)), .val (.int i1)] (1 : Int32) d_j52_21_38 rfl (by decide) rfl rfl ?_
 refine r_goto H 3 d_j52_21_41 (by decide) (by decide) ?_
 refine r_iload H 5 d_j52_21_3 rfl rfl ?_
 refine r_iload H 7 d_j52_21_5 rfl rfl ?_
 refine r_icmpgeF H 10 d_j52_21_7 rfl (by decide) ?_
 refine r_aloadN H 11 d_j52_21_10 rfl rfl rfl ?_
 refine r_iloadN H 12 d_j52_21_11 rfl rfl ?_
 have q3 := (E_a1.keep K2)
 have q4 := (E_a2.keep K2)
 have q5 := (A_a1.keep K2 (ninS (ne_exa q3 q4 (by decide)) nin0))
 refine r_caload H 13 i2 d_j52_21_12 q5 (by decide) rfl rfl ?_
 refine r_istore H 15 #[.val (.ref a1), .val (.int (1 : Int32)), .val (.ref a2), .val (.int (1 : Int32)), .val (.int (5 : Int32)), .val (.int (1 : Int32)), .val (.int i2)] d_j52_21_13 rfl rfl ?_
 refine r_iload H 17 d_j52_21_15 rfl rfl ?_
 refine r_sipush H 20 (255 : Int32) d_j52_21_17 (by decide) rfl ?_
 refine r_icmpleT H 26 d_j52_21_20 (by decide) (by decide) (by have := r_i2; have : (255 : Int32).toInt = 255 := (by decide); simp only [Int32.lt_iff_toInt_lt, ← Int32.toInt_inj]; omega) ?_
 refine r_aloadN H 27 d_j52_21_26 rfl rfl rfl ?_
 refine r_iloadN H 28 d_j52_21_27 rfl rfl ?_
 refine r_iload H 30 d_j52_21_28 rfl rfl ?_
 obtain ⟨p6, ep6, rp6⟩ : ∃ p : Int32, (i2.toInt8.toInt32) = p ∧ -128 ≤ p.toInt ∧ p.toInt ≤ 127 := ⟨_, rfl, (by have h := c_i2b i2; omega)⟩
 refine r_i2b H 31 p6 d_j52_21_30 ep6 rfl ?_
 refine r_bastore H 32 p6 d_j52_21_31 A2 (by decide) (Nat.le_of_ble_eq_true rfl) g_a2 (nar_byte_id (by have := rp6; omega)) rfl ?_
 intro h7 K7 A7
 change Ar Z h7 a2 c2 .byte [(.int p1), (.int p6), (.int (0 : Int32)), (.int (0 : Int32)), (.int (0 : Int32))] at A7
 refine r_iinc H 35 #[.val (.ref a1), .val (.int (2 : Int32)), .val (.ref a2), .val (.int (1 : Int32)), .val (.int (5 : Int32)), .val (.int (1 : Int32)), .val (.int i2)] (2 : Int32) d_j52_21_32 rfl (by decide) rfl rfl ?_
 refine r_iinc H 38 #[.val (.ref a1), .val (.int (2 : Int32)), .val (.ref a2), .val (.int (2 : Int32)), .val (.int (5 : Int32)), .val (.int (1 : Int32)), .val (.int i2)] (2 : Int32) d_j52_21_35 rfl (by decide) rfl rfl ?_
 refine r_iinc H 41 #[.val (.ref a1), .val (.int (2 : Int32)), .val (.ref a2), .val (.int (2 : Int32)), .val (.int (5 : Int32)), .val (.int (2 : Int32)), .val (.int i2)] (2 : Int32) d_j52_21_38 rfl (by decide) rfl rfl ?_
 refine r_goto H 3 d_j52_21_41 (by decide) (by decide) ?_
 refine r_iload H 5 d_j52_21_3 rfl rfl ?_
 refine r_iload H 7 d_j52_21_5 rfl rfl ?_
 refine r_icmpgeF H 10 d_j52_21_7 rfl (by decide) ?_
 refine r_aloadN H 11 d_j52_21_10 rfl rfl rfl ?_
 refine r_iloadN H 12 d_j52_21_11 rfl rfl ?_
 have q8 := (q3.keep K7)
 have q9 := (q4.keep K7)
 have q10 := (q5.keep K7 (ninS (ne_exa q8 q9 (by decide)) nin0))
 refine r_caload H 13 i3 d_j52_21_12 q10 (by decide) rfl rfl ?_
 refine r_istore H 15 #[.val (.ref a1), .val (.int (2 : Int32)), .val (.ref a2), .val (.int (2 : Int32)), .val (.int (5 : Int32)), .val (.int (2 : Int32)), .val (.int i3)] d_j52_21_13 rfl rfl ?_
 refine r_iload H 17 d_j52_21_15 rfl rfl ?_
 refine r_sipush H 20 (255 : Int32) d_j52_21_17 (by decide) rfl ?_
 refine r_icmpleT H 26 d_j52_21_20 (by decide) (by decide) (by have := r_i3; have : (255 : Int32).toInt = 255 := (by decide); simp only [Int32.lt_iff_toInt_lt, ← Int32.toInt_inj]; omega) ?_
 refine r_aloadN H 27 d_j52_21_26 rfl rfl rfl ?_
 refine r_iloadN H 28 d_j52_21_27 rfl rfl ?_
 refine r_iload H 30 d_j52_21_28 rfl rfl ?_
 obtain ⟨p11, ep11, rp11⟩ : ∃ p : Int32, (i3.toInt8.toInt32) = p ∧ -128 ≤ p.toInt ∧ p.toInt ≤ 127 := ⟨_, rfl, (by have h := c_i2b i3; omega)⟩
 refine r_i2b H 31 p11 d_j52_21_30 ep11 rfl ?_
 refine r_bastore H 32 p11 d_j52_21_31 A7 (by decide) (Nat.le_of_ble_eq_true rfl) g_a2 (nar_byte_id (by have := rp11; omega)) rfl ?_
 intro h12 K12 A12
 change Ar Z h12 a2 c2 .byte [(.int p1), (.int p6), (.int p11), (.int (0 : Int32)), (.int (0 : Int32))] at A12
 refine r_iinc H 35 #[.val (.ref a1), .val (.int (3 : Int32)), .val (.ref a2), .val (.int (2 : Int32)), .val (.int (5 : Int32)), .val (.int (2 : Int32)), .val (.int i3)] (3 : Int32) d_j52_21_32 rfl (by decide) rfl rfl ?_
 refine r_iinc H 38 #[.val (.ref a1), .val (.int (3 : Int32)), .val (.ref a2), .val (.int (3 : Int32)), .val (.int (5 : Int32)), .val (.int (2 : Int32)), .val (.int i3)] (3 : Int32) d_j52_21_35 rfl (by decide) rfl rfl ?_
 refine r_iinc H 41 #[.val (.ref a1), .val (.int (3 : Int32)), .val (.ref a2), .val (.int (3 : Int32)), .val (.int (5 : Int32)), .val (.int (3 : Int32)), .val (.int i3)] (3 : Int32) d_j52_21_38 rfl (by decide) rfl rfl ?_
 refine r_goto H 3 d_j52_21_41 (by decide) (by decide) ?_
 refine r_iload H 5 d_j52_21_3 rfl rfl ?_
 refine r_iload H 7 d_j52_21_5 rfl rfl ?_
 refine r_icmpgeF H 10 d_j52_21_7 rfl (by decide) ?_
 refine r_aloadN H 11 d_j52_21_10 rfl rfl rfl ?_
 refine r_iloadN H 12 d_j52_21_11 rfl rfl ?_
 have q13 := (q8.keep K12)
 have q14 := (q9.keep K12)
 have q15 := (q10.keep K12 (ninS (ne_exa q13 q14 (by decide)) nin0))
 refine r_caload H 13 i4 d_j52_21_12 q15 (by decide) rfl rfl ?_
 refine r_istore H 15 #[.val (.ref a1), .val (.int (3 : Int32)), .val (.ref a2), .val (.int (3 : Int32)), .val (.int (5 : Int32)), .val (.int (3 : Int32)), .val (.int i4)] d_j52_21_13 rfl rfl ?_
 refine r_iload H 17 d_j52_21_15 rfl rfl ?_
 refine r_sipush H 20 (255 : Int32) d_j52_21_17 (by decide) rfl ?_
 refine r_icmpleT H 26 d_j52_21_20 (by decide) (by decide) (by have := r_i4; have : (255 : Int32).toInt = 255 := (by decide); simp only [Int32.lt_iff_toInt_lt, ← Int32.toInt_inj]; omega) ?_
 refine r_aloadN H 27 d_j52_21_26 rfl rfl rfl ?_
 refine r_iloadN H 28 d_j52_21_27 rfl rfl ?_
 refine r_iload H 30 d_j52_21_28 rfl rfl ?_
 obtain ⟨p16, ep16, rp16⟩ : ∃ p : Int32, (i4.toInt8.toInt32) = p ∧ -128 ≤ p.toInt ∧ p.toInt ≤ 127 := ⟨_, rfl, (by have h := c_i2b i4; omega)⟩
 refine r_i2b H 31 p16 d_j52_21_30 ep16 rfl ?_
 refine r_bastore H 32 p16 d_j52_21_31 A12 (by decide) (Nat.le_of_ble_eq_true rfl) g_a2 (nar_byte_id (by have := rp16; omega)) rfl ?_
 intro h17 K17 A17
 change Ar Z h17 a2 c2 .byte [(.int p1), (.int p6), (.int p11), (.int p16), (.int (0 : Int32))] at A17
 refine r_iinc H 35 #[.val (.ref a1), .val (.int (4 : Int32)), .val (.ref a2), .val (.int (3 : Int32)), .val (.int (5 : Int32)), .val (.int (3 : Int32)), .val (.int i4)] (4 : Int32) d_j52_21_32 rfl (by decide) rfl rfl ?_
 refine r_iinc H 38 #[.val (.ref a1), .val (.int (4 : Int32)), .val (.ref a2), .val (.int (4 : Int32)), .val (.int (5 : Int32)), .val (.int (3 : Int32)), .val (.int i4)] (4 : Int32) d_j52_21_35 rfl (by decide) rfl rfl ?_
 refine r_iinc H 41 #[.val (.ref a1), .val (.int (4 : Int32)), .val (.ref a2), .val (.int (4 : Int32)), .val (.int (5 : Int32)), .val (.int (4 : Int32)), .val (.int i4)] (4 : Int32) d_j52_21_38 rfl (by decide) rfl rfl ?_
 refine r_goto H 3 d_j52_21_41 (by decide) (by decide) ?_
 refine r_iload H 5 d_j52_21_3 rfl rfl ?_
 refine r_iload H 7 d_j52_21_5 rfl rfl ?_
 refine r_icmpgeF H 10 d_j52_21_7 rfl (by decide) ?_
 refine r_aloadN H 11 d_j52_21_10 rfl rfl rfl ?_
 refine r_iloadN H 12 d_j52_21_11 rfl rfl ?_
 have q18 := (q13.keep K17)
 have q19 := (q14.keep K17)
 have q20 := (q15.keep K17 (ninS (ne_exa q18 q19 (by decide)) nin0))
 refine r_caload H 13 i5 d_j52_21_12 q20 (by decide) rfl rfl ?_
 refine r_istore H 15 #[.val (.ref a1), .val (.int (4 : Int32)), .val (.ref a2), .val (.int (4 : Int32)), .val (.int (5 : Int32)), .val (.int (4 : Int32)), .val (.int i5)] d_j52_21_13 rfl rfl ?_
 refine r_iload H 17 d_j52_21_15 rfl rfl ?_
 refine r_sipush H 20 (255 : Int32) d_j52_21_17 (by decide) rfl ?_
 refine r_icmpleT H 26 d_j52_21_20 (by decide) (by decide) (by have := r_i5; have : (255 : Int32).toInt = 255 := (by decide); simp only [Int32.lt_iff_toInt_lt, ← Int32.toInt_inj]; omega) ?_
 refine r_aloadN H 27 d_j52_21_26 rfl rfl rfl ?_
 refine r_iloadN H 28 d_j52_21_27 rfl rfl ?_
 refine r_iload H 30 d_j52_21_28 rfl rfl ?_
 obtain ⟨p21, ep21, rp21⟩ : ∃ p : Int32, (i5.toInt8.toInt32) = p ∧ -128 ≤ p.toInt ∧ p.toInt ≤ 127 := ⟨_, rfl, (by have h := c_i2b i5; omega)⟩
 refine r_i2b H 31 p21 d_j52_21_30 ep21 rfl ?_
 refine r_bastore H 32 p21 d_j52_21_31 A17 (by decide) (Nat.le_of_ble_eq_true rfl) g_a2 (nar_byte_id (by have := rp21; omega)) rfl ?_
 intro h22 K22 A22
 change Ar Z h22 a2 c2 .byte [(.int p1), (.int p6), (.int p11), (.int p16), (.int p21)] at A22
 refine r_iinc H 35 #[.val (.ref a1), .val (.int (5 : Int32)), .val (.ref a2), .val (.int (4 : Int32)), .val (.int (5 : Int32)), .val (.int (4 : Int32)), .val (.int i5)] (5 : Int32) d_j52_21_32 rfl (by decide) rfl rfl ?_
 refine r_iinc H 38 #[.val (.ref a1), .val (.int (5 : Int32)), .val (.ref a2), .val (.int (5 : Int32)), .val (.int (5 : Int32)), .val (.int (4 : Int32)), .val (.int i5)] (5 : Int32) d_j52_21_35 rfl (by decide) rfl rfl ?_
 refine r_iinc H 41 #[.val (.ref a1), .val (.int (5 : Int32)), .val (.ref a2), .val (.int (5 : Int32)), .val (.int (5 : Int32)), .val (.int (5 : Int32)), .val (.int i5)] (5 : Int32) d_j52_21_38 rfl (by decide) rfl rfl ?_
 refine r_goto H 3 d_j52_21_41 (by decide) (by decide) ?_
 refine r_iload H 5 d_j52_21_3 rfl rfl ?_
 refine r_iload H 7 d_j52_21_5 rfl rfl ?_
 refine r_icmpgeT H 44 d_j52_21_7 (by decide) (by decide) (by decide) ?_
 refine r_iload H 46 d_j52_21_44 rfl rfl ?_
 have k23 : Keep h0 h2 [a2] := Keep.trans (Keep.refl h0 [a2]) K2 (allS (Or.inl (List.mem_of_getElem? (i := 0) rfl)) all0)
 have k24 : Keep h0 h7 [a2] := Keep.trans k23 K7 (allS (Or.inl (List.mem_of_getElem? (i := 0) rfl)) all0)
 have k25 : Keep h0 h12 [a2] := Keep.trans k24 K12 (allS (Or.inl (List.mem_of_getElem? (i := 0) rfl)) all0)
 have k26 : Keep h0 h17 [a2] := Keep.trans k25 K17 (allS (Or.inl (List.mem_of_getElem? (i := 0) rfl)) all0)
 have k27 : Keep h0 h22 [a2] := Keep.trans k26 K22 (allS (Or.inl (List.mem_of_getElem? (i := 0) rfl)) all0)
 have q28 := (q19.keep K22)
 subst ep1 ep6 ep11 ep16 ep21
 exact r_ireturn H d_j52_21_46 (by decide) (by decide) nlr (fun _ t => t) (⟨rfl, k27, A22, q28⟩)
def Q_compress_47 (Z : State) (i1 : Int32) (i2 : Int32) (i3 : Int32) (i4 : Int32) (i5 : Int32) (h0 : Heap) (v : Option Value) (h : Heap) : Prop := ∃ (b1 : Addr) (kc1 : ClassId), v = some (.ref b1) ∧ Keep h0 h [] ∧ h0.size ≤ b1 ∧ Ar Z h b1 kc1 .byte [(.int (cB8 i1)), (.int (cB8 i2)), (.int (cB8 i3)), (.int (cB8 i4)), (.int (cB8 i5))] ∧ Exa Z h b1 "[B"
def R_compress_47 : Room := { frames := 1, cells := 1, slots := 5, locals := 18 }
theorem rm_compress_47 {w : Bool} {Z : State} {a0 : Array Value} (hw : HW a0 Z) (Ts : List String) (a1 : Addr) (i1 : Int32) (i2 : Int32) (i3 : Int32) (i4 : Int32) (i5 : Int32) (c1 : ClassId) (h0 : Heap) (f : Nat) (Zf : Z.heap.size ≤ f) (Z0 : f ≤ h0.size) (A_a1 : Ar Z h0 a1 c1 .char [(.int i1), (.int i2), (.int i3), (.int i4), (.int i5)]) (E_a1 : Exa Z h0 a1 "[C") (r_i1 : 0 ≤ i1.toInt ∧ i1.toInt ≤ 255) (r_i2 : 0 ≤ i2.toInt ∧ i2.toInt ≤ 255) (r_i3 : 0 ≤ i3.toInt ∧ i3.toInt ≤ 255) (r_i4 : 0 ≤ i4.toInt ∧ i4.toInt ≤ 255) (r_i5 : 0 ≤ i5.toInt ∧ i5.toInt ≤ 255) :
  Con w [] Z (⟨"java/lang/StringUTF16", "compress", "([CII)[B"⟩ : MethodName) jdk_52_method_16_code 6 (some (.array .byte)) R_compress_47 Ts Ts f #[(.ref a1), (.int (0 : Int32)), (.int (5 : Int32))] h0 (Q_compress_47 Z i1 i2 i3 i4 i5 h0) := by
 refine con_of f #[.val (.ref a1), .val (.int (0 : Int32)), .val (.int (5 : Int32)), .unset, .unset, .unset] (plainFor_of_name pn_1) (fun m => rfl) Zf ?_
 intro C H hX0
 refine r_iloadN H 1 d_j52_16_0 rfl rfl ?_
 refine r_newP H 3 "[B" 5 d_j52_16_1 (tw26 hw) rfl (by decide) (by decide) (by decide) (by decide) (by decide) rfl ?_
 intro h1 b1 kc1 g1 l1 K1 E1 A1
 change Ar Z h1 b1 kc1 .byte [(.int (0 : Int32)), (.int (0 : Int32)), (.int (0 : Int32)), (.int (0 : Int32)), (.int (0 : Int32))] at A1
 refine r_astoreN H 4 #[.val (.ref a1), .val (.int (0 : Int32)), .val (.int (5 : Int32)), .val (.ref b1), .unset, .unset] d_j52_16_3 rfl rfl rfl ?_
 refine r_aloadN H 5 d_j52_16_4 rfl rfl rfl ?_
 refine r_iloadN H 6 d_j52_16_5 rfl rfl ?_
 refine r_aloadN H 7 d_j52_16_6 rfl rfl rfl ?_
 refine r_iconst H 8 (0 : Int32) d_j52_16_7 (by decide) rfl ?_
 refine r_iloadN H 9 d_j52_16_8 rfl rfl ?_
 have q2 := (A_a1.keep K1 nin0)
 have q3 := (E_a1.keep K1)
 refine r_static H 12 d_j52_16_9 (tw27 hw) (tw28 hw) (tw24 hw) (tw29 hw) (by decide) (lenOf pd_1 rfl) (rm_compress_48 hw Ts a1 b1 i1 i2 i3 i4 i5 c1 kc1 h1 f Zf (nlt Z0 K1.1) q2 A1 (nlt Z0 (Nat.le_of_eq g1.symm)) E1 q3 r_i1 r_i2 r_i3 r_i4 r_i5) (argsL := [(.ref a1), (.int (0 : Int32)), (.ref b1), (.int (0 : Int32)), (.int (5 : Int32))]) (rest := []) rfl (W := 0) (nlq rfl) rfl (by decide) (by decide) (by decide) (by decide) nlr rfl ?_
 rintro _ hh7 ⟨rfl, K4, q5, q6⟩
 refine r_istore H 14 #[.val (.ref a1), .val (.int (0 : Int32)), .val (.int (5 : Int32)), .val (.ref b1), .val (.int (5 : Int32)), .unset] d_j52_16_12 rfl rfl ?_
 refine r_iload H 16 d_j52_16_14 rfl rfl ?_
 refine r_iloadN H 17 d_j52_16_16 rfl rfl ?_
 refine r_icmpeqT H 57 d_j52_16_17 (by decide) (by decide) (by decide) ?_
 refine r_aloadN H 58 d_j52_16_57 rfl rfl rfl ?_
 have k8 : Keep h0 h1 [] := Keep.trans (Keep.refl h0 []) K1 all0
 have k9 : Keep h0 hh7 [] := Keep.trans k8 K4 (allS (Or.inr (nlt nlr (Nat.le_of_eq g1.symm))) all0)
 exact r_areturn H rfl rfl d_j52_16_58 (by decide) (by decide) nlr (fun _ t => t) (⟨b1, kc1, rfl, k9, (nlt nlr (Nat.le_of_eq g1.symm)), q5, q6⟩)
def Q_coderFromArrayLen_49 (Z : State) (h0 : Heap) (v : Option Value) (h : Heap) : Prop := v = some (.int (0 : Int32)) ∧ h0 = h
def R_coderFromArrayLen_49 : Room := { frames := 0, cells := 0, slots := 0, locals := 0 }
theorem rm_coderFromArrayLen_49 {w : Bool} {Z : State} {a0 : Array Value} (hw : HW a0 Z) (Ts : List String) (a1 : Addr) (i1 : Int32) (i2 : Int32) (i3 : Int32) (i4 : Int32) (i5 : Int32) (c1 : ClassId) (h0 : Heap) (f : Nat) (Zf : Z.heap.size ≤ f) (Z0 : f ≤ h0.size) (A_a1 : Ar Z h0 a1 c1 .byte [(.int (cB8 i1)), (.int (cB8 i2)), (.int (cB8 i3)), (.int (cB8 i4)), (.int (cB8 i5))]) :
  Con w [] Z (⟨"java/lang/StringUTF16", "coderFromArrayLen", "([BI)B"⟩ : MethodName) jdk_52_method_15_code 2 (some .byte) R_coderFromArrayLen_49 Ts Ts f #[(.ref a1), (.int (5 : Int32))] h0 (Q_coderFromArrayLen_49 Z h0) := by
 refine con_of f #[.val (.ref a1), .val (.int (5 : Int32))] (plainFor_of_name pn_1) (fun m => rfl) Zf ?_
 intro C H hX0
 refine r_iloadN H 1 d_j52_15_0 rfl rfl ?_
 refine r_aloadN H 2 d_j52_15_1 rfl rfl rfl ?_
 refine r_alen H 3 (5 : Int32) d_j52_15_2 A_a1 rfl rfl ?_
 refine r_isub H 4 (0 : Int32) d_j52_15_3 (by decide) rfl ?_
 refine r_bipush H 6 (31 : Int32) d_j52_15_4 (by decide) rfl ?_
 refine r_iushr H 7 (0 : Int32) d_j52_15_6 (by decide) rfl ?_
 refine r_i2b H 8 (0 : Int32) d_j52_15_7 (by decide) rfl ?_
 exact r_nreturn (0 : Int32) H (by simp) d_j52_15_8 (by decide) (by decide) (by decide) nlr (fun _ t => t) (⟨rfl, rfl⟩)
def Q_init_46 (Z : State) (a1 : Addr) (i1 : Int32) (i2 : Int32) (i3 : Int32) (i4 : Int32) (i5 : Int32) (h0 : Heap) (v : Option Value) (h : Heap) : Prop := ∃ (b1 : Addr) (kc2 : ClassId), v = none ∧ Keep h0 h [a1] ∧ h0.size ≤ b1 ∧ Exa Z h a1 "java/lang/String" ∧ Fld Z h a1 "java/lang/String" "coder" "B" (.int (0 : Int32)) ∧ Fld Z h a1 "java/lang/String" "value" "[B" (.ref b1) ∧ Ar Z h b1 kc2 .byte [(.int (cB8 i1)), (.int (cB8 i2)), (.int (cB8 i3)), (.int (cB8 i4)), (.int (cB8 i5))] ∧ Exa Z h b1 "[B"
def R_init_46 : Room := { frames := 2, cells := 1, slots := 5, locals := 35 }
theorem rm_init_46 {w : Bool} {Z : State} {a0 : Array Value} (hw : HW a0 Z) (Ts : List String) (a1 : Addr) (a2 : Addr) (i1 : Int32) (i2 : Int32) (i3 : Int32) (i4 : Int32) (i5 : Int32) (c1 : ClassId) (cs : Int32) (h0 : Heap) (f : Nat) (Zf : Z.heap.size ≤ f) (Z0 : f ≤ h0.size) (A_a2 : Ar Z h0 a2 c1 .char [(.int i1), (.int i2), (.int i3), (.int i4), (.int i5)]) (E_a2 : Exa Z h0 a2 "[C") (E_a1 : Exa Z h0 a1 "java/lang/String") (F_coder_a1 : Fld Z h0 a1 "java/lang/String" "coder" "B" (.int (0 : Int32))) (g_a1 : f ≤ a1) (F_value_a1 : Fld Z h0 a1 "java/lang/String" "value" "[B" .null) (r_i1 : 0 ≤ i1.toInt ∧ i1.toInt ≤ 255) (r_i2 : 0 ≤ i2.toInt ∧ i2.toInt ≤ 255) (r_i3 : 0 ≤ i3.toInt ∧ i3.toInt ≤ 255) (r_i4 : 0 ≤ i4.toInt ∧ i4.toInt ≤ 255) (r_i5 : 0 ≤ i5.toInt ∧ i5.toInt ≤ 255) (S_cs : G_S_cs Z cs) (hcs : ¬ cs = 0) :
  Con w [] Z (⟨"java/lang/String", "<init>", "([CIILjava/lang/Void;)V"⟩ : MethodName) jdk_42_method_149_code 6 none R_init_46 Ts Ts f #[(.ref a1), (.ref a2), (.int (0 : Int32)), (.int (5 : Int32)), .null] h0 (Q_init_46 Z a1 i1 i2 i3 i4 i5 h0) := by
 refine con_of f #[.val (.ref a1), .val (.ref a2), .val (.int (0 : Int32)), .val (.int (5 : Int32)), .val .null, .unset] (plainFor_of_name pn_2) (fun m => rfl) Zf ?_
 intro C H hX0
 refine r_aloadN H 1 d_j42_149_0 rfl rfl rfl ?_
 refine r_initO H 4 d_j42_149_1 (tw18 hw) (tw19 hw) (tw20 hw) rfl (by decide) (W := 0) (nlq rfl) (by decide) rfl ?_
 refine r_iloadN H 5 d_j42_149_4 rfl rfl ?_
 refine r_ifneT H 27 d_j42_149_5 (by decide) (by decide) (by decide) ?_
 refine r_gets H 30 d_j42_149_27 (tw21 hw) Via.refl S_cs rfl ?_
 refine r_ifeqF H 33 d_j42_149_30 rfl hcs ?_
 refine r_aloadN H 34 d_j42_149_33 rfl rfl rfl ?_
 refine r_iloadN H 35 d_j42_149_34 rfl rfl ?_
 refine r_iloadN H 36 d_j42_149_35 rfl rfl ?_
 refine r_static H 39 d_j42_149_36 (tw22 hw) (tw23 hw) (tw24 hw) (tw25 hw) (by decide) (lenOf pd_2 rfl) (rm_compress_47 hw Ts a2 i1 i2 i3 i4 i5 c1 h0 f Zf Z0 A_a2 E_a2 r_i1 r_i2 r_i3 r_i4 r_i5) (argsL := [(.ref a2), (.int (0 : Int32)), (.int (5 : Int32))]) (rest := []) rfl (W := 0) (nlq rfl) rfl (by decide) (by decide) (by decide) (by decide) nlr rfl ?_
 rintro _ hh7 ⟨b1, kc2, rfl, K3, g4, q5, q6⟩
 refine r_astore H 41 #[.val (.ref a1), .val (.ref a2), .val (.int (0 : Int32)), .val (.int (5 : Int32)), .val .null, .val (.ref b1)] d_j42_149_39 rfl rfl rfl ?_
 refine r_aloadN H 42 d_j42_149_41 rfl rfl rfl ?_
 refine r_aload H 44 d_j42_149_42 rfl rfl rfl ?_
 refine r_iloadN H 45 d_j42_149_44 rfl rfl ?_
 refine r_static H 48 d_j42_149_45 (tw30 hw) (tw31 hw) (tw24 hw) (tw32 hw) (by decide) (lenOf pd_3 rfl) (rm_coderFromArrayLen_49 hw Ts b1 i1 i2 i3 i4 i5 kc2 hh7 f Zf (nlt Z0 K3.1) q5) (argsL := [(.ref b1), (.int (5 : Int32))]) (rest := [(.ref a1)]) rfl (W := 1) (nlq rfl) rfl (by decide) (by decide) (by decide) (by decide) nlr rfl ?_
 rintro _ _ ⟨rfl, rfl⟩
 have q9 := (E_a1.keep K3)
 have q10 := (F_coder_a1.keep K3 nin0)
 refine r_putn H 51 (v' := (.int (0 : Int32))) d_j42_149_48 (tw33 hw) Via.refl q10 q9 (Or.inr ⟨(tw34 hw), rfl, rfl⟩) (tw9 hw) (ty := .byte) (by decide) rfl (by decide) g_a1 rfl ?_
 intro h11 W11 K11 E11 F11
 refine r_aloadN H 52 d_j42_149_51 rfl rfl rfl ?_
 refine r_aload H 54 d_j42_149_52 rfl rfl rfl ?_
 have q12 := ((F_value_a1.keep K3 nin0).other W11 (Or.inr (slot_ne (Or.inr (tw36 hw)) (Or.inr (tw34 hw)) (by decide) (t := (.array .byte)) (t' := .byte) (by decide) (by decide))))
 refine r_putf H 57 d_j42_149_54 (tw35 hw) Via.refl q12 E11 (Or.inr ⟨(tw36 hw), rfl, rfl⟩) (tw9 hw) (ty := (.array .byte)) (by decide) rfl rfl g_a1 rfl ?_
 intro h13 W13 K13 E13 F13
 have k14 : Keep h0 hh7 [a1] := Keep.trans (Keep.refl h0 [a1]) K3 all0
 have k15 : Keep h0 h11 [a1] := Keep.trans k14 K11 (allS (Or.inl (List.mem_of_getElem? (i := 0) rfl)) all0)
 have k16 : Keep h0 h13 [a1] := Keep.trans k15 K13 (allS (Or.inl (List.mem_of_getElem? (i := 0) rfl)) all0)
 have q17 := (F11.other W13 (Or.inr (slot_ne (Or.inr (tw34 hw)) (Or.inr (tw36 hw)) (by decide) (t := .byte) (t' := (.array .byte)) (by decide) (by decide))))
 have q18 := ((q5.keep K11 (ninS (Ne.symm (Nat.ne_of_lt (Nat.lt_of_lt_of_le E_a1.lt (nlt nlr g4)))) nin0)).keep K13 (ninS (Ne.symm (Nat.ne_of_lt (Nat.lt_of_lt_of_le E_a1.lt (nlt nlr g4)))) nin0))
 have q19 := ((q6.keep K11).keep K13)
 exact r_return H d_j42_149_57 (by decide) (by decide) nlr (fun _ t => t) (⟨b1, kc2, rfl, k16, (nlt nlr g4), E13, q17, F13, q18, q19⟩)
def Q_init_45 (Z : State) (a1 : Addr) (i1 : Int32) (i2 : Int32) (i3 : Int32) (i4 : Int32) (i5 : Int32) (h0 : Heap) (v : Option Value) (h : Heap) : Prop := ∃ (b1 : Addr) (kc2 : ClassId), v = none ∧ Keep h0 h [a1] ∧ h0.size ≤ b1 ∧ Exa Z h a1 "java/lang/String" ∧ Fld Z h a1 "java/lang/String" "coder" "B" (.int (0 : Int32)) ∧ Fld Z h a1 "java/lang/String" "value" "[B" (.ref b1) ∧ Ar Z h b1 kc2 .byte [(.int (cB8 i1)), (.int (cB8 i2)), (.int (cB8 i3)), (.int (cB8 i4)), (.int (cB8 i5))] ∧ Exa Z h b1 "[B"
def R_init_45 : Room := { frames := 3, cells := 1, slots := 5, locals := 52 }
theorem rm_init_45 {w : Bool} {Z : State} {a0 : Array Value} (hw : HW a0 Z) (Ts : List String) (a1 : Addr) (a2 : Addr) (i1 : Int32) (i2 : Int32) (i3 : Int32) (i4 : Int32) (i5 : Int32) (c1 : ClassId) (cs : Int32) (h0 : Heap) (f : Nat) (Zf : Z.heap.size ≤ f) (Z0 : f ≤ h0.size) (A_a2 : Ar Z h0 a2 c1 .char [(.int i1), (.int i2), (.int i3), (.int i4), (.int i5)]) (g_a1 : f ≤ a1) (E_a2 : Exa Z h0 a2 "[C") (E_a1 : Exa Z h0 a1 "java/lang/String") (F_coder_a1 : Fld Z h0 a1 "java/lang/String" "coder" "B" (.int (0 : Int32))) (F_value_a1 : Fld Z h0 a1 "java/lang/String" "value" "[B" .null) (r_i1 : 0 ≤ i1.toInt ∧ i1.toInt ≤ 255) (r_i2 : 0 ≤ i2.toInt ∧ i2.toInt ≤ 255) (r_i3 : 0 ≤ i3.toInt ∧ i3.toInt ≤ 255) (r_i4 : 0 ≤ i4.toInt ∧ i4.toInt ≤ 255) (r_i5 : 0 ≤ i5.toInt ∧ i5.toInt ≤ 255) (S_cs : G_S_cs Z cs) (hcs : ¬ cs = 0) :
  Con w [] Z (⟨"java/lang/String", "<init>", "([C)V"⟩ : MethodName) jdk_42_method_3_code 2 none R_init_45 Ts Ts f #[(.ref a1), (.ref a2)] h0 (Q_init_45 Z a1 i1 i2 i3 i4 i5 h0) := by
 refine con_of f #[.val (.ref a1), .val (.ref a2)] (plainFor_of_name pn_2) (fun m => rfl) Zf ?_
 intro C H hX0
 refine r_aloadN H 1 d_j42_3_0 rfl rfl rfl ?_
 refine r_aloadN H 2 d_j42_3_1 rfl rfl rfl ?_
 refine r_iconst H 3 (0 : Int32) d_j42_3_2 (by decide) rfl ?_
 refine r_aloadN H 4 d_j42_3_3 rfl rfl rfl ?_
 refine r_alen H 5 (5 : Int32) d_j42_3_4 A_a2 rfl rfl ?_
 refine r_null H 6 d_j42_3_5 rfl ?_
 refine r_special H 9 (a := a1) d_j42_3_6 (tw14 hw) (tw15 hw) (tw10 hw) (tw17 hw) (by decide) rfl (lenOf pd_4 rfl) (rm_init_46 hw Ts a1 a2 i1 i2 i3 i4 i5 c1 cs h0 f Zf Z0 A_a2 E_a2 E_a1 F_coder_a1 g_a1 F_value_a1 r_i1 r_i2 r_i3 r_i4 r_i5 S_cs hcs) (argsL := [(.ref a2), (.int (0 : Int32)), (.int (5 : Int32)), .null]) (rest := []) rfl (W := 0) (nlq rfl) rfl (by decide) (by decide) (by decide) (by decide) nlr rfl ?_
 rintro _ hh10 ⟨b1, kc2, rfl, K3, g4, q5, q6, q7, q8, q9⟩
 have k11 : Keep h0 hh10 [a1] := Keep.trans (Keep.refl h0 [a1]) K3 (allS (Or.inl (List.mem_of_getElem? (i := 0) rfl)) all0)
 exact r_return H d_j42_3_9 (by decide) (by decide) nlr (fun _ t => t) (⟨b1, kc2, rfl, k11, (nlt nlr g4), q5, q6, q7, q8, q9⟩)
def Q_compress_53 (Z : State) (a2 : Addr) (i1 : Int32) (i2 : Int32) (i3 : Int32) (i4 : Int32) (c2 : ClassId) (h0 : Heap) (v : Option Value) (h : Heap) : Prop := v = some (.int (4 : Int32)) ∧ Keep h0 h [a2] ∧ Ar Z h a2 c2 .byte [(.int (cB8 i1)), (.int (cB8 i2)), (.int (cB8 i3)), (.int (cB8 i4))] ∧ Exa Z h a2 "[B"
def R_compress_53 : Room := { frames := 0, cells := 0, slots := 0, locals := 0 }
theorem rm_compress_53 {w : Bool} {Z : State} {a0 : Array Value} (hw : HW a0 Z) (Ts : List String) (a1 : Addr) (a2 : Addr) (i1 : Int32) (i2 : Int32) (i3 : Int32) (i4 : Int32) (c1 : ClassId) (c2 : ClassId) (h0 : Heap) (f : Nat) (Zf : Z.heap.size ≤ f) (Z0 : f ≤ h0.size) (A_a1 : Ar Z h0 a1 c1 .char [(.int i1), (.int i2), (.int i3), (.int i4)]) (A_a2 : Ar Z h0 a2 c2 .byte [(.int (0 : Int32)), (.int (0 : Int32)), (.int (0 : Int32)), (.int (0 : Int32))]) (g_a2 : f ≤ a2) (E_a2 : Exa Z h0 a2 "[B") (E_a1 : Exa Z h0 a1 "[C") (r_i1 : 0 ≤ i1.toInt ∧ i1.toInt ≤ 255) (r_i2 : 0 ≤ i2.toInt ∧ i2.toInt ≤ 255) (r_i3 : 0 ≤ i3.toInt ∧ i3.toInt ≤ 255) (r_i4 : 0 ≤ i4.toInt ∧ i4.toInt ≤ 255) :
  Con w [] Z (⟨"java/lang/StringUTF16", "compress", "([CI[BII)I"⟩ : MethodName) jdk_52_method_21_code 7 (some .int) R_compress_53 Ts Ts f #[(.ref a1), (.int (0 : Int32)), (.ref a2), (.int (0 : Int32)), (.int (4 : Int32))] h0 (Q_compress_53 Z a2 i1 i2 i3 i4 c2 h0) := by
 refine con_of f #[.val (.ref a1), .val (.int (0 : Int32)), .val (.ref a2), .val (.int (0 : Int32)), .val (.int (4 : Int32)), .unset, .unset] (plainFor_of_name pn_1) (fun m => rfl) Zf ?_
 intro C H hX0
 refine r_iconst H 1 (0 : Int32) d_j52_21_0 (by decide) rfl ?_
 refine r_istore H 3 #[.val (.ref a1), .val (.int (0 : Int32)), .val (.ref a2), .val (.int (0 : Int32)), .val (.int (4 : Int32)), .val (.int (0 : Int32)), .unset] d_j52_21_1 rfl rfl ?_
 refine r_iload H 5 d_j52_21_3 rfl rfl ?_
 refine r_iload H 7 d_j52_21_5 rfl rfl ?_
 refine r_icmpgeF H 10 d_j52_21_7 rfl (by decide) ?_
 refine r_aloadN H 11 d_j52_21_10 rfl rfl rfl ?_
 refine r_iloadN H 12 d_j52_21_11 rfl rfl ?_
 refine r_caload H 13 i1 d_j52_21_12 A_a1 (by decide) rfl rfl ?_
 refine r_istore H 15 #[.val (.ref a1), .val (.int (0 : Int32)), .val (.ref a2), .val (.int (0 : Int32)), .val (.int (4 : Int32)), .val (.int (0 : Int32)), .val (.int i1)] d_j52_21_13 rfl rfl ?_
 refine r_iload H 17 d_j52_21_15 rfl rfl ?_
 refine r_sipush H 20 (255 : Int32) d_j52_21_17 (by decide) rfl ?_
 refine r_icmpleT H 26 d_j52_21_20 (by decide) (by decide) (by have := r_i1; have : (255 : Int32).toInt = 255 := (by decide); simp only [Int32.lt_iff_toInt_lt, ← Int32.toInt_inj]; omega) ?_
 refine r_aloadN H 27 d_j52_21_26 rfl rfl rfl ?_
 refine r_iloadN H 28 d_j52_21_27 rfl rfl ?_
 refine r_iload H 30 d_j52_21_28 rfl rfl ?_
 obtain ⟨p1, ep1, rp1⟩ : ∃ p : Int32, (i1.toInt8.toInt32) = p ∧ -128 ≤ p.toInt ∧ p.toInt ≤ 127 := ⟨_, rfl, (by have h := c_i2b i1; omega)⟩
 refine r_i2b H 31 p1 d_j52_21_30 ep1 rfl ?_
 refine r_bastore H 32 p1 d_j52_21_31 A_a2 (by decide) (Nat.le_of_ble_eq_true rfl) g_a2 (nar_byte_id (by have := rp1; omega)) rfl ?_
 intro h2 K2 A2
 change Ar Z h2 a2 c2 .byte [(.int p1), (.int (0 : Int32)), (.int (0 : Int32)), (.int (0 : Int32))] at A2
 refine r_iinc H 35 #[.val (.ref a1), .val (.int (1 : Int32)), .val (.ref a2), .val (.int (0 : Int32)), .val (.int (4 : Int32)), .val (.int (0 : Int32)), .val (.int i1)] (1 : Int32) d_j52_21_32 rfl (by decide) rfl rfl ?_
 refine r_iinc H 38 #[.val (.ref a1), .val (.int (1 : Int32)), .val (.ref a2), .val (.int (1 : Int32)), .val (.int (4 : Int32)), .val (.int (0 : Int32)), .val (.int i1)] (1 : Int32) d_j52_21_35 rfl (by decide) rfl rfl ?_
 refine r_iinc H 41 #[.val (.ref a1), .val (.int (1 : Int32)), .val (.ref a2), .val (.int (1 : Int32)), .val (.int (4 : Int32)), .val (.int (1 : Int32)), .val (.int i1)] (1 : Int32) d_j52_21_38 rfl (by decide) rfl rfl ?_
 refine r_goto H 3 d_j52_21_41 (by decide) (by decide) ?_
 refine r_iload H 5 d_j52_21_3 rfl rfl ?_
 refine r_iload H 7 d_j52_21_5 rfl rfl ?_
 refine r_icmpgeF H 10 d_j52_21_7 rfl (by decide) ?_
 refine r_aloadN H 11 d_j52_21_10 rfl rfl rfl ?_
 refine r_iloadN H 12 d_j52_21_11 rfl rfl ?_
 have q3 := (E_a1.keep K2)
 have q4 := (E_a2.keep K2)
 have q5 := (A_a1.keep K2 (ninS (ne_exa q3 q4 (by decide)) nin0))
 refine r_caload H 13 i2 d_j52_21_12 q5 (by decide) rfl rfl ?_
 refine r_istore H 15 #[.val (.ref a1), .val (.int (1 : Int32)), .val (.ref a2), .val (.int (1 : Int32)), .val (.int (4 : Int32)), .val (.int (1 : Int32)), .val (.int i2)] d_j52_21_13 rfl rfl ?_
 refine r_iload H 17 d_j52_21_15 rfl rfl ?_
 refine r_sipush H 20 (255 : Int32) d_j52_21_17 (by decide) rfl ?_
 refine r_icmpleT H 26 d_j52_21_20 (by decide) (by decide) (by have := r_i2; have : (255 : Int32).toInt = 255 := (by decide); simp only [Int32.lt_iff_toInt_lt, ← Int32.toInt_inj]; omega) ?_
 refine r_aloadN H 27 d_j52_21_26 rfl rfl rfl ?_
 refine r_iloadN H 28 d_j52_21_27 rfl rfl ?_
 refine r_iload H 30 d_j52_21_28 rfl rfl ?_
 obtain ⟨p6, ep6, rp6⟩ : ∃ p : Int32, (i2.toInt8.toInt32) = p ∧ -128 ≤ p.toInt ∧ p.toInt ≤ 127 := ⟨_, rfl, (by have h := c_i2b i2; omega)⟩
 refine r_i2b H 31 p6 d_j52_21_30 ep6 rfl ?_
 refine r_bastore H 32 p6 d_j52_21_31 A2 (by decide) (Nat.le_of_ble_eq_true rfl) g_a2 (nar_byte_id (by have := rp6; omega)) rfl ?_
 intro h7 K7 A7
 change Ar Z h7 a2 c2 .byte [(.int p1), (.int p6), (.int (0 : Int32)), (.int (0 : Int32))] at A7
 refine r_iinc H 35 #[.val (.ref a1), .val (.int (2 : Int32)), .val (.ref a2), .val (.int (1 : Int32)), .val (.int (4 : Int32)), .val (.int (1 : Int32)), .val (.int i2)] (2 : Int32) d_j52_21_32 rfl (by decide) rfl rfl ?_
 refine r_iinc H 38 #[.val (.ref a1), .val (.int (2 : Int32)), .val (.ref a2), .val (.int (2 : Int32)), .val (.int (4 : Int32)), .val (.int (1 : Int32)), .val (.int i2)] (2 : Int32) d_j52_21_35 rfl (by decide) rfl rfl ?_
 refine r_iinc H 41 #[.val (.ref a1), .val (.int (2 : Int32)), .val (.ref a2), .val (.int (2 : Int32)), .val (.int (4 : Int32)), .val (.int (2 : Int32)), .val (.int i2)] (2 : Int32) d_j52_21_38 rfl (by decide) rfl rfl ?_
 refine r_goto H 3 d_j52_21_41 (by decide) (by decide) ?_
 refine r_iload H 5 d_j52_21_3 rfl rfl ?_
 refine r_iload H 7 d_j52_21_5 rfl rfl ?_
 refine r_icmpgeF H 10 d_j52_21_7 rfl (by decide) ?_
 refine r_aloadN H 11 d_j52_21_10 rfl rfl rfl ?_
 refine r_iloadN H 12 d_j52_21_11 rfl rfl ?_
 have q8 := (q3.keep K7)
 have q9 := (q4.keep K7)
 have q10 := (q5.keep K7 (ninS (ne_exa q8 q9 (by decide)) nin0))
 refine r_caload H 13 i3 d_j52_21_12 q10 (by decide) rfl rfl ?_
 refine r_istore H 15 #[.val (.ref a1), .val (.int (2 : Int32)), .val (.ref a2), .val (.int (2 : Int32)), .val (.int (4 : Int32)), .val (.int (2 : Int32)), .val (.int i3)] d_j52_21_13 rfl rfl ?_
 refine r_iload H 17 d_j52_21_15 rfl rfl ?_
 refine r_sipush H 20 (255 : Int32) d_j52_21_17 (by decide) rfl ?_
 refine r_icmpleT H 26 d_j52_21_20 (by decide) (by decide) (by have := r_i3; have : (255 : Int32).toInt = 255 := (by decide); simp only [Int32.lt_iff_toInt_lt, ← Int32.toInt_inj]; omega) ?_
 refine r_aloadN H 27 d_j52_21_26 rfl rfl rfl ?_
 refine r_iloadN H 28 d_j52_21_27 rfl rfl ?_
 refine r_iload H 30 d_j52_21_28 rfl rfl ?_
 obtain ⟨p11, ep11, rp11⟩ : ∃ p : Int32, (i3.toInt8.toInt32) = p ∧ -128 ≤ p.toInt ∧ p.toInt ≤ 127 := ⟨_, rfl, (by have h := c_i2b i3; omega)⟩
 refine r_i2b H 31 p11 d_j52_21_30 ep11 rfl ?_
 refine r_bastore H 32 p11 d_j52_21_31 A7 (by decide) (Nat.le_of_ble_eq_true rfl) g_a2 (nar_byte_id (by have := rp11; omega)) rfl ?_
 intro h12 K12 A12
 change Ar Z h12 a2 c2 .byte [(.int p1), (.int p6), (.int p11), (.int (0 : Int32))] at A12
 refine r_iinc H 35 #[.val (.ref a1), .val (.int (3 : Int32)), .val (.ref a2), .val (.int (2 : Int32)), .val (.int (4 : Int32)), .val (.int (2 : Int32)), .val (.int i3)] (3 : Int32) d_j52_21_32 rfl (by decide) rfl rfl ?_
 refine r_iinc H 38 #[.val (.ref a1), .val (.int (3 : Int32)), .val (.ref a2), .val (.int (3 : Int32)), .val (.int (4 : Int32)), .val (.int (2 : Int32)), .val (.int i3)] (3 : Int32) d_j52_21_35 rfl (by decide) rfl rfl ?_
 refine r_iinc H 41 #[.val (.ref a1), .val (.int (3 : Int32)), .val (.ref a2), .val (.int (3 : Int32)), .val (.int (4 : Int32)), .val (.int (3 : Int32)), .val (.int i3)] (3 : Int32) d_j52_21_38 rfl (by decide) rfl rfl ?_
 refine r_goto H 3 d_j52_21_41 (by decide) (by decide) ?_
 refine r_iload H 5 d_j52_21_3 rfl rfl ?_
 refine r_iload H 7 d_j52_21_5 rfl rfl ?_
 refine r_icmpgeF H 10 d_j52_21_7 rfl (by decide) ?_
 refine r_aloadN H 11 d_j52_21_10 rfl rfl rfl ?_
 refine r_iloadN H 12 d_j52_21_11 rfl rfl ?_
 have q13 := (q8.keep K12)
 have q14 := (q9.keep K12)
 have q15 := (q10.keep K12 (ninS (ne_exa q13 q14 (by decide)) nin0))
 refine r_caload H 13 i4 d_j52_21_12 q15 (by decide) rfl rfl ?_
 refine r_istore H 15 #[.val (.ref a1), .val (.int (3 : Int32)), .val (.ref a2), .val (.int (3 : Int32)), .val (.int (4 : Int32)), .val (.int (3 : Int32)), .val (.int i4)] d_j52_21_13 rfl rfl ?_
 refine r_iload H 17 d_j52_21_15 rfl rfl ?_
 refine r_sipush H 20 (255 : Int32) d_j52_21_17 (by decide) rfl ?_
 refine r_icmpleT H 26 d_j52_21_20 (by decide) (by decide) (by have := r_i4; have : (255 : Int32).toInt = 255 := (by decide); simp only [Int32.lt_iff_toInt_lt, ← Int32.toInt_inj]; omega) ?_
 refine r_aloadN H 27 d_j52_21_26 rfl rfl rfl ?_
 refine r_iloadN H 28 d_j52_21_27 rfl rfl ?_
 refine r_iload H 30 d_j52_21_28 rfl rfl ?_
 obtain ⟨p16, ep16, rp16⟩ : ∃ p : Int32, (i4.toInt8.toInt32) = p ∧ -128 ≤ p.toInt ∧ p.toInt ≤ 127 := ⟨_, rfl, (by have h := c_i2b i4; omega)⟩
 refine r_i2b H 31 p16 d_j52_21_30 ep16 rfl ?_
 refine r_bastore H 32 p16 d_j52_21_31 A12 (by decide) (Nat.le_of_ble_eq_true rfl) g_a2 (nar_byte_id (by have := rp16; omega)) rfl ?_
 intro h17 K17 A17
 change Ar Z h17 a2 c2 .byte [(.int p1), (.int p6), (.int p11), (.int p16)] at A17
 refine r_iinc H 35 #[.val (.ref a1), .val (.int (4 : Int32)), .val (.ref a2), .val (.int (3 : Int32)), .val (.int (4 : Int32)), .val (.int (3 : Int32)), .val (.int i4)] (4 : Int32) d_j52_21_32 rfl (by decide) rfl rfl ?_
 refine r_iinc H 38 #[.val (.ref a1), .val (.int (4 : Int32)), .val (.ref a2), .val (.int (4 : Int32)), .val (.int (4 : Int32)), .val (.int (3 : Int32)), .val (.int i4)] (4 : Int32) d_j52_21_35 rfl (by decide) rfl rfl ?_
 refine r_iinc H 41 #[.val (.ref a1), .val (.int (4 : Int32)), .val (.ref a2), .val (.int (4 : Int32)), .val (.int (4 : Int32)), .val (.int (4 : Int32)), .val (.int i4)] (4 : Int32) d_j52_21_38 rfl (by decide) rfl rfl ?_
 refine r_goto H 3 d_j52_21_41 (by decide) (by decide) ?_
 refine r_iload H 5 d_j52_21_3 rfl rfl ?_
 refine r_iload H 7 d_j52_21_5 rfl rfl ?_
 refine r_icmpgeT H 44 d_j52_21_7 (by decide) (by decide) (by decide) ?_
 refine r_iload H 46 d_j52_21_44 rfl rfl ?_
 have k18 : Keep h0 h2 [a2] := Keep.trans (Keep.refl h0 [a2]) K2 (allS (Or.inl (List.mem_of_getElem? (i := 0) rfl)) all0)
 have k19 : Keep h0 h7 [a2] := Keep.trans k18 K7 (allS (Or.inl (List.mem_of_getElem? (i := 0) rfl)) all0)
 have k20 : Keep h0 h12 [a2] := Keep.trans k19 K12 (allS (Or.inl (List.mem_of_getElem? (i := 0) rfl)) all0)
 have k21 : Keep h0 h17 [a2] := Keep.trans k20 K17 (allS (Or.inl (List.mem_of_getElem? (i := 0) rfl)) all0)
 have q22 := (q14.keep K17)
 subst ep1 ep6 ep11 ep16
 exact r_ireturn H d_j52_21_46 (by decide) (by decide) nlr (fun _ t => t) (⟨rfl, k21, A17, q22⟩)
def Q_compress_52 (Z : State) (i1 : Int32) (i2 : Int32) (i3 : Int32) (i4 : Int32) (h0 : Heap) (v : Option Value) (h : Heap) : Prop := ∃ (b1 : Addr) (kc1 : ClassId), v = some (.ref b1) ∧ Keep h0 h [] ∧ h0.size ≤ b1 ∧ Ar Z h b1 kc1 .byte [(.int (cB8 i1)), (.int (cB8 i2)), (.int (cB8 i3)), (.int (cB8 i4))] ∧ Exa Z h b1 "[B"
def R_compress_52 : Room := { frames := 1, cells := 1, slots := 4, locals := 18 }
theorem rm_compress_52 {w : Bool} {Z : State} {a0 : Array Value} (hw : HW a0 Z) (Ts : List String) (a1 : Addr) (i1 : Int32) (i2 : Int32) (i3 : Int32) (i4 : Int32) (c1 : ClassId) (h0 : Heap) (f : Nat) (Zf : Z.heap.size ≤ f) (Z0 : f ≤ h0.size) (A_a1 : Ar Z h0 a1 c1 .char [(.int i1), (.int i2), (.int i3), (.int i4)]) (E_a1 : Exa Z h0 a1 "[C") (r_i1 : 0 ≤ i1.toInt ∧ i1.toInt ≤ 255) (r_i2 : 0 ≤ i2.toInt ∧ i2.toInt ≤ 255) (r_i3 : 0 ≤ i3.toInt ∧ i3.toInt ≤ 255) (r_i4 : 0 ≤ i4.toInt ∧ i4.toInt ≤ 255) :
  Con w [] Z (⟨"java/lang/StringUTF16", "compress", "([CII)[B"⟩ : MethodName) jdk_52_method_16_code 6 (some (.array .byte)) R_compress_52 Ts Ts f #[(.ref a1), (.int (0 : Int32)), (.int (4 : Int32))] h0 (Q_compress_52 Z i1 i2 i3 i4 h0) := by
 refine con_of f #[.val (.ref a1), .val (.int (0 : Int32)), .val (.int (4 : Int32)), .unset, .unset, .unset] (plainFor_of_name pn_1) (fun m => rfl) Zf ?_
 intro C H hX0
 refine r_iloadN H 1 d_j52_16_0 rfl rfl ?_
 refine r_newP H 3 "[B" 4 d_j52_16_1 (tw26 hw) rfl (by decide) (by decide) (by decide) (by decide) (by decide) rfl ?_
 intro h1 b1 kc1 g1 l1 K1 E1 A1
 change Ar Z h1 b1 kc1 .byte [(.int (0 : Int32)), (.int (0 : Int32)), (.int (0 : Int32)), (.int (0 : Int32))] at A1
 refine r_astoreN H 4 #[.val (.ref a1), .val (.int (0 : Int32)), .val (.int (4 : Int32)), .val (.ref b1), .unset, .unset] d_j52_16_3 rfl rfl rfl ?_
 refine r_aloadN H 5 d_j52_16_4 rfl rfl rfl ?_
 refine r_iloadN H 6 d_j52_16_5 rfl rfl ?_
 refine r_aloadN H 7 d_j52_16_6 rfl rfl rfl ?_
 refine r_iconst H 8 (0 : Int32) d_j52_16_7 (by decide) rfl ?_
 refine r_iloadN H 9 d_j52_16_8 rfl rfl ?_
 have q2 := (A_a1.keep K1 nin0)
 have q3 := (E_a1.keep K1)
 refine r_static H 12 d_j52_16_9 (tw27 hw) (tw28 hw) (tw24 hw) (tw29 hw) (by decide) (lenOf pd_1 rfl) (rm_compress_53 hw Ts a1 b1 i1 i2 i3 i4 c1 kc1 h1 f Zf (nlt Z0 K1.1) q2 A1 (nlt Z0 (Nat.le_of_eq g1.symm)) E1 q3 r_i1 r_i2 r_i3 r_i4) (argsL := [(.ref a1), (.int (0 : Int32)), (.ref b1), (.int (0 : Int32)), (.int (4 : Int32))]) (rest := []) rfl (W := 0) (nlq rfl) rfl (by decide) (by decide) (by decide) (by decide) nlr rfl ?_
 rintro _ hh7 ⟨rfl, K4, q5, q6⟩
 refine r_istore H 14 #[.val (.ref a1), .val (.int (0 : Int32)), .val (.int (4 : Int32)), .val (.ref b1), .val (.int (4 : Int32)), .unset] d_j52_16_12 rfl rfl ?_
 refine r_iload H 16 d_j52_16_14 rfl rfl ?_
 refine r_iloadN H 17 d_j52_16_16 rfl rfl ?_
 refine r_icmpeqT H 57 d_j52_16_17 (by decide) (by decide) (by decide) ?_
 refine r_aloadN H 58 d_j52_16_57 rfl rfl rfl ?_
 have k8 : Keep h0 h1 [] := Keep.trans (Keep.refl h0 []) K1 all0
 have k9 : Keep h0 hh7 [] := Keep.trans k8 K4 (allS (Or.inr (nlt nlr (Nat.le_of_eq g1.symm))) all0)
 exact r_areturn H rfl rfl d_j52_16_58 (by decide) (by decide) nlr (fun _ t => t) (⟨b1, kc1, rfl, k9, (nlt nlr (Nat.le_of_eq g1.symm)), q5, q6⟩)
def Q_coderFromArrayLen_54 (Z : State) (h0 : Heap) (v : Option Value) (h : Heap) : Prop := v = some (.int (0 : Int32)) ∧ h0 = h
def R_coderFromArrayLen_54 : Room := { frames := 0, cells := 0, slots := 0, locals := 0 }
theorem rm_coderFromArrayLen_54 {w : Bool} {Z : State} {a0 : Array Value} (hw : HW a0 Z) (Ts : List String) (a1 : Addr) (i1 : Int32) (i2 : Int32) (i3 : Int32) (i4 : Int32) (c1 : ClassId) (h0 : Heap) (f : Nat) (Zf : Z.heap.size ≤ f) (Z0 : f ≤ h0.size) (A_a1 : Ar Z h0 a1 c1 .byte [(.int (cB8 i1)), (.int (cB8 i2)), (.int (cB8 i3)), (.int (cB8 i4))]) :
  Con w [] Z (⟨"java/lang/StringUTF16", "coderFromArrayLen", "([BI)B"⟩ : MethodName) jdk_52_method_15_code 2 (some .byte) R_coderFromArrayLen_54 Ts Ts f #[(.ref a1), (.int (4 : Int32))] h0 (Q_coderFromArrayLen_54 Z h0) := by
 refine con_of f #[.val (.ref a1), .val (.int (4 : Int32))] (plainFor_of_name pn_1) (fun m => rfl) Zf ?_
 intro C H hX0
 refine r_iloadN H 1 d_j52_15_0 rfl rfl ?_
 refine r_aloadN H 2 d_j52_15_1 rfl rfl rfl ?_
 refine r_alen H 3 (4 : Int32) d_j52_15_2 A_a1 rfl rfl ?_
 refine r_isub H 4 (0 : Int32) d_j52_15_3 (by decide) rfl ?_
 refine r_bipush H 6 (31 : Int32) d_j52_15_4 (by decide) rfl ?_
 refine r_iushr H 7 (0 : Int32) d_j52_15_6 (by decide) rfl ?_
 refine r_i2b H 8 (0 : Int32) d_j52_15_7 (by decide) rfl ?_
 exact r_nreturn (0 : Int32) H (by simp) d_j52_15_8 (by decide) (by decide) (by decide) nlr (fun _ t => t) (⟨rfl, rfl⟩)
def Q_init_51 (Z : State) (a1 : Addr) (i1 : Int32) (i2 : Int32) (i3 : Int32) (i4 : Int32) (h0 : Heap) (v : Option Value) (h : Heap) : Prop := ∃ (b1 : Addr) (kc2 : ClassId), v = none ∧ Keep h0 h [a1] ∧ h0.size ≤ b1 ∧ Exa Z h a1 "java/lang/String" ∧ Fld Z h a1 "java/lang/String" "coder" "B" (.int (0 : Int32)) ∧ Fld Z h a1 "java/lang/String" "value" "[B" (.ref b1) ∧ Ar Z h b1 kc2 .byte [(.int (cB8 i1)), (.int (cB8 i2)), (.int (cB8 i3)), (.int (cB8 i4))] ∧ Exa Z h b1 "[B"
def R_init_51 : Room := { frames := 2, cells := 1, slots := 4, locals := 35 }
theorem rm_init_51 {w : Bool} {Z : State} {a0 : Array Value} (hw : HW a0 Z) (Ts : List String) (a1 : Addr) (a2 : Addr) (i1 : Int32) (i2 : Int32) (i3 : Int32) (i4 : Int32) (c1 : ClassId) (cs : Int32) (h0 : Heap) (f : Nat) (Zf : Z.heap.size ≤ f) (Z0 : f ≤ h0.size) (A_a2 : Ar Z h0 a2 c1 .char [(.int i1), (.int i2), (.int i3), (.int i4)]) (E_a2 : Exa Z h0 a2 "[C") (E_a1 : Exa Z h0 a1 "java/lang/String") (F_coder_a1 : Fld Z h0 a1 "java/lang/String" "coder" "B" (.int (0 : Int32))) (g_a1 : f ≤ a1) (F_value_a1 : Fld Z h0 a1 "java/lang/String" "value" "[B" .null) (r_i1 : 0 ≤ i1.toInt ∧ i1.toInt ≤ 255) (r_i2 : 0 ≤ i2.toInt ∧ i2.toInt ≤ 255) (r_i3 : 0 ≤ i3.toInt ∧ i3.toInt ≤ 255) (r_i4 : 0 ≤ i4.toInt ∧ i4.toInt ≤ 255) (S_cs : G_S_cs Z cs) (hcs : ¬ cs = 0) :
  Con w [] Z (⟨"java/lang/String", "<init>", "([CIILjava/lang/Void;)V"⟩ : MethodName) jdk_42_method_149_code 6 none R_init_51 Ts Ts f #[(.ref a1), (.ref a2), (.int (0 : Int32)), (.int (4 : Int32)), .null] h0 (Q_init_51 Z a1 i1 i2 i3 i4 h0) := by
 refine con_of f #[.val (.ref a1), .val (.ref a2), .val (.int (0 : Int32)), .val (.int (4 : Int32)), .val .null, .unset] (plainFor_of_name pn_2) (fun m => rfl) Zf ?_
 intro C H hX0
 refine r_aloadN H 1 d_j42_149_0 rfl rfl rfl ?_
 refine r_initO H 4 d_j42_149_1 (tw18 hw) (tw19 hw) (tw20 hw) rfl (by decide) (W := 0) (nlq rfl) (by decide) rfl ?_
 refine r_iloadN H 5 d_j42_149_4 rfl rfl ?_
 refine r_ifneT H 27 d_j42_149_5 (by decide) (by decide) (by decide) ?_
 refine r_gets H 30 d_j42_149_27 (tw21 hw) Via.refl S_cs rfl ?_
 refine r_ifeqF H 33 d_j42_149_30 rfl hcs ?_
 refine r_aloadN H 34 d_j42_149_33 rfl rfl rfl ?_
 refine r_iloadN H 35 d_j42_149_34 rfl rfl ?_
 refine r_iloadN H 36 d_j42_149_35 rfl rfl ?_
 refine r_static H 39 d_j42_149_36 (tw22 hw) (tw23 hw) (tw24 hw) (tw25 hw) (by decide) (lenOf pd_2 rfl) (rm_compress_52 hw Ts a2 i1 i2 i3 i4 c1 h0 f Zf Z0 A_a2 E_a2 r_i1 r_i2 r_i3 r_i4) (argsL := [(.ref a2), (.int (0 : Int32)), (.int (4 : Int32))]) (rest := []) rfl (W := 0) (nlq rfl) rfl (by decide) (by decide) (by decide) (by decide) nlr rfl ?_
 rintro _ hh7 ⟨b1, kc2, rfl, K3, g4, q5, q6⟩
 refine r_astore H 41 #[.val (.ref a1), .val (.ref a2), .val (.int (0 : Int32)), .val (.int (4 : Int32)), .val .null, .val (.ref b1)] d_j42_149_39 rfl rfl rfl ?_
 refine r_aloadN H 42 d_j42_149_41 rfl rfl rfl ?_
 refine r_aload H 44 d_j42_149_42 rfl rfl rfl ?_
 refine r_iloadN H 45 d_j42_149_44 rfl rfl ?_
 refine r_static H 48 d_j42_149_45 (tw30 hw) (tw31 hw) (tw24 hw) (tw32 hw) (by decide) (lenOf pd_3 rfl) (rm_coderFromArrayLen_54 hw Ts b1 i1 i2 i3 i4 kc2 hh7 f Zf (nlt Z0 K3.1) q5) (argsL := [(.ref b1), (.int (4 : Int32))]) (rest := [(.ref a1)]) rfl (W := 1) (nlq rfl) rfl (by decide) (by decide) (by decide) (by decide) nlr rfl ?_
 rintro _ _ ⟨rfl, rfl⟩
 have q9 := (E_a1.keep K3)
 have q10 := (F_coder_a1.keep K3 nin0)
 refine r_putn H 51 (v' := (.int (0 : Int32))) d_j42_149_48 (tw33 hw) Via.refl q10 q9 (Or.inr ⟨(tw34 hw), rfl, rfl⟩) (tw9 hw) (ty := .byte) (by decide) rfl (by decide) g_a1 rfl ?_
 intro h11 W11 K11 E11 F11
 refine r_aloadN H 52 d_j42_149_51 rfl rfl rfl ?_
 refine r_aload H 54 d_j42_149_52 rfl rfl rfl ?_
 have q12 := ((F_value_a1.keep K3 nin0).other W11 (Or.inr (slot_ne (Or.inr (tw36 hw)) (Or.inr (tw34 hw)) (by decide) (t := (.array .byte)) (t' := .byte) (by decide) (by decide))))
 refine r_putf H 57 d_j42_149_54 (tw35 hw) Via.refl q12 E11 (Or.inr ⟨(tw36 hw), rfl, rfl⟩) (tw9 hw) (ty := (.array .byte)) (by decide) rfl rfl g_a1 rfl ?_
 intro h13 W13 K13 E13 F13
 have k14 : Keep h0 hh7 [a1] := Keep.trans (Keep.refl h0 [a1]) K3 all0
 have k15 : Keep h0 h11 [a1] := Keep.trans k14 K11 (allS (Or.inl (List.mem_of_getElem? (i := 0) rfl)) all0)
 have k16 : Keep h0 h13 [a1] := Keep.trans k15 K13 (allS (Or.inl (List.mem_of_getElem? (i := 0) rfl)) all0)
 have q17 := (F11.other W13 (Or.inr (slot_ne (Or.inr (tw34 hw)) (Or.inr (tw36 hw)) (by decide) (t := .byte) (t' := (.array .byte)) (by decide) (by decide))))
 have q18 := ((q5.keep K11 (ninS (Ne.symm (Nat.ne_of_lt (Nat.lt_of_lt_of_le E_a1.lt (nlt nlr g4)))) nin0)).keep K13 (ninS (Ne.symm (Nat.ne_of_lt (Nat.lt_of_lt_of_le E_a1.lt (nlt nlr g4)))) nin0))
 have q19 := ((q6.keep K11).keep K13)
 exact r_return H d_j42_149_57 (by decide) (by decide) nlr (fun _ t => t) (⟨b1, kc2, rfl, k16, (nlt nlr g4), E13, q17, F13, q18, q19⟩)
def Q_init_50 (Z : State) (a1 : Addr) (i1 : Int32) (i2 : Int32) (i3 : Int32) (i4 : Int32) (h0 : Heap) (v : Option Value) (h : Heap) : Prop := ∃ (b1 : Addr) (kc2 : ClassId), v = none ∧ Keep h0 h [a1] ∧ h0.size ≤ b1 ∧ Exa Z h a1 "java/lang/String" ∧ Fld Z h a1 "java/lang/String" "coder" "B" (.int (0 : Int32)) ∧ Fld Z h a1 "java/lang/String" "value" "[B" (.ref b1) ∧ Ar Z h b1 kc2 .byte [(.int (cB8 i1)), (.int (cB8 i2)), (.int (cB8 i3)), (.int (cB8 i4))] ∧ Exa Z h b1 "[B"
def R_init_50 : Room := { frames := 3, cells := 1, slots := 4, locals := 52 }
theorem rm_init_50 {w : Bool} {Z : State} {a0 : Array Value} (hw : HW a0 Z) (Ts : List String) (a1 : Addr) (a2 : Addr) (i1 : Int32) (i2 : Int32) (i3 : Int32) (i4 : Int32) (c1 : ClassId) (cs : Int32) (h0 : Heap) (f : Nat) (Zf : Z.heap.size ≤ f) (Z0 : f ≤ h0.size) (A_a2 : Ar Z h0 a2 c1 .char [(.int i1), (.int i2), (.int i3), (.int i4)]) (g_a1 : f ≤ a1) (E_a2 : Exa Z h0 a2 "[C") (E_a1 : Exa Z h0 a1 "java/lang/String") (F_coder_a1 : Fld Z h0 a1 "java/lang/String" "coder" "B" (.int (0 : Int32))) (F_value_a1 : Fld Z h0 a1 "java/lang/String" "value" "[B" .null) (r_i1 : 0 ≤ i1.toInt ∧ i1.toInt ≤ 255) (r_i2 : 0 ≤ i2.toInt ∧ i2.toInt ≤ 255) (r_i3 : 0 ≤ i3.toInt ∧ i3.toInt ≤ 255) (r_i4 : 0 ≤ i4.toInt ∧ i4.toInt ≤ 255) (S_cs : G_S_cs Z cs) (hcs : ¬ cs = 0) :
  Con w [] Z (⟨"java/lang/String", "<init>", "([C)V"⟩ : MethodName) jdk_42_method_3_code 2 none R_init_50 Ts Ts f #[(.ref a1), (.ref a2)] h0 (Q_init_50 Z a1 i1 i2 i3 i4 h0) := by
 refine con_of f #[.val (.ref a1), .val (.ref a2)] (plainFor_of_name pn_2) (fun m => rfl) Zf ?_
 intro C H hX0
 refine r_aloadN H 1 d_j42_3_0 rfl rfl rfl ?_
 refine r_aloadN H 2 d_j42_3_1 rfl rfl rfl ?_
 refine r_iconst H 3 (0 : Int32) d_j42_3_2 (by decide) rfl ?_
 refine r_aloadN H 4 d_j42_3_3 rfl rfl rfl ?_
 refine r_alen H 5 (4 : Int32) d_j42_3_4 A_a2 rfl rfl ?_
 refine r_null H 6 d_j42_3_5 rfl ?_
 refine r_special H 9 (a := a1) d_j42_3_6 (tw14 hw) (tw15 hw) (tw10 hw) (tw17 hw) (by decide) rfl (lenOf pd_4 rfl) (rm_init_51 hw Ts a1 a2 i1 i2 i3 i4 c1 cs h0 f Zf Z0 A_a2 E_a2 E_a1 F_coder_a1 g_a1 F_value_a1 r_i1 r_i2 r_i3 r_i4 S_cs hcs) (argsL := [(.ref a2), (.int (0 : Int32)), (.int (4 : Int32)), .null]) (rest := []) rfl (W := 0) (nlq rfl) rfl (by decide) (by decide) (by decide) (by decide) nlr rfl ?_
 rintro _ hh10 ⟨b1, kc2, rfl, K3, g4, q5, q6, q7, q8, q9⟩
 have k11 : Keep h0 hh10 [a1] := Keep.trans (Keep.refl h0 [a1]) K3 (allS (Or.inl (List.mem_of_getElem? (i := 0) rfl)) all0)
 exact r_return H d_j42_3_9 (by decide) (by decide) nlr (fun _ t => t) (⟨b1, kc2, rfl, k11, (nlt nlr g4), q5, q6, q7, q8, q9⟩)
def Q_compress_58 (Z : State) (a2 : Addr) (i1 : Int32) (c2 : ClassId) (h0 : Heap) (v : Option Value) (h : Heap) : Prop := v = some (.int (1 : Int32)) ∧ Keep h0 h [a2] ∧ Ar Z h a2 c2 .byte [(.int (cB8 i1))] ∧ Exa Z h a2 "[B"
def R_compress_58 : Room := { frames := 0, cells := 0, slots := 0, locals := 0 }
theorem rm_compress_58 {w : Bool} {Z : State} {a0 : Array Value} (hw : HW a0 Z) (Ts : List String) (a1 : Addr) (a2 : Addr) (i1 : Int32) (c1 : ClassId) (c2 : ClassId) (h0 : Heap) (f : Nat) (Zf : Z.heap.size ≤ f) (Z0 : f ≤ h0.size) (A_a1 : Ar Z h0 a1 c1 .char [(.int i1)]) (A_a2 : Ar Z h0 a2 c2 .byte [(.int (0 : Int32))]) (g_a2 : f ≤ a2) (E_a2 : Exa Z h0 a2 "[B") (r_i1 : 0 ≤ i1.toInt ∧ i1.toInt ≤ 255) :
  Con w [] Z (⟨"java/lang/StringUTF16", "compress", "([CI[BII)I"⟩ : MethodName) jdk_52_method_21_code 7 (some .int) R_compress_58 Ts Ts f #[(.ref a1), (.int (0 : Int32)), (.ref a2), (.int (0 : Int32)), (.int (1 : Int32))] h0 (Q_compress_58 Z a2 i1 c2 h0) := by
 refine con_of f #[.val (.ref a1), .val (.int (0 : Int32)), .val (.ref a2), .val (.int (0 : Int32)), .val (.int (1 : Int32)), .unset, .unset] (plainFor_of_name pn_1) (fun m => rfl) Zf ?_
 intro C H hX0
 refine r_iconst H 1 (0 : Int32) d_j52_21_0 (by decide) rfl ?_
 refine r_istore H 3 #[.val (.ref a1), .val (.int (0 : Int32)), .val (.ref a2), .val (.int (0 : Int32)), .val (.int (1 : Int32)), .val (.int (0 : Int32)), .unset] d_j52_21_1 rfl rfl ?_
 refine r_iload H 5 d_j52_21_3 rfl rfl ?_
 refine r_iload H 7 d_j52_21_5 rfl rfl ?_
 refine r_icmpgeF H 10 d_j52_21_7 rfl (by decide) ?_
 refine r_aloadN H 11 d_j52_21_10 rfl rfl rfl ?_
 refine r_iloadN H 12 d_j52_21_11 rfl rfl ?_
 refine r_caload H 13 i1 d_j52_21_12 A_a1 (by decide) rfl rfl ?_
 refine r_istore H 15 #[.val (.ref a1), .val (.int (0 : Int32)), .val (.ref a2), .val (.int (0 : Int32)), .val (.int (1 : Int32)), .val (.int (0 : Int32)), .val (.int i1)] d_j52_21_13 rfl rfl ?_
 refine r_iload H 17 d_j52_21_15 rfl rfl ?_
 refine r_sipush H 20 (255 : Int32) d_j52_21_17 (by decide) rfl ?_
 refine r_icmpleT H 26 d_j52_21_20 (by decide) (by decide) (by have := r_i1; have : (255 : Int32).toInt = 255 := (by decide); simp only [Int32.lt_iff_toInt_lt, ← Int32.toInt_inj]; omega) ?_
 refine r_aloadN H 27 d_j52_21_26 rfl rfl rfl ?_
 refine r_iloadN H 28 d_j52_21_27 rfl rfl ?_
 refine r_iload H 30 d_j52_21_28 rfl rfl ?_
 obtain ⟨p1, ep1, rp1⟩ : ∃ p : Int32, (i1.toInt8.toInt32) = p ∧ -128 ≤ p.toInt ∧ p.toInt ≤ 127 := ⟨_, rfl, (by have h := c_i2b i1; omega)⟩
 refine r_i2b H 31 p1 d_j52_21_30 ep1 rfl ?_
 refine r_bastore H 32 p1 d_j52_21_31 A_a2 (by decide) (Nat.le_of_ble_eq_true rfl) g_a2 (nar_byte_id (by have := rp1; omega)) rfl ?_
 intro h2 K2 A2
 change Ar Z h2 a2 c2 .byte [(.int p1)] at A2
 refine r_iinc H 35 #[.val (.ref a1), .val (.int (1 : Int32)), .val (.ref a2), .val (.int (0 : Int32)), .val (.int (1 : Int32)), .val (.int (0 : Int32)), .val (.int i1)] (1 : Int32) d_j52_21_32 rfl (by decide) rfl rfl ?_
 refine r_iinc H 38 #[.val (.ref a1), .val (.int (1 : Int32)), .val (.ref a2), .val (.int (1 : Int32)), .val (.int (1 : Int32)), .val (.int (0 : Int32)), .val (.int i1)] (1 : Int32) d_j52_21_35 rfl (by decide) rfl rfl ?_
 refine r_iinc H 41 #[.val (.ref a1), .val (.int (1 : Int32)), .val (.ref a2), .val (.int (1 : Int32)), .val (.int (1 : Int32)), .val (.int (1 : Int32)), .val (.int i1)] (1 : Int32) d_j52_21_38 rfl (by decide) rfl rfl ?_
 refine r_goto H 3 d_j52_21_41 (by decide) (by decide) ?_
 refine r_iload H 5 d_j52_21_3 rfl rfl ?_
 refine r_iload H 7 d_j52_21_5 rfl rfl ?_
 refine r_icmpgeT H 44 d_j52_21_7 (by decide) (by decide) (by decide) ?_
 refine r_iload H 46 d_j52_21_44 rfl rfl ?_
 have k3 : Keep h0 h2 [a2] := Keep.trans (Keep.refl h0 [a2]) K2 (allS (Or.inl (List.mem_of_getElem? (i := 0) rfl)) all0)
 have q4 := (E_a2.keep K2)
 subst ep1
 exact r_ireturn H d_j52_21_46 (by decide) (by decide) nlr (fun _ t => t) (⟨rfl, k3, A2, q4⟩)
def Q_compress_57 (Z : State) (i1 : Int32) (h0 : Heap) (v : Option Value) (h : Heap) : Prop := ∃ (b1 : Addr) (kc1 : ClassId), v = some (.ref b1) ∧ Keep h0 h [] ∧ h0.size ≤ b1 ∧ Ar Z h b1 kc1 .byte [(.int (cB8 i1))] ∧ Exa Z h b1 "[B"
def R_compress_57 : Room := { frames := 1, cells := 1, slots := 1, locals := 18 }
theorem rm_compress_57 {w : Bool} {Z : State} {a0 : Array Value} (hw : HW a0 Z) (Ts : List String) (a1 : Addr) (i1 : Int32) (c1 : ClassId) (h0 : Heap) (f : Nat) (Zf : Z.heap.size ≤ f) (Z0 : f ≤ h0.size) (A_a1 : Ar Z h0 a1 c1 .char [(.int i1)]) (r_i1 : 0 ≤ i1.toInt ∧ i1.toInt ≤ 255) :
  Con w [] Z (⟨"java/lang/StringUTF16", "compress", "([CII)[B"⟩ : MethodName) jdk_52_method_16_code 6 (some (.array .byte)) R_compress_57 Ts Ts f #[(.ref a1), (.int (0 : Int32)), (.int (1 : Int32))] h0 (Q_compress_57 Z i1 h0) := by
 refine con_of f #[.val (.ref a1), .val (.int (0 : Int32)), .val (.int (1 : Int32)), .unset, .unset, .unset] (plainFor_of_name pn_1) (fun m => rfl) Zf ?_
 intro C H hX0
 refine r_iloadN H 1 d_j52_16_0 rfl rfl ?_
 refine r_newP H 3 "[B" 1 d_j52_16_1 (tw26 hw) rfl (by decide) (by decide) (by decide) (by decide) (by decide) rfl ?_
 intro h1 b1 kc1 g1 l1 K1 E1 A1
 change Ar Z h1 b1 kc1 .byte [(.int (0 : Int32))] at A1
 refine r_astoreN H 4 #[.val (.ref a1), .val (.int (0 : Int32)), .val (.int (1 : Int32)), .val (.ref b1), .unset, .unset] d_j52_16_3 rfl rfl rfl ?_
 refine r_aloadN H 5 d_j52_16_4 rfl rfl rfl ?_
 refine r_iloadN H 6 d_j52_16_5 rfl rfl ?_
 refine r_aloadN H 7 d_j52_16_6 rfl rfl rfl ?_
 refine r_iconst H 8 (0 : Int32) d_j52_16_7 (by decide) rfl ?_
 refine r_iloadN H 9 d_j52_16_8 rfl rfl ?_
 have q2 := (A_a1.keep K1 nin0)
 refine r_static H 12 d_j52_16_9 (tw27 hw) (tw28 hw) (tw24 hw) (tw29 hw) (by decide) (lenOf pd_1 rfl) (rm_compress_58 hw Ts a1 b1 i1 c1 kc1 h1 f Zf (nlt Z0 K1.1) q2 A1 (nlt Z0 (Nat.le_of_eq g1.symm)) E1 r_i1) (argsL := [(.ref a1), (.int (0 : Int32)), (.ref b1), (.int (0 : Int32)), (.int (1 : Int32))]) (rest := []) rfl (W := 0) (nlq rfl) rfl (by decide) (by decide) (by decide) (by decide) nlr rfl ?_
 rintro _ hh6 ⟨rfl, K3, q4, q5⟩
 refine r_istore H 14 #[.val (.ref a1), .val (.int (0 : Int32)), .val (.int (1 : Int32)), .val (.ref b1), .val (.int (1 : Int32)), .unset] d_j52_16_12 rfl rfl ?_
 refine r_iload H 16 d_j52_16_14 rfl rfl ?_
 refine r_iloadN H 17 d_j52_16_16 rfl rfl ?_
 refine r_icmpeqT H 57 d_j52_16_17 (by decide) (by decide) (by decide) ?_
 refine r_aloadN H 58 d_j52_16_57 rfl rfl rfl ?_
 have k7 : Keep h0 h1 [] := Keep.trans (Keep.refl h0 []) K1 all0
 have k8 : Keep h0 hh6 [] := Keep.trans k7 K3 (allS (Or.inr (nlt nlr (Nat.le_of_eq g1.symm))) all0)
 exact r_areturn H rfl rfl d_j52_16_58 (by decide) (by decide) nlr (fun _ t => t) (⟨b1, kc1, rfl, k8, (nlt nlr (Nat.le_of_eq g1.symm)), q4, q5⟩)
def Q_coderFromArrayLen_59 (Z : State) (h0 : Heap) (v : Option Value) (h : Heap) : Prop := v = some (.int (0 : Int32)) ∧ h0 = h
def R_coderFromArrayLen_59 : Room := { frames := 0, cells := 0, slots := 0, locals := 0 }
theorem rm_coderFromArrayLen_59 {w : Bool} {Z : State} {a0 : Array Value} (hw : HW a0 Z) (Ts : List String) (a1 : Addr) (i1 : Int32) (c1 : ClassId) (h0 : Heap) (f : Nat) (Zf : Z.heap.size ≤ f) (Z0 : f ≤ h0.size) (A_a1 : Ar Z h0 a1 c1 .byte [(.int (cB8 i1))]) :
  Con w [] Z (⟨"java/lang/StringUTF16", "coderFromArrayLen", "([BI)B"⟩ : MethodName) jdk_52_method_15_code 2 (some .byte) R_coderFromArrayLen_59 Ts Ts f #[(.ref a1), (.int (1 : Int32))] h0 (Q_coderFromArrayLen_59 Z h0) := by
 refine con_of f #[.val (.ref a1), .val (.int (1 : Int32))] (plainFor_of_name pn_1) (fun m => rfl) Zf ?_
 intro C H hX0
 refine r_iloadN H 1 d_j52_15_0 rfl rfl ?_
 refine r_aloadN H 2 d_j52_15_1 rfl rfl rfl ?_
 refine r_alen H 3 (1 : Int32) d_j52_15_2 A_a1 rfl rfl ?_
 refine r_isub H 4 (0 : Int32) d_j52_15_3 (by decide) rfl ?_
 refine r_bipush H 6 (31 : Int32) d_j52_15_4 (by decide) rfl ?_
 refine r_iushr H 7 (0 : Int32) d_j52_15_6 (by decide) rfl ?_
 refine r_i2b H 8 (0 : Int32) d_j52_15_7 (by decide) rfl ?_
 exact r_nreturn (0 : Int32) H (by simp) d_j52_15_8 (by decide) (by decide) (by decide) nlr (fun _ t => t) (⟨rfl, rfl⟩)
def Q_init_56 (Z : State) (a1 : Addr) (i1 : Int32) (h0 : Heap) (v : Option Value) (h : Heap) : Prop := ∃ (b1 : Addr) (kc2 : ClassId), v = none ∧ Keep h0 h [a1] ∧ h0.size ≤ b1 ∧ Exa Z h a1 "java/lang/String" ∧ Fld Z h a1 "java/lang/String" "coder" "B" (.int (0 : Int32)) ∧ Fld Z h a1 "java/lang/String" "value" "[B" (.ref b1) ∧ Ar Z h b1 kc2 .byte [(.int (cB8 i1))] ∧ Exa Z h b1 "[B"
def R_init_56 : Room := { frames := 2, cells := 1, slots := 1, locals := 35 }
theorem rm_init_56 {w : Bool} {Z : State} {a0 : Array Value} (hw : HW a0 Z) (Ts : List String) (a1 : Addr) (a2 : Addr) (i1 : Int32) (c1 : ClassId) (cs : Int32) (h0 : Heap) (f : Nat) (Zf : Z.heap.size ≤ f) (Z0 : f ≤ h0.size) (A_a2 : Ar Z h0 a2 c1 .char [(.int i1)]) (E_a1 : Exa Z h0 a1 "java/lang/String") (F_coder_a1 : Fld Z h0 a1 "java/lang/String" "coder" "B" (.int (0 : Int32))) (g_a1 : f ≤ a1) (F_value_a1 : Fld Z h0 a1 "java/lang/String" "value" "[B" .null) (r_i1 : 0 ≤ i1.toInt ∧ i1.toInt ≤ 255) (S_cs : G_S_cs Z cs) (hcs : ¬ cs = 0) :
  Con w [] Z (⟨"java/lang/String", "<init>", "([CIILjava/lang/Void;)V"⟩ : MethodName) jdk_42_method_149_code 6 none R_init_56 Ts Ts f #[(.ref a1), (.ref a2), (.int (0 : Int32)), (.int (1 : Int32)), .null] h0 (Q_init_56 Z a1 i1 h0) := by
 refine con_of f #[.val (.ref a1), .val (.ref a2), .val (.int (0 : Int32)), .val (.int (1 : Int32)), .val .null, .unset] (plainFor_of_name pn_2) (fun m => rfl) Zf ?_
 intro C H hX0
 refine r_aloadN H 1 d_j42_149_0 rfl rfl rfl ?_
 refine r_initO H 4 d_j42_149_1 (tw18 hw) (tw19 hw) (tw20 hw) rfl (by decide) (W := 0) (nlq rfl) (by decide) rfl ?_
 refine r_iloadN H 5 d_j42_149_4 rfl rfl ?_
 refine r_ifneT H 27 d_j42_149_5 (by decide) (by decide) (by decide) ?_
 refine r_gets H 30 d_j42_149_27 (tw21 hw) Via.refl S_cs rfl ?_
 refine r_ifeqF H 33 d_j42_149_30 rfl hcs ?_
 refine r_aloadN H 34 d_j42_149_33 rfl rfl rfl ?_
 refine r_iloadN H 35 d_j42_149_34 rfl rfl ?_
 refine r_iloadN H 36 d_j42_149_35 rfl rfl ?_
 refine r_static H 39 d_j42_149_36 (tw22 hw) (tw23 hw) (tw24 hw) (tw25 hw) (by decide) (lenOf pd_2 rfl) (rm_compress_57 hw Ts a2 i1 c1 h0 f Zf Z0 A_a2 r_i1) (argsL := [(.ref a2), (.int (0 : Int32)), (.int (1 : Int32))]) (rest := []) rfl (W := 0) (nlq rfl) rfl (by decide) (by decide) (by decide) (by decide) nlr rfl ?_
 rintro _ hh7 ⟨b1, kc2, rfl, K3, g4, q5, q6⟩
 refine r_astore H 41 #[.val (.ref a1), .val (.ref a2), .val (.int (0 : Int32)), .val (.int (1 : Int32)), .val .null, .val (.ref b1)] d_j42_149_39 rfl rfl rfl ?_
 refine r_aloadN H 42 d_j42_149_41 rfl rfl rfl ?_
 refine r_aload H 44 d_j42_149_42 rfl rfl rfl ?_
 refine r_iloadN H 45 d_j42_149_44 rfl rfl ?_
 refine r_static H 48 d_j42_149_45 (tw30 hw) (tw31 hw) (tw24 hw) (tw32 hw) (by decide) (lenOf pd_3 rfl) (rm_coderFromArrayLen_59 hw Ts b1 i1 kc2 hh7 f Zf (nlt Z0 K3.1) q5) (argsL := [(.ref b1), (.int (1 : Int32))]) (rest := [(.ref a1)]) rfl (W := 1) (nlq rfl) rfl (by decide) (by decide) (by decide) (by decide) nlr rfl ?_
 rintro _ _ ⟨rfl, rfl⟩
 have q9 := (E_a1.keep K3)
 have q10 := (F_coder_a1.keep K3 nin0)
 refine r_putn H 51 (v' := (.int (0 : Int32))) d_j42_149_48 (tw33 hw) Via.refl q10 q9 (Or.inr ⟨(tw34 hw), rfl, rfl⟩) (tw9 hw) (ty := .byte) (by decide) rfl (by decide) g_a1 rfl ?_
 intro h11 W11 K11 E11 F11
 refine r_aloadN H 52 d_j42_149_51 rfl rfl rfl ?_
 refine r_aload H 54 d_j42_149_52 rfl rfl rfl ?_
 have q12 := ((F_value_a1.keep K3 nin0).other W11 (Or.inr (slot_ne (Or.inr (tw36 hw)) (Or.inr (tw34 hw)) (by decide) (t := (.array .byte)) (t' := .byte) (by decide) (by decide))))
 refine r_putf H 57 d_j42_149_54 (tw35 hw) Via.refl q12 E11 (Or.inr ⟨(tw36 hw), rfl, rfl⟩) (tw9 hw) (ty := (.array .byte)) (by decide) rfl rfl g_a1 rfl ?_
 intro h13 W13 K13 E13 F13
 have k14 : Keep h0 hh7 [a1] := Keep.trans (Keep.refl h0 [a1]) K3 all0
 have k15 : Keep h0 h11 [a1] := Keep.trans k14 K11 (allS (Or.inl (List.mem_of_getElem? (i := 0) rfl)) all0)
 have k16 : Keep h0 h13 [a1] := Keep.trans k15 K13 (allS (Or.inl (List.mem_of_getElem? (i := 0) rfl)) all0)
 have q17 := (F11.other W13 (Or.inr (slot_ne (Or.inr (tw34 hw)) (Or.inr (tw36 hw)) (by decide) (t := .byte) (t' := (.array .byte)) (by decide) (by decide))))
 have q18 := ((q5.keep K11 (ninS (Ne.symm (Nat.ne_of_lt (Nat.lt_of_lt_of_le E_a1.lt (nlt nlr g4)))) nin0)).keep K13 (ninS (Ne.symm (Nat.ne_of_lt (Nat.lt_of_lt_of_le E_a1.lt (nlt nlr g4)))) nin0))
 have q19 := ((q6.keep K11).keep K13)
 exact r_return H d_j42_149_57 (by decide) (by decide) nlr (fun _ t => t) (⟨b1, kc2, rfl, k16, (nlt nlr g4), E13, q17, F13, q18, q19⟩)
def Q_init_55 (Z : State) (a1 : Addr) (i1 : Int32) (h0 : Heap) (v : Option Value) (h : Heap) : Prop := ∃ (b1 : Addr) (kc2 : ClassId), v = none ∧ Keep h0 h [a1] ∧ h0.size ≤ b1 ∧ Exa Z h a1 "java/lang/String" ∧ Fld Z h a1 "java/lang/String" "coder" "B" (.int (0 : Int32)) ∧ Fld Z h a1 "java/lang/String" "value" "[B" (.ref b1) ∧ Ar Z h b1 kc2 .byte [(.int (cB8 i1))] ∧ Exa Z h b1 "[B"
def R_init_55 : Room := { frames := 3, cells := 1, slots := 1, locals := 52 }
theorem rm_init_55 {w : Bool} {Z : State} {a0 : Array Value} (hw : HW a0 Z) (Ts : List String) (a1 : Addr) (a2 : Addr) (i1 : Int32) (c1 : ClassId) (cs : Int32) (h0 : Heap) (f : Nat) (Zf : Z.heap.size ≤ f) (Z0 : f ≤ h0.size) (A_a2 : Ar Z h0 a2 c1 .char [(.int i1)]) (g_a1 : f ≤ a1) (E_a1 : Exa Z h0 a1 "java/lang/String") (F_coder_a1 : Fld Z h0 a1 "java/lang/String" "coder" "B" (.int (0 : Int32))) (F_value_a1 : Fld Z h0 a1 "java/lang/String" "value" "[B" .null) (r_i1 : 0 ≤ i1.toInt ∧ i1.toInt ≤ 255) (S_cs : G_S_cs Z cs) (hcs : ¬ cs = 0) :
  Con w [] Z (⟨"java/lang/String", "<init>", "([C)V"⟩ : MethodName) jdk_42_method_3_code 2 none R_init_55 Ts Ts f #[(.ref a1), (.ref a2)] h0 (Q_init_55 Z a1 i1 h0) := by
 refine con_of f #[.val (.ref a1), .val (.ref a2)] (plainFor_of_name pn_2) (fun m => rfl) Zf ?_
 intro C H hX0
 refine r_aloadN H 1 d_j42_3_0 rfl rfl rfl ?_
 refine r_aloadN H 2 d_j42_3_1 rfl rfl rfl ?_
 refine r_iconst H 3 (0 : Int32) d_j42_3_2 (by decide) rfl ?_
 refine r_aloadN H 4 d_j42_3_3 rfl rfl rfl ?_
 refine r_alen H 5 (1 : Int32) d_j42_3_4 A_a2 rfl rfl ?_
 refine r_null H 6 d_j42_3_5 rfl ?_
 refine r_special H 9 (a := a1) d_j42_3_6 (tw14 hw) (tw15 hw) (tw10 hw) (tw17 hw) (by decide) rfl (lenOf pd_4 rfl) (rm_init_56 hw Ts a1 a2 i1 c1 cs h0 f Zf Z0 A_a2 E_a1 F_coder_a1 g_a1 F_value_a1 r_i1 S_cs hcs) (argsL := [(.ref a2), (.int (0 : Int32)), (.int (1 : Int32)), .null]) (rest := []) rfl (W := 0) (nlq rfl) rfl (by decide) (by decide) (by decide) (by decide) nlr rfl ?_
 rintro _ hh10 ⟨b1, kc2, rfl, K3, g4, q5, q6, q7, q8, q9⟩
 have k11 : Keep h0 hh10 [a1] := Keep.trans (Keep.refl h0 [a1]) K3 (allS (Or.inl (List.mem_of_getElem? (i := 0) rfl)) all0)
 exact r_return H d_j42_3_9 (by decide) (by decide) nlr (fun _ t => t) (⟨b1, kc2, rfl, k11, (nlt nlr g4), q5, q6, q7, q8, q9⟩)
def Q_init_61 (Z : State) (a1 : Addr) (h0 : Heap) (v : Option Value) (h : Heap) : Prop := ∃ (lv1 : Addr) (kl1 : ClassId), v = none ∧ Keep h0 h [a1] ∧ Exa Z h a1 "java/lang/String" ∧ Fld Z h a1 "java/lang/String" "coder" "B" (.int (0 : Int32)) ∧ Fld Z h a1 "java/lang/String" "value" "[B" (.ref lv1) ∧ Ar Z h lv1 kl1 .byte []
def R_init_61 : Room := { frames := 1, cells := 2, slots := 4, locals := 12 }
theorem rm_init_61 {Z : State} {a0 : Array Value} (hw : HW a0 Z) (Ts : List String) (a1 : Addr) (a2 : Addr) (h0 : Heap) (f : Nat) (Zf : Z.heap.size ≤ f) (Z0 : f ≤ h0.size) (E_a1 : Exa Z h0 a1 "java/lang/String") (F_value_a1 : Fld Z h0 a1 "java/lang/String" "value" "[B" .null) (g_a1 : f ≤ a1) (F_coder_a1 : Fld Z h0 a1 "java/lang/String" "coder" "B" (.int (0 : Int32))) (wS : G_wS Z a0) (hcw : G_hcw Z a0) (hh2 : G_hh2 Z) (hT_empty : "" ∉ Ts) :
  Con true [] Z (⟨"java/lang/String", "<init>", "([CIILjava/lang/Void;)V"⟩ : MethodName) jdk_42_method_149_code 6 none R_init_61 Ts ("" :: Ts) f #[(.ref a1), (.ref a2), (.int (0 : Int32)), (.int (0 : Int32)), .null] h0 (Q_init_61 Z a1 h0) := by
 refine con_of h0.size #[.val (.ref a1), .val (.ref a2), .val (.int (0 : Int32)), .val (.int (0 : Int32)), .val .null, .unset] (plainFor_of_name pn_2) (fun m => rfl) (nlt Zf Z0) ?_
 intro C H hX0
 refine r_aloadN H 1 d_j42_149_0 rfl rfl rfl ?_
 refine r_initO H 4 d_j42_149_1 (tw18 hw) (tw19 hw) (tw20 hw) rfl (by decide) (W := 0) (nlq rfl) (by decide) rfl ?_
 refine r_iloadN H 5 d_j42_149_4 rfl rfl ?_
 refine r_ifneF H 8 d_j42_149_5 rfl (by decide) ?_
 refine r_aloadN H 9 d_j42_149_8 rfl rfl rfl ?_
 refine r_ldcS H 11 (vs := []) (z := (0 : Int32)) 0 d_j42_149_9 (tw56 hw) wS hT_empty hh2 hcw ⟨by decide, by decide⟩ (by decide) (by decide) (by decide) (by decide) (by decide) (by decide) rfl ?_
 intro h1 la1 lv1 kl1 K1 E1 C1 V1 A1 D1
 refine r_getf H 14 d_j42_149_11 (tw35 hw) Via.refl V1 rfl ?_
 have q2 := (E_a1.keep K1)
 have q3 := (F_value_a1.keep K1 nin0)
 refine Run.low Z0 Zf ?_
 refine r_putf H 17 d_j42_149_14 (tw35 hw) Via.refl q3 q2 (Or.inr ⟨(tw36 hw), rfl, rfl⟩) (tw9 hw) (ty := (.array .byte)) (by decide) rfl rfl g_a1 rfl ?_
 intro h4 W4 K4 E4 F4
 refine r_aloadN H 18 d_j42_149_17 rfl rfl rfl ?_
 refine r_ldcA H 20 d_j42_149_18 (tw56 hw) (List.mem_singleton.mpr rfl) rfl ?_
 have q5 := (C1.other W4 (Or.inr (slot_ne (Or.inr (tw34 hw)) (Or.inr (tw36 hw)) (by decide) (t := .byte) (t' := (.array .byte)) (by decide) (by decide))))
 refine r_getf H 23 d_j42_149_20 (tw33 hw) Via.refl q5 rfl ?_
 have q6 := ((F_coder_a1.keep K1 nin0).other W4 (Or.inr (slot_ne (Or.inr (tw34 hw)) (Or.inr (tw36 hw)) (by decide) (t := .byte) (t' := (.array .byte)) (by decide) (by decide))))
 refine r_putn H 26 (v' := (.int (0 : Int32))) d_j42_149_23 (tw33 hw) Via.refl q6 E4 (Or.inr ⟨(tw34 hw), rfl, rfl⟩) (tw9 hw) (ty := .byte) (by decide) rfl (by decide) g_a1 rfl ?_
 intro h7 W7 K7 E7 F7
 have k8 : Keep h0 h1 [a1] := Keep.trans (Keep.refl h0 [a1]) K1 all0
 have k9 : Keep h0 h4 [a1] := Keep.trans k8 K4 (allS (Or.inl (List.mem_of_getElem? (i := 0) rfl)) all0)
 have k10 : Keep h0 h7 [a1] := Keep.trans k9 K7 (allS (Or.inl (List.mem_of_getElem? (i := 0) rfl)) all0)
 have q11 := (F4.other W7 (Or.inr (slot_ne (Or.inr (tw36 hw)) (Or.inr (tw34 hw)) (by decide) (t := (.array .byte)) (t' := .byte) (by decide) (by decide))))
 have q12 := ((A1.keep K4 (ninS (Ne.symm (ne_ar (E_a1.keep K1) (tw9 hw) A1)) nin0)).keep K7 (ninS (Ne.symm (ne_ar (E_a1.keep K1) (tw9 hw) A1)) nin0))
 exact r_return H d_j42_149_26 (by decide) (by decide) nlr (fun _ t => t) (⟨lv1, kl1, rfl, k10, E7, F7, q11, q12⟩)
def Q_init_60 (Z : State) (a1 : Addr) (h0 : Heap) (v : Option Value) (h : Heap) : Prop := ∃ (b1 : Addr) (kc2 : ClassId), v = none ∧ Keep h0 h [a1] ∧ Exa Z h a1 "java/lang/String" ∧ Fld Z h a1 "java/lang/String" "coder" "B" (.int (0 : Int32)) ∧ Fld Z h a1 "java/lang/String" "value" "[B" (.ref b1) ∧ Ar Z h b1 kc2 .byte []
def R_init_60 : Room := { frames := 2, cells := 2, slots := 4, locals := 29 }
theorem rm_init_60 {Z : State} {a0 : Array Value} (hw : HW a0 Z) (Ts : List String) (a1 : Addr) (a2 : Addr) (c1 : ClassId) (h0 : Heap) (f : Nat) (Zf : Z.heap.size ≤ f) (Z0 : f ≤ h0.size) (A_a2 : Ar Z h0 a2 c1 .char []) (g_a1 : f ≤ a1) (E_a1 : Exa Z h0 a1 "java/lang/String") (F_value_a1 : Fld Z h0 a1 "java/lang/String" "value" "[B" .null) (F_coder_a1 : Fld Z h0 a1 "java/lang/String" "coder" "B" (.int (0 : Int32))) (wS : G_wS Z a0) (hcw : G_hcw Z a0) (hh2 : G_hh2 Z) (hT_empty : "" ∉ Ts) :
  Con true [] Z (⟨"java/lang/String", "<init>", "([C)V"⟩ : MethodName) jdk_42_method_3_code 2 none R_init_60 Ts ("" :: Ts) f #[(.ref a1), (.ref a2)] h0 (Q_init_60 Z a1 h0) := by
 refine con_of h0.size #[.val (.ref a1), .val (.ref a2)] (plainFor_of_name pn_2) (fun m => rfl) (nlt Zf Z0) ?_
 intro C H hX0
 refine r_aloadN H 1 d_j42_3_0 rfl rfl rfl ?_
 refine r_aloadN H 2 d_j42_3_1 rfl rfl rfl ?_
 refine r_iconst H 3 (0 : Int32) d_j42_3_2 (by decide) rfl ?_
 refine r_aloadN H 4 d_j42_3_3 rfl rfl rfl ?_
 refine r_alen H 5 (0 : Int32) d_j42_3_4 A_a2 rfl rfl ?_
 refine r_null H 6 d_j42_3_5 rfl ?_
 refine Run.low Z0 Zf ?_
 refine r_special H 9 (a := a1) d_j42_3_6 (tw14 hw) (tw15 hw) (tw10 hw) (tw17 hw) (by decide) rfl (lenOf pd_4 rfl) (rm_init_61 hw Ts a1 a2 h0 f Zf Z0 E_a1 F_value_a1 g_a1 F_coder_a1 wS hcw hh2 hT_empty) (argsL := [(.ref a2), (.int (0 : Int32)), (.int (0 : Int32)), .null]) (rest := []) rfl (W := 0) (nlq rfl) rfl (by decide) (by decide) (by decide) (by decide) nlr rfl ?_
 rintro _ hh8 ⟨b1, kc2, rfl, K3, q4, q5, q6, q7⟩
 have k9 : Keep h0 hh8 [a1] := Keep.trans (Keep.refl h0 [a1]) K3 (allS (Or.inl (List.mem_of_getElem? (i := 0) rfl)) all0)
 exact r_return H d_j42_3_9 (by decide) (by decide) nlr (fun _ t => t) (⟨b1, kc2, rfl, k9, q4, q5, q6, q7⟩)
def Q_word_44 (Z : State) (i1 : Int32) (i2 : Int32) (i3 : Int32) (i4 : Int32) (i5 : Int32) (i6 : Int32) (i7 : Int32) (i8 : Int32) (h0 : Heap) (v : Option Value) (h : Heap) : Prop := (∃ (b15 : Addr) (b49 : Addr) (kc50 : ClassId), v = some (.ref b15) ∧ (¬ i1 = (0 : Int32)) ∧ (¬ i1 = (1 : Int32)) ∧ (¬ i1 = (2 : Int32)) ∧ (¬ i1 = (3 : Int32)) ∧ (¬ i1 = (4 : Int32)) ∧ (¬ i1 = (5 : Int32)) ∧ (¬ i1 = (6 : Int32)) ∧ Keep h0 h [] ∧ h0.size ≤ b15 ∧ h0.size ≤ b49 ∧ b15 < b49 ∧ Exa Z h b15 "java/lang/String" ∧ Fld Z h b15 "java/lang/String" "coder" "B" (.int (0 : Int32)) ∧ Fld Z h b15 "java/lang/String" "value" "[B" (.ref b49) ∧ Ar Z h b49 kc50 .byte [(.int (cB8 i2)), (.int (cB8 i3)), (.int (cB8 i4)), (.int (cB8 i5)), (.int (cB8 i6)), (.int (cB8 i7)), (.int (cB8 i8))] ∧ Exa Z h b49 "[B") ∨ (∃ (b77 : Addr) (b107 : Addr) (kc108 : ClassId), v = some (.ref b77) ∧ (¬ i1 = (0 : Int32)) ∧ (¬ i1 = (1 : Int32)) ∧ (¬ i1 = (2 : Int32)) ∧ (¬ i1 = (3 : Int32)) ∧ (¬ i1 = (4 : Int32)) ∧ (¬ i1 = (5 : Int32)) ∧ (i1 = (6 : Int32)) ∧ Keep h0 h [] ∧ h0.size ≤ b77 ∧ h0.size ≤ b107 ∧ b77 < b107 ∧ Exa Z h b77 "java/lang/String" ∧ Fld Z h b77 "java/lang/String" "coder" "B" (.int (0 : Int32)) ∧ Fld Z h b77 "java/lang/String" "value" "[B" (.ref b107) ∧ Ar Z h b107 kc108 .byte [(.int (cB8 i2)), (.int (cB8 i3)), (.int (cB8 i4)), (.int (cB8 i5)), (.int (cB8 i6)), (.int (cB8 i7))] ∧ Exa Z h b107 "[B") ∨ (∃ (b133 : Addr) (b159 : Addr) (kc160 : ClassId), v = some (.ref b133) ∧ (¬ i1 = (0 : Int32)) ∧ (¬ i1 = (1 : Int32)) ∧ (¬ i1 = (2 : Int32)) ∧ (¬ i1 = (3 : Int32)) ∧ (¬ i1 = (4 : Int32)) ∧ (i1 = (5 : Int32)) ∧ Keep h0 h [] ∧ h0.size ≤ b133 ∧ h0.size ≤ b159 ∧ b133 < b159 ∧ Exa Z h b133 "java/lang/String" ∧ Fld Z h b133 "java/lang/String" "coder" "B" (.int (0 : Int32)) ∧ Fld Z h b133 "java/lang/String" "value" "[B" (.ref b159) ∧ Ar Z h b159 kc160 .byte [(.int (cB8 i2)), (.int (cB8 i3)), (.int (cB8 i4)), (.int (cB8 i5)), (.int (cB8 i6))] ∧ Exa Z h b159 "[B") ∨ (∃ (b183 : Addr) (b205 : Addr) (kc206 : ClassId), v = some (.ref b183) ∧ (¬ i1 = (0 : Int32)) ∧ (¬ i1 = (1 : Int32)) ∧ (¬ i1 = (2 : Int32)) ∧ (¬ i1 = (3 : Int32)) ∧ (i1 = (4 : Int32)) ∧ Keep h0 h [] ∧ h0.size ≤ b183 ∧ h0.size ≤ b205 ∧ b183 < b205 ∧ Exa Z h b183 "java/lang/String" ∧ Fld Z h b183 "java/lang/String" "coder" "B" (.int (0 : Int32)) ∧ Fld Z h b183 "java/lang/String" "value" "[B" (.ref b205) ∧ Ar Z h b205 kc206 .byte [(.int (cB8 i2)), (.int (cB8 i3)), (.int (cB8 i4)), (.int (cB8 i5))] ∧ Exa Z h b205 "[B") ∨ (∃ (b227 : Addr) (b245 : Addr) (kc246 : ClassId), v = some (.ref b227) ∧ (¬ i1 = (0 : Int32)) ∧ (¬ i1 = (1 : Int32)) ∧ (¬ i1 = (2 : Int32)) ∧ (i1 = (3 : Int32)) ∧ Keep h0 h [] ∧ h0.size ≤ b227 ∧ h0.size ≤ b245 ∧ b227 < b245 ∧ Exa Z h b227 "java/lang/String" ∧ Fld Z h b227 "java/lang/String" "coder" "B" (.int (0 : Int32)) ∧ Fld Z h b227 "java/lang/String" "value" "[B" (.ref b245) ∧ Ar Z h b245 kc246 .byte [(.int (cB8 i2)), (.int (cB8 i3)), (.int (cB8 i4))] ∧ Exa Z h b245 "[B") ∨ (∃ (b265 : Addr) (b279 : Addr) (kc280 : ClassId), v = some (.ref b265) ∧ (¬ i1 = (0 : Int32)) ∧ (¬ i1 = (1 : Int32)) ∧ (i1 = (2 : Int32)) ∧ Keep h0 h [] ∧ h0.size ≤ b265 ∧ h0.size ≤ b279 ∧ b265 < b279 ∧ Exa Z h b265 "java/lang/String" ∧ Fld Z h b265 "java/lang/String" "coder" "B" (.int (0 : Int32)) ∧ Fld Z h b265 "java/lang/String" "value" "[B" (.ref b279) ∧ Ar Z h b279 kc280 .byte [(.int (cB8 i2)), (.int (cB8 i3))] ∧ Exa Z h b279 "[B") ∨ (∃ (b297 : Addr) (b306 : Addr) (kc307 : ClassId), v = some (.ref b297) ∧ (¬ i1 = (0 : Int32)) ∧ (i1 = (1 : Int32)) ∧ Keep h0 h [] ∧ h0.size ≤ b297 ∧ h0.size ≤ b306 ∧ b297 < b306 ∧ Exa Z h b297 "java/lang/String" ∧ Fld Z h b297 "java/lang/String" "coder" "B" (.int (0 : Int32)) ∧ Fld Z h b297 "java/lang/String" "value" "[B" (.ref b306) ∧ Ar Z h b306 kc307 .byte [(.int (cB8 i2))] ∧ Exa Z h b306 "[B") ∨ (∃ (b322 : Addr) (b328 : Addr) (kc329 : ClassId), v = some (.ref b322) ∧ (i1 = (0 : Int32)) ∧ Keep h0 h [] ∧ h0.size ≤ b322 ∧ Exa Z h b322 "java/lang/String" ∧ Fld Z h b322 "java/lang/String" "coder" "B" (.int (0 : Int32)) ∧ Fld Z h b322 "java/lang/String" "value" "[B" (.ref b328) ∧ Ar Z h b328 kc329 .byte [])
def R_word_44 : Room := { frames := 4, cells := 4, slots := 18, locals := 66 }
theorem rm_word_44 {Z : State} {a0 : Array Value} (hw : HW a0 Z) (Ts : List String) (a1 : Addr) (i1 : Int32) (i2 : Int32) (i3 : Int32) (i4 : Int32) (i5 : Int32) (i6 : Int32) (i7 : Int32) (i8 : Int32) (c1 : ClassId) (cs : Int32) (h0 : Heap) (f : Nat) (Zf : Z.heap.size ≤ f) (Z0 : f ≤ h0.size) (A_a1 : Ar Z h0 a1 c1 .char [(.int i2), (.int i3), (.int i4), (.int i5), (.int i6), (.int i7), (.int i8)]) (r_i1 : 0 ≤ i1.toInt ∧ i1.toInt ≤ 7) (r_i2 : 0 ≤ i2.toInt ∧ i2.toInt ≤ 255) (r_i3 : 0 ≤ i3.toInt ∧ i3.toInt ≤ 255) (r_i4 : 0 ≤ i4.toInt ∧ i4.toInt ≤ 255) (r_i5 : 0 ≤ i5.toInt ∧ i5.toInt ≤ 255) (r_i6 : 0 ≤ i6.toInt ∧ i6.toInt ≤ 255) (r_i7 : 0 ≤ i7.toInt ∧ i7.toInt ≤ 255) (r_i8 : 0 ≤ i8.toInt ∧ i8.toInt ≤ 255) (S_cs : G_S_cs Z cs) (wS : G_wS Z a0) (hcw : G_hcw Z a0) (hh2 : G_hh2 Z) (hT_empty : "" ∉ Ts) (hcs : ¬ cs = 0) :
  Con true [] Z (⟨"com/example/maniera/maniera/cli/CommandLineIsHelpPinLaw", "word", "([CI)Ljava/lang/String;"⟩ : MethodName) method_4_code 2 (some (.object "java/lang/String")) R_word_44 Ts ("" :: Ts) f #[(.ref a1), (.int i1)] h0 (Q_word_44 Z i1 i2 i3 i4 i5 i6 i7 i8 h0) := by
 refine con_of h0.size #[.val (.ref a1), .val (.int i1)] (plainFor_of_name pn_0) (fun m => rfl) (nlt Zf Z0) ?_
 intro C H hX0
 refine r_iloadN H 1 d_4_0 rfl rfl ?_
 refine r_ifne H 15 4 d_4_1 (by decide) (by decide) rfl (fun c1 => ?_) (fun c1 => ?_)
 ·
  have rr2 : 1 ≤ i1.toInt ∧ i1.toInt ≤ 7 := by have := r_i1; have : (0 : Int32).toInt = 0 := (by decide); have hc_ := c1; simp only [Int32.lt_iff_toInt_lt, ← Int32.toInt_inj] at hc_; omega
  refine r_iloadN H 16 d_4_15 rfl rfl ?_
  refine r_iconst H 17 (1 : Int32) d_4_16 (by decide) rfl ?_
  refine r_icmpne H 37 20 d_4_17 (by decide) (by decide) rfl (fun c3 => ?_) (fun c3 => ?_)
  ·
   have rr4 : 2 ≤ i1.toInt ∧ i1.toInt ≤ 7 := by have := rr2; have : (1 : Int32).toInt = 1 := (by decide); have hc_ := c3; simp only [Int32.lt_iff_toInt_lt, ← Int32.toInt_inj] at hc_; omega
   refine r_iloadN H 38 d_4_37 rfl rfl ?_
   refine r_iconst H 39 (2 : Int32) d_4_38 (by decide) rfl ?_
   refine r_icmpne H 65 42 d_4_39 (by decide) (by decide) rfl (fun c5 => ?_) (fun c5 => ?_)
   ·
    have rr6 : 3 ≤ i1.toInt ∧ i1.toInt ≤ 7 := by have := rr4; have : (2 : Int32).toInt = 2 := (by decide); have hc_ := c5; simp only [Int32.lt_iff_toInt_lt, ← Int32.toInt_inj] at hc_; omega
    refine r_iloadN H 66 d_4_65 rfl rfl ?_
    refine r_iconst H 67 (3 : Int32) d_4_66 (by decide) rfl ?_
    refine r_icmpne H 99 70 d_4_67 (by decide) (by decide) rfl (fun c7 => ?_) (fun c7 => ?_)
    ·
     have rr8 : 4 ≤ i1.toInt ∧ i1.toInt ≤ 7 := by have := rr6; have : (3 : Int32).toInt = 3 := (by decide); have hc_ := c7; simp only [Int32.lt_iff_toInt_lt, ← Int32.toInt_inj] at hc_; omega
     refine r_iloadN H 100 d_4_99 rfl rfl ?_
     refine r_iconst H 101 (4 : Int32) d_4_100 (by decide) rfl ?_
     refine r_icmpne H 139 104 d_4_101 (by decide) (by decide) rfl (fun c9 => ?_) (fun c9 => ?_)
     ·
      have rr10 : 5 ≤ i1.toInt ∧ i1.toInt ≤ 7 := by have := rr8; have : (4 : Int32).toInt = 4 := (by decide); have hc_ := c9; simp only [Int32.lt_iff_toInt_lt, ← Int32.toInt_inj] at hc_; omega
      refine r_iloadN H 140 d_4_139 rfl rfl ?_
      refine r_iconst H 141 (5 : Int32) d_4_140 (by decide) rfl ?_
      refine r_icmpne H 185 144 d_4_141 (by decide) (by decide) rfl (fun c11 => ?_) (fun c11 => ?_)
      ·
       have rr12 : 6 ≤ i1.toInt ∧ i1.toInt ≤ 7 := by have := rr10; have : (5 : Int32).toInt = 5 := (by decide); have hc_ := c11; simp only [Int32.lt_iff_toInt_lt, ← Int32.toInt_inj] at hc_; omega
       refine r_iloadN H 186 d_4_185 rfl rfl ?_
       refine r_bipush H 188 (6 : Int32) d_4_186 (by decide) rfl ?_
       refine r_icmpne H 239 191 d_4_188 (by decide) (by decide) rfl (fun c13 => ?_) (fun c13 => ?_)
       ·
        have rr14 : 7 ≤ i1.toInt ∧ i1.toInt ≤ 7 := by have := rr12; have : (6 : Int32).toInt = 6 := (by decide); have hc_ := c13; simp only [Int32.lt_iff_toInt_lt, ← Int32.toInt_inj] at hc_; omega
        refine r_new H 242 d_4_239 (tw8 hw) (tw9 hw) (tw10 hw) (by decide) (by decide) rfl ?_
        intro h15 b15 g15 l15 K15 E15 D15
        refine r_dup H 243 d_4_242 rfl rfl ?_
        refine r_bipush H 245 (7 : Int32) d_4_243 (by decide) rfl ?_
        refine r_newP H 247 "[C" 7 d_4_245 (tw0 hw) rfl (by decide) (by decide) (by decide) (by decide) (by decide) rfl ?_
        intro h16 b16 kc16 g16 l16 K16 E16 A16
        change Ar Z h16 b16 kc16 .char [(.int (0 : Int32)), (.int (0 : Int32)), (.int (0 : Int32)), (.int (0 : Int32)), (.int (0 : Int32)), (.int (0 : Int32)), (.int (0 : Int32))] at A16
        refine r_dup H 248 d_4_247 rfl rfl ?_
        refine r_iconst H 249 (0 : Int32) d_4_248 (by decide) rfl ?_
        refine r_aloadN H 250 d_4_249 rfl rfl rfl ?_
        refine r_iconst H 251 (0 : Int32) d_4_250 (by decide) rfl ?_
        have q17 := ((A_a1.keep K15 nin0).keep K16 nin0)
        refine r_caload H 252 i2 d_4_251 q17 (by decide) rfl rfl ?_
        refine r_castore H 253 i2 d_4_252 A16 (by decide) (Nat.le_of_ble_eq_true rfl) (nlt K15.1 (Nat.le_of_eq g16.symm)) (nar_char_id (by have := r_i2; omega)) rfl ?_
        intro h18 K18 A18
        change Ar Z h18 b16 kc16 .char [(.int i2), (.int (0 : Int32)), (.int (0 : Int32)), (.int (0 : Int32)), (.int (0 : Int32)), (.int (0 : Int32)), (.int (0 : Int32))] at A18
        refine r_dup H 254 d_4_253 rfl rfl ?_
        refine r_iconst H 255 (1 : Int32) d_4_254 (by decide) rfl ?_
        refine r_aloadN H 256 d_4_255 rfl rfl rfl ?_
        refine r_iconst H 257 (1 : Int32) d_4_256 (by decide) rfl ?_
        have q19 := (q17.keep K18 (ninS (Nat.ne_of_lt (Nat.lt_of_lt_of_le A_a1.lt (nlt K15.1 (Nat.le_of_eq g16.symm)))) nin0))
        refine r_caload H 258 i3 d_4_257 q19 (by decide) rfl rfl ?_
        refine r_castore H 259 i3 d_4_258 A18 (by decide) (Nat.le_of_ble_eq_true rfl) (nlt K15.1 (Nat.le_of_eq g16.symm)) (nar_char_id (by have := r_i3; omega)) rfl ?_
        intro h20 K20 A20
        have q21 := (E16.keep K18)
        change Ar Z h20 b16 kc16 .char [(.int i2), (.int i3), (.int (0 : Int32)), (.int (0 : Int32)), (.int (0 : Int32)), (.int (0 : Int32)), (.int (0 : Int32))] at A20
        refine r_dup H 260 d_4_259 rfl rfl ?_
        refine r_iconst H 261 (2 : Int32) d_4_260 (by decide) rfl ?_
        refine r_aloadN H 262 d_4_261 rfl rfl rfl ?_
        refine r_iconst H 263 (2 : Int32) d_4_262 (by decide) rfl ?_
        have q22 := (q19.keep K20 (ninS (Nat.ne_of_lt (Nat.lt_of_lt_of_le A_a1.lt (nlt K15.1 (Nat.le_of_eq g16.symm)))) nin0))
        refine r_caload H 264 i4 d_4_263 q22 (by decide) rfl rfl ?_
        refine r_castore H 265 i4 d_4_264 A20 (by decide) (Nat.le_of_ble_eq_true rfl) (nlt K15.1 (Nat.le_of_eq g16.symm)) (nar_char_id (by have := r_i4; omega)) rfl ?_
        intro h23 K23 A23
        have q24 := (q21.keep K20)
        change Ar Z h23 b16 kc16 .char [(.int i2), (.int i3), (.int i4), (.int (0 : Int32)), (.int (0 : Int32)), (.int (0 : Int32)), (.int (0 : Int32))] at A23
        refine r_dup H 266 d_4_265 rfl rfl ?_
        refine r_iconst H 267 (3 : Int32) d_4_266 (by decide) rfl ?_
        refine r_aloadN H 268 d_4_267 rfl rfl rfl ?_
        refine r_iconst H 269 (3 : Int32) d_4_268 (by decide) rfl ?_
        have q25 := (q22.keep K23 (ninS (Nat.ne_of_lt (Nat.lt_of_lt_of_le A_a1.lt (nlt K15.1 (Nat.le_of_eq g16.symm)))) nin0))
        refine r_caload H 270 i5 d_4_269 q25 (by decide) rfl rfl ?_
        refine r_castore H 271 i5 d_4_270 A23 (by decide) (Nat.le_of_ble_eq_true rfl) (nlt K15.1 (Nat.le_of_eq g16.symm)) (nar_char_id (by have := r_i5; omega)) rfl ?_
        intro h26 K26 A26
        have q27 := (q24.keep K23)
        change Ar Z h26 b16 kc16 .char [(.int i2), (.int i3), (.int i4), (.int i5), (.int (0 : Int32)), (.int (0 : Int32)), (.int (0 : Int32))] at A26
        refine r_dup H 272 d_4_271 rfl rfl ?_
        refine r_iconst H 273 (4 : Int32) d_4_272 (by decide) rfl ?_
        refine r_aloadN H 274 d_4_273 rfl rfl rfl ?_
        refine r_iconst H 275 (4 : Int32) d_4_274 (by decide) rfl ?_
        have q28 := (q25.keep K26 (ninS (Nat.ne_of_lt (Nat.lt_of_lt_of_le A_a1.lt (nlt K15.1 (Nat.le_of_eq g16.symm)))) nin0))
        refine r_caload H 276 i6 d_4_275 q28 (by decide) rfl rfl ?_
        refine r_castore H 277 i6 d_4_276 A26 (by decide) (Nat.le_of_ble_eq_true rfl) (nlt K15.1 (Nat.le_of_eq g16.symm)) (nar_char_id (by have := r_i6; omega)) rfl ?_
        intro h29 K29 A29
        have q30 := (q27.keep K26)
        change Ar Z h29 b16 kc16 .char [(.int i2), (.int i3), (.int i4), (.int i5), (.int i6), (.int (0 : Int32)), (.int (0 : Int32))] at A29
        refine r_dup H 278 d_4_277 rfl rfl ?_
        refine r_iconst H 279 (5 : Int32) d_4_278 (by decide) rfl ?_
        refine r_aloadN H 280 d_4_279 rfl rfl rfl ?_
        refine r_iconst H 281 (5 : Int32) d_4_280 (by decide) rfl ?_
        have q31 := (q28.keep K29 (ninS (Nat.ne_of_lt (Nat.lt_of_lt_of_le A_a1.lt (nlt K15.1 (Nat.le_of_eq g16.symm)))) nin0))
        refine r_caload H 282 i7 d_4_281 q31 (by decide) rfl rfl ?_
        refine r_castore H 283 i7 d_4_282 A29 (by decide) (Nat.le_of_ble_eq_true rfl) (nlt K15.1 (Nat.le_of_eq g16.symm)) (nar_char_id (by have := r_i7; omega)) rfl ?_
        intro h32 K32 A32
        have q33 := (q30.keep K29)
        change Ar Z h32 b16 kc16 .char [(.int i2), (.int i3), (.int i4), (.int i5), (.int i6), (.int i7), (.int (0 : Int32))] at A32
        refine r_dup H 284 d_4_283 rfl rfl ?_
        refine r_bipush H 286 (6 : Int32) d_4_284 (by decide) rfl ?_
        refine r_aloadN H 287 d_4_286 rfl rfl rfl ?_
        refine r_bipush H 289 (6 : Int32) d_4_287 (by decide) rfl ?_
        have q34 := (q31.keep K32 (ninS (Nat.ne_of_lt (Nat.lt_of_lt_of_le A_a1.lt (nlt K15.1 (Nat.le_of_eq g16.symm)))) nin0))
        refine r_caload H 290 i8 d_4_289 q34 (by decide) rfl rfl ?_
        refine r_castore H 291 i8 d_4_290 A32 (by decide) (Nat.le_of_ble_eq_true rfl) (nlt K15.1 (Nat.le_of_eq g16.symm)) (nar_char_id (by have := r_i8; omega)) rfl ?_
        intro h35 K35 A35
        have q36 := (q33.keep K32)
        change Ar Z h35 b16 kc16 .char [(.int i2), (.int i3), (.int i4), (.int i5), (.int i6), (.int i7), (.int i8)] at A35
        have q37 := (q36.keep K35)
        have q38 := ((((((((E15.keep K16).keep K18).keep K20).keep K23).keep K26).keep K29).keep K32).keep K35)
        have q39 := (((((((((show Fld Z h15 b15 "java/lang/String" "coder" "B" (.int (0 : Int32)) from D15 (Or.inr (tw34 hw)) (ty := .byte) (by decide)).keep K16 nin0).keep K18 (ninS (Nat.ne_of_lt (Nat.lt_of_lt_of_le E15.lt (nlt nlr (Nat.le_of_eq g16.symm)))) nin0)).keep K20 (ninS (Nat.ne_of_lt (Nat.lt_of_lt_of_le E15.lt (nlt nlr (Nat.le_of_eq g16.symm)))) nin0)).keep K23 (ninS (Nat.ne_of_lt (Nat.lt_of_lt_of_le E15.lt (nlt nlr (Nat.le_of_eq g16.symm)))) nin0)).keep K26 (ninS (Nat.ne_of_lt (Nat.lt_of_lt_of_le E15.lt (nlt nlr (Nat.le_of_eq g16.symm)))) nin0)).keep K29 (ninS (Nat.ne_of_lt (Nat.lt_of_lt_of_le E15.lt (nlt nlr (Nat.le_of_eq g16.symm)))) nin0)).keep K32 (ninS (Nat.ne_of_lt (Nat.lt_of_lt_of_le E15.lt (nlt nlr (Nat.le_of_eq g16.symm)))) nin0)).keep K35 (ninS (Nat.ne_of_lt (Nat.lt_of_lt_of_le E15.lt (nlt nlr (Nat.le_of_eq g16.symm)))) nin0))
        have q40 := (((((((((show Fld Z h15 b15 "java/lang/String" "value" "[B" .null from D15 (Or.inr (tw36 hw)) (ty := (.array .byte)) (by decide)).keep K16 nin0).keep K18 (ninS (Nat.ne_of_lt (Nat.lt_of_lt_of_le E15.lt (nlt nlr (Nat.le_of_eq g16.symm)))) nin0)).keep K20 (ninS (Nat.ne_of_lt (Nat.lt_of_lt_of_le E15.lt (nlt nlr (Nat.le_of_eq g16.symm)))) nin0)).keep K23 (ninS (Nat.ne_of_lt (Nat.lt_of_lt_of_le E15.lt (nlt nlr (Nat.le_of_eq g16.symm)))) nin0)).keep K26 (ninS (Nat.ne_of_lt (Nat.lt_of_lt_of_le E15.lt (nlt nlr (Nat.le_of_eq g16.symm)))) nin0)).keep K29 (ninS (Nat.ne_of_lt (Nat.lt_of_lt_of_le E15.lt (nlt nlr (Nat.le_of_eq g16.symm)))) nin0)).keep K32 (ninS (Nat.ne_of_lt (Nat.lt_of_lt_of_le E15.lt (nlt nlr (Nat.le_of_eq g16.symm)))) nin0)).keep K35 (ninS (Nat.ne_of_lt (Nat.lt_of_lt_of_le E15.lt (nlt nlr (Nat.le_of_eq g16.symm)))) nin0))
        have z41 := Nat.le_trans K15.1 K16.1
        have z42 := Nat.le_trans z41 K18.1
        have z43 := Nat.le_trans z42 K20.1
        have z44 := Nat.le_trans z43 K23.1
        have z45 := Nat.le_trans z44 K26.1
        have z46 := Nat.le_trans z45 K29.1
        have z47 := Nat.le_trans z46 K32.1
        have z48 := Nat.le_trans z47 K35.1
        refine r_special H 294 (a := b15) d_4_291 (tw11 hw) (tw12 hw) (tw10 hw) (tw13 hw) (by decide) rfl (lenOf pd_5 rfl) (rm_init_24 hw Ts b15 b16 i2 i3 i4 i5 i6 i7 i8 kc16 cs h35 h0.size (nlt Zf Z0) z48 A35 (nlt nlr (Nat.le_of_eq g15.symm)) q37 q38 q39 q40 r_i2 r_i3 r_i4 r_i5 r_i6 r_i7 r_i8 S_cs hcs) (argsL := [(.ref b16)]) (rest := [(.ref b15)]) rfl (W := 1) (nlq rfl) rfl (by decide) (by decide) (by decide) (by decide) nlr rfl ?_
        rintro _ hh58 ⟨b49, kc50, rfl, K51, g52, q53, q54, q55, q56, q57⟩
        have k59 : Keep h0 h15 [] := Keep.trans (Keep.refl h0 []) K15 all0
        have k60 : Keep h0 h16 [] := Keep.trans k59 K16 all0
        have k61 : Keep h0 h18 [] := Keep.trans k60 K18 (allS (Or.inr (nlt K15.1 (Nat.le_of_eq g16.symm))) all0)
        have k62 : Keep h0 h20 [] := Keep.trans k61 K20 (allS (Or.inr (nlt K15.1 (Nat.le_of_eq g16.symm))) all0)
        have k63 : Keep h0 h23 [] := Keep.trans k62 K23 (allS (Or.inr (nlt K15.1 (Nat.le_of_eq g16.symm))) all0)
        have k64 : Keep h0 h26 [] := Keep.trans k63 K26 (allS (Or.inr (nlt K15.1 (Nat.le_of_eq g16.symm))) all0)
        have k65 : Keep h0 h29 [] := Keep.trans k64 K29 (allS (Or.inr (nlt K15.1 (Nat.le_of_eq g16.symm))) all0)
        have k66 : Keep h0 h32 [] := Keep.trans k65 K32 (allS (Or.inr (nlt K15.1 (Nat.le_of_eq g16.symm))) all0)
        have k67 : Keep h0 h35 [] := Keep.trans k66 K35 (allS (Or.inr (nlt K15.1 (Nat.le_of_eq g16.symm))) all0)
        have k68 : Keep h0 hh58 [] := Keep.trans k67 K51 (allS (Or.inr (nlt nlr (Nat.le_of_eq g15.symm))) all0)
        have z69 := Nat.le_trans K16.1 K18.1
        have z70 := Nat.le_trans z69 K20.1
        have z71 := Nat.le_trans z70 K23.1
        have z72 := Nat.le_trans z71 K26.1
        have z73 := Nat.le_trans z72 K29.1
        have z74 := Nat.le_trans z73 K32.1
        have z75 := Nat.le_trans z74 K35.1
        exact r_areturn H rfl rfl d_4_294 (by decide) (by decide) Z0 (fun _ t => (.tail _ t)) (Or.inl ⟨b15, b49, kc50, rfl, c1, c3, c5, c7, c9, c11, c13, k68, (nlt nlr (Nat.le_of_eq g15.symm)), (nlt z48 g52), (Nat.lt_of_lt_of_le E15.lt (nlt z75 g52)), q53, q54, q55, q56, q57⟩)
       ·
        have rr76 : 6 ≤ i1.toInt ∧ i1.toInt ≤ 6 := by have := rr12; have : (6 : Int32).toInt = 6 := (by decide); have hc_ := c13; simp only [Int32.lt_iff_toInt_lt, ← Int32.toInt_inj] at hc_; omega
        refine r_new H 194 d_4_191 (tw8 hw) (tw9 hw) (tw10 hw) (by decide) (by decide) rfl ?_
        intro h77 b77 g77 l77 K77 E77 D77
        refine r_dup H 195 d_4_194 rfl rfl ?_
        refine r_bipush H 197 (6 : Int32) d_4_195 (by decide) rfl ?_
        refine r_newP H 199 "[C" 6 d_4_197 (tw0 hw) rfl (by decide) (by decide) (by decide) (by decide) (by decide) rfl ?_
        intro h78 b78 kc78 g78 l78 K78 E78 A78
        change Ar Z h78 b78 kc78 .char [(.int (0 : Int32)), (.int (0 : Int32)), (.int (0 : Int32)), (.int (0 : Int32)), (.int (0 : Int32)), (.int (0 : Int32))] at A78
        refine r_dup H 200 d_4_199 rfl rfl ?_
        refine r_iconst H 201 (0 : Int32) d_4_200 (by decide) rfl ?_
        refine r_aloadN H 202 d_4_201 rfl rfl rfl ?_
        refine r_iconst H 203 (0 : Int32) d_4_202 (by decide) rfl ?_
        have q79 := ((A_a1.keep K77 nin0).keep K78 nin0)
        refine r_caload H 204 i2 d_4_203 q79 (by decide) rfl rfl ?_
        refine r_castore H 205 i2 d_4_204 A78 (by decide) (Nat.le_of_ble_eq_true rfl) (nlt K77.1 (Nat.le_of_eq g78.symm)) (nar_char_id (by have := r_i2; omega)) rfl ?_
        intro h80 K80 A80
        change Ar Z h80 b78 kc78 .char [(.int i2), (.int (0 : Int32)), (.int (0 : Int32)), (.int (0 : Int32)), (.int (0 : Int32)), (.int (0 : Int32))] at A80
        refine r_dup H 206 d_4_205 rfl rfl ?_
        refine r_iconst H 207 (1 : Int32) d_4_206 (by decide) rfl ?_
        refine r_aloadN H 208 d_4_207 rfl rfl rfl ?_
        refine r_iconst H 209 (1 : Int32) d_4_208 (by decide) rfl ?_
        have q81 := (q79.keep K80 (ninS (Nat.ne_of_lt (Nat.lt_of_lt_of_le A_a1.lt (nlt K77.1 (Nat.le_of_eq g78.symm)))) nin0))
        refine r_caload H 210 i3 d_4_209 q81 (by decide) rfl rfl ?_
        refine r_castore H 211 i3 d_4_210 A80 (by decide) (Nat.le_of_ble_eq_true rfl) (nlt K77.1 (Nat.le_of_eq g78.symm)) (nar_char_id (by have := r_i3; omega)) rfl ?_
        intro h82 K82 A82
        have q83 := (E78.keep K80)
        change Ar Z h82 b78 kc78 .char [(.int i2), (.int i3), (.int (0 : Int32)), (.int (0 : Int32)), (.int (0 : Int32)), (.int (0 : Int32))] at A82
        refine r_dup H 212 d_4_211 rfl rfl ?_
        refine r_iconst H 213 (2 : Int32) d_4_212 (by decide) rfl ?_
        refine r_aloadN H 214 d_4_213 rfl rfl rfl ?_
        refine r_iconst H 215 (2 : Int32) d_4_214 (by decide) rfl ?_
        have q84 := (q81.keep K82 (ninS (Nat.ne_of_lt (Nat.lt_of_lt_of_le A_a1.lt (nlt K77.1 (Nat.le_of_eq g78.symm)))) nin0))
        refine r_caload H 216 i4 d_4_215 q84 (by decide) rfl rfl ?_
        refine r_castore H 217 i4 d_4_216 A82 (by decide) (Nat.le_of_ble_eq_true rfl) (nlt K77.1 (Nat.le_of_eq g78.symm)) (nar_char_id (by have := r_i4; omega)) rfl ?_
        intro h85 K85 A85
        have q86 := (q83.keep K82)
        change Ar Z h85 b78 kc78 .char [(.int i2), (.int i3), (.int i4), (.int (0 : Int32)), (.int (0 : Int32)), (.int (0 : Int32))] at A85
        refine r_dup H 218 d_4_217 rfl rfl ?_
        refine r_iconst H 219 (3 : Int32) d_4_218 (by decide) rfl ?_
        refine r_aloadN H 220 d_4_219 rfl rfl rfl ?_
        refine r_iconst H 221 (3 : Int32) d_4_220 (by decide) rfl ?_
        have q87 := (q84.keep K85 (ninS (Nat.ne_of_lt (Nat.lt_of_lt_of_le A_a1.lt (nlt K77.1 (Nat.le_of_eq g78.symm)))) nin0))
        refine r_caload H 222 i5 d_4_221 q87 (by decide) rfl rfl ?_
        refine r_castore H 223 i5 d_4_222 A85 (by decide) (Nat.le_of_ble_eq_true rfl) (nlt K77.1 (Nat.le_of_eq g78.symm)) (nar_char_id (by have := r_i5; omega)) rfl ?_
        intro h88 K88 A88
        have q89 := (q86.keep K85)
        change Ar Z h88 b78 kc78 .char [(.int i2), (.int i3), (.int i4), (.int i5), (.int (0 : Int32)), (.int (0 : Int32))] at A88
        refine r_dup H 224 d_4_223 rfl rfl ?_
        refine r_iconst H 225 (4 : Int32) d_4_224 (by decide) rfl ?_
        refine r_aloadN H 226 d_4_225 rfl rfl rfl ?_
        refine r_iconst H 227 (4 : Int32) d_4_226 (by decide) rfl ?_
        have q90 := (q87.keep K88 (ninS (Nat.ne_of_lt (Nat.lt_of_lt_of_le A_a1.lt (nlt K77.1 (Nat.le_of_eq g78.symm)))) nin0))
        refine r_caload H 228 i6 d_4_227 q90 (by decide) rfl rfl ?_
        refine r_castore H 229 i6 d_4_228 A88 (by decide) (Nat.le_of_ble_eq_true rfl) (nlt K77.1 (Nat.le_of_eq g78.symm)) (nar_char_id (by have := r_i6; omega)) rfl ?_
        intro h91 K91 A91
        have q92 := (q89.keep K88)
        change Ar Z h91 b78 kc78 .char [(.int i2), (.int i3), (.int i4), (.int i5), (.int i6), (.int (0 : Int32))] at A91
        refine r_dup H 230 d_4_229 rfl rfl ?_
        refine r_iconst H 231 (5 : Int32) d_4_230 (by decide) rfl ?_
        refine r_aloadN H 232 d_4_231 rfl rfl rfl ?_
        refine r_iconst H 233 (5 : Int32) d_4_232 (by decide) rfl ?_
        have q93 := (q90.keep K91 (ninS (Nat.ne_of_lt (Nat.lt_of_lt_of_le A_a1.lt (nlt K77.1 (Nat.le_of_eq g78.symm)))) nin0))
        refine r_caload H 234 i7 d_4_233 q93 (by decide) rfl rfl ?_
        refine r_castore H 235 i7 d_4_234 A91 (by decide) (Nat.le_of_ble_eq_true rfl) (nlt K77.1 (Nat.le_of_eq g78.symm)) (nar_char_id (by have := r_i7; omega)) rfl ?_
        intro h94 K94 A94
        have q95 := (q92.keep K91)
        change Ar Z h94 b78 kc78 .char [(.int i2), (.int i3), (.int i4), (.int i5), (.int i6), (.int i7)] at A94
        have q96 := (q95.keep K94)
        have q97 := (((((((E77.keep K78).keep K80).keep K82).keep K85).keep K88).keep K91).keep K94)
        have q98 := ((((((((show Fld Z h77 b77 "java/lang/String" "coder" "B" (.int (0 : Int32)) from D77 (Or.inr (tw34 hw)) (ty := .byte) (by decide)).keep K78 nin0).keep K80 (ninS (Nat.ne_of_lt (Nat.lt_of_lt_of_le E77.lt (nlt nlr (Nat.le_of_eq g78.symm)))) nin0)).keep K82 (ninS (Nat.ne_of_lt (Nat.lt_of_lt_of_le E77.lt (nlt nlr (Nat.le_of_eq g78.symm)))) nin0)).keep K85 (ninS (Nat.ne_of_lt (Nat.lt_of_lt_of_le E77.lt (nlt nlr (Nat.le_of_eq g78.symm)))) nin0)).keep K88 (ninS (Nat.ne_of_lt (Nat.lt_of_lt_of_le E77.lt (nlt nlr (Nat.le_of_eq g78.symm)))) nin0)).keep K91 (ninS (Nat.ne_of_lt (Nat.lt_of_lt_of_le E77.lt (nlt nlr (Nat.le_of_eq g78.symm)))) nin0)).keep K94 (ninS (Nat.ne_of_lt (Nat.lt_of_lt_of_le E77.lt (nlt nlr (Nat.le_of_eq g78.symm)))) nin0))
        have q99 := ((((((((show Fld Z h77 b77 "java/lang/String" "value" "[B" .null from D77 (Or.inr (tw36 hw)) (ty := (.array .byte)) (by decide)).keep K78 nin0).keep K80 (ninS (Nat.ne_of_lt (Nat.lt_of_lt_of_le E77.lt (nlt nlr (Nat.le_of_eq g78.symm)))) nin0)).keep K82 (ninS (Nat.ne_of_lt (Nat.lt_of_lt_of_le E77.lt (nlt nlr (Nat.le_of_eq g78.symm)))) nin0)).keep K85 (ninS (Nat.ne_of_lt (Nat.lt_of_lt_of_le E77.lt (nlt nlr (Nat.le_of_eq g78.symm)))) nin0)).keep K88 (ninS (Nat.ne_of_lt (Nat.lt_of_lt_of_le E77.lt (nlt nlr (Nat.le_of_eq g78.symm)))) nin0)).keep K91 (ninS (Nat.ne_of_lt (Nat.lt_of_lt_of_le E77.lt (nlt nlr (Nat.le_of_eq g78.symm)))) nin0)).keep K94 (ninS (Nat.ne_of_lt (Nat.lt_of_lt_of_le E77.lt (nlt nlr (Nat.le_of_eq g78.symm)))) nin0))
        have z100 := Nat.le_trans K77.1 K78.1
        have z101 := Nat.le_trans z100 K80.1
        have z102 := Nat.le_trans z101 K82.1
        have z103 := Nat.le_trans z102 K85.1
        have z104 := Nat.le_trans z103 K88.1
        have z105 := Nat.le_trans z104 K91.1
        have z106 := Nat.le_trans z105 K94.1
        refine r_special H 238 (a := b77) d_4_235 (tw11 hw) (tw12 hw) (tw10 hw) (tw13 hw) (by decide) rfl (lenOf pd_5 rfl) (rm_init_29 hw Ts b77 b78 i2 i3 i4 i5 i6 i7 kc78 cs h94 h0.size (nlt Zf Z0) z106 A94 (nlt nlr (Nat.le_of_eq g77.symm)) q96 q97 q98 q99 r_i2 r_i3 r_i4 r_i5 r_i6 r_i7 S_cs hcs) (argsL := [(.ref b78)]) (rest := [(.ref b77)]) rfl (W := 1) (nlq rfl) rfl (by decide) (by decide) (by decide) (by decide) nlr rfl ?_
        rintro _ hh116 ⟨b107, kc108, rfl, K109, g110, q111, q112, q113, q114, q115⟩
        have k117 : Keep h0 h77 [] := Keep.trans (Keep.refl h0 []) K77 all0
        have k118 : Keep h0 h78 [] := Keep.trans k117 K78 all0
        have k119 : Keep h0 h80 [] := Keep.trans k118 K80 (allS (Or.inr (nlt K77.1 (Nat.le_of_eq g78.symm))) all0)
        have k120 : Keep h0 h82 [] := Keep.trans k119 K82 (allS (Or.inr (nlt K77.1 (Nat.le_of_eq g78.symm))) all0)
        have k121 : Keep h0 h85 [] := Keep.trans k120 K85 (allS (Or.inr (nlt K77.1 (Nat.le_of_eq g78.symm))) all0)
        have k122 : Keep h0 h88 [] := Keep.trans k121 K88 (allS (Or.inr (nlt K77.1 (Nat.le_of_eq g78.symm))) all0)
        have k123 : Keep h0 h91 [] := Keep.trans k122 K91 (allS (Or.inr (nlt K77.1 (Nat.le_of_eq g78.symm))) all0)
        have k124 : Keep h0 h94 [] := Keep.trans k123 K94 (allS (Or.inr (nlt K77.1 (Nat.le_of_eq g78.symm))) all0)
        have k125 : Keep h0 hh116 [] := Keep.trans k124 K109 (allS (Or.inr (nlt nlr (Nat.le_of_eq g77.symm))) all0)
        have z126 := Nat.le_trans K78.1 K80.1
        have z127 := Nat.le_trans z126 K82.1
        have z128 := Nat.le_trans z127 K85.1
        have z129 := Nat.le_trans z128 K88.1
        have z130 := Nat.le_trans z129 K91.1
        have z131 := Nat.le_trans z130 K94.1
        exact r_areturn H rfl rfl d_4_238 (by decide) (by decide) Z0 (fun _ t => (.tail _ t)) (Or.inr (Or.inl ⟨b77, b107, kc108, rfl, c1, c3, c5, c7, c9, c11, c13, k125, (nlt nlr (Nat.le_of_eq g77.symm)), (nlt z106 g110), (Nat.lt_of_lt_of_le E77.lt (nlt z131 g110)), q111, q112, q113, q114, q115⟩))
      ·
       have rr132 : 5 ≤ i1.toInt ∧ i1.toInt ≤ 5 := by have := rr10; have : (5 : Int32).toInt = 5 := (by decide); have hc_ := c11; simp only [Int32.lt_iff_toInt_lt, ← Int32.toInt_inj] at hc_; omega
       refine r_new H 147 d_4_144 (tw8 hw) (tw9 hw) (tw10 hw) (by decide) (by decide) rfl ?_
       intro h133 b133 g133 l133 K133 E133 D133
       refine r_dup H 148 d_4_147 rfl rfl ?_
       refine r_iconst H 149 (5 : Int32) d_4_148 (by decide) rfl ?_
       refine r_newP H 151 "[C" 5 d_4_149 (tw0 hw) rfl (by decide) (by decide) (by decide) (by decide) (by decide) rfl ?_
       intro h134 b134 kc134 g134 l134 K134 E134 A134
       change Ar Z h134 b134 kc134 .char [(.int (0 : Int32)), (.int (0 : Int32)), (.int (0 : Int32)), (.int (0 : Int32)), (.int (0 : Int32))] at A134
       refine r_dup H 152 d_4_151 rfl rfl ?_
       refine r_iconst H 153 (0 : Int32) d_4_152 (by decide) rfl ?_
       refine r_aloadN H 154 d_4_153 rfl rfl rfl ?_
       refine r_iconst H 155 (0 : Int32) d_4_154 (by decide) rfl ?_
       have q135 := ((A_a1.keep K133 nin0).keep K134 nin0)
       refine r_caload H 156 i2 d_4_155 q135 (by decide) rfl rfl ?_
       refine r_castore H 157 i2 d_4_156 A134 (by decide) (Nat.le_of_ble_eq_true rfl) (nlt K133.1 (Nat.le_of_eq g134.symm)) (nar_char_id (by have := r_i2; omega)) rfl ?_
       intro h136 K136 A136
       change Ar Z h136 b134 kc134 .char [(.int i2), (.int (0 : Int32)), (.int (0 : Int32)), (.int (0 : Int32)), (.int (0 : Int32))] at A136
       refine r_dup H 158 d_4_157 rfl rfl ?_
       refine r_iconst H 159 (1 : Int32) d_4_158 (by decide) rfl ?_
       refine r_aloadN H 160 d_4_159 rfl rfl rfl ?_
       refine r_iconst H 161 (1 : Int32) d_4_160 (by decide) rfl ?_
       have q137 := (q135.keep K136 (ninS (Nat.ne_of_lt (Nat.lt_of_lt_of_le A_a1.lt (nlt K133.1 (Nat.le_of_eq g134.symm)))) nin0))
       refine r_caload H 162 i3 d_4_161 q137 (by decide) rfl rfl ?_
       refine r_castore H 163 i3 d_4_162 A136 (by decide) (Nat.le_of_ble_eq_true rfl) (nlt K133.1 (Nat.le_of_eq g134.symm)) (nar_char_id (by have := r_i3; omega)) rfl ?_
       intro h138 K138 A138
       have q139 := (E134.keep K136)
       change Ar Z h138 b134 kc134 .char [(.int i2), (.int i3), (.int (0 : Int32)), (.int (0 : Int32)), (.int (0 : Int32))] at A138
       refine r_dup H 164 d_4_163 rfl rfl ?_
       refine r_iconst H 165 (2 : Int32) d_4_164 (by decide) rfl ?_
       refine r_aloadN H 166 d_4_165 rfl rfl rfl ?_
       refine r_iconst H 167 (2 : Int32) d_4_166 (by decide) rfl ?_
       have q140 := (q137.keep K138 (ninS (Nat.ne_of_lt (Nat.lt_of_lt_of_le A_a1.lt (nlt K133.1 (Nat.le_of_eq g134.symm)))) nin0))
       refine r_caload H 168 i4 d_4_167 q140 (by decide) rfl rfl ?_
       refine r_castore H 169 i4 d_4_168 A138 (by decide) (Nat.le_of_ble_eq_true rfl) (nlt K133.1 (Nat.le_of_eq g134.symm)) (nar_char_id (by have := r_i4; omega)) rfl ?_
       intro h141 K141 A141
       have q142 := (q139.keep K138)
       change Ar Z h141 b134 kc134 .char [(.int i2), (.int i3), (.int i4), (.int (0 : Int32)), (.int (0 : Int32))] at A141
       refine r_dup H 170 d_4_169 rfl rfl ?_
       refine r_iconst H 171 (3 : Int32) d_4_170 (by decide) rfl ?_
       refine r_aloadN H 172 d_4_171 rfl rfl rfl ?_
       refine r_iconst H 173 (3 : Int32) d_4_172 (by decide) rfl ?_
       have q143 := (q140.keep K141 (ninS (Nat.ne_of_lt (Nat.lt_of_lt_of_le A_a1.lt (nlt K133.1 (Nat.le_of_eq g134.symm)))) nin0))
       refine r_caload H 174 i5 d_4_173 q143 (by decide) rfl rfl ?_
       refine r_castore H 175 i5 d_4_174 A141 (by decide) (Nat.le_of_ble_eq_true rfl) (nlt K133.1 (Nat.le_of_eq g134.symm)) (nar_char_id (by have := r_i5; omega)) rfl ?_
       intro h144 K144 A144
       have q145 := (q142.keep K141)
       change Ar Z h144 b134 kc134 .char [(.int i2), (.int i3), (.int i4), (.int i5), (.int (0 : Int32))] at A144
       refine r_dup H 176 d_4_175 rfl rfl ?_
       refine r_iconst H 177 (4 : Int32) d_4_176 (by decide) rfl ?_
       refine r_aloadN H 178 d_4_177 rfl rfl rfl ?_
       refine r_iconst H 179 (4 : Int32) d_4_178 (by decide) rfl ?_
       have q146 := (q143.keep K144 (ninS (Nat.ne_of_lt (Nat.lt_of_lt_of_le A_a1.lt (nlt K133.1 (Nat.le_of_eq g134.symm)))) nin0))
       refine r_caload H 180 i6 d_4_179 q146 (by decide) rfl rfl ?_
       refine r_castore H 181 i6 d_4_180 A144 (by decide) (Nat.le_of_ble_eq_true rfl) (nlt K133.1 (Nat.le_of_eq g134.symm)) (nar_char_id (by have := r_i6; omega)) rfl ?_
       intro h147 K147 A147
       have q148 := (q145.keep K144)
       change Ar Z h147 b134 kc134 .char [(.int i2), (.int i3), (.int i4), (.int i5), (.int i6)] at A147
       have q149 := (q148.keep K147)
       have q150 := ((((((E133.keep K134).keep K136).keep K138).keep K141).keep K144).keep K147)
       have q151 := (((((((show Fld Z h133 b133 "java/lang/String" "coder" "B" (.int (0 : Int32)) from D133 (Or.inr (tw34 hw)) (ty := .byte) (by decide)).keep K134 nin0).keep K136 (ninS (Nat.ne_of_lt (Nat.lt_of_lt_of_le E133.lt (nlt nlr (Nat.le_of_eq g134.symm)))) nin0)).keep K138 (ninS (Nat.ne_of_lt (Nat.lt_of_lt_of_le E133.lt (nlt nlr (Nat.le_of_eq g134.symm)))) nin0)).keep K141 (ninS (Nat.ne_of_lt (Nat.lt_of_lt_of_le E133.lt (nlt nlr (Nat.le_of_eq g134.symm)))) nin0)).keep K144 (ninS (Nat.ne_of_lt (Nat.lt_of_lt_of_le E133.lt (nlt nlr (Nat.le_of_eq g134.symm)))) nin0)).keep K147 (ninS (Nat.ne_of_lt (Nat.lt_of_lt_of_le E133.lt (nlt nlr (Nat.le_of_eq g134.symm)))) nin0))
       have q152 := (((((((show Fld Z h133 b133 "java/lang/String" "value" "[B" .null from D133 (Or.inr (tw36 hw)) (ty := (.array .byte)) (by decide)).keep K134 nin0).keep K136 (ninS (Nat.ne_of_lt (Nat.lt_of_lt_of_le E133.lt (nlt nlr (Nat.le_of_eq g134.symm)))) nin0)).keep K138 (ninS (Nat.ne_of_lt (Nat.lt_of_lt_of_le E133.lt (nlt nlr (Nat.le_of_eq g134.symm)))) nin0)).keep K141 (ninS (Nat.ne_of_lt (Nat.lt_of_lt_of_le E133.lt (nlt nlr (Nat.le_of_eq g134.symm)))) nin0)).keep K144 (ninS (Nat.ne_of_lt (Nat.lt_of_lt_of_le E133.lt (nlt nlr (Nat.le_of_eq g134.symm)))) nin0)).keep K147 (ninS (Nat.ne_of_lt (Nat.lt_of_lt_of_le E133.lt (nlt nlr (Nat.le_of_eq g134.symm)))) nin0))
       have z153 := Nat.le_trans K133.1 K134.1
       have z154 := Nat.le_trans z153 K136.1
       have z155 := Nat.le_trans z154 K138.1
       have z156 := Nat.le_trans z155 K141.1
       have z157 := Nat.le_trans z156 K144.1
       have z158 := Nat.le_trans z157 K147.1
       refine r_special H 184 (a := b133) d_4_181 (tw11 hw) (tw12 hw) (tw10 hw) (tw13 hw) (by decide) rfl (lenOf pd_5 rfl) (rm_init_45 hw Ts b133 b134 i2 i3 i4 i5 i6 kc134 cs h147 h0.size (nlt Zf Z0) z158 A147 (nlt nlr (Nat.le_of_eq g133.symm)) q149 q150 q151 q152 r_i2 r_i3 r_i4 r_i5 r_i6 S_cs hcs) (argsL := [(.ref b134)]) (rest := [(.ref b133)]) rfl (W := 1) (nlq rfl) rfl (by decide) (by decide) (by decide) (by decide) nlr rfl ?_
       rintro _ hh168 ⟨b159, kc160, rfl, K161, g162, q163, q164, q165, q166, q167⟩
       have k169 : Keep h0 h133 [] := Keep.trans (Keep.refl h0 []) K133 all0
       have k170 : Keep h0 h134 [] := Keep.trans k169 K134 all0
       have k171 : Keep h0 h136 [] := Keep.trans k170 K136 (allS (Or.inr (nlt K133.1 (Nat.le_of_eq g134.symm))) all0)
       have k172 : Keep h0 h138 [] := Keep.trans k171 K138 (allS (Or.inr (nlt K133.1 (Nat.le_of_eq g134.symm))) all0)
       have k173 : Keep h0 h141 [] := Keep.trans k172 K141 (allS (Or.inr (nlt K133.1 (Nat.le_of_eq g134.symm))) all0)
       have k174 : Keep h0 h144 [] := Keep.trans k173 K144 (allS (Or.inr (nlt K133.1 (Nat.le_of_eq g134.symm))) all0)
       have k175 : Keep h0 h147 [] := Keep.trans k174 K147 (allS (Or.inr (nlt K133.1 (Nat.le_of_eq g134.symm))) all0)
       have k176 : Keep h0 hh168 [] := Keep.trans k175 K161 (allS (Or.inr (nlt nlr (Nat.le_of_eq g133.symm))) all0)
       have z177 := Nat.le_trans K134.1 K136.1
       have z178 := Nat.le_trans z177 K138.1
       have z179 := Nat.le_trans z178 K141.1
       have z180 := Nat.le_trans z179 K144.1
       have z181 := Nat.le_trans z180 K147.1
       exact r_areturn H rfl rfl d_4_184 (by decide) (by decide) Z0 (fun _ t => (.tail _ t)) (Or.inr (Or.inr (Or.inl ⟨b133, b159, kc160, rfl, c1, c3, c5, c7, c9, c11, k176, (nlt nlr (Nat.le_of_eq g133.symm)), (nlt z158 g162), (Nat.lt_of_lt_of_le E133.lt (nlt z181 g162)), q163, q164, q165, q166, q167⟩)))
     ·
      have rr182 : 4 ≤ i1.toInt ∧ i1.toInt ≤ 4 := by have := rr8; have : (4 : Int32).toInt = 4 := (by decide); have hc_ := c9; simp only [Int32.lt_iff_toInt_lt, ← Int32.toInt_inj] at hc_; omega
      refine r_new H 107 d_4_104 (tw8 hw) (tw9 hw) (tw10 hw) (by decide) (by decide) rfl ?_
      intro h183 b183 g183 l183 K183 E183 D183
      refine r_dup H 108 d_4_107 rfl rfl ?_
      refine r_iconst H 109 (4 : Int32) d_4_108 (by decide) rfl ?_
      refine r_newP H 111 "[C" 4 d_4_109 (tw0 hw) rfl (by decide) (by decide) (by decide) (by decide) (by decide) rfl ?_
      intro h184 b184 kc184 g184 l184 K184 E184 A184
      change Ar Z h184 b184 kc184 .char [(.int (0 : Int32)), (.int (0 : Int32)), (.int (0 : Int32)), (.int (0 : Int32))] at A184
      refine r_dup H 112 d_4_111 rfl rfl ?_
      refine r_iconst H 113 (0 : Int32) d_4_112 (by decide) rfl ?_
      refine r_aloadN H 114 d_4_113 rfl rfl rfl ?_
      refine r_iconst H 115 (0 : Int32) d_4_114 (by decide) rfl ?_
      have q185 := ((A_a1.keep K183 nin0).keep K184 nin0)
      refine r_caload H 116 i2 d_4_115 q185 (by decide) rfl rfl ?_
      refine r_castore H 117 i2 d_4_116 A184 (by decide) (Nat.le_of_ble_eq_true rfl) (nlt K183.1 (Nat.le_of_eq g184.symm)) (nar_char_id (by have := r_i2; omega)) rfl ?_
      intro h186 K186 A186
      change Ar Z h186 b184 kc184 .char [(.int i2), (.int (0 : Int32)), (.int (0 : Int32)), (.int (0 : Int32))] at A186
      refine r_dup H 118 d_4_117 rfl rfl ?_
      refine r_iconst H 119 (1 : Int32) d_4_118 (by decide) rfl ?_
      refine r_aloadN H 120 d_4_119 rfl rfl rfl ?_
      refine r_iconst H 121 (1 : Int32) d_4_120 (by decide) rfl ?_
      have q187 := (q185.keep K186 (ninS (Nat.ne_of_lt (Nat.lt_of_lt_of_le A_a1.lt (nlt K183.1 (Nat.le_of_eq g184.symm)))) nin0))
      refine r_caload H 122 i3 d_4_121 q187 (by decide) rfl rfl ?_
      refine r_castore H 123 i3 d_4_122 A186 (by decide) (Nat.le_of_ble_eq_true rfl) (nlt K183.1 (Nat.le_of_eq g184.symm)) (nar_char_id (by have := r_i3; omega)) rfl ?_
      intro h188 K188 A188
      have q189 := (E184.keep K186)
      change Ar Z h188 b184 kc184 .char [(.int i2), (.int i3), (.int (0 : Int32)), (.int (0 : Int32))] at A188
      refine r_dup H 124 d_4_123 rfl rfl ?_
      refine r_iconst H 125 (2 : Int32) d_4_124 (by decide) rfl ?_
      refine r_aloadN H 126 d_4_125 rfl rfl rfl ?_
      refine r_iconst H 127 (2 : Int32) d_4_126 (by decide) rfl ?_
      have q190 := (q187.keep K188 (ninS (Nat.ne_of_lt (Nat.lt_of_lt_of_le A_a1.lt (nlt K183.1 (Nat.le_of_eq g184.symm)))) nin0))
      refine r_caload H 128 i4 d_4_127 q190 (by decide) rfl rfl ?_
      refine r_castore H 129 i4 d_4_128 A188 (by decide) (Nat.le_of_ble_eq_true rfl) (nlt K183.1 (Nat.le_of_eq g184.symm)) (nar_char_id (by have := r_i4; omega)) rfl ?_
      intro h191 K191 A191
      have q192 := (q189.keep K188)
      change Ar Z h191 b184 kc184 .char [(.int i2), (.int i3), (.int i4), (.int (0 : Int32))] at A191
      refine r_dup H 130 d_4_129 rfl rfl ?_
      refine r_iconst H 131 (3 : Int32) d_4_130 (by decide) rfl ?_
      refine r_aloadN H 132 d_4_131 rfl rfl rfl ?_
      refine r_iconst H 133 (3 : Int32) d_4_132 (by decide) rfl ?_
      have q193 := (q190.keep K191 (ninS (Nat.ne_of_lt (Nat.lt_of_lt_of_le A_a1.lt (nlt K183.1 (Nat.le_of_eq g184.symm)))) nin0))
      refine r_caload H 134 i5 d_4_133 q193 (by decide) rfl rfl ?_
      refine r_castore H 135 i5 d_4_134 A191 (by decide) (Nat.le_of_ble_eq_true rfl) (nlt K183.1 (Nat.le_of_eq g184.symm)) (nar_char_id (by have := r_i5; omega)) rfl ?_
      intro h194 K194 A194
      have q195 := (q192.keep K191)
      change Ar Z h194 b184 kc184 .char [(.int i2), (.int i3), (.int i4), (.int i5)] at A194
      have q196 := (q195.keep K194)
      have q197 := (((((E183.keep K184).keep K186).keep K188).keep K191).keep K194)
      have q198 := ((((((show Fld Z h183 b183 "java/lang/String" "coder" "B" (.int (0 : Int32)) from D183 (Or.inr (tw34 hw)) (ty := .byte) (by decide)).keep K184 nin0).keep K186 (ninS (Nat.ne_of_lt (Nat.lt_of_lt_of_le E183.lt (nlt nlr (Nat.le_of_eq g184.symm)))) nin0)).keep K188 (ninS (Nat.ne_of_lt (Nat.lt_of_lt_of_le E183.lt (nlt nlr (Nat.le_of_eq g184.symm)))) nin0)).keep K191 (ninS (Nat.ne_of_lt (Nat.lt_of_lt_of_le E183.lt (nlt nlr (Nat.le_of_eq g184.symm)))) nin0)).keep K194 (ninS (Nat.ne_of_lt (Nat.lt_of_lt_of_le E183.lt (nlt nlr (Nat.le_of_eq g184.symm)))) nin0))
      have q199 := ((((((show Fld Z h183 b183 "java/lang/String" "value" "[B" .null from D183 (Or.inr (tw36 hw)) (ty := (.array .byte)) (by decide)).keep K184 nin0).keep K186 (ninS (Nat.ne_of_lt (Nat.lt_of_lt_of_le E183.lt (nlt nlr (Nat.le_of_eq g184.symm)))) nin0)).keep K188 (ninS (Nat.ne_of_lt (Nat.lt_of_lt_of_le E183.lt (nlt nlr (Nat.le_of_eq g184.symm)))) nin0)).keep K191 (ninS (Nat.ne_of_lt (Nat.lt_of_lt_of_le E183.lt (nlt nlr (Nat.le_of_eq g184.symm)))) nin0)).keep K194 (ninS (Nat.ne_of_lt (Nat.lt_of_lt_of_le E183.lt (nlt nlr (Nat.le_of_eq g184.symm)))) nin0))
      have z200 := Nat.le_trans K183.1 K184.1
      have z201 := Nat.le_trans z200 K186.1
      have z202 := Nat.le_trans z201 K188.1
      have z203 := Nat.le_trans z202 K191.1
      have z204 := Nat.le_trans z203 K194.1
      refine r_special H 138 (a := b183) d_4_135 (tw11 hw) (tw12 hw) (tw10 hw) (tw13 hw) (by decide) rfl (lenOf pd_5 rfl) (rm_init_50 hw Ts b183 b184 i2 i3 i4 i5 kc184 cs h194 h0.size (nlt Zf Z0) z204 A194 (nlt nlr (Nat.le_of_eq g183.symm)) q196 q197 q198 q199 r_i2 r_i3 r_i4 r_i5 S_cs hcs) (argsL := [(.ref b184)]) (rest := [(.ref b183)]) rfl (W := 1) (nlq rfl) rfl (by decide) (by decide) (by decide) (by decide) nlr rfl ?_
      rintro _ hh214 ⟨b205, kc206, rfl, K207, g208, q209, q210, q211, q212, q213⟩
      have k215 : Keep h0 h183 [] := Keep.trans (Keep.refl h0 []) K183 all0
      have k216 : Keep h0 h184 [] := Keep.trans k215 K184 all0
      have k217 : Keep h0 h186 [] := Keep.trans k216 K186 (allS (Or.inr (nlt K183.1 (Nat.le_of_eq g184.symm))) all0)
      have k218 : Keep h0 h188 [] := Keep.trans k217 K188 (allS (Or.inr (nlt K183.1 (Nat.le_of_eq g184.symm))) all0)
      have k219 : Keep h0 h191 [] := Keep.trans k218 K191 (allS (Or.inr (nlt K183.1 (Nat.le_of_eq g184.symm))) all0)
      have k220 : Keep h0 h194 [] := Keep.trans k219 K194 (allS (Or.inr (nlt K183.1 (Nat.le_of_eq g184.symm))) all0)
      have k221 : Keep h0 hh214 [] := Keep.trans k220 K207 (allS (Or.inr (nlt nlr (Nat.le_of_eq g183.symm))) all0)
      have z222 := Nat.le_trans K184.1 K186.1
      have z223 := Nat.le_trans z222 K188.1
      have z224 := Nat.le_trans z223 K191.1
      have z225 := Nat.le_trans z224 K194.1
      exact r_areturn H rfl rfl d_4_138 (by decide) (by decide) Z0 (fun _ t => (.tail _ t)) (Or.inr (Or.inr (Or.inr (Or.inl ⟨b183, b205, kc206, rfl, c1, c3, c5, c7, c9, k221, (nlt nlr (Nat.le_of_eq g183.symm)), (nlt z204 g208), (Nat.lt_of_lt_of_le E183.lt (nlt z225 g208)), q209, q210, q211, q212, q213⟩))))
    ·
     have rr226 : 3 ≤ i1.toInt ∧ i1.toInt ≤ 3 := by have := rr6; have : (3 : Int32).toInt = 3 := (by decide); have hc_ := c7; simp only [Int32.lt_iff_toInt_lt, ← Int32.toInt_inj] at hc_; omega
     refine r_new H 73 d_4_70 (tw8 hw) (tw9 hw) (tw10 hw) (by decide) (by decide) rfl ?_
     intro h227 b227 g227 l227 K227 E227 D227
     refine r_dup H 74 d_4_73 rfl rfl ?_
     refine r_iconst H 75 (3 : Int32) d_4_74 (by decide) rfl ?_
     refine r_newP H 77 "[C" 3 d_4_75 (tw0 hw) rfl (by decide) (by decide) (by decide) (by decide) (by decide) rfl ?_
     intro h228 b228 kc228 g228 l228 K228 E228 A228
     change Ar Z h228 b228 kc228 .char [(.int (0 : Int32)), (.int (0 : Int32)), (.int (0 : Int32))] at A228
     refine r_dup H 78 d_4_77 rfl rfl ?_
     refine r_iconst H 79 (0 : Int32) d_4_78 (by decide) rfl ?_
     refine r_aloadN H 80 d_4_79 rfl rfl rfl ?_
     refine r_iconst H 81 (0 : Int32) d_4_80 (by decide) rfl ?_
     have q229 := ((A_a1.keep K227 nin0).keep K228 nin0)
     refine r_caload H 82 i2 d_4_81 q229 (by decide) rfl rfl ?_
     refine r_castore H 83 i2 d_4_82 A228 (by decide) (Nat.le_of_ble_eq_true rfl) (nlt K227.1 (Nat.le_of_eq g228.symm)) (nar_char_id (by have := r_i2; omega)) rfl ?_
     intro h230 K230 A230
     change Ar Z h230 b228 kc228 .char [(.int i2), (.int (0 : Int32)), (.int (0 : Int32))] at A230
     refine r_dup H 84 d_4_83 rfl rfl ?_
     refine r_iconst H 85 (1 : Int32) d_4_84 (by decide) rfl ?_
     refine r_aloadN H 86 d_4_85 rfl rfl rfl ?_
     refine r_iconst H 87 (1 : Int32) d_4_86 (by decide) rfl ?_
     have q231 := (q229.keep K230 (ninS (Nat.ne_of_lt (Nat.lt_of_lt_of_le A_a1.lt (nlt K227.1 (Nat.le_of_eq g228.symm)))) nin0))
     refine r_caload H 88 i3 d_4_87 q231 (by decide) rfl rfl ?_
     refine r_castore H 89 i3 d_4_88 A230 (by decide) (Nat.le_of_ble_eq_true rfl) (nlt K227.1 (Nat.le_of_eq g228.symm)) (nar_char_id (by have := r_i3; omega)) rfl ?_
     intro h232 K232 A232
     have q233 := (E228.keep K230)
     change Ar Z h232 b228 kc228 .char [(.int i2), (.int i3), (.int (0 : Int32))] at A232
     refine r_dup H 90 d_4_89 rfl rfl ?_
     refine r_iconst H 91 (2 : Int32) d_4_90 (by decide) rfl ?_
     refine r_aloadN H 92 d_4_91 rfl rfl rfl ?_
     refine r_iconst H 93 (2 : Int32) d_4_92 (by decide) rfl ?_
     have q234 := (q231.keep K232 (ninS (Nat.ne_of_lt (Nat.lt_of_lt_of_le A_a1.lt (nlt K227.1 (Nat.le_of_eq g228.symm)))) nin0))
     refine r_caload H 94 i4 d_4_93 q234 (by decide) rfl rfl ?_
     refine r_castore H 95 i4 d_4_94 A232 (by decide) (Nat.le_of_ble_eq_true rfl) (nlt K227.1 (Nat.le_of_eq g228.symm)) (nar_char_id (by have := r_i4; omega)) rfl ?_
     intro h235 K235 A235
     have q236 := (q233.keep K232)
     change Ar Z h235 b228 kc228 .char [(.int i2), (.int i3), (.int i4)] at A235
     have q237 := (q236.keep K235)
     have q238 := ((((E227.keep K228).keep K230).keep K232).keep K235)
     have q239 := (((((show Fld Z h227 b227 "java/lang/String" "coder" "B" (.int (0 : Int32)) from D227 (Or.inr (tw34 hw)) (ty := .byte) (by decide)).keep K228 nin0).keep K230 (ninS (Nat.ne_of_lt (Nat.lt_of_lt_of_le E227.lt (nlt nlr (Nat.le_of_eq g228.symm)))) nin0)).keep K232 (ninS (Nat.ne_of_lt (Nat.lt_of_lt_of_le E227.lt (nlt nlr (Nat.le_of_eq g228.symm)))) nin0)).keep K235 (ninS (Nat.ne_of_lt (Nat.lt_of_lt_of_le E227.lt (nlt nlr (Nat.le_of_eq g228.symm)))) nin0))
     have q240 := (((((show Fld Z h227 b227 "java/lang/String" "value" "[B" .null from D227 (Or.inr (tw36 hw)) (ty := (.array .byte)) (by decide)).keep K228 nin0).keep K230 (ninS (Nat.ne_of_lt (Nat.lt_of_lt_of_le E227.lt (nlt nlr (Nat.le_of_eq g228.symm)))) nin0)).keep K232 (ninS (Nat.ne_of_lt (Nat.lt_of_lt_of_le E227.lt (nlt nlr (Nat.le_of_eq g228.symm)))) nin0)).keep K235 (ninS (Nat.ne_of_lt (Nat.lt_of_lt_of_le E227.lt (nlt nlr (Nat.le_of_eq g228.symm)))) nin0))
     have z241 := Nat.le_trans K227.1 K228.1
     have z242 := Nat.le_trans z241 K230.1
     have z243 := Nat.le_trans z242 K232.1
     have z244 := Nat.le_trans z243 K235.1
     refine r_special H 98 (a := b227) d_4_95 (tw11 hw) (tw12 hw) (tw10 hw) (tw13 hw) (by decide) rfl (lenOf pd_5 rfl) (rm_init_3 hw Ts b227 b228 i2 i3 i4 kc228 cs h235 h0.size (nlt Zf Z0) z244 A235 (nlt nlr (Nat.le_of_eq g227.symm)) q237 q238 q239 q240 r_i2 r_i3 r_i4 S_cs hcs) (argsL := [(.ref b228)]) (rest := [(.ref b227)]) rfl (W := 1) (nlq rfl) rfl (by decide) (by decide) (by decide) (by decide) nlr rfl ?_
     rintro _ hh254 ⟨b245, kc246, rfl, K247, g248, q249, q250, q251, q252, q253⟩
     have k255 : Keep h0 h227 [] := Keep.trans (Keep.refl h0 []) K227 all0
     have k256 : Keep h0 h228 [] := Keep.trans k255 K228 all0
     have k257 : Keep h0 h230 [] := Keep.trans k256 K230 (allS (Or.inr (nlt K227.1 (Nat.le_of_eq g228.symm))) all0)
     have k258 : Keep h0 h232 [] := Keep.trans k257 K232 (allS (Or.inr (nlt K227.1 (Nat.le_of_eq g228.symm))) all0)
     have k259 : Keep h0 h235 [] := Keep.trans k258 K235 (allS (Or.inr (nlt K227.1 (Nat.le_of_eq g228.symm))) all0)
     have k260 : Keep h0 hh254 [] := Keep.trans k259 K247 (allS (Or.inr (nlt nlr (Nat.le_of_eq g227.symm))) all0)
     have z261 := Nat.le_trans K228.1 K230.1
     have z262 := Nat.le_trans z261 K232.1
     have z263 := Nat.le_trans z262 K235.1
     exact r_areturn H rfl rfl d_4_98 (by decide) (by decide) Z0 (fun _ t => (.tail _ t)) (Or.inr (Or.inr (Or.inr (Or.inr (Or.inl ⟨b227, b245, kc246, rfl, c1, c3, c5, c7, k260, (nlt nlr (Nat.le_of_eq g227.symm)), (nlt z244 g248), (Nat.lt_of_lt_of_le E227.lt (nlt z263 g248)), q249, q250, q251, q252, q253⟩)))))
   ·
    have rr264 : 2 ≤ i1.toInt ∧ i1.toInt ≤ 2 := by have := rr4; have : (2 : Int32).toInt = 2 := (by decide); have hc_ := c5; simp only [Int32.lt_iff_toInt_lt, ← Int32.toInt_inj] at hc_; omega
    refine r_new H 45 d_4_42 (tw8 hw) (tw9 hw) (tw10 hw) (by decide) (by decide) rfl ?_
    intro h265 b265 g265 l265 K265 E265 D265
    refine r_dup H 46 d_4_45 rfl rfl ?_
    refine r_iconst H 47 (2 : Int32) d_4_46 (by decide) rfl ?_
    refine r_newP H 49 "[C" 2 d_4_47 (tw0 hw) rfl (by decide) (by decide) (by decide) (by decide) (by decide) rfl ?_
    intro h266 b266 kc266 g266 l266 K266 E266 A266
    change Ar Z h266 b266 kc266 .char [(.int (0 : Int32)), (.int (0 : Int32))] at A266
    refine r_dup H 50 d_4_49 rfl rfl ?_
    refine r_iconst H 51 (0 : Int32) d_4_50 (by decide) rfl ?_
    refine r_aloadN H 52 d_4_51 rfl rfl rfl ?_
    refine r_iconst H 53 (0 : Int32) d_4_52 (by decide) rfl ?_
    have q267 := ((A_a1.keep K265 nin0).keep K266 nin0)
    refine r_caload H 54 i2 d_4_53 q267 (by decide) rfl rfl ?_
    refine r_castore H 55 i2 d_4_54 A266 (by decide) (Nat.le_of_ble_eq_true rfl) (nlt K265.1 (Nat.le_of_eq g266.symm)) (nar_char_id (by have := r_i2; omega)) rfl ?_
    intro h268 K268 A268
    change Ar Z h268 b266 kc266 .char [(.int i2), (.int (0 : Int32))] at A268
    refine r_dup H 56 d_4_55 rfl rfl ?_
    refine r_iconst H 57 (1 : Int32) d_4_56 (by decide) rfl ?_
    refine r_aloadN H 58 d_4_57 rfl rfl rfl ?_
    refine r_iconst H 59 (1 : Int32) d_4_58 (by decide) rfl ?_
    have q269 := (q267.keep K268 (ninS (Nat.ne_of_lt (Nat.lt_of_lt_of_le A_a1.lt (nlt K265.1 (Nat.le_of_eq g266.symm)))) nin0))
    refine r_caload H 60 i3 d_4_59 q269 (by decide) rfl rfl ?_
    refine r_castore H 61 i3 d_4_60 A268 (by decide) (Nat.le_of_ble_eq_true rfl) (nlt K265.1 (Nat.le_of_eq g266.symm)) (nar_char_id (by have := r_i3; omega)) rfl ?_
    intro h270 K270 A270
    have q271 := (E266.keep K268)
    change Ar Z h270 b266 kc266 .char [(.int i2), (.int i3)] at A270
    have q272 := (q271.keep K270)
    have q273 := (((E265.keep K266).keep K268).keep K270)
    have q274 := ((((show Fld Z h265 b265 "java/lang/String" "coder" "B" (.int (0 : Int32)) from D265 (Or.inr (tw34 hw)) (ty := .byte) (by decide)).keep K266 nin0).keep K268 (ninS (Nat.ne_of_lt (Nat.lt_of_lt_of_le E265.lt (nlt nlr (Nat.le_of_eq g266.symm)))) nin0)).keep K270 (ninS (Nat.ne_of_lt (Nat.lt_of_lt_of_le E265.lt (nlt nlr (Nat.le_of_eq g266.symm)))) nin0))
    have q275 := ((((show Fld Z h265 b265 "java/lang/String" "value" "[B" .null from D265 (Or.inr (tw36 hw)) (ty := (.array .byte)) (by decide)).keep K266 nin0).keep K268 (ninS (Nat.ne_of_lt (Nat.lt_of_lt_of_le E265.lt (nlt nlr (Nat.le_of_eq g266.symm)))) nin0)).keep K270 (ninS (Nat.ne_of_lt (Nat.lt_of_lt_of_le E265.lt (nlt nlr (Nat.le_of_eq g266.symm)))) nin0))
    have z276 := Nat.le_trans K265.1 K266.1
    have z277 := Nat.le_trans z276 K268.1
    have z278 := Nat.le_trans z277 K270.1
    refine r_special H 64 (a := b265) d_4_61 (tw11 hw) (tw12 hw) (tw10 hw) (tw13 hw) (by decide) rfl (lenOf pd_5 rfl) (rm_init_8 hw Ts b265 b266 i2 i3 kc266 cs h270 h0.size (nlt Zf Z0) z278 A270 (nlt nlr (Nat.le_of_eq g265.symm)) q272 q273 q274 q275 r_i2 r_i3 S_cs hcs) (argsL := [(.ref b266)]) (rest := [(.ref b265)]) rfl (W := 1) (nlq rfl) rfl (by decide) (by decide) (by decide) (by decide) nlr rfl ?_
    rintro _ hh288 ⟨b279, kc280, rfl, K281, g282, q283, q284, q285, q286, q287⟩
    have k289 : Keep h0 h265 [] := Keep.trans (Keep.refl h0 []) K265 all0
    have k290 : Keep h0 h266 [] := Keep.trans k289 K266 all0
    have k291 : Keep h0 h268 [] := Keep.trans k290 K268 (allS (Or.inr (nlt K265.1 (Nat.le_of_eq g266.symm))) all0)
    have k292 : Keep h0 h270 [] := Keep.trans k291 K270 (allS (Or.inr (nlt K265.1 (Nat.le_of_eq g266.symm))) all0)
    have k293 : Keep h0 hh288 [] := Keep.trans k292 K281 (allS (Or.inr (nlt nlr (Nat.le_of_eq g265.symm))) all0)
    have z294 := Nat.le_trans K266.1 K268.1
    have z295 := Nat.le_trans z294 K270.1
    exact r_areturn H rfl rfl d_4_64 (by decide) (by decide) Z0 (fun _ t => (.tail _ t)) (Or.inr (Or.inr (Or.inr (Or.inr (Or.inr (Or.inl ⟨b265, b279, kc280, rfl, c1, c3, c5, k293, (nlt nlr (Nat.le_of_eq g265.symm)), (nlt z278 g282), (Nat.lt_of_lt_of_le E265.lt (nlt z295 g282)), q283, q284, q285, q286, q287⟩))))))
  ·
   have rr296 : 1 ≤ i1.toInt ∧ i1.toInt ≤ 1 := by have := rr2; have : (1 : Int32).toInt = 1 := (by decide); have hc_ := c3; simp only [Int32.lt_iff_toInt_lt, ← Int32.toInt_inj] at hc_; omega
   refine r_new H 23 d_4_20 (tw8 hw) (tw9 hw) (tw10 hw) (by decide) (by decide) rfl ?_
   intro h297 b297 g297 l297 K297 E297 D297
   refine r_dup H 24 d_4_23 rfl rfl ?_
   refine r_iconst H 25 (1 : Int32) d_4_24 (by decide) rfl ?_
   refine r_newP H 27 "[C" 1 d_4_25 (tw0 hw) rfl (by decide) (by decide) (by decide) (by decide) (by decide) rfl ?_
   intro h298 b298 kc298 g298 l298 K298 E298 A298
   change Ar Z h298 b298 kc298 .char [(.int (0 : Int32))] at A298
   refine r_dup H 28 d_4_27 rfl rfl ?_
   refine r_iconst H 29 (0 : Int32) d_4_28 (by decide) rfl ?_
   refine r_aloadN H 30 d_4_29 rfl rfl rfl ?_
   refine r_iconst H 31 (0 : Int32) d_4_30 (by decide) rfl ?_
   have q299 := ((A_a1.keep K297 nin0).keep K298 nin0)
   refine r_caload H 32 i2 d_4_31 q299 (by decide) rfl rfl ?_
   refine r_castore H 33 i2 d_4_32 A298 (by decide) (Nat.le_of_ble_eq_true rfl) (nlt K297.1 (Nat.le_of_eq g298.symm)) (nar_char_id (by have := r_i2; omega)) rfl ?_
   intro h300 K300 A300
   change Ar Z h300 b298 kc298 .char [(.int i2)] at A300
   have q301 := ((E297.keep K298).keep K300)
   have q302 := (((show Fld Z h297 b297 "java/lang/String" "coder" "B" (.int (0 : Int32)) from D297 (Or.inr (tw34 hw)) (ty := .byte) (by decide)).keep K298 nin0).keep K300 (ninS (Nat.ne_of_lt (Nat.lt_of_lt_of_le E297.lt (nlt nlr (Nat.le_of_eq g298.symm)))) nin0))
   have q303 := (((show Fld Z h297 b297 "java/lang/String" "value" "[B" .null from D297 (Or.inr (tw36 hw)) (ty := (.array .byte)) (by decide)).keep K298 nin0).keep K300 (ninS (Nat.ne_of_lt (Nat.lt_of_lt_of_le E297.lt (nlt nlr (Nat.le_of_eq g298.symm)))) nin0))
   have z304 := Nat.le_trans K297.1 K298.1
   have z305 := Nat.le_trans z304 K300.1
   refine r_special H 36 (a := b297) d_4_33 (tw11 hw) (tw12 hw) (tw10 hw) (tw13 hw) (by decide) rfl (lenOf pd_5 rfl) (rm_init_55 hw Ts b297 b298 i2 kc298 cs h300 h0.size (nlt Zf Z0) z305 A300 (nlt nlr (Nat.le_of_eq g297.symm)) q301 q302 q303 r_i2 S_cs hcs) (argsL := [(.ref b298)]) (rest := [(.ref b297)]) rfl (W := 1) (nlq rfl) rfl (by decide) (by decide) (by decide) (by decide) nlr rfl ?_
   rintro _ hh315 ⟨b306, kc307, rfl, K308, g309, q310, q311, q312, q313, q314⟩
   have k316 : Keep h0 h297 [] := Keep.trans (Keep.refl h0 []) K297 all0
   have k317 : Keep h0 h298 [] := Keep.trans k316 K298 all0
   have k318 : Keep h0 h300 [] := Keep.trans k317 K300 (allS (Or.inr (nlt K297.1 (Nat.le_of_eq g298.symm))) all0)
   have k319 : Keep h0 hh315 [] := Keep.trans k318 K308 (allS (Or.inr (nlt nlr (Nat.le_of_eq g297.symm))) all0)
   have z320 := Nat.le_trans K298.1 K300.1
   exact r_areturn H rfl rfl d_4_36 (by decide) (by decide) Z0 (fun _ t => (.tail _ t)) (Or.inr (Or.inr (Or.inr (Or.inr (Or.inr (Or.inr (Or.inl ⟨b297, b306, kc307, rfl, c1, c3, k319, (nlt nlr (Nat.le_of_eq g297.symm)), (nlt z305 g309), (Nat.lt_of_lt_of_le E297.lt (nlt z320 g309)), q310, q311, q312, q313, q314⟩)))))))
 ·
  have rr321 : 0 ≤ i1.toInt ∧ i1.toInt ≤ 0 := by have := r_i1; have : (0 : Int32).toInt = 0 := (by decide); have hc_ := c1; simp only [Int32.lt_iff_toInt_lt, ← Int32.toInt_inj] at hc_; omega
  refine r_new H 7 d_4_4 (tw8 hw) (tw9 hw) (tw10 hw) (by decide) (by decide) rfl ?_
  intro h322 b322 g322 l322 K322 E322 D322
  refine r_dup H 8 d_4_7 rfl rfl ?_
  refine r_iconst H 9 (0 : Int32) d_4_8 (by decide) rfl ?_
  refine r_newP H 11 "[C" 0 d_4_9 (tw0 hw) rfl (by decide) (by decide) (by decide) (by decide) (by decide) rfl ?_
  intro h323 b323 kc323 g323 l323 K323 E323 A323
  change Ar Z h323 b323 kc323 .char [] at A323
  have q324 := (E322.keep K323)
  have q325 := ((show Fld Z h322 b322 "java/lang/String" "value" "[B" .null from D322 (Or.inr (tw36 hw)) (ty := (.array .byte)) (by decide)).keep K323 nin0)
  have q326 := ((show Fld Z h322 b322 "java/lang/String" "coder" "B" (.int (0 : Int32)) from D322 (Or.inr (tw34 hw)) (ty := .byte) (by decide)).keep K323 nin0)
  have z327 := Nat.le_trans K322.1 K323.1
  refine r_special H 14 (a := b322) d_4_11 (tw11 hw) (tw12 hw) (tw10 hw) (tw13 hw) (by decide) rfl (lenOf pd_5 rfl) (rm_init_60 hw Ts b322 b323 kc323 h323 h0.size (nlt Zf Z0) z327 A323 (nlt nlr (Nat.le_of_eq g322.symm)) q324 q325 q326 wS hcw hh2 hT_empty) (argsL := [(.ref b323)]) (rest := [(.ref b322)]) rfl (W := 1) (nlq rfl) rfl (by decide) (by decide) (by decide) (by decide) nlr rfl ?_
  rintro _ hh335 ⟨b328, kc329, rfl, K330, q331, q332, q333, q334⟩
  have k336 : Keep h0 h322 [] := Keep.trans (Keep.refl h0 []) K322 all0
  have k337 : Keep h0 h323 [] := Keep.trans k336 K323 all0
  have k338 : Keep h0 hh335 [] := Keep.trans k337 K330 (allS (Or.inr (nlt nlr (Nat.le_of_eq g322.symm))) all0)
  exact r_areturn H rfl rfl d_4_14 (by decide) (by decide) Z0 (fun _ t => t) (Or.inr (Or.inr (Or.inr (Or.inr (Or.inr (Or.inr (Or.inr (⟨b322, b328, kc329, rfl, c1, k338, (nlt nlr (Nat.le_of_eq g322.symm)), q331, q332, q333, q334⟩))))))))
def Q_equals_64 (Z : State) (h0 : Heap) (v : Option Value) (h : Heap) : Prop := v = some (.int (0 : Int32)) ∧ h0 = h
def R_equals_64 : Room := { frames := 0, cells := 0, slots := 0, locals := 0 }
theorem rm_equals_64 {w : Bool} {Z : State} {a0 : Array Value} (hw : HW a0 Z) (Ts : List String) (a1 : Addr) (a2 : Addr) (i1 : Int32) (i2 : Int32) (i3 : Int32) (i4 : Int32) (i5 : Int32) (c1 : ClassId) (c2 : ClassId) (h0 : Heap) (f : Nat) (Zf : Z.heap.size ≤ f) (Z0 : f ≤ h0.size) (A_a1 : Ar Z h0 a1 c1 .byte [(.int i1), (.int i2), (.int i3), (.int i4), (.int i5)]) (A_a2 : Ar Z h0 a2 c2 .byte [(.int (45 : Int32)), (.int (45 : Int32)), (.int (104 : Int32)), (.int (101 : Int32)), (.int (108 : Int32)), (.int (112 : Int32))]) :
  Con w [] Z (⟨"java/lang/StringLatin1", "equals", "([B[B)Z"⟩ : MethodName) jdk_43_method_13_code 3 (some .boolean) R_equals_64 Ts Ts f #[(.ref a1), (.ref a2)] h0 (Q_equals_64 Z h0) := by
 refine con_of f #[.val (.ref a1), .val (.ref a2), .unset] (plainFor_of_name pn_3) (fun m => rfl) Zf ?_
 intro C H hX0
 refine r_aloadN H 1 d_j43_13_0 rfl rfl rfl ?_
 refine r_alen H 2 (5 : Int32) d_j43_13_1 A_a1 rfl rfl ?_
 refine r_aloadN H 3 d_j43_13_2 rfl rfl rfl ?_
 refine r_alen H 4 (6 : Int32) d_j43_13_3 A_a2 rfl rfl ?_
 refine r_icmpneT H 34 d_j43_13_4 (by decide) (by decide) (by decide) ?_
 refine r_iconst H 35 (0 : Int32) d_j43_13_34 (by decide) rfl ?_
 exact r_nreturn (0 : Int32) H (by simp) d_j43_13_35 (by decide) (by decide) (by decide) nlr (fun _ t => t) (⟨rfl, rfl⟩)
def Q_equals_63 (Z : State) (h0 : Heap) (v : Option Value) (h : Heap) : Prop := v = some (.int (0 : Int32)) ∧ h0 = h
def R_equals_63 : Room := { frames := 1, cells := 0, slots := 0, locals := 14 }
theorem rm_equals_63 {w : Bool} {Z : State} {a0 : Array Value} (hw : HW a0 Z) (Ts : List String) (a1 : Addr) (a2 : Addr) (a3 : Addr) (a4 : Addr) (i1 : Int32) (i2 : Int32) (i3 : Int32) (i4 : Int32) (i5 : Int32) (c1 : ClassId) (c2 : ClassId) (cs : Int32) (h0 : Heap) (f : Nat) (Zf : Z.heap.size ≤ f) (Z0 : f ≤ h0.size) (F_value_a1 : Fld Z h0 a1 "java/lang/String" "value" "[B" (.ref a3)) (F_value_a2 : Fld Z h0 a2 "java/lang/String" "value" "[B" (.ref a4)) (A_a3 : Ar Z h0 a3 c1 .byte [(.int i1), (.int i2), (.int i3), (.int i4), (.int i5)]) (A_a4 : Ar Z h0 a4 c2 .byte [(.int (45 : Int32)), (.int (45 : Int32)), (.int (104 : Int32)), (.int (101 : Int32)), (.int (108 : Int32)), (.int (112 : Int32))]) (E_a2 : Exa Z h0 a2 "java/lang/String") (F_coder_a1 : Fld Z h0 a1 "java/lang/String" "coder" "B" (.int (0 : Int32))) (F_coder_a2 : Fld Z h0 a2 "java/lang/String" "coder" "B" (.int (0 : Int32))) (S_cs : G_S_cs Z cs) (hcs : ¬ cs = 0) :
  Con w [] Z (⟨"java/lang/String", "equals", "(Ljava/lang/Object;)Z"⟩ : MethodName) jdk_42_method_66_code 3 (some .boolean) R_equals_63 Ts Ts f #[(.ref a1), (.ref a2)] h0 (Q_equals_63 Z h0) := by
 refine con_of f #[.val (.ref a1), .val (.ref a2), .unset] (plainFor_of_name pn_2) (fun m => rfl) Zf ?_
 intro C H hX0
 refine r_aloadN H 1 d_j42_66_0 rfl rfl rfl ?_
 refine r_aloadN H 2 d_j42_66_1 rfl rfl rfl ?_
 by_cases hab1 : a1 = a2
 · exact absurd (str_eqv (hab1 ▸ F_value_a1) F_value_a2 A_a3 A_a4) (by simp)
 refine r_acmp H 7 false d_j42_66_2 rfl rfl (decide_eq_false fun q => hab1 (Value.ref.inj q)) (by decide) (by decide) ?_
 refine r_aloadN H 8 d_j42_66_7 rfl rfl rfl ?_
 refine r_instY H 11 d_j42_66_8 (tw49 hw) (Ins.self E_a2) rfl ?_
 refine r_ifeqF H 14 d_j42_66_11 rfl (by decide) ?_
 refine r_aloadN H 15 d_j42_66_14 rfl rfl rfl ?_
 refine r_castY H 18 d_j42_66_15 (tw49 hw) (Ins.self E_a2) rfl ?_
 refine r_astoreN H 19 #[.val (.ref a1), .val (.ref a2), .val (.ref a2)] d_j42_66_18 rfl rfl rfl ?_
 refine r_gets H 22 d_j42_66_19 (tw21 hw) Via.refl S_cs rfl ?_
 refine r_ifeqF H 25 d_j42_66_22 rfl hcs ?_
 refine r_aloadN H 26 d_j42_66_25 rfl rfl rfl ?_
 refine r_getf H 29 d_j42_66_26 (tw33 hw) Via.refl F_coder_a1 rfl ?_
 refine r_aloadN H 30 d_j42_66_29 rfl rfl rfl ?_
 refine r_getf H 33 d_j42_66_30 (tw33 hw) Via.refl F_coder_a2 rfl ?_
 refine r_icmpneF H 36 d_j42_66_33 rfl (by decide) ?_
 refine r_aloadN H 37 d_j42_66_36 rfl rfl rfl ?_
 refine r_getf H 40 d_j42_66_37 (tw35 hw) Via.refl F_value_a1 rfl ?_
 refine r_aloadN H 41 d_j42_66_40 rfl rfl rfl ?_
 refine r_getf H 44 d_j42_66_41 (tw35 hw) Via.refl F_value_a2 rfl ?_
 refine r_static H 47 d_j42_66_44 (tw50 hw) (tw51 hw) (tw52 hw) (tw53 hw) (by decide) (lenOf pd_7 rfl) (rm_equals_64 hw Ts a3 a4 i1 i2 i3 i4 i5 c1 c2 h0 f Zf Z0 A_a3 A_a4) (argsL := [(.ref a3), (.ref a4)]) (rest := []) rfl (W := 0) (nlq rfl) rfl (by decide) (by decide) (by decide) (by decide) nlr rfl ?_
 rintro _ _ ⟨rfl, rfl⟩
 refine r_ifeqT H 54 d_j42_66_47 (by decide) (by decide) (by decide) ?_
 refine r_iconst H 55 (0 : Int32) d_j42_66_54 (by decide) rfl ?_
 exact r_nreturn (0 : Int32) H (by simp) d_j42_66_55 (by decide) (by decide) (by decide) nlr (fun _ t => t) (⟨rfl, rfl⟩)
def Q_equals_66 (Z : State) (h0 : Heap) (v : Option Value) (h : Heap) : Prop := v = some (.int (0 : Int32)) ∧ h0 = h
def R_equals_66 : Room := { frames := 0, cells := 0, slots := 0, locals := 0 }
theorem rm_equals_66 {w : Bool} {Z : State} {a0 : Array Value} (hw : HW a0 Z) (Ts : List String) (a1 : Addr) (a2 : Addr) (i1 : Int32) (i2 : Int32) (i3 : Int32) (i4 : Int32) (i5 : Int32) (c1 : ClassId) (c2 : ClassId) (h0 : Heap) (f : Nat) (Zf : Z.heap.size ≤ f) (Z0 : f ≤ h0.size) (A_a1 : Ar Z h0 a1 c1 .byte [(.int i1), (.int i2), (.int i3), (.int i4), (.int i5)]) (A_a2 : Ar Z h0 a2 c2 .byte [(.int (45 : Int32)), (.int (104 : Int32))]) :
  Con w [] Z (⟨"java/lang/StringLatin1", "equals", "([B[B)Z"⟩ : MethodName) jdk_43_method_13_code 3 (some .boolean) R_equals_66 Ts Ts f #[(.ref a1), (.ref a2)] h0 (Q_equals_66 Z h0) := by
 refine con_of f #[.val (.ref a1), .val (.ref a2), .unset] (plainFor_of_name pn_3) (fun m => rfl) Zf ?_
 intro C H hX0
 refine r_aloadN H 1 d_j43_13_0 rfl rfl rfl ?_
 refine r_alen H 2 (5 : Int32) d_j43_13_1 A_a1 rfl rfl ?_
 refine r_aloadN H 3 d_j43_13_2 rfl rfl rfl ?_
 refine r_alen H 4 (2 : Int32) d_j43_13_3 A_a2 rfl rfl ?_
 refine r_icmpneT H 34 d_j43_13_4 (by decide) (by decide) (by decide) ?_
 refine r_iconst H 35 (0 : Int32) d_j43_13_34 (by decide) rfl ?_
 exact r_nreturn (0 : Int32) H (by simp) d_j43_13_35 (by decide) (by decide) (by decide) nlr (fun _ t => t) (⟨rfl, rfl⟩)
def Q_equals_65 (Z : State) (h0 : Heap) (v : Option Value) (h : Heap) : Prop := v = some (.int (0 : Int32)) ∧ h0 = h
def R_equals_65 : Room := { frames := 1, cells := 0, slots := 0, locals := 14 }
theorem rm_equals_65 {w : Bool} {Z : State} {a0 : Array Value} (hw : HW a0 Z) (Ts : List String) (a1 : Addr) (a2 : Addr) (a3 : Addr) (a4 : Addr) (i1 : Int32) (i2 : Int32) (i3 : Int32) (i4 : Int32) (i5 : Int32) (c1 : ClassId) (c2 : ClassId) (cs : Int32) (h0 : Heap) (f : Nat) (Zf : Z.heap.size ≤ f) (Z0 : f ≤ h0.size) (F_value_a1 : Fld Z h0 a1 "java/lang/String" "value" "[B" (.ref a3)) (F_value_a2 : Fld Z h0 a2 "java/lang/String" "value" "[B" (.ref a4)) (A_a3 : Ar Z h0 a3 c1 .byte [(.int i1), (.int i2), (.int i3), (.int i4), (.int i5)]) (A_a4 : Ar Z h0 a4 c2 .byte [(.int (45 : Int32)), (.int (104 : Int32))]) (E_a2 : Exa Z h0 a2 "java/lang/String") (F_coder_a1 : Fld Z h0 a1 "java/lang/String" "coder" "B" (.int (0 : Int32))) (F_coder_a2 : Fld Z h0 a2 "java/lang/String" "coder" "B" (.int (0 : Int32))) (S_cs : G_S_cs Z cs) (hcs : ¬ cs = 0) :
  Con w [] Z (⟨"java/lang/String", "equals", "(Ljava/lang/Object;)Z"⟩ : MethodName) jdk_42_method_66_code 3 (some .boolean) R_equals_65 Ts Ts f #[(.ref a1), (.ref a2)] h0 (Q_equals_65 Z h0) := by
 refine con_of f #[.val (.ref a1), .val (.ref a2), .unset] (plainFor_of_name pn_2) (fun m => rfl) Zf ?_
 intro C H hX0
 refine r_aloadN H 1 d_j42_66_0 rfl rfl rfl ?_
 refine r_aloadN H 2 d_j42_66_1 rfl rfl rfl ?_
 by_cases hab1 : a1 = a2
 · exact absurd (str_eqv (hab1 ▸ F_value_a1) F_value_a2 A_a3 A_a4) (by simp)
 refine r_acmp H 7 false d_j42_66_2 rfl rfl (decide_eq_false fun q => hab1 (Value.ref.inj q)) (by decide) (by decide) ?_
 refine r_aloadN H 8 d_j42_66_7 rfl rfl rfl ?_
 refine r_instY H 11 d_j42_66_8 (tw49 hw) (Ins.self E_a2) rfl ?_
 refine r_ifeqF H 14 d_j42_66_11 rfl (by decide) ?_
 refine r_aloadN H 15 d_j42_66_14 rfl rfl rfl ?_
 refine r_castY H 18 d_j42_66_15 (tw49 hw) (Ins.self E_a2) rfl ?_
 refine r_astoreN H 19 #[.val (.ref a1), .val (.ref a2), .val (.ref a2)] d_j42_66_18 rfl rfl rfl ?_
 refine r_gets H 22 d_j42_66_19 (tw21 hw) Via.refl S_cs rfl ?_
 refine r_ifeqF H 25 d_j42_66_22 rfl hcs ?_
 refine r_aloadN H 26 d_j42_66_25 rfl rfl rfl ?_
 refine r_getf H 29 d_j42_66_26 (tw33 hw) Via.refl F_coder_a1 rfl ?_
 refine r_aloadN H 30 d_j42_66_29 rfl rfl rfl ?_
 refine r_getf H 33 d_j42_66_30 (tw33 hw) Via.refl F_coder_a2 rfl ?_
 refine r_icmpneF H 36 d_j42_66_33 rfl (by decide) ?_
 refine r_aloadN H 37 d_j42_66_36 rfl rfl rfl ?_
 refine r_getf H 40 d_j42_66_37 (tw35 hw) Via.refl F_value_a1 rfl ?_
 refine r_aloadN H 41 d_j42_66_40 rfl rfl rfl ?_
 refine r_getf H 44 d_j42_66_41 (tw35 hw) Via.refl F_value_a2 rfl ?_
 refine r_static H 47 d_j42_66_44 (tw50 hw) (tw51 hw) (tw52 hw) (tw53 hw) (by decide) (lenOf pd_7 rfl) (rm_equals_66 hw Ts a3 a4 i1 i2 i3 i4 i5 c1 c2 h0 f Zf Z0 A_a3 A_a4) (argsL := [(.ref a3), (.ref a4)]) (rest := []) rfl (W := 0) (nlq rfl) rfl (by decide) (by decide) (by decide) (by decide) nlr rfl ?_
 rintro _ _ ⟨rfl, rfl⟩
 refine r_ifeqT H 54 d_j42_66_47 (by decide) (by decide) (by decide) ?_
 refine r_iconst H 55 (0 : Int32) d_j42_66_54 (by decide) rfl ?_
 exact r_nreturn (0 : Int32) H (by simp) d_j42_66_55 (by decide) (by decide) (by decide) nlr (fun _ t => t) (⟨rfl, rfl⟩)
def Q_isHelp_62 (Z : State) (h0 : Heap) (v : Option Value) (h : Heap) : Prop := v = some (.int (0 : Int32)) ∧ Keep h0 h []
def R_isHelp_62 : Room := { frames := 2, cells := 4, slots := 40, locals := 28 }
theorem rm_isHelp_62 {Z : State} {a0 : Array Value} (hw : HW a0 Z) (Ts : List String) (a1 : Addr) (a2 : Addr) (i1 : Int32) (i2 : Int32) (i3 : Int32) (i4 : Int32) (i5 : Int32) (c1 : ClassId) (cs : Int32) (h0 : Heap) (f : Nat) (Zf : Z.heap.size ≤ f) (Z0 : f ≤ h0.size) (E_a1 : Exa Z h0 a1 "java/lang/String") (F_value_a1 : Fld Z h0 a1 "java/lang/String" "value" "[B" (.ref a2)) (A_a2 : Ar Z h0 a2 c1 .byte [(.int i1), (.int i2), (.int i3), (.int i4), (.int i5)]) (F_coder_a1 : Fld Z h0 a1 "java/lang/String" "coder" "B" (.int (0 : Int32))) (wS : G_wS Z a0) (hcw : G_hcw Z a0) (hh0 : G_hh0 Z) (S_cs : G_S_cs Z cs) (hh1 : G_hh1 Z) (hT__2d__2d_help : "--help" ∉ Ts) (hT__2d_h : "-h" ∉ Ts) (hcs : ¬ cs = 0) :
  Con true [] Z (⟨"com/example/maniera/maniera/cli/CommandLine", "isHelp", "(Ljava/lang/String;)Z"⟩ : MethodName) prog_2_method_4_code 1 (some .boolean) R_isHelp_62 Ts ("--help" :: "-h" :: Ts) f #[(.ref a1)] h0 (Q_isHelp_62 Z h0) := by
 refine con_of h0.size #[.val (.ref a1)] (plainFor_of_name pn_4) (fun m => rfl) (nlt Zf Z0) ?_
 intro C H hX0
 refine r_aloadN H 1 d_g2_4_0 rfl rfl rfl ?_
 refine r_ldcS H 3 (vs := [(.int (45 : Int32)), (.int (45 : Int32)), (.int (104 : Int32)), (.int (101 : Int32)), (.int (108 : Int32)), (.int (112 : Int32))]) (z := (6 : Int32)) 24 d_g2_4_1 (tw41 hw) wS hT__2d__2d_help hh0 hcw ⟨by decide, by decide⟩ (by decide) (by decide) (by decide) (by decide) (by decide) (by decide) rfl ?_
 intro h1 la1 lv1 kl1 K1 E1 C1 V1 A1 D1
 have q2 := (F_value_a1.keep K1 nin0)
 have q3 := (A_a2.keep K1 nin0)
 have q4 := (F_coder_a1.keep K1 nin0)
 have q5 := (E_a1.keep K1)
 refine r_virtual H 6 (z := (⟨"java/lang/String", "equals", "(Ljava/lang/Object;)Z"⟩ : MethodName)) (a := a1) d_g2_4_3 (tw44 hw) (tw45 hw) (nf_sel (tw47 hw)) (tw47 hw) (tw46 hw) (tw10 hw) (tw48 hw) (by decide) q5 (lenOf pd_8 rfl) (rm_equals_63 hw ("--help" :: Ts) a1 la1 a2 lv1 i1 i2 i3 i4 i5 c1 kl1 cs h1 h0.size (nlt Zf Z0) K1.1 q2 V1 q3 A1 E1 q4 C1 S_cs hcs) (argsL := [(.ref la1)]) (rest := []) rfl (W := 0) (nlq rfl) rfl (by decide) (by decide) (by decide) (by decide) nlr rfl ?_
 rintro _ _ ⟨rfl, rfl⟩
 refine r_ifneF H 9 d_g2_4_6 rfl (by decide) ?_
 refine r_aloadN H 10 d_g2_4_9 rfl rfl rfl ?_
 refine r_ldcS H 12 (vs := [(.int (45 : Int32)), (.int (104 : Int32))]) (z := (2 : Int32)) 8 d_g2_4_10 (tw54 hw) wS (nin_cons (by decide) hT__2d_h) hh1 hcw ⟨by decide, by decide⟩ (by decide) (by decide) (by decide) (by decide) (by decide) (by decide) rfl ?_
 intro h7 la7 lv7 kl7 K7 E7 C7 V7 A7 D7
 have q8 := (q2.keep K7 nin0)
 have q9 := (q3.keep K7 nin0)
 have q10 := (q4.keep K7 nin0)
 have z11 := Nat.le_trans K1.1 K7.1
 have q12 := (q5.keep K7)
 refine r_virtual H 15 (z := (⟨"java/lang/String", "equals", "(Ljava/lang/Object;)Z"⟩ : MethodName)) (a := a1) d_g2_4_12 (tw44 hw) (tw45 hw) (nf_sel (tw47 hw)) (tw47 hw) (tw46 hw) (tw10 hw) (tw48 hw) (by decide) q12 (lenOf pd_8 rfl) (rm_equals_65 hw ("-h" :: "--help" :: Ts) a1 la7 a2 lv7 i1 i2 i3 i4 i5 c1 kl7 cs h7 h0.size (nlt Zf Z0) z11 q8 V7 q9 A7 E7 q10 C7 S_cs hcs) (argsL := [(.ref la7)]) (rest := []) rfl (W := 0) (nlq rfl) rfl (by decide) (by decide) (by decide) (by decide) nlr rfl ?_
 rintro _ _ ⟨rfl, rfl⟩
 refine r_ifeqT H 22 d_g2_4_15 (by decide) (by decide) (by decide) ?_
 refine r_iconst H 23 (0 : Int32) d_g2_4_22 (by decide) rfl ?_
 have k14 : Keep h0 h1 [] := Keep.trans (Keep.refl h0 []) K1 all0
 have k15 : Keep h0 h7 [] := Keep.trans k14 K7 all0
 exact r_nreturn (0 : Int32) H (by simp) d_g2_4_23 (by decide) (by decide) (by decide) Z0 (by intro t ht; simp only [List.mem_cons] at ht ⊢; rcases ht with ht | ht | ht <;> simp [ht]) (⟨rfl, k15⟩)
def Q_equals_69 (Z : State) (h0 : Heap) (v : Option Value) (h : Heap) : Prop := v = some (.int (0 : Int32)) ∧ h0 = h
def R_equals_69 : Room := { frames := 0, cells := 0, slots := 0, locals := 0 }
theorem rm_equals_69 {w : Bool} {Z : State} {a0 : Array Value} (hw : HW a0 Z) (Ts : List String) (a1 : Addr) (a2 : Addr) (i1 : Int32) (i2 : Int32) (i3 : Int32) (i4 : Int32) (c1 : ClassId) (c2 : ClassId) (h0 : Heap) (f : Nat) (Zf : Z.heap.size ≤ f) (Z0 : f ≤ h0.size) (A_a1 : Ar Z h0 a1 c1 .byte [(.int i1), (.int i2), (.int i3), (.int i4)]) (A_a2 : Ar Z h0 a2 c2 .byte [(.int (45 : Int32)), (.int (45 : Int32)), (.int (104 : Int32)), (.int (101 : Int32)), (.int (108 : Int32)), (.int (112 : Int32))]) :
  Con w [] Z (⟨"java/lang/StringLatin1", "equals", "([B[B)Z"⟩ : MethodName) jdk_43_method_13_code 3 (some .boolean) R_equals_69 Ts Ts f #[(.ref a1), (.ref a2)] h0 (Q_equals_69 Z h0) := by
 refine con_of f #[.val (.ref a1), .val (.ref a2), .unset] (plainFor_of_name pn_3) (fun m => rfl) Zf ?_
 intro C H hX0
 refine r_aloadN H 1 d_j43_13_0 rfl rfl rfl ?_
 refine r_alen H 2 (4 : Int32) d_j43_13_1 A_a1 rfl rfl ?_
 refine r_aloadN H 3 d_j43_13_2 rfl rfl rfl ?_
 refine r_alen H 4 (6 : Int32) d_j43_13_3 A_a2 rfl rfl ?_
 refine r_icmpneT H 34 d_j43_13_4 (by decide) (by decide) (by decide) ?_
 refine r_iconst H 35 (0 : Int32) d_j43_13_34 (by decide) rfl ?_
 exact r_nreturn (0 : Int32) H (by simp) d_j43_13_35 (by decide) (by decide) (by decide) nlr (fun _ t => t) (⟨rfl, rfl⟩)
def Q_equals_68 (Z : State) (h0 : Heap) (v : Option Value) (h : Heap) : Prop := v = some (.int (0 : Int32)) ∧ h0 = h
def R_equals_68 : Room := { frames := 1, cells := 0, slots := 0, locals := 14 }
theorem rm_equals_68 {w : Bool} {Z : State} {a0 : Array Value} (hw : HW a0 Z) (Ts : List String) (a1 : Addr) (a2 : Addr) (a3 : Addr) (a4 : Addr) (i1 : Int32) (i2 : Int32) (i3 : Int32) (i4 : Int32) (c1 : ClassId) (c2 : ClassId) (cs : Int32) (h0 : Heap) (f : Nat) (Zf : Z.heap.size ≤ f) (Z0 : f ≤ h0.size) (F_value_a1 : Fld Z h0 a1 "java/lang/String" "value" "[B" (.ref a3)) (F_value_a2 : Fld Z h0 a2 "java/lang/String" "value" "[B" (.ref a4)) (A_a3 : Ar Z h0 a3 c1 .byte [(.int i1), (.int i2), (.int i3), (.int i4)]) (A_a4 : Ar Z h0 a4 c2 .byte [(.int (45 : Int32)), (.int (45 : Int32)), (.int (104 : Int32)), (.int (101 : Int32)), (.int (108 : Int32)), (.int (112 : Int32))]) (E_a2 : Exa Z h0 a2 "java/lang/String") (F_coder_a1 : Fld Z h0 a1 "java/lang/String" "coder" "B" (.int (0 : Int32))) (F_coder_a2 : Fld Z h0 a2 "java/lang/String" "coder" "B" (.int (0 : Int32))) (S_cs : G_S_cs Z cs) (hcs : ¬ cs = 0) :
  Con w [] Z (⟨"java/lang/String", "equals", "(Ljava/lang/Object;)Z"⟩ : MethodName) jdk_42_method_66_code 3 (some .boolean) R_equals_68 Ts Ts f #[(.ref a1), (.ref a2)] h0 (Q_equals_68 Z h0) := by
 refine con_of f #[.val (.ref a1), .val (.ref a2), .unset] (plainFor_of_name pn_2) (fun m => rfl) Zf ?_
 intro C H hX0
 refine r_aloadN H 1 d_j42_66_0 rfl rfl rfl ?_
 refine r_aloadN H 2 d_j42_66_1 rfl rfl rfl ?_
 by_cases hab1 : a1 = a2
 · exact absurd (str_eqv (hab1 ▸ F_value_a1) F_value_a2 A_a3 A_a4) (by simp)
 refine r_acmp H 7 false d_j42_66_2 rfl rfl (decide_eq_false fun q => hab1 (Value.ref.inj q)) (by decide) (by decide) ?_
 refine r_aloadN H 8 d_j42_66_7 rfl rfl rfl ?_
 refine r_instY H 11 d_j42_66_8 (tw49 hw) (Ins.self E_a2) rfl ?_
 refine r_ifeqF H 14 d_j42_66_11 rfl (by decide) ?_
 refine r_aloadN H 15 d_j42_66_14 rfl rfl rfl ?_
 refine r_castY H 18 d_j42_66_15 (tw49 hw) (Ins.self E_a2) rfl ?_
 refine r_astoreN H 19 #[.val (.ref a1), .val (.ref a2), .val (.ref a2)] d_j42_66_18 rfl rfl rfl ?_
 refine r_gets H 22 d_j42_66_19 (tw21 hw) Via.refl S_cs rfl ?_
 refine r_ifeqF H 25 d_j42_66_22 rfl hcs ?_
 refine r_aloadN H 26 d_j42_66_25 rfl rfl rfl ?_
 refine r_getf H 29 d_j42_66_26 (tw33 hw) Via.refl F_coder_a1 rfl ?_
 refine r_aloadN H 30 d_j42_66_29 rfl rfl rfl ?_
 refine r_getf H 33 d_j42_66_30 (tw33 hw) Via.refl F_coder_a2 rfl ?_
 refine r_icmpneF H 36 d_j42_66_33 rfl (by decide) ?_
 refine r_aloadN H 37 d_j42_66_36 rfl rfl rfl ?_
 refine r_getf H 40 d_j42_66_37 (tw35 hw) Via.refl F_value_a1 rfl ?_
 refine r_aloadN H 41 d_j42_66_40 rfl rfl rfl ?_
 refine r_getf H 44 d_j42_66_41 (tw35 hw) Via.refl F_value_a2 rfl ?_
 refine r_static H 47 d_j42_66_44 (tw50 hw) (tw51 hw) (tw52 hw) (tw53 hw) (by decide) (lenOf pd_7 rfl) (rm_equals_69 hw Ts a3 a4 i1 i2 i3 i4 c1 c2 h0 f Zf Z0 A_a3 A_a4) (argsL := [(.ref a3), (.ref a4)]) (rest := []) rfl (W := 0) (nlq rfl) rfl (by decide) (by decide) (by decide) (by decide) nlr rfl ?_
 rintro _ _ ⟨rfl, rfl⟩
 refine r_ifeqT H 54 d_j42_66_47 (by decide) (by decide) (by decide) ?_
 refine r_iconst H 55 (0 : Int32) d_j42_66_54 (by decide) rfl ?_
 exact r_nreturn (0 : Int32) H (by simp) d_j42_66_55 (by decide) (by decide) (by decide) nlr (fun _ t => t) (⟨rfl, rfl⟩)
def Q_equals_71 (Z : State) (h0 : Heap) (v : Option Value) (h : Heap) : Prop := v = some (.int (0 : Int32)) ∧ h0 = h
def R_equals_71 : Room := { frames := 0, cells := 0, slots := 0, locals := 0 }
theorem rm_equals_71 {w : Bool} {Z : State} {a0 : Array Value} (hw : HW a0 Z) (Ts : List String) (a1 : Addr) (a2 : Addr) (i1 : Int32) (i2 : Int32) (i3 : Int32) (i4 : Int32) (c1 : ClassId) (c2 : ClassId) (h0 : Heap) (f : Nat) (Zf : Z.heap.size ≤ f) (Z0 : f ≤ h0.size) (A_a1 : Ar Z h0 a1 c1 .byte [(.int i1), (.int i2), (.int i3), (.int i4)]) (A_a2 : Ar Z h0 a2 c2 .byte [(.int (45 : Int32)), (.int (104 : Int32))]) :
  Con w [] Z (⟨"java/lang/StringLatin1", "equals", "([B[B)Z"⟩ : MethodName) jdk_43_method_13_code 3 (some .boolean) R_equals_71 Ts Ts f #[(.ref a1), (.ref a2)] h0 (Q_equals_71 Z h0) := by
 refine con_of f #[.val (.ref a1), .val (.ref a2), .unset] (plainFor_of_name pn_3) (fun m => rfl) Zf ?_
 intro C H hX0
 refine r_aloadN H 1 d_j43_13_0 rfl rfl rfl ?_
 refine r_alen H 2 (4 : Int32) d_j43_13_1 A_a1 rfl rfl ?_
 refine r_aloadN H 3 d_j43_13_2 rfl rfl rfl ?_
 refine r_alen H 4 (2 : Int32) d_j43_13_3 A_a2 rfl rfl ?_
 refine r_icmpneT H 34 d_j43_13_4 (by decide) (by decide) (by decide) ?_
 refine r_iconst H 35 (0 : Int32) d_j43_13_34 (by decide) rfl ?_
 exact r_nreturn (0 : Int32) H (by simp) d_j43_13_35 (by decide) (by decide) (by decide) nlr (fun _ t => t) (⟨rfl, rfl⟩)
def Q_equals_70 (Z : State) (h0 : Heap) (v : Option Value) (h : Heap) : Prop := v = some (.int (0 : Int32)) ∧ h0 = h
def R_equals_70 : Room := { frames := 1, cells := 0, slots := 0, locals := 14 }
theorem rm_equals_70 {w : Bool} {Z : State} {a0 : Array Value} (hw : HW a0 Z) (Ts : List String) (a1 : Addr) (a2 : Addr) (a3 : Addr) (a4 : Addr) (i1 : Int32) (i2 : Int32) (i3 : Int32) (i4 : Int32) (c1 : ClassId) (c2 : ClassId) (cs : Int32) (h0 : Heap) (f : Nat) (Zf : Z.heap.size ≤ f) (Z0 : f ≤ h0.size) (F_value_a1 : Fld Z h0 a1 "java/lang/String" "value" "[B" (.ref a3)) (F_value_a2 : Fld Z h0 a2 "java/lang/String" "value" "[B" (.ref a4)) (A_a3 : Ar Z h0 a3 c1 .byte [(.int i1), (.int i2), (.int i3), (.int i4)]) (A_a4 : Ar Z h0 a4 c2 .byte [(.int (45 : Int32)), (.int (104 : Int32))]) (E_a2 : Exa Z h0 a2 "java/lang/String") (F_coder_a1 : Fld Z h0 a1 "java/lang/String" "coder" "B" (.int (0 : Int32))) (F_coder_a2 : Fld Z h0 a2 "java/lang/String" "coder" "B" (.int (0 : Int32))) (S_cs : G_S_cs Z cs) (hcs : ¬ cs = 0) :
  Con w [] Z (⟨"java/lang/String", "equals", "(Ljava/lang/Object;)Z"⟩ : MethodName) jdk_42_method_66_code 3 (some .boolean) R_equals_70 Ts Ts f #[(.ref a1), (.ref a2)] h0 (Q_equals_70 Z h0) := by
 refine con_of f #[.val (.ref a1), .val (.ref a2), .unset] (plainFor_of_name pn_2) (fun m => rfl) Zf ?_
 intro C H hX0
 refine r_aloadN H 1 d_j42_66_0 rfl rfl rfl ?_
 refine r_aloadN H 2 d_j42_66_1 rfl rfl rfl ?_
 by_cases hab1 : a1 = a2
 · exact absurd (str_eqv (hab1 ▸ F_value_a1) F_value_a2 A_a3 A_a4) (by simp)
 refine r_acmp H 7 false d_j42_66_2 rfl rfl (decide_eq_false fun q => hab1 (Value.ref.inj q)) (by decide) (by decide) ?_
 refine r_aloadN H 8 d_j42_66_7 rfl rfl rfl ?_
 refine r_instY H 11 d_j42_66_8 (tw49 hw) (Ins.self E_a2) rfl ?_
 refine r_ifeqF H 14 d_j42_66_11 rfl (by decide) ?_
 refine r_aloadN H 15 d_j42_66_14 rfl rfl rfl ?_
 refine r_castY H 18 d_j42_66_15 (tw49 hw) (Ins.self E_a2) rfl ?_
 refine r_astoreN H 19 #[.val (.ref a1), .val (.ref a2), .val (.ref a2)] d_j42_66_18 rfl rfl rfl ?_
 refine r_gets H 22 d_j42_66_19 (tw21 hw) Via.refl S_cs rfl ?_
 refine r_ifeqF H 25 d_j42_66_22 rfl hcs ?_
 refine r_aloadN H 26 d_j42_66_25 rfl rfl rfl ?_
 refine r_getf H 29 d_j42_66_26 (tw33 hw) Via.refl F_coder_a1 rfl ?_
 refine r_aloadN H 30 d_j42_66_29 rfl rfl rfl ?_
 refine r_getf H 33 d_j42_66_30 (tw33 hw) Via.refl F_coder_a2 rfl ?_
 refine r_icmpneF H 36 d_j42_66_33 rfl (by decide) ?_
 refine r_aloadN H 37 d_j42_66_36 rfl rfl rfl ?_
 refine r_getf H 40 d_j42_66_37 (tw35 hw) Via.refl F_value_a1 rfl ?_
 refine r_aloadN H 41 d_j42_66_40 rfl rfl rfl ?_
 refine r_getf H 44 d_j42_66_41 (tw35 hw) Via.refl F_value_a2 rfl ?_
 refine r_static H 47 d_j42_66_44 (tw50 hw) (tw51 hw) (tw52 hw) (tw53 hw) (by decide) (lenOf pd_7 rfl) (rm_equals_71 hw Ts a3 a4 i1 i2 i3 i4 c1 c2 h0 f Zf Z0 A_a3 A_a4) (argsL := [(.ref a3), (.ref a4)]) (rest := []) rfl (W := 0) (nlq rfl) rfl (by decide) (by decide) (by decide) (by decide) nlr rfl ?_
 rintro _ _ ⟨rfl, rfl⟩
 refine r_ifeqT H 54 d_j42_66_47 (by decide) (by decide) (by decide) ?_
 refine r_iconst H 55 (0 : Int32) d_j42_66_54 (by decide) rfl ?_
 exact r_nreturn (0 : Int32) H (by simp) d_j42_66_55 (by decide) (by decide) (by decide) nlr (fun _ t => t) (⟨rfl, rfl⟩)
def Q_isHelp_67 (Z : State) (h0 : Heap) (v : Option Value) (h : Heap) : Prop := v = some (.int (0 : Int32)) ∧ Keep h0 h []
def R_isHelp_67 : Room := { frames := 2, cells := 4, slots := 40, locals := 28 }
theorem rm_isHelp_67 {Z : State} {a0 : Array Value} (hw : HW a0 Z) (Ts : List String) (a1 : Addr) (a2 : Addr) (i1 : Int32) (i2 : Int32) (i3 : Int32) (i4 : Int32) (c1 : ClassId) (cs : Int32) (h0 : Heap) (f : Nat) (Zf : Z.heap.size ≤ f) (Z0 : f ≤ h0.size) (E_a1 : Exa Z h0 a1 "java/lang/String") (F_value_a1 : Fld Z h0 a1 "java/lang/String" "value" "[B" (.ref a2)) (A_a2 : Ar Z h0 a2 c1 .byte [(.int i1), (.int i2), (.int i3), (.int i4)]) (F_coder_a1 : Fld Z h0 a1 "java/lang/String" "coder" "B" (.int (0 : Int32))) (wS : G_wS Z a0) (hcw : G_hcw Z a0) (hh0 : G_hh0 Z) (S_cs : G_S_cs Z cs) (hh1 : G_hh1 Z) (hT__2d__2d_help : "--help" ∉ Ts) (hT__2d_h : "-h" ∉ Ts) (hcs : ¬ cs = 0) :
  Con true [] Z (⟨"com/example/maniera/maniera/cli/CommandLine", "isHelp", "(Ljava/lang/String;)Z"⟩ : MethodName) prog_2_method_4_code 1 (some .boolean) R_isHelp_67 Ts ("--help" :: "-h" :: Ts) f #[(.ref a1)] h0 (Q_isHelp_67 Z h0) := by
 refine con_of h0.size #[.val (.ref a1)] (plainFor_of_name pn_4) (fun m => rfl) (nlt Zf Z0) ?_
 intro C H hX0
 refine r_aloadN H 1 d_g2_4_0 rfl rfl rfl ?_
 refine r_ldcS H 3 (vs := [(.int (45 : Int32)), (.int (45 : Int32)), (.int (104 : Int32)), (.int (101 : Int32)), (.int (108 : Int32)), (.int (112 : Int32))]) (z := (6 : Int32)) 24 d_g2_4_1 (tw41 hw) wS hT__2d__2d_help hh0 hcw ⟨by decide, by decide⟩ (by decide) (by decide) (by decide) (by decide) (by decide) (by decide) rfl ?_
 intro h1 la1 lv1 kl1 K1 E1 C1 V1 A1 D1
 have q2 := (F_value_a1.keep K1 nin0)
 have q3 := (A_a2.keep K1 nin0)
 have q4 := (F_coder_a1.keep K1 nin0)
 have q5 := (E_a1.keep K1)
 refine r_virtual H 6 (z := (⟨"java/lang/String", "equals", "(Ljava/lang/Object;)Z"⟩ : MethodName)) (a := a1) d_g2_4_3 (tw44 hw) (tw45 hw) (nf_sel (tw47 hw)) (tw47 hw) (tw46 hw) (tw10 hw) (tw48 hw) (by decide) q5 (lenOf pd_8 rfl) (rm_equals_68 hw ("--help" :: Ts) a1 la1 a2 lv1 i1 i2 i3 i4 c1 kl1 cs h1 h0.size (nlt Zf Z0) K1.1 q2 V1 q3 A1 E1 q4 C1 S_cs hcs) (argsL := [(.ref la1)]) (rest := []) rfl (W := 0) (nlq rfl) rfl (by decide) (by decide) (by decide) (by decide) nlr rfl ?_
 rintro _ _ ⟨rfl, rfl⟩
 refine r_ifneF H 9 d_g2_4_6 rfl (by decide) ?_
 refine r_aloadN H 10 d_g2_4_9 rfl rfl rfl ?_
 refine r_ldcS H 12 (vs := [(.int (45 : Int32)), (.int (104 : Int32))]) (z := (2 : Int32)) 8 d_g2_4_10 (tw54 hw) wS (nin_cons (by decide) hT__2d_h) hh1 hcw ⟨by decide, by decide⟩ (by decide) (by decide) (by decide) (by decide) (by decide) (by decide) rfl ?_
 intro h7 la7 lv7 kl7 K7 E7 C7 V7 A7 D7
 have q8 := (q2.keep K7 nin0)
 have q9 := (q3.keep K7 nin0)
 have q10 := (q4.keep K7 nin0)
 have z11 := Nat.le_trans K1.1 K7.1
 have q12 := (q5.keep K7)
 refine r_virtual H 15 (z := (⟨"java/lang/String", "equals", "(Ljava/lang/Object;)Z"⟩ : MethodName)) (a := a1) d_g2_4_12 (tw44 hw) (tw45 hw) (nf_sel (tw47 hw)) (tw47 hw) (tw46 hw) (tw10 hw) (tw48 hw) (by decide) q12 (lenOf pd_8 rfl) (rm_equals_70 hw ("-h" :: "--help" :: Ts) a1 la7 a2 lv7 i1 i2 i3 i4 c1 kl7 cs h7 h0.size (nlt Zf Z0) z11 q8 V7 q9 A7 E7 q10 C7 S_cs hcs) (argsL := [(.ref la7)]) (rest := []) rfl (W := 0) (nlq rfl) rfl (by decide) (by decide) (by decide) (by decide) nlr rfl ?_
 rintro _ _ ⟨rfl, rfl⟩
 refine r_ifeqT H 22 d_g2_4_15 (by decide) (by decide) (by decide) ?_
 refine r_iconst H 23 (0 : Int32) d_g2_4_22 (by decide) rfl ?_
 have k14 : Keep h0 h1 [] := Keep.trans (Keep.refl h0 []) K1 all0
 have k15 : Keep h0 h7 [] := Keep.trans k14 K7 all0
 exact r_nreturn (0 : Int32) H (by simp) d_g2_4_23 (by decide) (by decide) (by decide) Z0 (by intro t ht; simp only [List.mem_cons] at ht ⊢; rcases ht with ht | ht | ht <;> simp [ht]) (⟨rfl, k15⟩)
def Q_equals_74 (Z : State) (h0 : Heap) (v : Option Value) (h : Heap) : Prop := v = some (.int (0 : Int32)) ∧ h0 = h
def R_equals_74 : Room := { frames := 0, cells := 0, slots := 0, locals := 0 }
theorem rm_equals_74 {w : Bool} {Z : State} {a0 : Array Value} (hw : HW a0 Z) (Ts : List String) (a1 : Addr) (a2 : Addr) (i1 : Int32) (c1 : ClassId) (c2 : ClassId) (h0 : Heap) (f : Nat) (Zf : Z.heap.size ≤ f) (Z0 : f ≤ h0.size) (A_a1 : Ar Z h0 a1 c1 .byte [(.int i1)]) (A_a2 : Ar Z h0 a2 c2 .byte [(.int (45 : Int32)), (.int (45 : Int32)), (.int (104 : Int32)), (.int (101 : Int32)), (.int (108 : Int32)), (.int (112 : Int32))]) :
  Con w [] Z (⟨"java/lang/StringLatin1", "equals", "([B[B)Z"⟩ : MethodName) jdk_43_method_13_code 3 (some .boolean) R_equals_74 Ts Ts f #[(.ref a1), (.ref a2)] h0 (Q_equals_74 Z h0) := by
 refine con_of f #[.val (.ref a1), .val (.ref a2), .unset] (plainFor_of_name pn_3) (fun m => rfl) Zf ?_
 intro C H hX0
 refine r_aloadN H 1 d_j43_13_0 rfl rfl rfl ?_
 refine r_alen H 2 (1 : Int32) d_j43_13_1 A_a1 rfl rfl ?_
 refine r_aloadN H 3 d_j43_13_2 rfl rfl rfl ?_
 refine r_alen H 4 (6 : Int32) d_j43_13_3 A_a2 rfl rfl ?_
 refine r_icmpneT H 34 d_j43_13_4 (by decide) (by decide) (by decide) ?_
 refine r_iconst H 35 (0 : Int32) d_j43_13_34 (by decide) rfl ?_
 exact r_nreturn (0 : Int32) H (by simp) d_j43_13_35 (by decide) (by decide) (by decide) nlr (fun _ t => t) (⟨rfl, rfl⟩)
def Q_equals_73 (Z : State) (h0 : Heap) (v : Option Value) (h : Heap) : Prop := v = some (.int (0 : Int32)) ∧ h0 = h
def R_equals_73 : Room := { frames := 1, cells := 0, slots := 0, locals := 14 }
theorem rm_equals_73 {w : Bool} {Z : State} {a0 : Array Value} (hw : HW a0 Z) (Ts : List String) (a1 : Addr) (a2 : Addr) (a3 : Addr) (a4 : Addr) (i1 : Int32) (c1 : ClassId) (c2 : ClassId) (cs : Int32) (h0 : Heap) (f : Nat) (Zf : Z.heap.size ≤ f) (Z0 : f ≤ h0.size) (F_value_a1 : Fld Z h0 a1 "java/lang/String" "value" "[B" (.ref a3)) (F_value_a2 : Fld Z h0 a2 "java/lang/String" "value" "[B" (.ref a4)) (A_a3 : Ar Z h0 a3 c1 .byte [(.int i1)]) (A_a4 : Ar Z h0 a4 c2 .byte [(.int (45 : Int32)), (.int (45 : Int32)), (.int (104 : Int32)), (.int (101 : Int32)), (.int (108 : Int32)), (.int (112 : Int32))]) (E_a2 : Exa Z h0 a2 "java/lang/String") (F_coder_a1 : Fld Z h0 a1 "java/lang/String" "coder" "B" (.int (0 : Int32))) (F_coder_a2 : Fld Z h0 a2 "java/lang/String" "coder" "B" (.int (0 : Int32))) (S_cs : G_S_cs Z cs) (hcs : ¬ cs = 0) :
  Con w [] Z (⟨"java/lang/String", "equals", "(Ljava/lang/Object;)Z"⟩ : MethodName) jdk_42_method_66_code 3 (some .boolean) R_equals_73 Ts Ts f #[(.ref a1), (.ref a2)] h0 (Q_equals_73 Z h0) := by
 refine con_of f #[.val (.ref a1), .val (.ref a2), .unset] (plainFor_of_name pn_2) (fun m => rfl) Zf ?_
 intro C H hX0
 refine r_aloadN H 1 d_j42_66_0 rfl rfl rfl ?_
 refine r_aloadN H 2 d_j42_66_1 rfl rfl rfl ?_
 by_cases hab1 : a1 = a2
 · exact absurd (str_eqv (hab1 ▸ F_value_a1) F_value_a2 A_a3 A_a4) (by simp)
 refine r_acmp H 7 false d_j42_66_2 rfl rfl (decide_eq_false fun q => hab1 (Value.ref.inj q)) (by decide) (by decide) ?_
 refine r_aloadN H 8 d_j42_66_7 rfl rfl rfl ?_
 refine r_instY H 11 d_j42_66_8 (tw49 hw) (Ins.self E_a2) rfl ?_
 refine r_ifeqF H 14 d_j42_66_11 rfl (by decide) ?_
 refine r_aloadN H 15 d_j42_66_14 rfl rfl rfl ?_
 refine r_castY H 18 d_j42_66_15 (tw49 hw) (Ins.self E_a2) rfl ?_
 refine r_astoreN H 19 #[.val (.ref a1), .val (.ref a2), .val (.ref a2)] d_j42_66_18 rfl rfl rfl ?_
 refine r_gets H 22 d_j42_66_19 (tw21 hw) Via.refl S_cs rfl ?_
 refine r_ifeqF H 25 d_j42_66_22 rfl hcs ?_
 refine r_aloadN H 26 d_j42_66_25 rfl rfl rfl ?_
 refine r_getf H 29 d_j42_66_26 (tw33 hw) Via.refl F_coder_a1 rfl ?_
 refine r_aloadN H 30 d_j42_66_29 rfl rfl rfl ?_
 refine r_getf H 33 d_j42_66_30 (tw33 hw) Via.refl F_coder_a2 rfl ?_
 refine r_icmpneF H 36 d_j42_66_33 rfl (by decide) ?_
 refine r_aloadN H 37 d_j42_66_36 rfl rfl rfl ?_
 refine r_getf H 40 d_j42_66_37 (tw35 hw) Via.refl F_value_a1 rfl ?_
 refine r_aloadN H 41 d_j42_66_40 rfl rfl rfl ?_
 refine r_getf H 44 d_j42_66_41 (tw35 hw) Via.refl F_value_a2 rfl ?_
 refine r_static H 47 d_j42_66_44 (tw50 hw) (tw51 hw) (tw52 hw) (tw53 hw) (by decide) (lenOf pd_7 rfl) (rm_equals_74 hw Ts a3 a4 i1 c1 c2 h0 f Zf Z0 A_a3 A_a4) (argsL := [(.ref a3), (.ref a4)]) (rest := []) rfl (W := 0) (nlq rfl) rfl (by decide) (by decide) (by decide) (by decide) nlr rfl ?_
 rintro _ _ ⟨rfl, rfl⟩
 refine r_ifeqT H 54 d_j42_66_47 (by decide) (by decide) (by decide) ?_
 refine r_iconst H 55 (0 : Int32) d_j42_66_54 (by decide) rfl ?_
 exact r_nreturn (0 : Int32) H (by simp) d_j42_66_55 (by decide) (by decide) (by decide) nlr (fun _ t => t) (⟨rfl, rfl⟩)
def Q_equals_76 (Z : State) (h0 : Heap) (v : Option Value) (h : Heap) : Prop := v = some (.int (0 : Int32)) ∧ h0 = h
def R_equals_76 : Room := { frames := 0, cells := 0, slots := 0, locals := 0 }
theorem rm_equals_76 {w : Bool} {Z : State} {a0 : Array Value} (hw : HW a0 Z) (Ts : List String) (a1 : Addr) (a2 : Addr) (i1 : Int32) (c1 : ClassId) (c2 : ClassId) (h0 : Heap) (f : Nat) (Zf : Z.heap.size ≤ f) (Z0 : f ≤ h0.size) (A_a1 : Ar Z h0 a1 c1 .byte [(.int i1)]) (A_a2 : Ar Z h0 a2 c2 .byte [(.int (45 : Int32)), (.int (104 : Int32))]) :
  Con w [] Z (⟨"java/lang/StringLatin1", "equals", "([B[B)Z"⟩ : MethodName) jdk_43_method_13_code 3 (some .boolean) R_equals_76 Ts Ts f #[(.ref a1), (.ref a2)] h0 (Q_equals_76 Z h0) := by
 refine con_of f #[.val (.ref a1), .val (.ref a2), .unset] (plainFor_of_name pn_3) (fun m => rfl) Zf ?_
 intro C H hX0
 refine r_aloadN H 1 d_j43_13_0 rfl rfl rfl ?_
 refine r_alen H 2 (1 : Int32) d_j43_13_1 A_a1 rfl rfl ?_
 refine r_aloadN H 3 d_j43_13_2 rfl rfl rfl ?_
 refine r_alen H 4 (2 : Int32) d_j43_13_3 A_a2 rfl rfl ?_
 refine r_icmpneT H 34 d_j43_13_4 (by decide) (by decide) (by decide) ?_
 refine r_iconst H 35 (0 : Int32) d_j43_13_34 (by decide) rfl ?_
 exact r_nreturn (0 : Int32) H (by simp) d_j43_13_35 (by decide) (by decide) (by decide) nlr (fun _ t => t) (⟨rfl, rfl⟩)
def Q_equals_75 (Z : State) (h0 : Heap) (v : Option Value) (h : Heap) : Prop := v = some (.int (0 : Int32)) ∧ h0 = h
def R_equals_75 : Room := { frames := 1, cells := 0, slots := 0, locals := 14 }
theorem rm_equals_75 {w : Bool} {Z : State} {a0 : Array Value} (hw : HW a0 Z) (Ts : List String) (a1 : Addr) (a2 : Addr) (a3 : Addr) (a4 : Addr) (i1 : Int32) (c1 : ClassId) (c2 : ClassId) (cs : Int32) (h0 : Heap) (f : Nat) (Zf : Z.heap.size ≤ f) (Z0 : f ≤ h0.size) (F_value_a1 : Fld Z h0 a1 "java/lang/String" "value" "[B" (.ref a3)) (F_value_a2 : Fld Z h0 a2 "java/lang/String" "value" "[B" (.ref a4)) (A_a3 : Ar Z h0 a3 c1 .byte [(.int i1)]) (A_a4 : Ar Z h0 a4 c2 .byte [(.int (45 : Int32)), (.int (104 : Int32))]) (E_a2 : Exa Z h0 a2 "java/lang/String") (F_coder_a1 : Fld Z h0 a1 "java/lang/String" "coder" "B" (.int (0 : Int32))) (F_coder_a2 : Fld Z h0 a2 "java/lang/String" "coder" "B" (.int (0 : Int32))) (S_cs : G_S_cs Z cs) (hcs : ¬ cs = 0) :
  Con w [] Z (⟨"java/lang/String", "equals", "(Ljava/lang/Object;)Z"⟩ : MethodName) jdk_42_method_66_code 3 (some .boolean) R_equals_75 Ts Ts f #[(.ref a1), (.ref a2)] h0 (Q_equals_75 Z h0) := by
 refine con_of f #[.val (.ref a1), .val (.ref a2), .unset] (plainFor_of_name pn_2) (fun m => rfl) Zf ?_
 intro C H hX0
 refine r_aloadN H 1 d_j42_66_0 rfl rfl rfl ?_
 refine r_aloadN H 2 d_j42_66_1 rfl rfl rfl ?_
 by_cases hab1 : a1 = a2
 · exact absurd (str_eqv (hab1 ▸ F_value_a1) F_value_a2 A_a3 A_a4) (by simp)
 refine r_acmp H 7 false d_j42_66_2 rfl rfl (decide_eq_false fun q => hab1 (Value.ref.inj q)) (by decide) (by decide) ?_
 refine r_aloadN H 8 d_j42_66_7 rfl rfl rfl ?_
 refine r_instY H 11 d_j42_66_8 (tw49 hw) (Ins.self E_a2) rfl ?_
 refine r_ifeqF H 14 d_j42_66_11 rfl (by decide) ?_
 refine r_aloadN H 15 d_j42_66_14 rfl rfl rfl ?_
 refine r_castY H 18 d_j42_66_15 (tw49 hw) (Ins.self E_a2) rfl ?_
 refine r_astoreN H 19 #[.val (.ref a1), .val (.ref a2), .val (.ref a2)] d_j42_66_18 rfl rfl rfl ?_
 refine r_gets H 22 d_j42_66_19 (tw21 hw) Via.refl S_cs rfl ?_
 refine r_ifeqF H 25 d_j42_66_22 rfl hcs ?_
 refine r_aloadN H 26 d_j42_66_25 rfl rfl rfl ?_
 refine r_getf H 29 d_j42_66_26 (tw33 hw) Via.refl F_coder_a1 rfl ?_
 refine r_aloadN H 30 d_j42_66_29 rfl rfl rfl ?_
 refine r_getf H 33 d_j42_66_30 (tw33 hw) Via.refl F_coder_a2 rfl ?_
 refine r_icmpneF H 36 d_j42_66_33 rfl (by decide) ?_
 refine r_aloadN H 37 d_j42_66_36 rfl rfl rfl ?_
 refine r_getf H 40 d_j42_66_37 (tw35 hw) Via.refl F_value_a1 rfl ?_
 refine r_aloadN H 41 d_j42_66_40 rfl rfl rfl ?_
 refine r_getf H 44 d_j42_66_41 (tw35 hw) Via.refl F_value_a2 rfl ?_
 refine r_static H 47 d_j42_66_44 (tw50 hw) (tw51 hw) (tw52 hw) (tw53 hw) (by decide) (lenOf pd_7 rfl) (rm_equals_76 hw Ts a3 a4 i1 c1 c2 h0 f Zf Z0 A_a3 A_a4) (argsL := [(.ref a3), (.ref a4)]) (rest := []) rfl (W := 0) (nlq rfl) rfl (by decide) (by decide) (by decide) (by decide) nlr rfl ?_
 rintro _ _ ⟨rfl, rfl⟩
 refine r_ifeqT H 54 d_j42_66_47 (by decide) (by decide) (by decide) ?_
 refine r_iconst H 55 (0 : Int32) d_j42_66_54 (by decide) rfl ?_
 exact r_nreturn (0 : Int32) H (by simp) d_j42_66_55 (by decide) (by decide) (by decide) nlr (fun _ t => t) (⟨rfl, rfl⟩)
def Q_isHelp_72 (Z : State) (h0 : Heap) (v : Option Value) (h : Heap) : Prop := v = some (.int (0 : Int32)) ∧ Keep h0 h []
def R_isHelp_72 : Room := { frames := 2, cells := 4, slots := 40, locals := 28 }
theorem rm_isHelp_72 {Z : State} {a0 : Array Value} (hw : HW a0 Z) (Ts : List String) (a1 : Addr) (a2 : Addr) (i1 : Int32) (c1 : ClassId) (cs : Int32) (h0 : Heap) (f : Nat) (Zf : Z.heap.size ≤ f) (Z0 : f ≤ h0.size) (E_a1 : Exa Z h0 a1 "java/lang/String") (F_value_a1 : Fld Z h0 a1 "java/lang/String" "value" "[B" (.ref a2)) (A_a2 : Ar Z h0 a2 c1 .byte [(.int i1)]) (F_coder_a1 : Fld Z h0 a1 "java/lang/String" "coder" "B" (.int (0 : Int32))) (wS : G_wS Z a0) (hcw : G_hcw Z a0) (hh0 : G_hh0 Z) (S_cs : G_S_cs Z cs) (hh1 : G_hh1 Z) (hT__2d__2d_help : "--help" ∉ Ts) (hT__2d_h : "-h" ∉ Ts) (hcs : ¬ cs = 0) :
  Con true [] Z (⟨"com/example/maniera/maniera/cli/CommandLine", "isHelp", "(Ljava/lang/String;)Z"⟩ : MethodName) prog_2_method_4_code 1 (some .boolean) R_isHelp_72 Ts ("--help" :: "-h" :: Ts) f #[(.ref a1)] h0 (Q_isHelp_72 Z h0) := by
 refine con_of h0.size #[.val (.ref a1)] (plainFor_of_name pn_4) (fun m => rfl) (nlt Zf Z0) ?_
 intro C H hX0
 refine r_aloadN H 1 d_g2_4_0 rfl rfl rfl ?_
 refine r_ldcS H 3 (vs := [(.int (45 : Int32)), (.int (45 : Int32)), (.int (104 : Int32)), (.int (101 : Int32)), (.int (108 : Int32)), (.int (112 : Int32))]) (z := (6 : Int32)) 24 d_g2_4_1 (tw41 hw) wS hT__2d__2d_help hh0 hcw ⟨by decide, by decide⟩ (by decide) (by decide) (by decide) (by decide) (by decide) (by decide) rfl ?_
 intro h1 la1 lv1 kl1 K1 E1 C1 V1 A1 D1
 have q2 := (F_value_a1.keep K1 nin0)
 have q3 := (A_a2.keep K1 nin0)
 have q4 := (F_coder_a1.keep K1 nin0)
 have q5 := (E_a1.keep K1)
 refine r_virtual H 6 (z := (⟨"java/lang/String", "equals", "(Ljava/lang/Object;)Z"⟩ : MethodName)) (a := a1) d_g2_4_3 (tw44 hw) (tw45 hw) (nf_sel (tw47 hw)) (tw47 hw) (tw46 hw) (tw10 hw) (tw48 hw) (by decide) q5 (lenOf pd_8 rfl) (rm_equals_73 hw ("--help" :: Ts) a1 la1 a2 lv1 i1 c1 kl1 cs h1 h0.size (nlt Zf Z0) K1.1 q2 V1 q3 A1 E1 q4 C1 S_cs hcs) (argsL := [(.ref la1)]) (rest := []) rfl (W := 0) (nlq rfl) rfl (by decide) (by decide) (by decide) (by decide) nlr rfl ?_
 rintro _ _ ⟨rfl, rfl⟩
 refine r_ifneF H 9 d_g2_4_6 rfl (by decide) ?_
 refine r_aloadN H 10 d_g2_4_9 rfl rfl rfl ?_
 refine r_ldcS H 12 (vs := [(.int (45 : Int32)), (.int (104 : Int32))]) (z := (2 : Int32)) 8 d_g2_4_10 (tw54 hw) wS (nin_cons (by decide) hT__2d_h) hh1 hcw ⟨by decide, by decide⟩ (by decide) (by decide) (by decide) (by decide) (by decide) (by decide) rfl ?_
 intro h7 la7 lv7 kl7 K7 E7 C7 V7 A7 D7
 have q8 := (q2.keep K7 nin0)
 have q9 := (q3.keep K7 nin0)
 have q10 := (q4.keep K7 nin0)
 have z11 := Nat.le_trans K1.1 K7.1
 have q12 := (q5.keep K7)
 refine r_virtual H 15 (z := (⟨"java/lang/String", "equals", "(Ljava/lang/Object;)Z"⟩ : MethodName)) (a := a1) d_g2_4_12 (tw44 hw) (tw45 hw) (nf_sel (tw47 hw)) (tw47 hw) (tw46 hw) (tw10 hw) (tw48 hw) (by decide) q12 (lenOf pd_8 rfl) (rm_equals_75 hw ("-h" :: "--help" :: Ts) a1 la7 a2 lv7 i1 c1 kl7 cs h7 h0.size (nlt Zf Z0) z11 q8 V7 q9 A7 E7 q10 C7 S_cs hcs) (argsL := [(.ref la7)]) (rest := []) rfl (W := 0) (nlq rfl) rfl (by decide) (by decide) (by decide) (by decide) nlr rfl ?_
 rintro _ _ ⟨rfl, rfl⟩
 refine r_ifeqT H 22 d_g2_4_15 (by decide) (by decide) (by decide) ?_
 refine r_iconst H 23 (0 : Int32) d_g2_4_22 (by decide) rfl ?_
 have k14 : Keep h0 h1 [] := Keep.trans (Keep.refl h0 []) K1 all0
 have k15 : Keep h0 h7 [] := Keep.trans k14 K7 all0
 exact r_nreturn (0 : Int32) H (by simp) d_g2_4_23 (by decide) (by decide) (by decide) Z0 (by intro t ht; simp only [List.mem_cons] at ht ⊢; rcases ht with ht | ht | ht <;> simp [ht]) (⟨rfl, k15⟩)
def Q_equals_79 (Z : State) (h0 : Heap) (v : Option Value) (h : Heap) : Prop := v = some (.int (0 : Int32)) ∧ h0 = h
def R_equals_79 : Room := { frames := 0, cells := 0, slots := 0, locals := 0 }
theorem rm_equals_79 {w : Bool} {Z : State} {a0 : Array Value} (hw : HW a0 Z) (Ts : List String) (a1 : Addr) (a2 : Addr) (c1 : ClassId) (c2 : ClassId) (h0 : Heap) (f : Nat) (Zf : Z.heap.size ≤ f) (Z0 : f ≤ h0.size) (A_a1 : Ar Z h0 a1 c1 .byte []) (A_a2 : Ar Z h0 a2 c2 .byte [(.int (45 : Int32)), (.int (45 : Int32)), (.int (104 : Int32)), (.int (101 : Int32)), (.int (108 : Int32)), (.int (112 : Int32))]) :
  Con w [] Z (⟨"java/lang/StringLatin1", "equals", "([B[B)Z"⟩ : MethodName) jdk_43_method_13_code 3 (some .boolean) R_equals_79 Ts Ts f #[(.ref a1), (.ref a2)] h0 (Q_equals_79 Z h0) := by
 refine con_of f #[.val (.ref a1), .val (.ref a2), .unset] (plainFor_of_name pn_3) (fun m => rfl) Zf ?_
 intro C H hX0
 refine r_aloadN H 1 d_j43_13_0 rfl rfl rfl ?_
 refine r_alen H 2 (0 : Int32) d_j43_13_1 A_a1 rfl rfl ?_
 refine r_aloadN H 3 d_j43_13_2 rfl rfl rfl ?_
 refine r_alen H 4 (6 : Int32) d_j43_13_3 A_a2 rfl rfl ?_
 refine r_icmpneT H 34 d_j43_13_4 (by decide) (by decide) (by decide) ?_
 refine r_iconst H 35 (0 : Int32) d_j43_13_34 (by decide) rfl ?_
 exact r_nreturn (0 : Int32) H (by simp) d_j43_13_35 (by decide) (by decide) (by decide) nlr (fun _ t => t) (⟨rfl, rfl⟩)
def Q_equals_78 (Z : State) (h0 : Heap) (v : Option Value) (h : Heap) : Prop := v = some (.int (0 : Int32)) ∧ h0 = h
def R_equals_78 : Room := { frames := 1, cells := 0, slots := 0, locals := 14 }
theorem rm_equals_78 {w : Bool} {Z : State} {a0 : Array Value} (hw : HW a0 Z) (Ts : List String) (a1 : Addr) (a2 : Addr) (a3 : Addr) (a4 : Addr) (c1 : ClassId) (c2 : ClassId) (cs : Int32) (h0 : Heap) (f : Nat) (Zf : Z.heap.size ≤ f) (Z0 : f ≤ h0.size) (F_value_a1 : Fld Z h0 a1 "java/lang/String" "value" "[B" (.ref a3)) (F_value_a2 : Fld Z h0 a2 "java/lang/String" "value" "[B" (.ref a4)) (A_a3 : Ar Z h0 a3 c1 .byte []) (A_a4 : Ar Z h0 a4 c2 .byte [(.int (45 : Int32)), (.int (45 : Int32)), (.int (104 : Int32)), (.int (101 : Int32)), (.int (108 : Int32)), (.int (112 : Int32))]) (E_a2 : Exa Z h0 a2 "java/lang/String") (F_coder_a1 : Fld Z h0 a1 "java/lang/String" "coder" "B" (.int (0 : Int32))) (F_coder_a2 : Fld Z h0 a2 "java/lang/String" "coder" "B" (.int (0 : Int32))) (S_cs : G_S_cs Z cs) (hcs : ¬ cs = 0) :
  Con w [] Z (⟨"java/lang/String", "equals", "(Ljava/lang/Object;)Z"⟩ : MethodName) jdk_42_method_66_code 3 (some .boolean) R_equals_78 Ts Ts f #[(.ref a1), (.ref a2)] h0 (Q_equals_78 Z h0) := by
 refine con_of f #[.val (.ref a1), .val (.ref a2), .unset] (plainFor_of_name pn_2) (fun m => rfl) Zf ?_
 intro C H hX0
 refine r_aloadN H 1 d_j42_66_0 rfl rfl rfl ?_
 refine r_aloadN H 2 d_j42_66_1 rfl rfl rfl ?_
 by_cases hab1 : a1 = a2
 · exact absurd (str_eqv (hab1 ▸ F_value_a1) F_value_a2 A_a3 A_a4) (by simp)
 refine r_acmp H 7 false d_j42_66_2 rfl rfl (decide_eq_false fun q => hab1 (Value.ref.inj q)) (by decide) (by decide) ?_
 refine r_aloadN H 8 d_j42_66_7 rfl rfl rfl ?_
 refine r_instY H 11 d_j42_66_8 (tw49 hw) (Ins.self E_a2) rfl ?_
 refine r_ifeqF H 14 d_j42_66_11 rfl (by decide) ?_
 refine r_aloadN H 15 d_j42_66_14 rfl rfl rfl ?_
 refine r_castY H 18 d_j42_66_15 (tw49 hw) (Ins.self E_a2) rfl ?_
 refine r_astoreN H 19 #[.val (.ref a1), .val (.ref a2), .val (.ref a2)] d_j42_66_18 rfl rfl rfl ?_
 refine r_gets H 22 d_j42_66_19 (tw21 hw) Via.refl S_cs rfl ?_
 refine r_ifeqF H 25 d_j42_66_22 rfl hcs ?_
 refine r_aloadN H 26 d_j42_66_25 rfl rfl rfl ?_
 refine r_getf H 29 d_j42_66_26 (tw33 hw) Via.refl F_coder_a1 rfl ?_
 refine r_aloadN H 30 d_j42_66_29 rfl rfl rfl ?_
 refine r_getf H 33 d_j42_66_30 (tw33 hw) Via.refl F_coder_a2 rfl ?_
 refine r_icmpneF H 36 d_j42_66_33 rfl (by decide) ?_
 refine r_aloadN H 37 d_j42_66_36 rfl rfl rfl ?_
 refine r_getf H 40 d_j42_66_37 (tw35 hw) Via.refl F_value_a1 rfl ?_
 refine r_aloadN H 41 d_j42_66_40 rfl rfl rfl ?_
 refine r_getf H 44 d_j42_66_41 (tw35 hw) Via.refl F_value_a2 rfl ?_
 refine r_static H 47 d_j42_66_44 (tw50 hw) (tw51 hw) (tw52 hw) (tw53 hw) (by decide) (lenOf pd_7 rfl) (rm_equals_79 hw Ts a3 a4 c1 c2 h0 f Zf Z0 A_a3 A_a4) (argsL := [(.ref a3), (.ref a4)]) (rest := []) rfl (W := 0) (nlq rfl) rfl (by decide) (by decide) (by decide) (by decide) nlr rfl ?_
 rintro _ _ ⟨rfl, rfl⟩
 refine r_ifeqT H 54 d_j42_66_47 (by decide) (by decide) (by decide) ?_
 refine r_iconst H 55 (0 : Int32) d_j42_66_54 (by decide) rfl ?_
 exact r_nreturn (0 : Int32) H (by simp) d_j42_66_55 (by decide) (by decide) (by decide) nlr (fun _ t => t) (⟨rfl, rfl⟩)
def Q_equals_81 (Z : State) (h0 : Heap) (v : Option Value) (h : Heap) : Prop := v = some (.int (0 : Int32)) ∧ h0 = h
def R_equals_81 : Room := { frames := 0, cells := 0, slots := 0, locals := 0 }
theorem rm_equals_81 {w : Bool} {Z : State} {a0 : Array Value} (hw : HW a0 Z) (Ts : List String) (a1 : Addr) (a2 : Addr) (c1 : ClassId) (c2 : ClassId) (h0 : Heap) (f : Nat) (Zf : Z.heap.size ≤ f) (Z0 : f ≤ h0.size) (A_a1 : Ar Z h0 a1 c1 .byte []) (A_a2 : Ar Z h0 a2 c2 .byte [(.int (45 : Int32)), (.int (104 : Int32))]) :
  Con w [] Z (⟨"java/lang/StringLatin1", "equals", "([B[B)Z"⟩ : MethodName) jdk_43_method_13_code 3 (some .boolean) R_equals_81 Ts Ts f #[(.ref a1), (.ref a2)] h0 (Q_equals_81 Z h0) := by
 refine con_of f #[.val (.ref a1), .val (.ref a2), .unset] (plainFor_of_name pn_3) (fun m => rfl) Zf ?_
 intro C H hX0
 refine r_aloadN H 1 d_j43_13_0 rfl rfl rfl ?_
 refine r_alen H 2 (0 : Int32) d_j43_13_1 A_a1 rfl rfl ?_
 refine r_aloadN H 3 d_j43_13_2 rfl rfl rfl ?_
 refine r_alen H 4 (2 : Int32) d_j43_13_3 A_a2 rfl rfl ?_
 refine r_icmpneT H 34 d_j43_13_4 (by decide) (by decide) (by decide) ?_
 refine r_iconst H 35 (0 : Int32) d_j43_13_34 (by decide) rfl ?_
 exact r_nreturn (0 : Int32) H (by simp) d_j43_13_35 (by decide) (by decide) (by decide) nlr (fun _ t => t) (⟨rfl, rfl⟩)
def Q_equals_80 (Z : State) (h0 : Heap) (v : Option Value) (h : Heap) : Prop := v = some (.int (0 : Int32)) ∧ h0 = h
def R_equals_80 : Room := { frames := 1, cells := 0, slots := 0, locals := 14 }
theorem rm_equals_80 {w : Bool} {Z : State} {a0 : Array Value} (hw : HW a0 Z) (Ts : List String) (a1 : Addr) (a2 : Addr) (a3 : Addr) (a4 : Addr) (c1 : ClassId) (c2 : ClassId) (cs : Int32) (h0 : Heap) (f : Nat) (Zf : Z.heap.size ≤ f) (Z0 : f ≤ h0.size) (F_value_a1 : Fld Z h0 a1 "java/lang/String" "value" "[B" (.ref a3)) (F_value_a2 : Fld Z h0 a2 "java/lang/String" "value" "[B" (.ref a4)) (A_a3 : Ar Z h0 a3 c1 .byte []) (A_a4 : Ar Z h0 a4 c2 .byte [(.int (45 : Int32)), (.int (104 : Int32))]) (E_a2 : Exa Z h0 a2 "java/lang/String") (F_coder_a1 : Fld Z h0 a1 "java/lang/String" "coder" "B" (.int (0 : Int32))) (F_coder_a2 : Fld Z h0 a2 "java/lang/String" "coder" "B" (.int (0 : Int32))) (S_cs : G_S_cs Z cs) (hcs : ¬ cs = 0) :
  Con w [] Z (⟨"java/lang/String", "equals", "(Ljava/lang/Object;)Z"⟩ : MethodName) jdk_42_method_66_code 3 (some .boolean) R_equals_80 Ts Ts f #[(.ref a1), (.ref a2)] h0 (Q_equals_80 Z h0) := by
 refine con_of f #[.val (.ref a1), .val (.ref a2), .unset] (plainFor_of_name pn_2) (fun m => rfl) Zf ?_
 intro C H hX0
 refine r_aloadN H 1 d_j42_66_0 rfl rfl rfl ?_
 refine r_aloadN H 2 d_j42_66_1 rfl rfl rfl ?_
 by_cases hab1 : a1 = a2
 · exact absurd (str_eqv (hab1 ▸ F_value_a1) F_value_a2 A_a3 A_a4) (by simp)
 refine r_acmp H 7 false d_j42_66_2 rfl rfl (decide_eq_false fun q => hab1 (Value.ref.inj q)) (by decide) (by decide) ?_
 refine r_aloadN H 8 d_j42_66_7 rfl rfl rfl ?_
 refine r_instY H 11 d_j42_66_8 (tw49 hw) (Ins.self E_a2) rfl ?_
 refine r_ifeqF H 14 d_j42_66_11 rfl (by decide) ?_
 refine r_aloadN H 15 d_j42_66_14 rfl rfl rfl ?_
 refine r_castY H 18 d_j42_66_15 (tw49 hw) (Ins.self E_a2) rfl ?_
 refine r_astoreN H 19 #[.val (.ref a1), .val (.ref a2), .val (.ref a2)] d_j42_66_18 rfl rfl rfl ?_
 refine r_gets H 22 d_j42_66_19 (tw21 hw) Via.refl S_cs rfl ?_
 refine r_ifeqF H 25 d_j42_66_22 rfl hcs ?_
 refine r_aloadN H 26 d_j42_66_25 rfl rfl rfl ?_
 refine r_getf H 29 d_j42_66_26 (tw33 hw) Via.refl F_coder_a1 rfl ?_
 refine r_aloadN H 30 d_j42_66_29 rfl rfl rfl ?_
 refine r_getf H 33 d_j42_66_30 (tw33 hw) Via.refl F_coder_a2 rfl ?_
 refine r_icmpneF H 36 d_j42_66_33 rfl (by decide) ?_
 refine r_aloadN H 37 d_j42_66_36 rfl rfl rfl ?_
 refine r_getf H 40 d_j42_66_37 (tw35 hw) Via.refl F_value_a1 rfl ?_
 refine r_aloadN H 41 d_j42_66_40 rfl rfl rfl ?_
 refine r_getf H 44 d_j42_66_41 (tw35 hw) Via.refl F_value_a2 rfl ?_
 refine r_static H 47 d_j42_66_44 (tw50 hw) (tw51 hw) (tw52 hw) (tw53 hw) (by decide) (lenOf pd_7 rfl) (rm_equals_81 hw Ts a3 a4 c1 c2 h0 f Zf Z0 A_a3 A_a4) (argsL := [(.ref a3), (.ref a4)]) (rest := []) rfl (W := 0) (nlq rfl) rfl (by decide) (by decide) (by decide) (by decide) nlr rfl ?_
 rintro _ _ ⟨rfl, rfl⟩
 refine r_ifeqT H 54 d_j42_66_47 (by decide) (by decide) (by decide) ?_
 refine r_iconst H 55 (0 : Int32) d_j42_66_54 (by decide) rfl ?_
 exact r_nreturn (0 : Int32) H (by simp) d_j42_66_55 (by decide) (by decide) (by decide) nlr (fun _ t => t) (⟨rfl, rfl⟩)
def Q_isHelp_77 (Z : State) (h0 : Heap) (v : Option Value) (h : Heap) : Prop := v = some (.int (0 : Int32)) ∧ Keep h0 h []
def R_isHelp_77 : Room := { frames := 2, cells := 4, slots := 40, locals := 28 }
theorem rm_isHelp_77 {Z : State} {a0 : Array Value} (hw : HW a0 Z) (Ts : List String) (a1 : Addr) (a2 : Addr) (c1 : ClassId) (cs : Int32) (h0 : Heap) (f : Nat) (Zf : Z.heap.size ≤ f) (Z0 : f ≤ h0.size) (E_a1 : Exa Z h0 a1 "java/lang/String") (F_value_a1 : Fld Z h0 a1 "java/lang/String" "value" "[B" (.ref a2)) (A_a2 : Ar Z h0 a2 c1 .byte []) (F_coder_a1 : Fld Z h0 a1 "java/lang/String" "coder" "B" (.int (0 : Int32))) (wS : G_wS Z a0) (hcw : G_hcw Z a0) (hh0 : G_hh0 Z) (S_cs : G_S_cs Z cs) (hh1 : G_hh1 Z) (hT__2d__2d_help : "--help" ∉ Ts) (hT__2d_h : "-h" ∉ Ts) (hcs : ¬ cs = 0) :
  Con true [] Z (⟨"com/example/maniera/maniera/cli/CommandLine", "isHelp", "(Ljava/lang/String;)Z"⟩ : MethodName) prog_2_method_4_code 1 (some .boolean) R_isHelp_77 Ts ("--help" :: "-h" :: Ts) f #[(.ref a1)] h0 (Q_isHelp_77 Z h0) := by
 refine con_of h0.size #[.val (.ref a1)] (plainFor_of_name pn_4) (fun m => rfl) (nlt Zf Z0) ?_
 intro C H hX0
 refine r_aloadN H 1 d_g2_4_0 rfl rfl rfl ?_
 refine r_ldcS H 3 (vs := [(.int (45 : Int32)), (.int (45 : Int32)), (.int (104 : Int32)), (.int (101 : Int32)), (.int (108 : Int32)), (.int (112 : Int32))]) (z := (6 : Int32)) 24 d_g2_4_1 (tw41 hw) wS hT__2d__2d_help hh0 hcw ⟨by decide, by decide⟩ (by decide) (by decide) (by decide) (by decide) (by decide) (by decide) rfl ?_
 intro h1 la1 lv1 kl1 K1 E1 C1 V1 A1 D1
 have q2 := (F_value_a1.keep K1 nin0)
 have q3 := (A_a2.keep K1 nin0)
 have q4 := (F_coder_a1.keep K1 nin0)
 have q5 := (E_a1.keep K1)
 refine r_virtual H 6 (z := (⟨"java/lang/String", "equals", "(Ljava/lang/Object;)Z"⟩ : MethodName)) (a := a1) d_g2_4_3 (tw44 hw) (tw45 hw) (nf_sel (tw47 hw)) (tw47 hw) (tw46 hw) (tw10 hw) (tw48 hw) (by decide) q5 (lenOf pd_8 rfl) (rm_equals_78 hw ("--help" :: Ts) a1 la1 a2 lv1 c1 kl1 cs h1 h0.size (nlt Zf Z0) K1.1 q2 V1 q3 A1 E1 q4 C1 S_cs hcs) (argsL := [(.ref la1)]) (rest := []) rfl (W := 0) (nlq rfl) rfl (by decide) (by decide) (by decide) (by decide) nlr rfl ?_
 rintro _ _ ⟨rfl, rfl⟩
 refine r_ifneF H 9 d_g2_4_6 rfl (by decide) ?_
 refine r_aloadN H 10 d_g2_4_9 rfl rfl rfl ?_
 refine r_ldcS H 12 (vs := [(.int (45 : Int32)), (.int (104 : Int32))]) (z := (2 : Int32)) 8 d_g2_4_10 (tw54 hw) wS (nin_cons (by decide) hT__2d_h) hh1 hcw ⟨by decide, by decide⟩ (by decide) (by decide) (by decide) (by decide) (by decide) (by decide) rfl ?_
 intro h7 la7 lv7 kl7 K7 E7 C7 V7 A7 D7
 have q8 := (q2.keep K7 nin0)
 have q9 := (q3.keep K7 nin0)
 have q10 := (q4.keep K7 nin0)
 have z11 := Nat.le_trans K1.1 K7.1
 have q12 := (q5.keep K7)
 refine r_virtual H 15 (z := (⟨"java/lang/String", "equals", "(Ljava/lang/Object;)Z"⟩ : MethodName)) (a := a1) d_g2_4_12 (tw44 hw) (tw45 hw) (nf_sel (tw47 hw)) (tw47 hw) (tw46 hw) (tw10 hw) (tw48 hw) (by decide) q12 (lenOf pd_8 rfl) (rm_equals_80 hw ("-h" :: "--help" :: Ts) a1 la7 a2 lv7 c1 kl7 cs h7 h0.size (nlt Zf Z0) z11 q8 V7 q9 A7 E7 q10 C7 S_cs hcs) (argsL := [(.ref la7)]) (rest := []) rfl (W := 0) (nlq rfl) rfl (by decide) (by decide) (by decide) (by decide) nlr rfl ?_
 rintro _ _ ⟨rfl, rfl⟩
 refine r_ifeqT H 22 d_g2_4_15 (by decide) (by decide) (by decide) ?_
 refine r_iconst H 23 (0 : Int32) d_g2_4_22 (by decide) rfl ?_
 have k14 : Keep h0 h1 [] := Keep.trans (Keep.refl h0 []) K1 all0
 have k15 : Keep h0 h7 [] := Keep.trans k14 K7 all0
 exact r_nreturn (0 : Int32) H (by simp) d_g2_4_23 (by decide) (by decide) (by decide) Z0 (by intro t ht; simp only [List.mem_cons] at ht ⊢; rcases ht with ht | ht | ht <;> simp [ht]) (⟨rfl, k15⟩)
theorem lf_1  (p11 : Int32) (p16 : Int32) (p2 : Int32) (p21 : Int32) (p26 : Int32) (p6 : Int32) (rp11 : 0 ≤ p11.toInt ∧ p11.toInt ≤ 255) (rp16 : 0 ≤ p16.toInt ∧ p16.toInt ≤ 255) (rp2 : 0 ≤ p2.toInt ∧ p2.toInt ≤ 255) (rp21 : 0 ≤ p21.toInt ∧ p21.toInt ≤ 255) (rp26 : 0 ≤ p26.toInt ∧ p26.toInt ≤ 255) (rp6 : 0 ≤ p6.toInt ∧ p6.toInt ≤ 255) (c216 : ¬ (fn_equals_40 (cB8 p2) (cB8 p6) (cB8 p11) (cB8 p16) (cB8 p21) (cB8 p26)) = (0 : Int32)) : (if (1 : Int32) = (if (if p2 = (45 : Int32) then (if p6 = (45 : Int32) then (if p11 = (104 : Int32) then (if p16 = (101 : Int32) then (if p21 = (108 : Int32) then (if p26 = (112 : Int32) then (1 : Int32) else (0 : Int32)) else (0 : Int32)) else (0 : Int32)) else (0 : Int32)) else (0 : Int32)) else (0 : Int32)) = (0 : Int32) then (0 : Int32) else (1 : Int32)) then (1 : Int32) else (0 : Int32)) = 1 := by
  simp only [fn_equals_40, fn_equals_41, own_cb rp11 (by decide : 0 ≤ (45 : Int32).toInt ∧ (45 : Int32).toInt ≤ 127), own_cb rp11 (by decide : 0 ≤ (101 : Int32).toInt ∧ (101 : Int32).toInt ≤ 127), own_cb rp11 (by decide : 0 ≤ (104 : Int32).toInt ∧ (104 : Int32).toInt ≤ 127), own_cb rp11 (by decide : 0 ≤ (108 : Int32).toInt ∧ (108 : Int32).toInt ≤ 127), own_cb rp11 (by decide : 0 ≤ (112 : Int32).toInt ∧ (112 : Int32).toInt ≤ 127), own_cb rp16 (by decide : 0 ≤ (45 : Int32).toInt ∧ (45 : Int32).toInt ≤ 127), own_cb rp16 (by decide : 0 ≤ (101 : Int32).toInt ∧ (101 : Int32).toInt ≤ 127), own_cb rp16 (by decide : 0 ≤ (104 : Int32).toInt ∧ (104 : Int32).toInt ≤ 127), own_cb rp16 (by decide : 0 ≤ (108 : Int32).toInt ∧ (108 : Int32).toInt ≤ 127), own_cb rp16 (by decide : 0 ≤ (112 : Int32).toInt ∧ (112 : Int32).toInt ≤ 127), own_cb rp2 (by decide : 0 ≤ (45 : Int32).toInt ∧ (45 : Int32).toInt ≤ 127), own_cb rp2 (by decide : 0 ≤ (101 : Int32).toInt ∧ (101 : Int32).toInt ≤ 127), own_cb rp2 (by decide : 0 ≤ (104 : Int32).toInt ∧ (104 : Int32).toInt ≤ 127), own_cb rp2 (by decide : 0 ≤ (108 : Int32).toInt ∧ (108 : Int32).toInt ≤ 127), own_cb rp2 (by decide : 0 ≤ (112 : Int32).toInt ∧ (112 : Int32).toInt ≤ 127), own_cb rp21 (by decide : 0 ≤ (45 : Int32).toInt ∧ (45 : Int32).toInt ≤ 127), own_cb rp21 (by decide : 0 ≤ (101 : Int32).toInt ∧ (101 : Int32).toInt ≤ 127), own_cb rp21 (by decide : 0 ≤ (104 : Int32).toInt ∧ (104 : Int32).toInt ≤ 127), own_cb rp21 (by decide : 0 ≤ (108 : Int32).toInt ∧ (108 : Int32).toInt ≤ 127), own_cb rp21 (by decide : 0 ≤ (112 : Int32).toInt ∧ (112 : Int32).toInt ≤ 127), own_cb rp26 (by decide : 0 ≤ (45 : Int32).toInt ∧ (45 : Int32).toInt ≤ 127), own_cb rp26 (by decide : 0 ≤ (101 : Int32).toInt ∧ (101 : Int32).toInt ≤ 127), own_cb rp26 (by decide : 0 ≤ (104 : Int32).toInt ∧ (104 : Int32).toInt ≤ 127), own_cb rp26 (by decide : 0 ≤ (108 : Int32).toInt ∧ (108 : Int32).toInt ≤ 127), own_cb rp26 (by decide : 0 ≤ (112 : Int32).toInt ∧ (112 : Int32).toInt ≤ 127), own_cb rp6 (by decide : 0 ≤ (45 : Int32).toInt ∧ (45 : Int32).toInt ≤ 127), own_cb rp6 (by decide : 0 ≤ (101 : Int32).toInt ∧ (101 : Int32).toInt ≤ 127), own_cb rp6 (by decide : 0 ≤ (104 : Int32).toInt ∧ (104 : Int32).toInt ≤ 127), own_cb rp6 (by decide : 0 ≤ (108 : Int32).toInt ∧ (108 : Int32).toInt ≤ 127), own_cb rp6 (by decide : 0 ≤ (112 : Int32).toInt ∧ (112 : Int32).toInt ≤ 127), (by decide : cB8 (45 : Int32) = 45), (by decide : cB8 (101 : Int32) = 101), (by decide : cB8 (104 : Int32) = 104), (by decide : cB8 (108 : Int32) = 108), (by decide : cB8 (112 : Int32) = 112)] at c216 ⊢
  all_goals by_cases ha1 : p11 = (104 : Int32) <;> try (simp_all; done)
  all_goals by_cases ha2 : p16 = (101 : Int32) <;> try (simp_all; done)
  all_goals by_cases ha3 : p2 = (45 : Int32) <;> try (simp_all; done)
  all_goals by_cases ha4 : p21 = (108 : Int32) <;> try (simp_all; done)
  all_goals by_cases ha5 : p26 = (112 : Int32) <;> try (simp_all; done)
  all_goals by_cases ha6 : p6 = (45 : Int32) <;> try (simp_all; done)
  all_goals simp_all
theorem lf_2  (p11 : Int32) (p16 : Int32) (p2 : Int32) (p21 : Int32) (p26 : Int32) (p6 : Int32) (rp11 : 0 ≤ p11.toInt ∧ p11.toInt ≤ 255) (rp16 : 0 ≤ p16.toInt ∧ p16.toInt ≤ 255) (rp2 : 0 ≤ p2.toInt ∧ p2.toInt ≤ 255) (rp21 : 0 ≤ p21.toInt ∧ p21.toInt ≤ 255) (rp26 : 0 ≤ p26.toInt ∧ p26.toInt ≤ 255) (rp6 : 0 ≤ p6.toInt ∧ p6.toInt ≤ 255) (c218 : (fn_equals_40 (cB8 p2) (cB8 p6) (cB8 p11) (cB8 p16) (cB8 p21) (cB8 p26)) = (0 : Int32)) : (if (0 : Int32) = (if (if p2 = (45 : Int32) then (if p6 = (45 : Int32) then (if p11 = (104 : Int32) then (if p16 = (101 : Int32) then (if p21 = (108 : Int32) then (if p26 = (112 : Int32) then (1 : Int32) else (0 : Int32)) else (0 : Int32)) else (0 : Int32)) else (0 : Int32)) else (0 : Int32)) else (0 : Int32)) = (0 : Int32) then (0 : Int32) else (1 : Int32)) then (1 : Int32) else (0 : Int32)) = 1 := by
  simp only [fn_equals_40, fn_equals_41, own_cb rp11 (by decide : 0 ≤ (45 : Int32).toInt ∧ (45 : Int32).toInt ≤ 127), own_cb rp11 (by decide : 0 ≤ (101 : Int32).toInt ∧ (101 : Int32).toInt ≤ 127), own_cb rp11 (by decide : 0 ≤ (104 : Int32).toInt ∧ (104 : Int32).toInt ≤ 127), own_cb rp11 (by decide : 0 ≤ (108 : Int32).toInt ∧ (108 : Int32).toInt ≤ 127), own_cb rp11 (by decide : 0 ≤ (112 : Int32).toInt ∧ (112 : Int32).toInt ≤ 127), own_cb rp16 (by decide : 0 ≤ (45 : Int32).toInt ∧ (45 : Int32).toInt ≤ 127), own_cb rp16 (by decide : 0 ≤ (101 : Int32).toInt ∧ (101 : Int32).toInt ≤ 127), own_cb rp16 (by decide : 0 ≤ (104 : Int32).toInt ∧ (104 : Int32).toInt ≤ 127), own_cb rp16 (by decide : 0 ≤ (108 : Int32).toInt ∧ (108 : Int32).toInt ≤ 127), own_cb rp16 (by decide : 0 ≤ (112 : Int32).toInt ∧ (112 : Int32).toInt ≤ 127), own_cb rp2 (by decide : 0 ≤ (45 : Int32).toInt ∧ (45 : Int32).toInt ≤ 127), own_cb rp2 (by decide : 0 ≤ (101 : Int32).toInt ∧ (101 : Int32).toInt ≤ 127), own_cb rp2 (by decide : 0 ≤ (104 : Int32).toInt ∧ (104 : Int32).toInt ≤ 127), own_cb rp2 (by decide : 0 ≤ (108 : Int32).toInt ∧ (108 : Int32).toInt ≤ 127), own_cb rp2 (by decide : 0 ≤ (112 : Int32).toInt ∧ (112 : Int32).toInt ≤ 127), own_cb rp21 (by decide : 0 ≤ (45 : Int32).toInt ∧ (45 : Int32).toInt ≤ 127), own_cb rp21 (by decide : 0 ≤ (101 : Int32).toInt ∧ (101 : Int32).toInt ≤ 127), own_cb rp21 (by decide : 0 ≤ (104 : Int32).toInt ∧ (104 : Int32).toInt ≤ 127), own_cb rp21 (by decide : 0 ≤ (108 : Int32).toInt ∧ (108 : Int32).toInt ≤ 127), own_cb rp21 (by decide : 0 ≤ (112 : Int32).toInt ∧ (112 : Int32).toInt ≤ 127), own_cb rp26 (by decide : 0 ≤ (45 : Int32).toInt ∧ (45 : Int32).toInt ≤ 127), own_cb rp26 (by decide : 0 ≤ (101 : Int32).toInt ∧ (101 : Int32).toInt ≤ 127), own_cb rp26 (by decide : 0 ≤ (104 : Int32).toInt ∧ (104 : Int32).toInt ≤ 127), own_cb rp26 (by decide : 0 ≤ (108 : Int32).toInt ∧ (108 : Int32).toInt ≤ 127), own_cb rp26 (by decide : 0 ≤ (112 : Int32).toInt ∧ (112 : Int32).toInt ≤ 127), own_cb rp6 (by decide : 0 ≤ (45 : Int32).toInt ∧ (45 : Int32).toInt ≤ 127), own_cb rp6 (by decide : 0 ≤ (101 : Int32).toInt ∧ (101 : Int32).toInt ≤ 127), own_cb rp6 (by decide : 0 ≤ (104 : Int32).toInt ∧ (104 : Int32).toInt ≤ 127), own_cb rp6 (by decide : 0 ≤ (108 : Int32).toInt ∧ (108 : Int32).toInt ≤ 127), own_cb rp6 (by decide : 0 ≤ (112 : Int32).toInt ∧ (112 : Int32).toInt ≤ 127), (by decide : cB8 (45 : Int32) = 45), (by decide : cB8 (101 : Int32) = 101), (by decide : cB8 (104 : Int32) = 104), (by decide : cB8 (108 : Int32) = 108), (by decide : cB8 (112 : Int32) = 112)] at c218 ⊢
  all_goals by_cases ha1 : p11 = (104 : Int32) <;> try (simp_all; done)
  all_goals by_cases ha2 : p16 = (101 : Int32) <;> try (simp_all; done)
  all_goals by_cases ha3 : p2 = (45 : Int32) <;> try (simp_all; done)
  all_goals by_cases ha4 : p21 = (108 : Int32) <;> try (simp_all; done)
  all_goals by_cases ha5 : p26 = (112 : Int32) <;> try (simp_all; done)
  all_goals by_cases ha6 : p6 = (45 : Int32) <;> try (simp_all; done)
  all_goals simp_all
theorem lf_3  (p2 : Int32) (p6 : Int32) (rp2 : 0 ≤ p2.toInt ∧ p2.toInt ≤ 255) (rp6 : 0 ≤ p6.toInt ∧ p6.toInt ≤ 255) : (if (if (fn_equals_21 (cB8 p2) (cB8 p6)) = (0 : Int32) then (0 : Int32) else (1 : Int32)) = (if (if p2 = (45 : Int32) then (if p6 = (104 : Int32) then (1 : Int32) else (0 : Int32)) else (0 : Int32)) = (0 : Int32) then (0 : Int32) else (1 : Int32)) then (1 : Int32) else (0 : Int32)) = 1 := by
  simp only [fn_equals_21, fn_equals_22, own_cb rp2 (by decide : 0 ≤ (45 : Int32).toInt ∧ (45 : Int32).toInt ≤ 127), own_cb rp2 (by decide : 0 ≤ (101 : Int32).toInt ∧ (101 : Int32).toInt ≤ 127), own_cb rp2 (by decide : 0 ≤ (104 : Int32).toInt ∧ (104 : Int32).toInt ≤ 127), own_cb rp2 (by decide : 0 ≤ (108 : Int32).toInt ∧ (108 : Int32).toInt ≤ 127), own_cb rp2 (by decide : 0 ≤ (112 : Int32).toInt ∧ (112 : Int32).toInt ≤ 127), own_cb rp6 (by decide : 0 ≤ (45 : Int32).toInt ∧ (45 : Int32).toInt ≤ 127), own_cb rp6 (by decide : 0 ≤ (101 : Int32).toInt ∧ (101 : Int32).toInt ≤ 127), own_cb rp6 (by decide : 0 ≤ (104 : Int32).toInt ∧ (104 : Int32).toInt ≤ 127), own_cb rp6 (by decide : 0 ≤ (108 : Int32).toInt ∧ (108 : Int32).toInt ≤ 127), own_cb rp6 (by decide : 0 ≤ (112 : Int32).toInt ∧ (112 : Int32).toInt ≤ 127), (by decide : cB8 (45 : Int32) = 45), (by decide : cB8 (101 : Int32) = 101), (by decide : cB8 (104 : Int32) = 104), (by decide : cB8 (108 : Int32) = 108), (by decide : cB8 (112 : Int32) = 112)] at ⊢
  all_goals by_cases ha1 : p2 = (45 : Int32) <;> try (simp_all; done)
  all_goals by_cases ha2 : p6 = (104 : Int32) <;> try (simp_all; done)
  all_goals simp_all
theorem lf_4  : (if (if (fn_equals_21 (cB8 (45 : Int32)) (cB8 (104 : Int32))) = (0 : Int32) then (0 : Int32) else (1 : Int32)) = (1 : Int32) then (1 : Int32) else (0 : Int32)) = 1 := by
  simp only [fn_equals_21, fn_equals_22, (by decide : cB8 (45 : Int32) = 45), (by decide : cB8 (101 : Int32) = 101), (by decide : cB8 (104 : Int32) = 104), (by decide : cB8 (108 : Int32) = 108), (by decide : cB8 (112 : Int32) = 112)] at ⊢
  all_goals simp_all
theorem lf_5  (p36 : Int32) (rp36 : 0 ≤ p36.toInt ∧ p36.toInt ≤ 255) : (if (if (fn_equals_21 (cB8 p36) (cB8 (104 : Int32))) = (0 : Int32) then (0 : Int32) else (1 : Int32)) = (if (if p36 = (45 : Int32) then (1 : Int32) else (0 : Int32)) = (0 : Int32) then (0 : Int32) else (1 : Int32)) then (1 : Int32) else (0 : Int32)) = 1 := by
  simp only [fn_equals_21, fn_equals_22, own_cb rp36 (by decide : 0 ≤ (45 : Int32).toInt ∧ (45 : Int32).toInt ≤ 127), own_cb rp36 (by decide : 0 ≤ (101 : Int32).toInt ∧ (101 : Int32).toInt ≤ 127), own_cb rp36 (by decide : 0 ≤ (104 : Int32).toInt ∧ (104 : Int32).toInt ≤ 127), own_cb rp36 (by decide : 0 ≤ (108 : Int32).toInt ∧ (108 : Int32).toInt ≤ 127), own_cb rp36 (by decide : 0 ≤ (112 : Int32).toInt ∧ (112 : Int32).toInt ≤ 127), (by decide : cB8 (45 : Int32) = 45), (by decide : cB8 (101 : Int32) = 101), (by decide : cB8 (104 : Int32) = 104), (by decide : cB8 (108 : Int32) = 108), (by decide : cB8 (112 : Int32) = 112)] at ⊢
  all_goals by_cases ha1 : p36 = (45 : Int32) <;> try (simp_all; done)
  all_goals simp_all
theorem lf_6  (p36 : Int32) (rp36 : 0 ≤ p36.toInt ∧ p36.toInt ≤ 255) : (if (if (fn_equals_21 (cB8 (45 : Int32)) (cB8 p36)) = (0 : Int32) then (0 : Int32) else (1 : Int32)) = (if (if p36 = (104 : Int32) then (1 : Int32) else (0 : Int32)) = (0 : Int32) then (0 : Int32) else (1 : Int32)) then (1 : Int32) else (0 : Int32)) = 1 := by
  simp only [fn_equals_21, fn_equals_22, own_cb rp36 (by decide : 0 ≤ (45 : Int32).toInt ∧ (45 : Int32).toInt ≤ 127), own_cb rp36 (by decide : 0 ≤ (101 : Int32).toInt ∧ (101 : Int32).toInt ≤ 127), own_cb rp36 (by decide : 0 ≤ (104 : Int32).toInt ∧ (104 : Int32).toInt ≤ 127), own_cb rp36 (by decide : 0 ≤ (108 : Int32).toInt ∧ (108 : Int32).toInt ≤ 127), own_cb rp36 (by decide : 0 ≤ (112 : Int32).toInt ∧ (112 : Int32).toInt ≤ 127), (by decide : cB8 (45 : Int32) = 45), (by decide : cB8 (101 : Int32) = 101), (by decide : cB8 (104 : Int32) = 104), (by decide : cB8 (108 : Int32) = 108), (by decide : cB8 (112 : Int32) = 112)] at ⊢
  all_goals by_cases ha1 : p36 = (104 : Int32) <;> try (simp_all; done)
  all_goals simp_all
theorem lf_7  (c507 : (fn_equals_40 (cB8 (45 : Int32)) (cB8 (45 : Int32)) (cB8 (104 : Int32)) (cB8 (101 : Int32)) (cB8 (108 : Int32)) (cB8 (112 : Int32))) = (0 : Int32)) : (0 : Int32) = 1 := by
  simp only [fn_equals_40, fn_equals_41, (by decide : cB8 (45 : Int32) = 45), (by decide : cB8 (101 : Int32) = 101), (by decide : cB8 (104 : Int32) = 104), (by decide : cB8 (108 : Int32) = 108), (by decide : cB8 (112 : Int32) = 112)] at c507 ⊢
  all_goals simp_all
theorem lf_8  (p36 : Int32) (rp36 : 0 ≤ p36.toInt ∧ p36.toInt ≤ 255) (c558 : ¬ (fn_equals_40 (cB8 p36) (cB8 (45 : Int32)) (cB8 (104 : Int32)) (cB8 (101 : Int32)) (cB8 (108 : Int32)) (cB8 (112 : Int32))) = (0 : Int32)) : (if (1 : Int32) = (if (if p36 = (45 : Int32) then (1 : Int32) else (0 : Int32)) = (0 : Int32) then (0 : Int32) else (1 : Int32)) then (1 : Int32) else (0 : Int32)) = 1 := by
  simp only [fn_equals_40, fn_equals_41, own_cb rp36 (by decide : 0 ≤ (45 : Int32).toInt ∧ (45 : Int32).toInt ≤ 127), own_cb rp36 (by decide : 0 ≤ (101 : Int32).toInt ∧ (101 : Int32).toInt ≤ 127), own_cb rp36 (by decide : 0 ≤ (104 : Int32).toInt ∧ (104 : Int32).toInt ≤ 127), own_cb rp36 (by decide : 0 ≤ (108 : Int32).toInt ∧ (108 : Int32).toInt ≤ 127), own_cb rp36 (by decide : 0 ≤ (112 : Int32).toInt ∧ (112 : Int32).toInt ≤ 127), (by decide : cB8 (45 : Int32) = 45), (by decide : cB8 (101 : Int32) = 101), (by decide : cB8 (104 : Int32) = 104), (by decide : cB8 (108 : Int32) = 108), (by decide : cB8 (112 : Int32) = 112)] at c558 ⊢
  all_goals by_cases ha1 : p36 = (45 : Int32) <;> try (simp_all; done)
  all_goals simp_all
theorem lf_9  (p36 : Int32) (rp36 : 0 ≤ p36.toInt ∧ p36.toInt ≤ 255) (c560 : (fn_equals_40 (cB8 p36) (cB8 (45 : Int32)) (cB8 (104 : Int32)) (cB8 (101 : Int32)) (cB8 (108 : Int32)) (cB8 (112 : Int32))) = (0 : Int32)) : (if (0 : Int32) = (if (if p36 = (45 : Int32) then (1 : Int32) else (0 : Int32)) = (0 : Int32) then (0 : Int32) else (1 : Int32)) then (1 : Int32) else (0 : Int32)) = 1 := by
  simp only [fn_equals_40, fn_equals_41, own_cb rp36 (by decide : 0 ≤ (45 : Int32).toInt ∧ (45 : Int32).toInt ≤ 127), own_cb rp36 (by decide : 0 ≤ (101 : Int32).toInt ∧ (101 : Int32).toInt ≤ 127), own_cb rp36 (by decide : 0 ≤ (104 : Int32).toInt ∧ (104 : Int32).toInt ≤ 127), own_cb rp36 (by decide : 0 ≤ (108 : Int32).toInt ∧ (108 : Int32).toInt ≤ 127), own_cb rp36 (by decide : 0 ≤ (112 : Int32).toInt ∧ (112 : Int32).toInt ≤ 127), (by decide : cB8 (45 : Int32) = 45), (by decide : cB8 (101 : Int32) = 101), (by decide : cB8 (104 : Int32) = 104), (by decide : cB8 (108 : Int32) = 108), (by decide : cB8 (112 : Int32) = 112)] at c560 ⊢
  all_goals by_cases ha1 : p36 = (45 : Int32) <;> try (simp_all; done)
  all_goals simp_all
theorem lf_10  (p36 : Int32) (rp36 : 0 ≤ p36.toInt ∧ p36.toInt ≤ 255) (c625 : ¬ (fn_equals_40 (cB8 (45 : Int32)) (cB8 p36) (cB8 (104 : Int32)) (cB8 (101 : Int32)) (cB8 (108 : Int32)) (cB8 (112 : Int32))) = (0 : Int32)) : (if (1 : Int32) = (if (if p36 = (45 : Int32) then (1 : Int32) else (0 : Int32)) = (0 : Int32) then (0 : Int32) else (1 : Int32)) then (1 : Int32) else (0 : Int32)) = 1 := by
  simp only [fn_equals_40, fn_equals_41, own_cb rp36 (by decide : 0 ≤ (45 : Int32).toInt ∧ (45 : Int32).toInt ≤ 127), own_cb rp36 (by decide : 0 ≤ (101 : Int32).toInt ∧ (101 : Int32).toInt ≤ 127), own_cb rp36 (by decide : 0 ≤ (104 : Int32).toInt ∧ (104 : Int32).toInt ≤ 127), own_cb rp36 (by decide : 0 ≤ (108 : Int32).toInt ∧ (108 : Int32).toInt ≤ 127), own_cb rp36 (by decide : 0 ≤ (112 : Int32).toInt ∧ (112 : Int32).toInt ≤ 127), (by decide : cB8 (45 : Int32) = 45), (by decide : cB8 (101 : Int32) = 101), (by decide : cB8 (104 : Int32) = 104), (by decide : cB8 (108 : Int32) = 108), (by decide : cB8 (112 : Int32) = 112)] at c625 ⊢
  all_goals by_cases ha1 : p36 = (45 : Int32) <;> try (simp_all; done)
  all_goals simp_all
theorem lf_11  (p36 : Int32) (rp36 : 0 ≤ p36.toInt ∧ p36.toInt ≤ 255) (c627 : (fn_equals_40 (cB8 (45 : Int32)) (cB8 p36) (cB8 (104 : Int32)) (cB8 (101 : Int32)) (cB8 (108 : Int32)) (cB8 (112 : Int32))) = (0 : Int32)) : (if (0 : Int32) = (if (if p36 = (45 : Int32) then (1 : Int32) else (0 : Int32)) = (0 : Int32) then (0 : Int32) else (1 : Int32)) then (1 : Int32) else (0 : Int32)) = 1 := by
  simp only [fn_equals_40, fn_equals_41, own_cb rp36 (by decide : 0 ≤ (45 : Int32).toInt ∧ (45 : Int32).toInt ≤ 127), own_cb rp36 (by decide : 0 ≤ (101 : Int32).toInt ∧ (101 : Int32).toInt ≤ 127), own_cb rp36 (by decide : 0 ≤ (104 : Int32).toInt ∧ (104 : Int32).toInt ≤ 127), own_cb rp36 (by decide : 0 ≤ (108 : Int32).toInt ∧ (108 : Int32).toInt ≤ 127), own_cb rp36 (by decide : 0 ≤ (112 : Int32).toInt ∧ (112 : Int32).toInt ≤ 127), (by decide : cB8 (45 : Int32) = 45), (by decide : cB8 (101 : Int32) = 101), (by decide : cB8 (104 : Int32) = 104), (by decide : cB8 (108 : Int32) = 108), (by decide : cB8 (112 : Int32) = 112)] at c627 ⊢
  all_goals by_cases ha1 : p36 = (45 : Int32) <;> try (simp_all; done)
  all_goals simp_all
theorem lf_12  (p36 : Int32) (rp36 : 0 ≤ p36.toInt ∧ p36.toInt ≤ 255) (c692 : ¬ (fn_equals_40 (cB8 (45 : Int32)) (cB8 (45 : Int32)) (cB8 p36) (cB8 (101 : Int32)) (cB8 (108 : Int32)) (cB8 (112 : Int32))) = (0 : Int32)) : (if (1 : Int32) = (if (if p36 = (104 : Int32) then (1 : Int32) else (0 : Int32)) = (0 : Int32) then (0 : Int32) else (1 : Int32)) then (1 : Int32) else (0 : Int32)) = 1 := by
  simp only [fn_equals_40, fn_equals_41, own_cb rp36 (by decide : 0 ≤ (45 : Int32).toInt ∧ (45 : Int32).toInt ≤ 127), own_cb rp36 (by decide : 0 ≤ (101 : Int32).toInt ∧ (101 : Int32).toInt ≤ 127), own_cb rp36 (by decide : 0 ≤ (104 : Int32).toInt ∧ (104 : Int32).toInt ≤ 127), own_cb rp36 (by decide : 0 ≤ (108 : Int32).toInt ∧ (108 : Int32).toInt ≤ 127), own_cb rp36 (by decide : 0 ≤ (112 : Int32).toInt ∧ (112 : Int32).toInt ≤ 127), (by decide : cB8 (45 : Int32) = 45), (by decide : cB8 (101 : Int32) = 101), (by decide : cB8 (104 : Int32) = 104), (by decide : cB8 (108 : Int32) = 108), (by decide : cB8 (112 : Int32) = 112)] at c692 ⊢
  all_goals by_cases ha1 : p36 = (104 : Int32) <;> try (simp_all; done)
  all_goals simp_all
theorem lf_13  (p36 : Int32) (rp36 : 0 ≤ p36.toInt ∧ p36.toInt ≤ 255) (c694 : (fn_equals_40 (cB8 (45 : Int32)) (cB8 (45 : Int32)) (cB8 p36) (cB8 (101 : Int32)) (cB8 (108 : Int32)) (cB8 (112 : Int32))) = (0 : Int32)) : (if (0 : Int32) = (if (if p36 = (104 : Int32) then (1 : Int32) else (0 : Int32)) = (0 : Int32) then (0 : Int32) else (1 : Int32)) then (1 : Int32) else (0 : Int32)) = 1 := by
  simp only [fn_equals_40, fn_equals_41, own_cb rp36 (by decide : 0 ≤ (45 : Int32).toInt ∧ (45 : Int32).toInt ≤ 127), own_cb rp36 (by decide : 0 ≤ (101 : Int32).toInt ∧ (101 : Int32).toInt ≤ 127), own_cb rp36 (by decide : 0 ≤ (104 : Int32).toInt ∧ (104 : Int32).toInt ≤ 127), own_cb rp36 (by decide : 0 ≤ (108 : Int32).toInt ∧ (108 : Int32).toInt ≤ 127), own_cb rp36 (by decide : 0 ≤ (112 : Int32).toInt ∧ (112 : Int32).toInt ≤ 127), (by decide : cB8 (45 : Int32) = 45), (by decide : cB8 (101 : Int32) = 101), (by decide : cB8 (104 : Int32) = 104), (by decide : cB8 (108 : Int32) = 108), (by decide : cB8 (112 : Int32) = 112)] at c694 ⊢
  all_goals by_cases ha1 : p36 = (104 : Int32) <;> try (simp_all; done)
  all_goals simp_all
theorem lf_14  (p36 : Int32) (rp36 : 0 ≤ p36.toInt ∧ p36.toInt ≤ 255) (c759 : ¬ (fn_equals_40 (cB8 (45 : Int32)) (cB8 (45 : Int32)) (cB8 (104 : Int32)) (cB8 p36) (cB8 (108 : Int32)) (cB8 (112 : Int32))) = (0 : Int32)) : (if (1 : Int32) = (if (if p36 = (101 : Int32) then (1 : Int32) else (0 : Int32)) = (0 : Int32) then (0 : Int32) else (1 : Int32)) then (1 : Int32) else (0 : Int32)) = 1 := by
  simp only [fn_equals_40, fn_equals_41, own_cb rp36 (by decide : 0 ≤ (45 : Int32).toInt ∧ (45 : Int32).toInt ≤ 127), own_cb rp36 (by decide : 0 ≤ (101 : Int32).toInt ∧ (101 : Int32).toInt ≤ 127), own_cb rp36 (by decide : 0 ≤ (104 : Int32).toInt ∧ (104 : Int32).toInt ≤ 127), own_cb rp36 (by decide : 0 ≤ (108 : Int32).toInt ∧ (108 : Int32).toInt ≤ 127), own_cb rp36 (by decide : 0 ≤ (112 : Int32).toInt ∧ (112 : Int32).toInt ≤ 127), (by decide : cB8 (45 : Int32) = 45), (by decide : cB8 (101 : Int32) = 101), (by decide : cB8 (104 : Int32) = 104), (by decide : cB8 (108 : Int32) = 108), (by decide : cB8 (112 : Int32) = 112)] at c759 ⊢
  all_goals by_cases ha1 : p36 = (101 : Int32) <;> try (simp_all; done)
  all_goals simp_all
theorem lf_15  (p36 : Int32) (rp36 : 0 ≤ p36.toInt ∧ p36.toInt ≤ 255) (c761 : (fn_equals_40 (cB8 (45 : Int32)) (cB8 (45 : Int32)) (cB8 (104 : Int32)) (cB8 p36) (cB8 (108 : Int32)) (cB8 (112 : Int32))) = (0 : Int32)) : (if (0 : Int32) = (if (if p36 = (101 : Int32) then (1 : Int32) else (0 : Int32)) = (0 : Int32) then (0 : Int32) else (1 : Int32)) then (1 : Int32) else (0 : Int32)) = 1 := by
  simp only [fn_equals_40, fn_equals_41, own_cb rp36 (by decide : 0 ≤ (45 : Int32).toInt ∧ (45 : Int32).toInt ≤ 127), own_cb rp36 (by decide : 0 ≤ (101 : Int32).toInt ∧ (101 : Int32).toInt ≤ 127), own_cb rp36 (by decide : 0 ≤ (104 : Int32).toInt ∧ (104 : Int32).toInt ≤ 127), own_cb rp36 (by decide : 0 ≤ (108 : Int32).toInt ∧ (108 : Int32).toInt ≤ 127), own_cb rp36 (by decide : 0 ≤ (112 : Int32).toInt ∧ (112 : Int32).toInt ≤ 127), (by decide : cB8 (45 : Int32) = 45), (by decide : cB8 (101 : Int32) = 101), (by decide : cB8 (104 : Int32) = 104), (by decide : cB8 (108 : Int32) = 108), (by decide : cB8 (112 : Int32) = 112)] at c761 ⊢
  all_goals by_cases ha1 : p36 = (101 : Int32) <;> try (simp_all; done)
  all_goals simp_all
theorem lf_16  (p36 : Int32) (rp36 : 0 ≤ p36.toInt ∧ p36.toInt ≤ 255) (c826 : ¬ (fn_equals_40 (cB8 (45 : Int32)) (cB8 (45 : Int32)) (cB8 (104 : Int32)) (cB8 (101 : Int32)) (cB8 p36) (cB8 (112 : Int32))) = (0 : Int32)) : (if (1 : Int32) = (if (if p36 = (108 : Int32) then (1 : Int32) else (0 : Int32)) = (0 : Int32) then (0 : Int32) else (1 : Int32)) then (1 : Int32) else (0 : Int32)) = 1 := by
  simp only [fn_equals_40, fn_equals_41, own_cb rp36 (by decide : 0 ≤ (45 : Int32).toInt ∧ (45 : Int32).toInt ≤ 127), own_cb rp36 (by decide : 0 ≤ (101 : Int32).toInt ∧ (101 : Int32).toInt ≤ 127), own_cb rp36 (by decide : 0 ≤ (104 : Int32).toInt ∧ (104 : Int32).toInt ≤ 127), own_cb rp36 (by decide : 0 ≤ (108 : Int32).toInt ∧ (108 : Int32).toInt ≤ 127), own_cb rp36 (by decide : 0 ≤ (112 : Int32).toInt ∧ (112 : Int32).toInt ≤ 127), (by decide : cB8 (45 : Int32) = 45), (by decide : cB8 (101 : Int32) = 101), (by decide : cB8 (104 : Int32) = 104), (by decide : cB8 (108 : Int32) = 108), (by decide : cB8 (112 : Int32) = 112)] at c826 ⊢
  all_goals by_cases ha1 : p36 = (108 : Int32) <;> try (simp_all; done)
  all_goals simp_all
theorem lf_17  (p36 : Int32) (rp36 : 0 ≤ p36.toInt ∧ p36.toInt ≤ 255) (c828 : (fn_equals_40 (cB8 (45 : Int32)) (cB8 (45 : Int32)) (cB8 (104 : Int32)) (cB8 (101 : Int32)) (cB8 p36) (cB8 (112 : Int32))) = (0 : Int32)) : (if (0 : Int32) = (if (if p36 = (108 : Int32) then (1 : Int32) else (0 : Int32)) = (0 : Int32) then (0 : Int32) else (1 : Int32)) then (1 : Int32) else (0 : Int32)) = 1 := by
  simp only [fn_equals_40, fn_equals_41, own_cb rp36 (by decide : 0 ≤ (45 : Int32).toInt ∧ (45 : Int32).toInt ≤ 127), own_cb rp36 (by decide : 0 ≤ (101 : Int32).toInt ∧ (101 : Int32).toInt ≤ 127), own_cb rp36 (by decide : 0 ≤ (104 : Int32).toInt ∧ (104 : Int32).toInt ≤ 127), own_cb rp36 (by decide : 0 ≤ (108 : Int32).toInt ∧ (108 : Int32).toInt ≤ 127), own_cb rp36 (by decide : 0 ≤ (112 : Int32).toInt ∧ (112 : Int32).toInt ≤ 127), (by decide : cB8 (45 : Int32) = 45), (by decide : cB8 (101 : Int32) = 101), (by decide : cB8 (104 : Int32) = 104), (by decide : cB8 (108 : Int32) = 108), (by decide : cB8 (112 : Int32) = 112)] at c828 ⊢
  all_goals by_cases ha1 : p36 = (108 : Int32) <;> try (simp_all; done)
  all_goals simp_all
theorem lf_18  (p36 : Int32) (rp36 : 0 ≤ p36.toInt ∧ p36.toInt ≤ 255) (c893 : ¬ (fn_equals_40 (cB8 (45 : Int32)) (cB8 (45 : Int32)) (cB8 (104 : Int32)) (cB8 (101 : Int32)) (cB8 (108 : Int32)) (cB8 p36)) = (0 : Int32)) : (if (1 : Int32) = (if (if p36 = (112 : Int32) then (1 : Int32) else (0 : Int32)) = (0 : Int32) then (0 : Int32) else (1 : Int32)) then (1 : Int32) else (0 : Int32)) = 1 := by
  simp only [fn_equals_40, fn_equals_41, own_cb rp36 (by decide : 0 ≤ (45 : Int32).toInt ∧ (45 : Int32).toInt ≤ 127), own_cb rp36 (by decide : 0 ≤ (101 : Int32).toInt ∧ (101 : Int32).toInt ≤ 127), own_cb rp36 (by decide : 0 ≤ (104 : Int32).toInt ∧ (104 : Int32).toInt ≤ 127), own_cb rp36 (by decide : 0 ≤ (108 : Int32).toInt ∧ (108 : Int32).toInt ≤ 127), own_cb rp36 (by decide : 0 ≤ (112 : Int32).toInt ∧ (112 : Int32).toInt ≤ 127), (by decide : cB8 (45 : Int32) = 45), (by decide : cB8 (101 : Int32) = 101), (by decide : cB8 (104 : Int32) = 104), (by decide : cB8 (108 : Int32) = 108), (by decide : cB8 (112 : Int32) = 112)] at c893 ⊢
  all_goals by_cases ha1 : p36 = (112 : Int32) <;> try (simp_all; done)
  all_goals simp_all
theorem lf_19  (p36 : Int32) (rp36 : 0 ≤ p36.toInt ∧ p36.toInt ≤ 255) (c895 : (fn_equals_40 (cB8 (45 : Int32)) (cB8 (45 : Int32)) (cB8 (104 : Int32)) (cB8 (101 : Int32)) (cB8 (108 : Int32)) (cB8 p36)) = (0 : Int32)) : (if (0 : Int32) = (if (if p36 = (112 : Int32) then (1 : Int32) else (0 : Int32)) = (0 : Int32) then (0 : Int32) else (1 : Int32)) then (1 : Int32) else (0 : Int32)) = 1 := by
  simp only [fn_equals_40, fn_equals_41, own_cb rp36 (by decide : 0 ≤ (45 : Int32).toInt ∧ (45 : Int32).toInt ≤ 127), own_cb rp36 (by decide : 0 ≤ (101 : Int32).toInt ∧ (101 : Int32).toInt ≤ 127), own_cb rp36 (by decide : 0 ≤ (104 : Int32).toInt ∧ (104 : Int32).toInt ≤ 127), own_cb rp36 (by decide : 0 ≤ (108 : Int32).toInt ∧ (108 : Int32).toInt ≤ 127), own_cb rp36 (by decide : 0 ≤ (112 : Int32).toInt ∧ (112 : Int32).toInt ≤ 127), (by decide : cB8 (45 : Int32) = 45), (by decide : cB8 (101 : Int32) = 101), (by decide : cB8 (104 : Int32) = 104), (by decide : cB8 (108 : Int32) = 108), (by decide : cB8 (112 : Int32) = 112)] at c895 ⊢
  all_goals by_cases ha1 : p36 = (112 : Int32) <;> try (simp_all; done)
  all_goals simp_all
set_option maxRecDepth 65536 in
set_option maxHeartbeats 40000000 in
theorem rm_law {Z : State} {a0 : Array Value} (hw : ∀ d ∈ tables_1, d.before a0 Z = true) (Ts : List String) (hTs : Ts = []) (x0 : Int32) (x1 : Int64) (x2 : Int64) (cs : Int32) (h0 : Heap) (f : Nat) (Zf : Z.heap.size ≤ f) (Z0 : f ≤ h0.size) (S_cs : Sta Z Z.heap "java/lang/String" "COMPACT_STRINGS" "Z" (.int cs)) (wS : ∀ a ∈ Bundle.stringAtoms, a.before a0 Z = true) (hcw : Jvm.Lit.compactW.before a0 Z = true) (hh0 : Jvm.Lit.constHeld Z "com/example/maniera/maniera/cli/CommandLine" 133) (hh1 : Jvm.Lit.constHeld Z "com/example/maniera/maniera/cli/CommandLine" 135) (hh2 : Jvm.Lit.constHeld Z "java/lang/String" 7) (hcs : ¬ cs = 0) :
  Con true tables_1 Z x code maxLocals ret room_1 Ts ("--help" :: "-h" :: "" :: Ts) f #[(.int x0), (.long x1), (.long x2)] h0 (fun v _ => v = some (.int 1)) := by
 have hT__2d__2d_help : "--help" ∉ Ts := by rw [hTs]; exact List.not_mem_nil
 have hT__2d_h : "-h" ∉ Ts := by rw [hTs]; exact List.not_mem_nil
 have hT_empty : "" ∉ Ts := by rw [hTs]; exact List.not_mem_nil
 refine con_of h0.size #[.val (.int x0), .val (.long x1), .second, .val (.long x2), .second, .unset, .unset, .unset, .unset, .unset, .unset, .unset, .unset] (plainFor_of_name pn_0) (fun m => by first | rfl | (simp [entryFrame, mkF, argsToLocals, Value.category, maxLocals]; done)) (nlt Zf Z0) ?_
 intro C H hX0
 refine r_bipush H 2 (7 : Int32) at_0 (by decide) rfl ?_
 refine r_newP H 4 "[C" 7 at_2 (tw0 hw) rfl (by decide) (by decide) (by decide) (by decide) (by decide) rfl ?_
 intro h1 b1 kc1 g1 l1 K1 E1 A1
 change Ar Z h1 b1 kc1 .char [(.int (0 : Int32)), (.int (0 : Int32)), (.int (0 : Int32)), (.int (0 : Int32)), (.int (0 : Int32)), (.int (0 : Int32)), (.int (0 : Int32))] at A1
 refine r_astore H 6 #[.val (.int x0), .val (.long x1), .second, .val (.long x2), .second, .val (.ref b1), .unset, .unset, .unset, .unset, .unset, .unset, .unset] at_4 rfl rfl rfl ?_
 refine r_aload H 8 at_6 rfl rfl rfl ?_
 refine r_iconst H 9 (0 : Int32) at_8 (by decide) rfl ?_
 refine r_lloadN H 10 at_9 rfl rfl ?_
 refine r_l2i H 11 (x1.toInt32) at_10 rfl rfl ?_
 refine r_static H 14 at_11 (tw1 hw) (tw2 hw) (tw3 hw) (tw4 hw) (by decide) (lenOf pd_0 rfl) (rm_pick_1 hw Ts (x1.toInt32) h1 h0.size (nlt Zf Z0) K1.1) (argsL := [(.int (x1.toInt32))]) (rest := [(.int (0 : Int32)), (.ref b1)]) rfl (W := 2) (nlq rfl) rfl (by decide) (by decide) (by decide) (by decide) nlr rfl ?_
 rintro _ _ ⟨p2, rfl, rfl, ep2, rp2⟩
 refine r_castore H 15 p2 at_14 A1 (by decide) (Nat.le_of_ble_eq_true rfl) (nlt nlr (Nat.le_of_eq g1.symm)) (nar_char_id (by have := rp2; omega)) rfl ?_
 intro h4 K4 A4
 change Ar Z h4 b1 kc1 .char [(.int p2), (.int (0 : Int32)), (.int (0 : Int32)), (.int (0 : Int32)), (.int (0 : Int32)), (.int (0 : Int32)), (.int (0 : Int32))] at A4
 refine r_aload H 17 at_15 rfl rfl rfl ?_
 refine r_iconst H 18 (1 : Int32) at_17 (by decide) rfl ?_
 refine r_lloadN H 19 at_18 rfl rfl ?_
 refine r_bipush H 21 (16 : Int32) at_19 (by decide) rfl ?_
 refine r_lushr H 22 (ush64 x1 (16 : Int32)) at_21 rfl rfl ?_
 refine r_l2i H 23 ((ush64 x1 (16 : Int32)).toInt32) at_22 rfl rfl ?_
 have z5 := Nat.le_trans K1.1 K4.1
 refine r_static H 26 at_23 (tw1 hw) (tw2 hw) (tw3 hw) (tw4 hw) (by decide) (lenOf pd_0 rfl) (rm_pick_1 hw Ts ((ush64 x1 (16 : Int32)).toInt32) h4 h0.size (nlt Zf Z0) z5) (argsL := [(.int ((ush64 x1 (16 : Int32)).toInt32))]) (rest := [(.int (1 : Int32)), (.ref b1)]) rfl (W := 2) (nlq rfl) rfl (by decide) (by decide) (by decide) (by decide) nlr rfl ?_
 rintro _ _ ⟨p6, rfl, rfl, ep6, rp6⟩
 refine r_castore H 27 p6 at_26 A4 (by decide) (Nat.le_of_ble_eq_true rfl) (nlt nlr (Nat.le_of_eq g1.symm)) (nar_char_id (by have := rp6; omega)) rfl ?_
 intro h8 K8 A8
 have q9 := (E1.keep K4)
 change Ar Z h8 b1 kc1 .char [(.int p2), (.int p6), (.int (0 : Int32)), (.int (0 : Int32)), (.int (0 : Int32)), (.int (0 : Int32)), (.int (0 : Int32))] at A8
 refine r_aload H 29 at_27 rfl rfl rfl ?_
 refine r_iconst H 30 (2 : Int32) at_29 (by decide) rfl ?_
 refine r_lloadN H 31 at_30 rfl rfl ?_
 refine r_bipush H 33 (32 : Int32) at_31 (by decide) rfl ?_
 refine r_lushr H 34 (ush64 x1 (32 : Int32)) at_33 rfl rfl ?_
 refine r_l2i H 35 ((ush64 x1 (32 : Int32)).toInt32) at_34 rfl rfl ?_
 have z10 := Nat.le_trans z5 K8.1
 refine r_static H 38 at_35 (tw1 hw) (tw2 hw) (tw3 hw) (tw4 hw) (by decide) (lenOf pd_0 rfl) (rm_pick_1 hw Ts ((ush64 x1 (32 : Int32)).toInt32) h8 h0.size (nlt Zf Z0) z10) (argsL := [(.int ((ush64 x1 (32 : Int32)).toInt32))]) (rest := [(.int (2 : Int32)), (.ref b1)]) rfl (W := 2) (nlq rfl) rfl (by decide) (by decide) (by decide) (by decide) nlr rfl ?_
 rintro _ _ ⟨p11, rfl, rfl, ep11, rp11⟩
 refine r_castore H 39 p11 at_38 A8 (by decide) (Nat.le_of_ble_eq_true rfl) (nlt nlr (Nat.le_of_eq g1.symm)) (nar_char_id (by have := rp11; omega)) rfl ?_
 intro h13 K13 A13
 have q14 := (q9.keep K8)
 change Ar Z h13 b1 kc1 .char [(.int p2), (.int p6), (.int p11), (.int (0 : Int32)), (.int (0 : Int32)), (.int (0 : Int32)), (.int (0 : Int32))] at A13
 refine r_aload H 41 at_39 rfl rfl rfl ?_
 refine r_iconst H 42 (3 : Int32) at_41 (by decide) rfl ?_
 refine r_lloadN H 43 at_42 rfl rfl ?_
 refine r_bipush H 45 (48 : Int32) at_43 (by decide) rfl ?_
 refine r_lushr H 46 (ush64 x1 (48 : Int32)) at_45 rfl rfl ?_
 refine r_l2i H 47 ((ush64 x1 (48 : Int32)).toInt32) at_46 rfl rfl ?_
 have z15 := Nat.le_trans z10 K13.1
 refine r_static H 50 at_47 (tw1 hw) (tw2 hw) (tw3 hw) (tw4 hw) (by decide) (lenOf pd_0 rfl) (rm_pick_1 hw Ts ((ush64 x1 (48 : Int32)).toInt32) h13 h0.size (nlt Zf Z0) z15) (argsL := [(.int ((ush64 x1 (48 : Int32)).toInt32))]) (rest := [(.int (3 : Int32)), (.ref b1)]) rfl (W := 2) (nlq rfl) rfl (by decide) (by decide) (by decide) (by decide) nlr rfl ?_
 rintro _ _ ⟨p16, rfl, rfl, ep16, rp16⟩
 refine r_castore H 51 p16 at_50 A13 (by decide) (Nat.le_of_ble_eq_true rfl) (nlt nlr (Nat.le_of_eq g1.symm)) (nar_char_id (by have := rp16; omega)) rfl ?_
 intro h18 K18 A18
 have q19 := (q14.keep K13)
 change Ar Z h18 b1 kc1 .char [(.int p2), (.int p6), (.int p11), (.int p16), (.int (0 : Int32)), (.int (0 : Int32)), (.int (0 : Int32))] at A18
 refine r_aload H 53 at_51 rfl rfl rfl ?_
 refine r_iconst H 54 (4 : Int32) at_53 (by decide) rfl ?_
 refine r_lloadN H 55 at_54 rfl rfl ?_
 refine r_l2i H 56 (x2.toInt32) at_55 rfl rfl ?_
 have z20 := Nat.le_trans z15 K18.1
 refine r_static H 59 at_56 (tw1 hw) (tw2 hw) (tw3 hw) (tw4 hw) (by decide) (lenOf pd_0 rfl) (rm_pick_1 hw Ts (x2.toInt32) h18 h0.size (nlt Zf Z0) z20) (argsL := [(.int (x2.toInt32))]) (rest := [(.int (4 : Int32)), (.ref b1)]) rfl (W := 2) (nlq rfl) rfl (by decide) (by decide) (by decide) (by decide) nlr rfl ?_
 rintro _ _ ⟨p21, rfl, rfl, ep21, rp21⟩
 refine r_castore H 60 p21 at_59 A18 (by decide) (Nat.le_of_ble_eq_true rfl) (nlt nlr (Nat.le_of_eq g1.symm)) (nar_char_id (by have := rp21; omega)) rfl ?_
 intro h23 K23 A23
 have q24 := (q19.keep K18)
 change Ar Z h23 b1 kc1 .char [(.int p2), (.int p6), (.int p11), (.int p16), (.int p21), (.int (0 : Int32)), (.int (0 : Int32))] at A23
 refine r_aload H 62 at_60 rfl rfl rfl ?_
 refine r_iconst H 63 (5 : Int32) at_62 (by decide) rfl ?_
 refine r_lloadN H 64 at_63 rfl rfl ?_
 refine r_bipush H 66 (16 : Int32) at_64 (by decide) rfl ?_
 refine r_lushr H 67 (ush64 x2 (16 : Int32)) at_66 rfl rfl ?_
 refine r_l2i H 68 ((ush64 x2 (16 : Int32)).toInt32) at_67 rfl rfl ?_
 have z25 := Nat.le_trans z20 K23.1
 refine r_static H 71 at_68 (tw1 hw) (tw2 hw) (tw3 hw) (tw4 hw) (by decide) (lenOf pd_0 rfl) (rm_pick_1 hw Ts ((ush64 x2 (16 : Int32)).toInt32) h23 h0.size (nlt Zf Z0) z25) (argsL := [(.int ((ush64 x2 (16 : Int32)).toInt32))]) (rest := [(.int (5 : Int32)), (.ref b1)]) rfl (W := 2) (nlq rfl) rfl (by decide) (by decide) (by decide) (by decide) nlr rfl ?_
 rintro _ _ ⟨p26, rfl, rfl, ep26, rp26⟩
 refine r_castore H 72 p26 at_71 A23 (by decide) (Nat.le_of_ble_eq_true rfl) (nlt nlr (Nat.le_of_eq g1.symm)) (nar_char_id (by have := rp26; omega)) rfl ?_
 intro h28 K28 A28
 have q29 := (q24.keep K23)
 change Ar Z h28 b1 kc1 .char [(.int p2), (.int p6), (.int p11), (.int p16), (.int p21), (.int p26), (.int (0 : Int32))] at A28
 refine r_aload H 74 at_72 rfl rfl rfl ?_
 refine r_bipush H 76 (6 : Int32) at_74 (by decide) rfl ?_
 refine r_lloadN H 77 at_76 rfl rfl ?_
 refine r_bipush H 79 (32 : Int32) at_77 (by decide) rfl ?_
 refine r_lushr H 80 (ush64 x2 (32 : Int32)) at_79 rfl rfl ?_
 refine r_l2i H 81 ((ush64 x2 (32 : Int32)).toInt32) at_80 rfl rfl ?_
 have z30 := Nat.le_trans z25 K28.1
 refine r_static H 84 at_81 (tw1 hw) (tw2 hw) (tw3 hw) (tw4 hw) (by decide) (lenOf pd_0 rfl) (rm_pick_1 hw Ts ((ush64 x2 (32 : Int32)).toInt32) h28 h0.size (nlt Zf Z0) z30) (argsL := [(.int ((ush64 x2 (32 : Int32)).toInt32))]) (rest := [(.int (6 : Int32)), (.ref b1)]) rfl (W := 2) (nlq rfl) rfl (by decide) (by decide) (by decide) (by decide) nlr rfl ?_
 rintro _ _ ⟨p31, rfl, rfl, ep31, rp31⟩
 refine r_castore H 85 p31 at_84 A28 (by decide) (Nat.le_of_ble_eq_true rfl) (nlt nlr (Nat.le_of_eq g1.symm)) (nar_char_id (by have := rp31; omega)) rfl ?_
 intro h33 K33 A33
 have q34 := (q29.keep K28)
 change Ar Z h33 b1 kc1 .char [(.int p2), (.int p6), (.int p11), (.int p16), (.int p21), (.int p26), (.int p31)] at A33
 refine r_lloadN H 86 at_85 rfl rfl ?_
 refine r_bipush H 88 (48 : Int32) at_86 (by decide) rfl ?_
 refine r_lushr H 89 (ush64 x2 (48 : Int32)) at_88 rfl rfl ?_
 refine r_l2i H 90 ((ush64 x2 (48 : Int32)).toInt32) at_89 rfl rfl ?_
 have z35 := Nat.le_trans z30 K33.1
 refine r_static H 93 at_90 (tw1 hw) (tw2 hw) (tw3 hw) (tw4 hw) (by decide) (lenOf pd_0 rfl) (rm_pick_1 hw Ts ((ush64 x2 (48 : Int32)).toInt32) h33 h0.size (nlt Zf Z0) z35) (argsL := [(.int ((ush64 x2 (48 : Int32)).toInt32))]) (rest := []) rfl (W := 0) (nlq rfl) rfl (by decide) (by decide) (by decide) (by decide) nlr rfl ?_
 rintro _ _ ⟨p36, rfl, rfl, ep36, rp36⟩
 refine r_istore H 95 #[.val (.int x0), .val (.long x1), .second, .val (.long x2), .second, .val (.ref b1), .val (.int p36), .unset, .unset, .unset, .unset, .unset, .unset] at_93 rfl rfl ?_
 refine r_iloadN H 96 at_95 rfl rfl ?_
 refine r_iconst H 97 (3 : Int32) at_96 (by decide) rfl ?_
 obtain ⟨p38, ep38, rp38⟩ : ∃ p : Int32, (x0 &&& (3 : Int32)) = p ∧ 0 ≤ p.toInt ∧ p.toInt ≤ 3 := ⟨_, rfl, (by have h := c_and x0 (3 : Int32) (by decide); have : (3 : Int32).toInt = 3 := (by decide); omega)⟩
 refine r_iand H 98 p38 at_97 ep38 rfl ?_
 refine r_istore H 100 #[.val (.int x0), .val (.long x1), .second, .val (.long x2), .second, .val (.ref b1), .val (.int p36), .val (.int p38), .unset, .unset, .unset, .unset, .unset] at_98 rfl rfl ?_
 refine r_iloadN H 101 at_100 rfl rfl ?_
 refine r_iconst H 102 (3 : Int32) at_101 (by decide) rfl ?_
 obtain ⟨p39, ep39, rp39⟩ : ∃ p : Int32, (ush32 x0 (3 : Int32)) = p ∧ 0 ≤ p.toInt ∧ p.toInt ≤ 536870911 := ⟨_, rfl, (by have h1 := ushr_eq x0 (3 : Int32) 3 (by decide) (by decide); have h2 := rng32 x0; omega)⟩
 refine r_iushr H 103 p39 at_102 ep39 rfl ?_
 refine r_sipush H 106 (255 : Int32) at_103 (by decide) rfl ?_
 obtain ⟨p40, ep40, rp40⟩ : ∃ p : Int32, (p39 &&& (255 : Int32)) = p ∧ 0 ≤ p.toInt ∧ p.toInt ≤ 255 := ⟨_, rfl, (by have h := c_and p39 (255 : Int32) (by decide); have : (255 : Int32).toInt = 255 := (by decide); omega)⟩
 refine r_iand H 107 p40 at_106 ep40 rfl ?_
 refine r_bipush H 109 (8 : Int32) at_107 (by decide) rfl ?_
 obtain ⟨p41, ep41, rp41⟩ : ∃ p : Int32, (p40 % (8 : Int32)) = p ∧ 0 ≤ p.toInt ∧ p.toInt ≤ 7 := ⟨_, rfl, (by have := rp40; have h := (c_irem p40 (8 : Int32) 8 (by decide)).1 (by omega); omega)⟩
 refine r_irem H 110 p41 at_109 (by decide) ep41 rfl ?_
 refine r_istore H 112 #[.val (.int x0), .val (.long x1), .second, .val (.long x2), .second, .val (.ref b1), .val (.int p36), .val (.int p38), .val (.int p41), .unset, .unset, .unset, .unset] at_110 rfl rfl ?_
 refine r_iload H 114 at_112 rfl rfl ?_
 refine r_ifne H 180 117 at_114 (by decide) (by decide) rfl (fun c42 => ?_) (fun c42 => ?_)
 ·
  have rr43 : 1 ≤ p38.toInt ∧ p38.toInt ≤ 3 := by have := rp38; have : (0 : Int32).toInt = 0 := (by decide); have hc_ := c42; simp only [Int32.lt_iff_toInt_lt, ← Int32.toInt_inj] at hc_; omega
  refine r_iload H 182 at_180 rfl rfl ?_
  refine r_iconst H 183 (1 : Int32) at_182 (by decide) rfl ?_
  refine r_icmpne H 223 186 at_183 (by decide) (by decide) rfl (fun c44 => ?_) (fun c44 => ?_)
  ·
   have rr45 : 2 ≤ p38.toInt ∧ p38.toInt ≤ 3 := by have := rr43; have : (1 : Int32).toInt = 1 := (by decide); have hc_ := c44; simp only [Int32.lt_iff_toInt_lt, ← Int32.toInt_inj] at hc_; omega
   refine r_iloadN H 224 at_223 rfl rfl ?_
   refine r_iconst H 225 (2 : Int32) at_224 (by decide) rfl ?_
   obtain ⟨p46, ep46, rp46⟩ : ∃ p : Int32, (ush32 x0 (2 : Int32)) = p ∧ 0 ≤ p.toInt ∧ p.toInt ≤ 1073741823 := ⟨_, rfl, (by have h1 := ushr_eq x0 (2 : Int32) 2 (by decide) (by decide); have h2 := rng32 x0; omega)⟩
   refine r_iushr H 226 p46 at_225 ep46 rfl ?_
   refine r_ldcI H 228 at_226 (tw55 hw) rfl ?_
   obtain ⟨p47, ep47, rp47⟩ : ∃ p : Int32, (p46 &&& (2147483647 : Int32)) = p ∧ 0 ≤ p.toInt ∧ p.toInt ≤ 2147483647 := ⟨_, rfl, (by have h := c_and p46 (2147483647 : Int32) (by decide); have : (2147483647 : Int32).toInt = 2147483647 := (by decide); omega)⟩
   refine r_iand H 229 p47 at_228 ep47 rfl ?_
   refine r_bipush H 231 (8 : Int32) at_229 (by decide) rfl ?_
   obtain ⟨p48, ep48, rp48⟩ : ∃ p : Int32, (p47 % (8 : Int32)) = p ∧ 0 ≤ p.toInt ∧ p.toInt ≤ 7 := ⟨_, rfl, (by have := rp47; have h := (c_irem p47 (8 : Int32) 8 (by decide)).1 (by omega); omega)⟩
   refine r_irem H 232 p48 at_231 (by decide) ep48 rfl ?_
   refine r_istore H 234 #[.val (.int x0), .val (.long x1), .second, .val (.long x2), .second, .val (.ref b1), .val (.int p36), .val (.int p38), .val (.int p41), .val (.int p48), .unset, .unset, .unset] at_232 rfl rfl ?_
   refine r_aload H 236 at_234 rfl rfl rfl ?_
   refine r_iload H 238 at_236 rfl rfl ?_
   refine r_static H 241 at_238 (tw5 hw) (tw6 hw) (tw3 hw) (tw7 hw) (by decide) (lenOf pd_6 rfl) (rm_word_44 hw Ts b1 p48 p2 p6 p11 p16 p21 p26 p31 kc1 cs h33 h0.size (nlt Zf Z0) z35 A33 rp48 (by have := rp2; omega) (by have := rp6; omega) (by have := rp11; omega) (by have := rp16; omega) (by have := rp21; omega) (by have := rp26; omega) (by have := rp31; omega) S_cs wS hcw hh2 hT_empty hcs) (argsL := [(.ref b1), (.int p48)]) (rest := []) rfl (W := 0) (nlq rfl) rfl (by decide) (by decide) (by decide) (by decide) nlr rfl ?_
   rintro _ hh177 (⟨b49, b50, kc51, rfl, c53, c54, c55, c56, c57, c58, c59, K52, g60, g61, g62, q63, q64, q65, q66, q67⟩ | ⟨b68, b69, kc70, rfl, c72, c73, c74, c75, c76, c77, c78, K71, g79, g80, g81, q82, q83, q84, q85, q86⟩ | ⟨b87, b88, kc89, rfl, c91, c92, c93, c94, c95, c96, K90, g97, g98, g99, q100, q101, q102, q103, q104⟩ | ⟨b105, b106, kc107, rfl, c109, c110, c111, c112, c113, K108, g114, g115, g116, q117, q118, q119, q120, q121⟩ | ⟨b122, b123, kc124, rfl, c126, c127, c128, c129, K125, g130, g131, g132, q133, q134, q135, q136, q137⟩ | ⟨b138, b139, kc140, rfl, c142, c143, c144, K141, g145, g146, g147, q148, q149, q150, q151, q152⟩ | ⟨b153, b154, kc155, rfl, c157, c158, K156, g159, g160, g161, q162, q163, q164, q165, q166⟩ | ⟨b167, b168, kc169, rfl, c171, K170, g172, q173, q174, q175, q176⟩)
   ·
    have rr178 : 1 ≤ p48.toInt ∧ p48.toInt ≤ 7 := by have := rp48; have : (0 : Int32).toInt = 0 := (by decide); have hc_ := c53; simp only [Int32.lt_iff_toInt_lt, ← Int32.toInt_inj] at hc_; omega
    have rr179 : 2 ≤ p48.toInt ∧ p48.toInt ≤ 7 := by have := rr178; have : (1 : Int32).toInt = 1 := (by decide); have hc_ := c54; simp only [Int32.lt_iff_toInt_lt, ← Int32.toInt_inj] at hc_; omega
    have rr180 : 3 ≤ p48.toInt ∧ p48.toInt ≤ 7 := by have := rr179; have : (2 : Int32).toInt = 2 := (by decide); have hc_ := c55; simp only [Int32.lt_iff_toInt_lt, ← Int32.toInt_inj] at hc_; omega
    have rr181 : 4 ≤ p48.toInt ∧ p48.toInt ≤ 7 := by have := rr180; have : (3 : Int32).toInt = 3 := (by decide); have hc_ := c56; simp only [Int32.lt_iff_toInt_lt, ← Int32.toInt_inj] at hc_; omega
    have rr182 : 5 ≤ p48.toInt ∧ p48.toInt ≤ 7 := by have := rr181; have : (4 : Int32).toInt = 4 := (by decide); have hc_ := c57; simp only [Int32.lt_iff_toInt_lt, ← Int32.toInt_inj] at hc_; omega
    have rr183 : 6 ≤ p48.toInt ∧ p48.toInt ≤ 7 := by have := rr182; have : (5 : Int32).toInt = 5 := (by decide); have hc_ := c58; simp only [Int32.lt_iff_toInt_lt, ← Int32.toInt_inj] at hc_; omega
    have rr184 : 7 ≤ p48.toInt ∧ p48.toInt ≤ 7 := by have := rr183; have : (6 : Int32).toInt = 6 := (by decide); have hc_ := c59; simp only [Int32.lt_iff_toInt_lt, ← Int32.toInt_inj] at hc_; omega
    refine r_astore H 243 #[.val (.int x0), .val (.long x1), .second, .val (.long x2), .second, .val (.ref b1), .val (.int p36), .val (.int p38), .val (.int p41), .val (.int p48), .val (.ref b49), .unset, .unset] at_241 rfl rfl rfl ?_
    refine r_iload H 245 at_243 rfl rfl ?_
    refine r_bipush H 247 (6 : Int32) at_245 (by decide) rfl ?_
    refine r_icmpneT H 308 at_247 (by decide) (by decide) (by have := rr184; have : (6 : Int32).toInt = 6 := (by decide); simp only [Int32.lt_iff_toInt_lt, ← Int32.toInt_inj]; omega) ?_
    refine r_iconst H 309 (0 : Int32) at_308 (by decide) rfl ?_
    refine r_istore H 311 #[.val (.int x0), .val (.long x1), .second, .val (.long x2), .second, .val (.ref b1), .val (.int p36), .val (.int p38), .val (.int p41), .val (.int p48), .val (.ref b49), .val (.int (0 : Int32)), .unset] at_309 rfl rfl ?_
    refine r_iload H 313 at_311 rfl rfl ?_
    refine r_iconst H 314 (2 : Int32) at_313 (by decide) rfl ?_
    refine r_icmpneT H 339 at_314 (by decide) (by decide) (by have := rr184; have : (2 : Int32).toInt = 2 := (by decide); simp only [Int32.lt_iff_toInt_lt, ← Int32.toInt_inj]; omega) ?_
    refine r_iconst H 340 (0 : Int32) at_339 (by decide) rfl ?_
    refine r_istore H 342 #[.val (.int x0), .val (.long x1), .second, .val (.long x2), .second, .val (.ref b1), .val (.int p36), .val (.int p38), .val (.int p41), .val (.int p48), .val (.ref b49), .val (.int (0 : Int32)), .val (.int (0 : Int32))] at_340 rfl rfl ?_
    refine r_aload H 344 at_342 rfl rfl rfl ?_
    have z185 := Nat.le_trans z35 K52.1
    refine r_static H 347 at_344 (tw37 hw) (tw38 hw) (tw39 hw) (tw40 hw) (by decide) (lenOf pd_9 rfl) (rm_isHelp_34 hw ("" :: Ts) b49 b50 (cB8 p2) (cB8 p6) (cB8 p11) (cB8 p16) (cB8 p21) (cB8 p26) (cB8 p31) kc51 cs hh177 h0.size (nlt Zf Z0) z185 q63 q65 q66 q64 wS hcw hh0 S_cs hh1 (nin_cons (by decide) hT__2d__2d_help) (nin_cons (by decide) hT__2d_h) hcs) (argsL := [(.ref b49)]) (rest := []) rfl (W := 0) (nlq rfl) rfl (by decide) (by decide) (by decide) (by decide) nlr rfl ?_
    rintro _ hh187 ⟨rfl, K186⟩
    refine r_iload H 349 at_347 rfl rfl ?_
    refine r_ifneF H 352 at_349 rfl (by decide) ?_
    refine r_iload H 354 at_352 rfl rfl ?_
    refine r_ifeqT H 361 at_354 (by decide) (by decide) (by decide) ?_
    refine r_iconst H 362 (0 : Int32) at_361 (by decide) rfl ?_
    refine r_icmpneF H 365 at_362 rfl (by decide) ?_
    refine r_iconst H 366 (1 : Int32) at_365 (by decide) rfl ?_
    refine r_goto H 370 at_366 (by decide) (by decide) ?_
    exact r_nreturn (1 : Int32) H (by simp) at_370 (by decide) (by decide) (by decide) Z0 (fun _ t => t) rfl
   ·
    have rr188 : 1 ≤ p48.toInt ∧ p48.toInt ≤ 7 := by have := rp48; have : (0 : Int32).toInt = 0 := (by decide); have hc_ := c72; simp only [Int32.lt_iff_toInt_lt, ← Int32.toInt_inj] at hc_; omega
    have rr189 : 2 ≤ p48.toInt ∧ p48.toInt ≤ 7 := by have := rr188; have : (1 : Int32).toInt = 1 := (by decide); have hc_ := c73; simp only [Int32.lt_iff_toInt_lt, ← Int32.toInt_inj] at hc_; omega
    have rr190 : 3 ≤ p48.toInt ∧ p48.toInt ≤ 7 := by have := rr189; have : (2 : Int32).toInt = 2 := (by decide); have hc_ := c74; simp only [Int32.lt_iff_toInt_lt, ← Int32.toInt_inj] at hc_; omega
    have rr191 : 4 ≤ p48.toInt ∧ p48.toInt ≤ 7 := by have := rr190; have : (3 : Int32).toInt = 3 := (by decide); have hc_ := c75; simp only [Int32.lt_iff_toInt_lt, ← Int32.toInt_inj] at hc_; omega
    have rr192 : 5 ≤ p48.toInt ∧ p48.toInt ≤ 7 := by have := rr191; have : (4 : Int32).toInt = 4 := (by decide); have hc_ := c76; simp only [Int32.lt_iff_toInt_lt, ← Int32.toInt_inj] at hc_; omega
    have rr193 : 6 ≤ p48.toInt ∧ p48.toInt ≤ 7 := by have := rr192; have : (5 : Int32).toInt = 5 := (by decide); have hc_ := c77; simp only [Int32.lt_iff_toInt_lt, ← Int32.toInt_inj] at hc_; omega
    have rr194 : 6 ≤ p48.toInt ∧ p48.toInt ≤ 6 := by have := rr193; have : (6 : Int32).toInt = 6 := (by decide); have hc_ := c78; simp only [Int32.lt_iff_toInt_lt, ← Int32.toInt_inj] at hc_; omega
    refine r_astore H 243 #[.val (.int x0), .val (.long x1), .second, .val (.long x2), .second, .val (.ref b1), .val (.int p36), .val (.int p38), .val (.int p41), .val (.int p48), .val (.ref b68), .unset, .unset] at_241 rfl rfl rfl ?_
    refine r_iload H 245 at_243 rfl rfl ?_
    refine r_bipush H 247 (6 : Int32) at_245 (by decide) rfl ?_
    refine r_icmpneF H 250 at_247 rfl (by have := rr194; have : (6 : Int32).toInt = 6 := (by decide); simp only [Int32.lt_iff_toInt_lt, ← Int32.toInt_inj]; omega) ?_
    refine r_aload H 252 at_250 rfl rfl rfl ?_
    refine r_iconst H 253 (0 : Int32) at_252 (by decide) rfl ?_
    have q195 := (A33.keep K71 nin0)
    refine r_caload H 254 p2 at_253 q195 (by decide) rfl rfl ?_
    refine r_bipush H 256 (45 : Int32) at_254 (by decide) rfl ?_
    refine Run.join (P := fun z => (if p2 = (45 : Int32) then (if p6 = (45 : Int32) then (if p11 = (104 : Int32) then (if p16 = (101 : Int32) then (if p21 = (108 : Int32) then (if p26 = (112 : Int32) then (1 : Int32) else (0 : Int32)) else (0 : Int32)) else (0 : Int32)) else (0 : Int32)) else (0 : Int32)) else (0 : Int32)) = z ∧ (0 ≤ z.toInt ∧ z.toInt ≤ 1)) (pcB := 309) (LB := fun z => #[.val (.int x0), .val (.long x1), .second, .val (.long x2), .second, .val (.ref b1), .val (.int p36), .val (.int p38), .val (.int p41), .val (.int p48), .val (.ref b68), .unset, .unset]) (SB := fun z => [(.int z)]) (fun key => ?_) ?_
    ·
     refine r_icmpne H 308 259 at_256 (by decide) (by decide) rfl (fun c196 => ?_) (fun c196 => ?_)
     ·
      refine r_iconst H 309 (0 : Int32) at_308 (by decide) rfl ?_
      exact key (0 : Int32) ⟨(by rw [if_neg c196]), (by have : (0 : Int32).toInt = 0 := (by decide); omega)⟩
     ·
      have rr197 : 45 ≤ p2.toInt ∧ p2.toInt ≤ 45 := by have := rp2; have : (45 : Int32).toInt = 45 := (by decide); have hc_ := c196; simp only [Int32.lt_iff_toInt_lt, ← Int32.toInt_inj] at hc_; omega
      refine r_aload H 261 at_259 rfl rfl rfl ?_
      refine r_iconst H 262 (1 : Int32) at_261 (by decide) rfl ?_
      refine r_caload H 263 p6 at_262 q195 (by decide) rfl rfl ?_
      refine r_bipush H 265 (45 : Int32) at_263 (by decide) rfl ?_
      refine Run.join (P := fun z => (if p6 = (45 : Int32) then (if p11 = (104 : Int32) then (if p16 = (101 : Int32) then (if p21 = (108 : Int32) then (if p26 = (112 : Int32) then (1 : Int32) else (0 : Int32)) else (0 : Int32)) else (0 : Int32)) else (0 : Int32)) else (0 : Int32)) = z ∧ (0 ≤ z.toInt ∧ z.toInt ≤ 1)) (pcB := 309) (LB := fun z => #[.val (.int x0), .val (.long x1), .second, .val (.long x2), .second, .val (.ref b1), .val (.int p36), .val (.int p38), .val (.int p41), .val (.int p48), .val (.ref b68), .unset, .unset]) (SB := fun z => [(.int z)]) (fun key => ?_) ?_
      ·
       refine r_icmpne H 308 268 at_265 (by decide) (by decide) rfl (fun c198 => ?_) (fun c198 => ?_)
       ·
        refine r_iconst H 309 (0 : Int32) at_308 (by decide) rfl ?_
        exact key (0 : Int32) ⟨(by rw [if_neg c198]), (by have : (0 : Int32).toInt = 0 := (by decide); omega)⟩
       ·
        have rr199 : 45 ≤ p6.toInt ∧ p6.toInt ≤ 45 := by have := rp6; have : (45 : Int32).toInt = 45 := (by decide); have hc_ := c198; simp only [Int32.lt_iff_toInt_lt, ← Int32.toInt_inj] at hc_; omega
        refine r_aload H 270 at_268 rfl rfl rfl ?_
        refine r_iconst H 271 (2 : Int32) at_270 (by decide) rfl ?_
        refine r_caload H 272 p11 at_271 q195 (by decide) rfl rfl ?_
        refine r_bipush H 274 (104 : Int32) at_272 (by decide) rfl ?_
        refine Run.join (P := fun z => (if p11 = (104 : Int32) then (if p16 = (101 : Int32) then (if p21 = (108 : Int32) then (if p26 = (112 : Int32) then (1 : Int32) else (0 : Int32)) else (0 : Int32)) else (0 : Int32)) else (0 : Int32)) = z ∧ (0 ≤ z.toInt ∧ z.toInt ≤ 1)) (pcB := 309) (LB := fun z => #[.val (.int x0), .val (.long x1), .second, .val (.long x2), .second, .val (.ref b1), .val (.int p36), .val (.int p38), .val (.int p41), .val (.int p48), .val (.ref b68), .unset, .unset]) (SB := fun z => [(.int z)]) (fun key => ?_) ?_
        ·
         refine r_icmpne H 308 277 at_274 (by decide) (by decide) rfl (fun c200 => ?_) (fun c200 => ?_)
         ·
          refine r_iconst H 309 (0 : Int32) at_308 (by decide) rfl ?_
          exact key (0 : Int32) ⟨(by rw [if_neg c200]), (by have : (0 : Int32).toInt = 0 := (by decide); omega)⟩
         ·
          have rr201 : 104 ≤ p11.toInt ∧ p11.toInt ≤ 104 := by have := rp11; have : (104 : Int32).toInt = 104 := (by decide); have hc_ := c200; simp only [Int32.lt_iff_toInt_lt, ← Int32.toInt_inj] at hc_; omega
          refine r_aload H 279 at_277 rfl rfl rfl ?_
          refine r_iconst H 280 (3 : Int32) at_279 (by decide) rfl ?_
          refine r_caload H 281 p16 at_280 q195 (by decide) rfl rfl ?_
          refine r_bipush H 283 (101 : Int32) at_281 (by decide) rfl ?_
          refine Run.join (P := fun z => (if p16 = (101 : Int32) then (if p21 = (108 : Int32) then (if p26 = (112 : Int32) then (1 : Int32) else (0 : Int32)) else (0 : Int32)) else (0 : Int32)) = z ∧ (0 ≤ z.toInt ∧ z.toInt ≤ 1)) (pcB := 309) (LB := fun z => #[.val (.int x0), .val (.long x1), .second, .val (.long x2), .second, .val (.ref b1), .val (.int p36), .val (.int p38), .val (.int p41), .val (.int p48), .val (.ref b68), .unset, .unset]) (SB := fun z => [(.int z)]) (fun key => ?_) ?_
          ·
           refine r_icmpne H 308 286 at_283 (by decide) (by decide) rfl (fun c202 => ?_) (fun c202 => ?_)
           ·
            refine r_iconst H 309 (0 : Int32) at_308 (by decide) rfl ?_
            exact key (0 : Int32) ⟨(by rw [if_neg c202]), (by have : (0 : Int32).toInt = 0 := (by decide); omega)⟩
           ·
            have rr203 : 101 ≤ p16.toInt ∧ p16.toInt ≤ 101 := by have := rp16; have : (101 : Int32).toInt = 101 := (by decide); have hc_ := c202; simp only [Int32.lt_iff_toInt_lt, ← Int32.toInt_inj] at hc_; omega
            refine r_aload H 288 at_286 rfl rfl rfl ?_
            refine r_iconst H 289 (4 : Int32) at_288 (by decide) rfl ?_
            refine r_caload H 290 p21 at_289 q195 (by decide) rfl rfl ?_
            refine r_bipush H 292 (108 : Int32) at_290 (by decide) rfl ?_
            refine Run.join (P := fun z => (if p21 = (108 : Int32) then (if p26 = (112 : Int32) then (1 : Int32) else (0 : Int32)) else (0 : Int32)) = z ∧ (0 ≤ z.toInt ∧ z.toInt ≤ 1)) (pcB := 309) (LB := fun z => #[.val (.int x0), .val (.long x1), .second, .val (.long x2), .second, .val (.ref b1), .val (.int p36), .val (.int p38), .val (.int p41), .val (.int p48), .val (.ref b68), .unset, .unset]) (SB := fun z => [(.int z)]) (fun key => ?_) ?_
            ·
             refine r_icmpne H 308 295 at_292 (by decide) (by decide) rfl (fun c204 => ?_) (fun c204 => ?_)
             ·
              refine r_iconst H 309 (0 : Int32) at_308 (by decide) rfl ?_
              exact key (0 : Int32) ⟨(by rw [if_neg c204]), (by have : (0 : Int32).toInt = 0 := (by decide); omega)⟩
             ·
              have rr205 : 108 ≤ p21.toInt ∧ p21.toInt ≤ 108 := by have := rp21; have : (108 : Int32).toInt = 108 := (by decide); have hc_ := c204; simp only [Int32.lt_iff_toInt_lt, ← Int32.toInt_inj] at hc_; omega
              refine r_aload H 297 at_295 rfl rfl rfl ?_
              refine r_iconst H 298 (5 : Int32) at_297 (by decide) rfl ?_
              refine r_caload H 299 p26 at_298 q195 (by decide) rfl rfl ?_
              refine r_bipush H 301 (112 : Int32) at_299 (by decide) rfl ?_
              refine Run.join (P := fun z => (if p26 = (112 : Int32) then (1 : Int32) else (0 : Int32)) = z ∧ (0 ≤ z.toInt ∧ z.toInt ≤ 1)) (pcB := 309) (LB := fun z => #[.val (.int x0), .val (.long x1), .second, .val (.long x2), .second, .val (.ref b1), .val (.int p36), .val (.int p38), .val (.int p41), .val (.int p48), .val (.ref b68), .unset, .unset]) (SB := fun z => [(.int z)]) (fun key => ?_) ?_
              ·
               refine r_icmpne H 308 304 at_301 (by decide) (by decide) rfl (fun c206 => ?_) (fun c206 => ?_)
               ·
                refine r_iconst H 309 (0 : Int32) at_308 (by decide) rfl ?_
                exact key (0 : Int32) ⟨(by rw [if_neg c206]), (by have : (0 : Int32).toInt = 0 := (by decide); omega)⟩
               ·
                have rr207 : 112 ≤ p26.toInt ∧ p26.toInt ≤ 112 := by have := rp26; have : (112 : Int32).toInt = 112 := (by decide); have hc_ := c206; simp only [Int32.lt_iff_toInt_lt, ← Int32.toInt_inj] at hc_; omega
                refine r_iconst H 305 (1 : Int32) at_304 (by decide) rfl ?_
                refine r_goto H 309 at_305 (by decide) (by decide) ?_
                exact key (1 : Int32) ⟨(by rw [if_pos c206]), (by have : (1 : Int32).toInt = 1 := (by decide); omega)⟩
              rintro p208 ⟨ep208, rp208⟩
              exact key p208 ⟨(by subst ep208; rw [if_pos c204]), (by have := rp208; omega)⟩
            rintro p209 ⟨ep209, rp209⟩
            exact key p209 ⟨(by subst ep209; rw [if_pos c202]), (by have := rp209; omega)⟩
          rintro p210 ⟨ep210, rp210⟩
          exact key p210 ⟨(by subst ep210; rw [if_pos c200]), (by have := rp210; omega)⟩
        rintro p211 ⟨ep211, rp211⟩
        exact key p211 ⟨(by subst ep211; rw [if_pos c198]), (by have := rp211; omega)⟩
      rintro p212 ⟨ep212, rp212⟩
      exact key p212 ⟨(by subst ep212; rw [if_pos c196]), (by have := rp212; omega)⟩
    rintro p213 ⟨ep213, rp213⟩
    refine r_istore H 311 #[.val (.int x0), .val (.long x1), .second, .val (.long x2), .second, .val (.ref b1), .val (.int p36), .val (.int p38), .val (.int p41), .val (.int p48), .val (.ref b68), .val (.int p213), .unset] at_309 rfl rfl ?_
    refine r_iload H 313 at_311 rfl rfl ?_
    refine r_iconst H 314 (2 : Int32) at_313 (by decide) rfl ?_
    refine r_icmpneT H 339 at_314 (by decide) (by decide) (by have := rr194; have : (2 : Int32).toInt = 2 := (by decide); simp only [Int32.lt_iff_toInt_lt, ← Int32.toInt_inj]; omega) ?_
    refine r_iconst H 340 (0 : Int32) at_339 (by decide) rfl ?_
    refine r_istore H 342 #[.val (.int x0), .val (.long x1), .second, .val (.long x2), .second, .val (.ref b1), .val (.int p36), .val (.int p38), .val (.int p41), .val (.int p48), .val (.ref b68), .val (.int p213), .val (.int (0 : Int32))] at_340 rfl rfl ?_
    refine r_aload H 344 at_342 rfl rfl rfl ?_
    have z214 := Nat.le_trans z35 K71.1
    refine r_static H 347 at_344 (tw37 hw) (tw38 hw) (tw39 hw) (tw40 hw) (by decide) (lenOf pd_9 rfl) (rm_isHelp_39 hw ("" :: Ts) b68 b69 (cB8 p2) (cB8 p6) (cB8 p11) (cB8 p16) (cB8 p21) (cB8 p26) kc70 cs hh177 h0.size (nlt Zf Z0) z214 q82 q84 q85 q83 wS hcw hh0 S_cs hh1 (nin_cons (by decide) hT__2d__2d_help) (nin_cons (by decide) hT__2d_h) hcs) (argsL := [(.ref b68)]) (rest := []) rfl (W := 0) (nlq rfl) rfl (by decide) (by decide) (by decide) (by decide) nlr rfl ?_
    rintro _ hh219 (⟨rfl, c216, K215⟩ | ⟨rfl, c218, K217⟩)
    ·
     refine r_iload H 349 at_347 rfl rfl ?_
     refine Run.join (P := fun z => (if p213 = (0 : Int32) then (0 : Int32) else (1 : Int32)) = z ∧ (0 ≤ z.toInt ∧ z.toInt ≤ 1)) (pcB := 362) (LB := fun z => #[.val (.int x0), .val (.long x1), .second, .val (.long x2), .second, .val (.ref b1), .val (.int p36), .val (.int p38), .val (.int p41), .val (.int p48), .val (.ref b68), .val (.int p213), .val (.int (0 : Int32))]) (SB := fun z => [(.int z), (.int (1 : Int32))]) (fun key => ?_) ?_
     ·
      refine r_ifne H 357 352 at_349 (by decide) (by decide) rfl (fun c220 => ?_) (fun c220 => ?_)
      ·
       have rr221 : 1 ≤ p213.toInt ∧ p213.toInt ≤ 1 := by have := rp213; have : (0 : Int32).toInt = 0 := (by decide); have hc_ := c220; simp only [Int32.lt_iff_toInt_lt, ← Int32.toInt_inj] at hc_; omega
       refine r_iconst H 358 (1 : Int32) at_357 (by decide) rfl ?_
       refine r_goto H 362 at_358 (by decide) (by decide) ?_
       exact key (1 : Int32) ⟨(by rw [if_neg c220]), (by have : (1 : Int32).toInt = 1 := (by decide); omega)⟩
      ·
       have rr222 : 0 ≤ p213.toInt ∧ p213.toInt ≤ 0 := by have := rp213; have : (0 : Int32).toInt = 0 := (by decide); have hc_ := c220; simp only [Int32.lt_iff_toInt_lt, ← Int32.toInt_inj] at hc_; omega
       refine r_iload H 354 at_352 rfl rfl ?_
       refine r_ifeqT H 361 at_354 (by decide) (by decide) (by decide) ?_
       refine r_iconst H 362 (0 : Int32) at_361 (by decide) rfl ?_
       exact key (0 : Int32) ⟨(by rw [if_pos c220]), (by have : (0 : Int32).toInt = 0 := (by decide); omega)⟩
     rintro p223 ⟨ep223, rp223⟩
     refine Run.join (P := fun z => (if (1 : Int32) = p223 then (1 : Int32) else (0 : Int32)) = z ∧ (0 ≤ z.toInt ∧ z.toInt ≤ 1)) (pcB := 370) (LB := fun z => #[.val (.int x0), .val (.long x1), .second, .val (.long x2), .second, .val (.ref b1), .val (.int p36), .val (.int p38), .val (.int p41), .val (.int p48), .val (.ref b68), .val (.int p213), .val (.int (0 : Int32))]) (SB := fun z => [(.int z)]) (fun key => ?_) ?_
     ·
      refine r_icmpne H 369 365 at_362 (by decide) (by decide) rfl (fun c224 => ?_) (fun c224 => ?_)
      ·
       have rr225 : 0 ≤ p223.toInt ∧ p223.toInt ≤ 0 := by have := rp223; have : (1 : Int32).toInt = 1 := (by decide); have hc_ := c224; simp only [Int32.lt_iff_toInt_lt, ← Int32.toInt_inj] at hc_; omega
       refine r_iconst H 370 (0 : Int32) at_369 (by decide) rfl ?_
       exact key (0 : Int32) ⟨(by rw [if_neg c224]), (by have : (0 : Int32).toInt = 0 := (by decide); omega)⟩
      ·
       have rr226 : 1 ≤ p223.toInt ∧ p223.toInt ≤ 1 := by have := rp223; have : (1 : Int32).toInt = 1 := (by decide); have hc_ := c224; simp only [Int32.lt_iff_toInt_lt, ← Int32.toInt_inj] at hc_; omega
       refine r_iconst H 366 (1 : Int32) at_365 (by decide) rfl ?_
       refine r_goto H 370 at_366 (by decide) (by decide) ?_
       exact key (1 : Int32) ⟨(by rw [if_pos c224]), (by have : (1 : Int32).toInt = 1 := (by decide); omega)⟩
     rintro p227 ⟨ep227, rp227⟩
     have hone : p227 = 1 := by rw [← ep227, ← ep223, ← ep213]; exact lf_1 p11 p16 p2 p21 p26 p6 rp11 rp16 rp2 rp21 rp26 rp6 c216
     exact r_nreturn (1 : Int32) H (by simp) at_370 (by rw [hone]; decide) (by decide) (by decide) Z0 (fun _ t => t) rfl
    ·
     refine r_iload H 349 at_347 rfl rfl ?_
     refine Run.join (P := fun z => (if p213 = (0 : Int32) then (0 : Int32) else (1 : Int32)) = z ∧ (0 ≤ z.toInt ∧ z.toInt ≤ 1)) (pcB := 362) (LB := fun z => #[.val (.int x0), .val (.long x1), .second, .val (.long x2), .second, .val (.ref b1), .val (.int p36), .val (.int p38), .val (.int p41), .val (.int p48), .val (.ref b68), .val (.int p213), .val (.int (0 : Int32))]) (SB := fun z => [(.int z), (.int (0 : Int32))]) (fun key => ?_) ?_
     ·
      refine r_ifne H 357 352 at_349 (by decide) (by decide) rfl (fun c228 => ?_) (fun c228 => ?_)
      ·
       have rr229 : 1 ≤ p213.toInt ∧ p213.toInt ≤ 1 := by have := rp213; have : (0 : Int32).toInt = 0 := (by decide); have hc_ := c228; simp only [Int32.lt_iff_toInt_lt, ← Int32.toInt_inj] at hc_; omega
       refine r_iconst H 358 (1 : Int32) at_357 (by decide) rfl ?_
       refine r_goto H 362 at_358 (by decide) (by decide) ?_
       exact key (1 : Int32) ⟨(by rw [if_neg c228]), (by have : (1 : Int32).toInt = 1 := (by decide); omega)⟩
      ·
       have rr230 : 0 ≤ p213.toInt ∧ p213.toInt ≤ 0 := by have := rp213; have : (0 : Int32).toInt = 0 := (by decide); have hc_ := c228; simp only [Int32.lt_iff_toInt_lt, ← Int32.toInt_inj] at hc_; omega
       refine r_iload H 354 at_352 rfl rfl ?_
       refine r_ifeqT H 361 at_354 (by decide) (by decide) (by decide) ?_
       refine r_iconst H 362 (0 : Int32) at_361 (by decide) rfl ?_
       exact key (0 : Int32) ⟨(by rw [if_pos c228]), (by have : (0 : Int32).toInt = 0 := (by decide); omega)⟩
     rintro p231 ⟨ep231, rp231⟩
     refine Run.join (P := fun z => (if (0 : Int32) = p231 then (1 : Int32) else (0 : Int32)) = z ∧ (0 ≤ z.toInt ∧ z.toInt ≤ 1)) (pcB := 370) (LB := fun z => #[.val (.int x0), .val (.long x1), .second, .val (.long x2), .second, .val (.ref b1), .val (.int p36), .val (.int p38), .val (.int p41), .val (.int p48), .val (.ref b68), .val (.int p213), .val (.int (0 : Int32))]) (SB := fun z => [(.int z)]) (fun key => ?_) ?_
     ·
      refine r_icmpne H 369 365 at_362 (by decide) (by decide) rfl (fun c232 => ?_) (fun c232 => ?_)
      ·
       have rr233 : 1 ≤ p231.toInt ∧ p231.toInt ≤ 1 := by have := rp231; have : (0 : Int32).toInt = 0 := (by decide); have hc_ := c232; simp only [Int32.lt_iff_toInt_lt, ← Int32.toInt_inj] at hc_; omega
       refine r_iconst H 370 (0 : Int32) at_369 (by decide) rfl ?_
       exact key (0 : Int32) ⟨(by rw [if_neg c232]), (by have : (0 : Int32).toInt = 0 := (by decide); omega)⟩
      ·
       have rr234 : 0 ≤ p231.toInt ∧ p231.toInt ≤ 0 := by have := rp231; have : (0 : Int32).toInt = 0 := (by decide); have hc_ := c232; simp only [Int32.lt_iff_toInt_lt, ← Int32.toInt_inj] at hc_; omega
       refine r_iconst H 366 (1 : Int32) at_365 (by decide) rfl ?_
       refine r_goto H 370 at_366 (by decide) (by decide) ?_
       exact key (1 : Int32) ⟨(by rw [if_pos c232]), (by have : (1 : Int32).toInt = 1 := (by decide); omega)⟩
     rintro p235 ⟨ep235, rp235⟩
     have hone : p235 = 1 := by rw [← ep235, ← ep231, ← ep213]; exact lf_2 p11 p16 p2 p21 p26 p6 rp11 rp16 rp2 rp21 rp26 rp6 c218
     exact r_nreturn (1 : Int32) H (by simp) at_370 (by rw [hone]; decide) (by decide) (by decide) Z0 (fun _ t => t) rfl
   ·
    have rr236 : 1 ≤ p48.toInt ∧ p48.toInt ≤ 7 := by have := rp48; have : (0 : Int32).toInt = 0 := (by decide); have hc_ := c91; simp only [Int32.lt_iff_toInt_lt, ← Int32.toInt_inj] at hc_; omega
    have rr237 : 2 ≤ p48.toInt ∧ p48.toInt ≤ 7 := by have := rr236; have : (1 : Int32).toInt = 1 := (by decide); have hc_ := c92; simp only [Int32.lt_iff_toInt_lt, ← Int32.toInt_inj] at hc_; omega
    have rr238 : 3 ≤ p48.toInt ∧ p48.toInt ≤ 7 := by have := rr237; have : (2 : Int32).toInt = 2 := (by decide); have hc_ := c93; simp only [Int32.lt_iff_toInt_lt, ← Int32.toInt_inj] at hc_; omega
    have rr239 : 4 ≤ p48.toInt ∧ p48.toInt ≤ 7 := by have := rr238; have : (3 : Int32).toInt = 3 := (by decide); have hc_ := c94; simp only [Int32.lt_iff_toInt_lt, ← Int32.toInt_inj] at hc_; omega
    have rr240 : 5 ≤ p48.toInt ∧ p48.toInt ≤ 7 := by have := rr239; have : (4 : Int32).toInt = 4 := (by decide); have hc_ := c95; simp only [Int32.lt_iff_toInt_lt, ← Int32.toInt_inj] at hc_; omega
    have rr241 : 5 ≤ p48.toInt ∧ p48.toInt ≤ 5 := by have := rr240; have : (5 : Int32).toInt = 5 := (by decide); have hc_ := c96; simp only [Int32.lt_iff_toInt_lt, ← Int32.toInt_inj] at hc_; omega
    refine r_astore H 243 #[.val (.int x0), .val (.long x1), .second, .val (.long x2), .second, .val (.ref b1), .val (.int p36), .val (.int p38), .val (.int p41), .val (.int p48), .val (.ref b87), .unset, .unset] at_241 rfl rfl rfl ?_
    refine r_iload H 245 at_243 rfl rfl ?_
    refine r_bipush H 247 (6 : Int32) at_245 (by decide) rfl ?_
    refine r_icmpneT H 308 at_247 (by decide) (by decide) (by have := rr241; have : (6 : Int32).toInt = 6 := (by decide); simp only [Int32.lt_iff_toInt_lt, ← Int32.toInt_inj]; omega) ?_
    refine r_iconst H 309 (0 : Int32) at_308 (by decide) rfl ?_
    refine r_istore H 311 #[.val (.int x0), .val (.long x1), .second, .val (.long x2), .second, .val (.ref b1), .val (.int p36), .val (.int p38), .val (.int p41), .val (.int p48), .val (.ref b87), .val (.int (0 : Int32)), .unset] at_309 rfl rfl ?_
    refine r_iload H 313 at_311 rfl rfl ?_
    refine r_iconst H 314 (2 : Int32) at_313 (by decide) rfl ?_
    refine r_icmpneT H 339 at_314 (by decide) (by decide) (by have := rr241; have : (2 : Int32).toInt = 2 := (by decide); simp only [Int32.lt_iff_toInt_lt, ← Int32.toInt_inj]; omega) ?_
    refine r_iconst H 340 (0 : Int32) at_339 (by decide) rfl ?_
    refine r_istore H 342 #[.val (.int x0), .val (.long x1), .second, .val (.long x2), .second, .val (.ref b1), .val (.int p36), .val (.int p38), .val (.int p41), .val (.int p48), .val (.ref b87), .val (.int (0 : Int32)), .val (.int (0 : Int32))] at_340 rfl rfl ?_
    refine r_aload H 344 at_342 rfl rfl rfl ?_
    have z242 := Nat.le_trans z35 K90.1
    refine r_static H 347 at_344 (tw37 hw) (tw38 hw) (tw39 hw) (tw40 hw) (by decide) (lenOf pd_9 rfl) (rm_isHelp_62 hw ("" :: Ts) b87 b88 (cB8 p2) (cB8 p6) (cB8 p11) (cB8 p16) (cB8 p21) kc89 cs hh177 h0.size (nlt Zf Z0) z242 q100 q102 q103 q101 wS hcw hh0 S_cs hh1 (nin_cons (by decide) hT__2d__2d_help) (nin_cons (by decide) hT__2d_h) hcs) (argsL := [(.ref b87)]) (rest := []) rfl (W := 0) (nlq rfl) rfl (by decide) (by decide) (by decide) (by decide) nlr rfl ?_
    rintro _ hh244 ⟨rfl, K243⟩
    refine r_iload H 349 at_347 rfl rfl ?_
    refine r_ifneF H 352 at_349 rfl (by decide) ?_
    refine r_iload H 354 at_352 rfl rfl ?_
    refine r_ifeqT H 361 at_354 (by decide) (by decide) (by decide) ?_
    refine r_iconst H 362 (0 : Int32) at_361 (by decide) rfl ?_
    refine r_icmpneF H 365 at_362 rfl (by decide) ?_
    refine r_iconst H 366 (1 : Int32) at_365 (by decide) rfl ?_
    refine r_goto H 370 at_366 (by decide) (by decide) ?_
    exact r_nreturn (1 : Int32) H (by simp) at_370 (by decide) (by decide) (by decide) Z0 (fun _ t => t) rfl
   ·
    have rr245 : 1 ≤ p48.toInt ∧ p48.toInt ≤ 7 := by have := rp48; have : (0 : Int32).toInt = 0 := (by decide); have hc_ := c109; simp only [Int32.lt_iff_toInt_lt, ← Int32.toInt_inj] at hc_; omega
    have rr246 : 2 ≤ p48.toInt ∧ p48.toInt ≤ 7 := by have := rr245; have : (1 : Int32).toInt = 1 := (by decide); have hc_ := c110; simp only [Int32.lt_iff_toInt_lt, ← Int32.toInt_inj] at hc_; omega
    have rr247 : 3 ≤ p48.toInt ∧ p48.toInt ≤ 7 := by have := rr246; have : (2 : Int32).toInt = 2 := (by decide); have hc_ := c111; simp only [Int32.lt_iff_toInt_lt, ← Int32.toInt_inj] at hc_; omega
    have rr248 : 4 ≤ p48.toInt ∧ p48.toInt ≤ 7 := by have := rr247; have : (3 : Int32).toInt = 3 := (by decide); have hc_ := c112; simp only [Int32.lt_iff_toInt_lt, ← Int32.toInt_inj] at hc_; omega
    have rr249 : 4 ≤ p48.toInt ∧ p48.toInt ≤ 4 := by have := rr248; have : (4 : Int32).toInt = 4 := (by decide); have hc_ := c113; simp only [Int32.lt_iff_toInt_lt, ← Int32.toInt_inj] at hc_; omega
    refine r_astore H 243 #[.val (.int x0), .val (.long x1), .second, .val (.long x2), .second, .val (.ref b1), .val (.int p36), .val (.int p38), .val (.int p41), .val (.int p48), .val (.ref b105), .unset, .unset] at_241 rfl rfl rfl ?_
    refine r_iload H 245 at_243 rfl rfl ?_
    refine r_bipush H 247 (6 : Int32) at_245 (by decide) rfl ?_
    refine r_icmpneT H 308 at_247 (by decide) (by decide) (by have := rr249; have : (6 : Int32).toInt = 6 := (by decide); simp only [Int32.lt_iff_toInt_lt, ← Int32.toInt_inj]; omega) ?_
    refine r_iconst H 309 (0 : Int32) at_308 (by decide) rfl ?_
    refine r_istore H 311 #[.val (.int x0), .val (.long x1), .second, .val (.long x2), .second, .val (.ref b1), .val (.int p36), .val (.int p38), .val (.int p41), .val (.int p48), .val (.ref b105), .val (.int (0 : Int32)), .unset] at_309 rfl rfl ?_
    refine r_iload H 313 at_311 rfl rfl ?_
    refine r_iconst H 314 (2 : Int32) at_313 (by decide) rfl ?_
    refine r_icmpneT H 339 at_314 (by decide) (by decide) (by have := rr249; have : (2 : Int32).toInt = 2 := (by decide); simp only [Int32.lt_iff_toInt_lt, ← Int32.toInt_inj]; omega) ?_
    refine r_iconst H 340 (0 : Int32) at_339 (by decide) rfl ?_
    refine r_istore H 342 #[.val (.int x0), .val (.long x1), .second, .val (.long x2), .second, .val (.ref b1), .val (.int p36), .val (.int p38), .val (.int p41), .val (.int p48), .val (.ref b105), .val (.int (0 : Int32)), .val (.int (0 : Int32))] at_340 rfl rfl ?_
    refine r_aload H 344 at_342 rfl rfl rfl ?_
    have z250 := Nat.le_trans z35 K108.1
    refine r_static H 347 at_344 (tw37 hw) (tw38 hw) (tw39 hw) (tw40 hw) (by decide) (lenOf pd_9 rfl) (rm_isHelp_67 hw ("" :: Ts) b105 b106 (cB8 p2) (cB8 p6) (cB8 p11) (cB8 p16) kc107 cs hh177 h0.size (nlt Zf Z0) z250 q117 q119 q120 q118 wS hcw hh0 S_cs hh1 (nin_cons (by decide) hT__2d__2d_help) (nin_cons (by decide) hT__2d_h) hcs) (argsL := [(.ref b105)]) (rest := []) rfl (W := 0) (nlq rfl) rfl (by decide) (by decide) (by decide) (by decide) nlr rfl ?_
    rintro _ hh252 ⟨rfl, K251⟩
    refine r_iload H 349 at_347 rfl rfl ?_
    refine r_ifneF H 352 at_349 rfl (by decide) ?_
    refine r_iload H 354 at_352 rfl rfl ?_
    refine r_ifeqT H 361 at_354 (by decide) (by decide) (by decide) ?_
    refine r_iconst H 362 (0 : Int32) at_361 (by decide) rfl ?_
    refine r_icmpneF H 365 at_362 rfl (by decide) ?_
    refine r_iconst H 366 (1 : Int32) at_365 (by decide) rfl ?_
    refine r_goto H 370 at_366 (by decide) (by decide) ?_
    exact r_nreturn (1 : Int32) H (by simp) at_370 (by decide) (by decide) (by decide) Z0 (fun _ t => t) rfl
   ·
    have rr253 : 1 ≤ p48.toInt ∧ p48.toInt ≤ 7 := by have := rp48; have : (0 : Int32).toInt = 0 := (by decide); have hc_ := c126; simp only [Int32.lt_iff_toInt_lt, ← Int32.toInt_inj] at hc_; omega
    have rr254 : 2 ≤ p48.toInt ∧ p48.toInt ≤ 7 := by have := rr253; have : (1 : Int32).toInt = 1 := (by decide); have hc_ := c127; simp only [Int32.lt_iff_toInt_lt, ← Int32.toInt_inj] at hc_; omega
    have rr255 : 3 ≤ p48.toInt ∧ p48.toInt ≤ 7 := by have := rr254; have : (2 : Int32).toInt = 2 := (by decide); have hc_ := c128; simp only [Int32.lt_iff_toInt_lt, ← Int32.toInt_inj] at hc_; omega
    have rr256 : 3 ≤ p48.toInt ∧ p48.toInt ≤ 3 := by have := rr255; have : (3 : Int32).toInt = 3 := (by decide); have hc_ := c129; simp only [Int32.lt_iff_toInt_lt, ← Int32.toInt_inj] at hc_; omega
    refine r_astore H 243 #[.val (.int x0), .val (.long x1), .second, .val (.long x2), .second, .val (.ref b1), .val (.int p36), .val (.int p38), .val (.int p41), .val (.int p48), .val (.ref b122), .unset, .unset] at_241 rfl rfl rfl ?_
    refine r_iload H 245 at_243 rfl rfl ?_
    refine r_bipush H 247 (6 : Int32) at_245 (by decide) rfl ?_
    refine r_icmpneT H 308 at_247 (by decide) (by decide) (by have := rr256; have : (6 : Int32).toInt = 6 := (by decide); simp only [Int32.lt_iff_toInt_lt, ← Int32.toInt_inj]; omega) ?_
    refine r_iconst H 309 (0 : Int32) at_308 (by decide) rfl ?_
    refine r_istore H 311 #[.val (.int x0), .val (.long x1), .second, .val (.long x2), .second, .val (.ref b1), .val (.int p36), .val (.int p38), .val (.int p41), .val (.int p48), .val (.ref b122), .val (.int (0 : Int32)), .unset] at_309 rfl rfl ?_
    refine r_iload H 313 at_311 rfl rfl ?_
    refine r_iconst H 314 (2 : Int32) at_313 (by decide) rfl ?_
    refine r_icmpneT H 339 at_314 (by decide) (by decide) (by have := rr256; have : (2 : Int32).toInt = 2 := (by decide); simp only [Int32.lt_iff_toInt_lt, ← Int32.toInt_inj]; omega) ?_
    refine r_iconst H 340 (0 : Int32) at_339 (by decide) rfl ?_
    refine r_istore H 342 #[.val (.int x0), .val (.long x1), .second, .val (.long x2), .second, .val (.ref b1), .val (.int p36), .val (.int p38), .val (.int p41), .val (.int p48), .val (.ref b122), .val (.int (0 : Int32)), .val (.int (0 : Int32))] at_340 rfl rfl ?_
    refine r_aload H 344 at_342 rfl rfl rfl ?_
    have z257 := Nat.le_trans z35 K125.1
    refine r_static H 347 at_344 (tw37 hw) (tw38 hw) (tw39 hw) (tw40 hw) (by decide) (lenOf pd_9 rfl) (rm_isHelp_13 hw ("" :: Ts) b122 b123 (cB8 p2) (cB8 p6) (cB8 p11) kc124 cs hh177 h0.size (nlt Zf Z0) z257 q133 q135 q136 q134 wS hcw hh0 S_cs hh1 (nin_cons (by decide) hT__2d__2d_help) (nin_cons (by decide) hT__2d_h) hcs) (argsL := [(.ref b122)]) (rest := []) rfl (W := 0) (nlq rfl) rfl (by decide) (by decide) (by decide) (by decide) nlr rfl ?_
    rintro _ hh259 ⟨rfl, K258⟩
    refine r_iload H 349 at_347 rfl rfl ?_
    refine r_ifneF H 352 at_349 rfl (by decide) ?_
    refine r_iload H 354 at_352 rfl rfl ?_
    refine r_ifeqT H 361 at_354 (by decide) (by decide) (by decide) ?_
    refine r_iconst H 362 (0 : Int32) at_361 (by decide) rfl ?_
    refine r_icmpneF H 365 at_362 rfl (by decide) ?_
    refine r_iconst H 366 (1 : Int32) at_365 (by decide) rfl ?_
    refine r_goto H 370 at_366 (by decide) (by decide) ?_
    exact r_nreturn (1 : Int32) H (by simp) at_370 (by decide) (by decide) (by decide) Z0 (fun _ t => t) rfl
   ·
    have rr260 : 1 ≤ p48.toInt ∧ p48.toInt ≤ 7 := by have := rp48; have : (0 : Int32).toInt = 0 := (by decide); have hc_ := c142; simp only [Int32.lt_iff_toInt_lt, ← Int32.toInt_inj] at hc_; omega
    have rr261 : 2 ≤ p48.toInt ∧ p48.toInt ≤ 7 := by have := rr260; have : (1 : Int32).toInt = 1 := (by decide); have hc_ := c143; simp only [Int32.lt_iff_toInt_lt, ← Int32.toInt_inj] at hc_; omega
    have rr262 : 2 ≤ p48.toInt ∧ p48.toInt ≤ 2 := by have := rr261; have : (2 : Int32).toInt = 2 := (by decide); have hc_ := c144; simp only [Int32.lt_iff_toInt_lt, ← Int32.toInt_inj] at hc_; omega
    refine r_astore H 243 #[.val (.int x0), .val (.long x1), .second, .val (.long x2), .second, .val (.ref b1), .val (.int p36), .val (.int p38), .val (.int p41), .val (.int p48), .val (.ref b138), .unset, .unset] at_241 rfl rfl rfl ?_
    refine r_iload H 245 at_243 rfl rfl ?_
    refine r_bipush H 247 (6 : Int32) at_245 (by decide) rfl ?_
    refine r_icmpneT H 308 at_247 (by decide) (by decide) (by have := rr262; have : (6 : Int32).toInt = 6 := (by decide); simp only [Int32.lt_iff_toInt_lt, ← Int32.toInt_inj]; omega) ?_
    refine r_iconst H 309 (0 : Int32) at_308 (by decide) rfl ?_
    refine r_istore H 311 #[.val (.int x0), .val (.long x1), .second, .val (.long x2), .second, .val (.ref b1), .val (.int p36), .val (.int p38), .val (.int p41), .val (.int p48), .val (.ref b138), .val (.int (0 : Int32)), .unset] at_309 rfl rfl ?_
    refine r_iload H 313 at_311 rfl rfl ?_
    refine r_iconst H 314 (2 : Int32) at_313 (by decide) rfl ?_
    refine r_icmpneF H 317 at_314 rfl (by have := rr262; have : (2 : Int32).toInt = 2 := (by decide); simp only [Int32.lt_iff_toInt_lt, ← Int32.toInt_inj]; omega) ?_
    refine r_aload H 319 at_317 rfl rfl rfl ?_
    refine r_iconst H 320 (0 : Int32) at_319 (by decide) rfl ?_
    have q263 := (A33.keep K141 nin0)
    refine r_caload H 321 p2 at_320 q263 (by decide) rfl rfl ?_
    refine r_bipush H 323 (45 : Int32) at_321 (by decide) rfl ?_
    refine Run.join (P := fun z => (if p2 = (45 : Int32) then (if p6 = (104 : Int32) then (1 : Int32) else (0 : Int32)) else (0 : Int32)) = z ∧ (0 ≤ z.toInt ∧ z.toInt ≤ 1)) (pcB := 340) (LB := fun z => #[.val (.int x0), .val (.long x1), .second, .val (.long x2), .second, .val (.ref b1), .val (.int p36), .val (.int p38), .val (.int p41), .val (.int p48), .val (.ref b138), .val (.int (0 : Int32)), .unset]) (SB := fun z => [(.int z)]) (fun key => ?_) ?_
    ·
     refine r_icmpne H 339 326 at_323 (by decide) (by decide) rfl (fun c264 => ?_) (fun c264 => ?_)
     ·
      refine r_iconst H 340 (0 : Int32) at_339 (by decide) rfl ?_
      exact key (0 : Int32) ⟨(by rw [if_neg c264]), (by have : (0 : Int32).toInt = 0 := (by decide); omega)⟩
     ·
      have rr265 : 45 ≤ p2.toInt ∧ p2.toInt ≤ 45 := by have := rp2; have : (45 : Int32).toInt = 45 := (by decide); have hc_ := c264; simp only [Int32.lt_iff_toInt_lt, ← Int32.toInt_inj] at hc_; omega
      refine r_aload H 328 at_326 rfl rfl rfl ?_
      refine r_iconst H 329 (1 : Int32) at_328 (by decide) rfl ?_
      refine r_caload H 330 p6 at_329 q263 (by decide) rfl rfl ?_
      refine r_bipush H 332 (104 : Int32) at_330 (by decide) rfl ?_
      refine Run.join (P := fun z => (if p6 = (104 : Int32) then (1 : Int32) else (0 : Int32)) = z ∧ (0 ≤ z.toInt ∧ z.toInt ≤ 1)) (pcB := 340) (LB := fun z => #[.val (.int x0), .val (.long x1), .second, .val (.long x2), .second, .val (.ref b1), .val (.int p36), .val (.int p38), .val (.int p41), .val (.int p48), .val (.ref b138), .val (.int (0 : Int32)), .unset]) (SB := fun z => [(.int z)]) (fun key => ?_) ?_
      ·
       refine r_icmpne H 339 335 at_332 (by decide) (by decide) rfl (fun c266 => ?_) (fun c266 => ?_)
       ·
        refine r_iconst H 340 (0 : Int32) at_339 (by decide) rfl ?_
        exact key (0 : Int32) ⟨(by rw [if_neg c266]), (by have : (0 : Int32).toInt = 0 := (by decide); omega)⟩
       ·
        have rr267 : 104 ≤ p6.toInt ∧ p6.toInt ≤ 104 := by have := rp6; have : (104 : Int32).toInt = 104 := (by decide); have hc_ := c266; simp only [Int32.lt_iff_toInt_lt, ← Int32.toInt_inj] at hc_; omega
        refine r_iconst H 336 (1 : Int32) at_335 (by decide) rfl ?_
        refine r_goto H 340 at_336 (by decide) (by decide) ?_
        exact key (1 : Int32) ⟨(by rw [if_pos c266]), (by have : (1 : Int32).toInt = 1 := (by decide); omega)⟩
      rintro p268 ⟨ep268, rp268⟩
      exact key p268 ⟨(by subst ep268; rw [if_pos c264]), (by have := rp268; omega)⟩
    rintro p269 ⟨ep269, rp269⟩
    refine r_istore H 342 #[.val (.int x0), .val (.long x1), .second, .val (.long x2), .second, .val (.ref b1), .val (.int p36), .val (.int p38), .val (.int p41), .val (.int p48), .val (.ref b138), .val (.int (0 : Int32)), .val (.int p269)] at_340 rfl rfl ?_
    refine r_aload H 344 at_342 rfl rfl rfl ?_
    have z270 := Nat.le_trans z35 K141.1
    refine r_static H 347 at_344 (tw37 hw) (tw38 hw) (tw39 hw) (tw40 hw) (by decide) (lenOf pd_9 rfl) (rm_isHelp_18 hw ("" :: Ts) b138 b139 (cB8 p2) (cB8 p6) kc140 cs hh177 h0.size (nlt Zf Z0) z270 q148 q150 q151 q149 wS hcw hh0 S_cs hh1 (nin_cons (by decide) hT__2d__2d_help) (nin_cons (by decide) hT__2d_h) hcs) (argsL := [(.ref b138)]) (rest := []) rfl (W := 0) (nlq rfl) rfl (by decide) (by decide) (by decide) (by decide) nlr rfl ?_
    rintro _ hh273 ⟨p271, rfl, ep271, rp271, K272⟩
    refine r_iload H 349 at_347 rfl rfl ?_
    refine r_ifneF H 352 at_349 rfl (by decide) ?_
    refine r_iload H 354 at_352 rfl rfl ?_
    refine Run.join (P := fun z => (if p269 = (0 : Int32) then (0 : Int32) else (1 : Int32)) = z ∧ (0 ≤ z.toInt ∧ z.toInt ≤ 1)) (pcB := 362) (LB := fun z => #[.val (.int x0), .val (.long x1), .second, .val (.long x2), .second, .val (.ref b1), .val (.int p36), .val (.int p38), .val (.int p41), .val (.int p48), .val (.ref b138), .val (.int (0 : Int32)), .val (.int p269)]) (SB := fun z => [(.int z), (.int p271)]) (fun key => ?_) ?_
    ·
     refine r_ifeq H 361 357 at_354 (by decide) (by decide) rfl (fun c274 => ?_) (fun c274 => ?_)
     ·
      have rr275 : 0 ≤ p269.toInt ∧ p269.toInt ≤ 0 := by have := rp269; have : (0 : Int32).toInt = 0 := (by decide); have hc_ := c274; simp only [Int32.lt_iff_toInt_lt, ← Int32.toInt_inj] at hc_; omega
      refine r_iconst H 362 (0 : Int32) at_361 (by decide) rfl ?_
      exact key (0 : Int32) ⟨(by rw [if_pos c274]), (by have : (0 : Int32).toInt = 0 := (by decide); omega)⟩
     ·
      have rr276 : 1 ≤ p269.toInt ∧ p269.toInt ≤ 1 := by have := rp269; have : (0 : Int32).toInt = 0 := (by decide); have hc_ := c274; simp only [Int32.lt_iff_toInt_lt, ← Int32.toInt_inj] at hc_; omega
      refine r_iconst H 358 (1 : Int32) at_357 (by decide) rfl ?_
      refine r_goto H 362 at_358 (by decide) (by decide) ?_
      exact key (1 : Int32) ⟨(by rw [if_neg c274]), (by have : (1 : Int32).toInt = 1 := (by decide); omega)⟩
    rintro p277 ⟨ep277, rp277⟩
    refine Run.join (P := fun z => (if p271 = p277 then (1 : Int32) else (0 : Int32)) = z ∧ (0 ≤ z.toInt ∧ z.toInt ≤ 1)) (pcB := 370) (LB := fun z => #[.val (.int x0), .val (.long x1), .second, .val (.long x2), .second, .val (.ref b1), .val (.int p36), .val (.int p38), .val (.int p41), .val (.int p48), .val (.ref b138), .val (.int (0 : Int32)), .val (.int p269)]) (SB := fun z => [(.int z)]) (fun key => ?_) ?_
    ·
     refine r_icmpne H 369 365 at_362 (by decide) (by decide) rfl (fun c278 => ?_) (fun c278 => ?_)
     ·
      refine r_iconst H 370 (0 : Int32) at_369 (by decide) rfl ?_
      exact key (0 : Int32) ⟨(by rw [if_neg c278]), (by have : (0 : Int32).toInt = 0 := (by decide); omega)⟩
     ·
      refine r_iconst H 366 (1 : Int32) at_365 (by decide) rfl ?_
      refine r_goto H 370 at_366 (by decide) (by decide) ?_
      exact key (1 : Int32) ⟨(by rw [if_pos c278]), (by have : (1 : Int32).toInt = 1 := (by decide); omega)⟩
    rintro p279 ⟨ep279, rp279⟩
    have hone : p279 = 1 := by rw [← ep279, ← ep271, ← ep277, ← ep269]; exact lf_3 p2 p6 rp2 rp6
    exact r_nreturn (1 : Int32) H (by simp) at_370 (by rw [hone]; decide) (by decide) (by decide) Z0 (fun _ t => t) rfl
   ·
    have rr280 : 1 ≤ p48.toInt ∧ p48.toInt ≤ 7 := by have := rp48; have : (0 : Int32).toInt = 0 := (by decide); have hc_ := c157; simp only [Int32.lt_iff_toInt_lt, ← Int32.toInt_inj] at hc_; omega
    have rr281 : 1 ≤ p48.toInt ∧ p48.toInt ≤ 1 := by have := rr280; have : (1 : Int32).toInt = 1 := (by decide); have hc_ := c158; simp only [Int32.lt_iff_toInt_lt, ← Int32.toInt_inj] at hc_; omega
    refine r_astore H 243 #[.val (.int x0), .val (.long x1), .second, .val (.long x2), .second, .val (.ref b1), .val (.int p36), .val (.int p38), .val (.int p41), .val (.int p48), .val (.ref b153), .unset, .unset] at_241 rfl rfl rfl ?_
    refine r_iload H 245 at_243 rfl rfl ?_
    refine r_bipush H 247 (6 : Int32) at_245 (by decide) rfl ?_
    refine r_icmpneT H 308 at_247 (by decide) (by decide) (by have := rr281; have : (6 : Int32).toInt = 6 := (by decide); simp only [Int32.lt_iff_toInt_lt, ← Int32.toInt_inj]; omega) ?_
    refine r_iconst H 309 (0 : Int32) at_308 (by decide) rfl ?_
    refine r_istore H 311 #[.val (.int x0), .val (.long x1), .second, .val (.long x2), .second, .val (.ref b1), .val (.int p36), .val (.int p38), .val (.int p41), .val (.int p48), .val (.ref b153), .val (.int (0 : Int32)), .unset] at_309 rfl rfl ?_
    refine r_iload H 313 at_311 rfl rfl ?_
    refine r_iconst H 314 (2 : Int32) at_313 (by decide) rfl ?_
    refine r_icmpneT H 339 at_314 (by decide) (by decide) (by have := rr281; have : (2 : Int32).toInt = 2 := (by decide); simp only [Int32.lt_iff_toInt_lt, ← Int32.toInt_inj]; omega) ?_
    refine r_iconst H 340 (0 : Int32) at_339 (by decide) rfl ?_
    refine r_istore H 342 #[.val (.int x0), .val (.long x1), .second, .val (.long x2), .second, .val (.ref b1), .val (.int p36), .val (.int p38), .val (.int p41), .val (.int p48), .val (.ref b153), .val (.int (0 : Int32)), .val (.int (0 : Int32))] at_340 rfl rfl ?_
    refine r_aload H 344 at_342 rfl rfl rfl ?_
    have z282 := Nat.le_trans z35 K156.1
    refine r_static H 347 at_344 (tw37 hw) (tw38 hw) (tw39 hw) (tw40 hw) (by decide) (lenOf pd_9 rfl) (rm_isHelp_72 hw ("" :: Ts) b153 b154 (cB8 p2) kc155 cs hh177 h0.size (nlt Zf Z0) z282 q162 q164 q165 q163 wS hcw hh0 S_cs hh1 (nin_cons (by decide) hT__2d__2d_help) (nin_cons (by decide) hT__2d_h) hcs) (argsL := [(.ref b153)]) (rest := []) rfl (W := 0) (nlq rfl) rfl (by decide) (by decide) (by decide) (by decide) nlr rfl ?_
    rintro _ hh284 ⟨rfl, K283⟩
    refine r_iload H 349 at_347 rfl rfl ?_
    refine r_ifneF H 352 at_349 rfl (by decide) ?_
    refine r_iload H 354 at_352 rfl rfl ?_
    refine r_ifeqT H 361 at_354 (by decide) (by decide) (by decide) ?_
    refine r_iconst H 362 (0 : Int32) at_361 (by decide) rfl ?_
    refine r_icmpneF H 365 at_362 rfl (by decide) ?_
    refine r_iconst H 366 (1 : Int32) at_365 (by decide) rfl ?_
    refine r_goto H 370 at_366 (by decide) (by decide) ?_
    exact r_nreturn (1 : Int32) H (by simp) at_370 (by decide) (by decide) (by decide) Z0 (fun _ t => t) rfl
   ·
    have rr285 : 0 ≤ p48.toInt ∧ p48.toInt ≤ 0 := by have := rp48; have : (0 : Int32).toInt = 0 := (by decide); have hc_ := c171; simp only [Int32.lt_iff_toInt_lt, ← Int32.toInt_inj] at hc_; omega
    refine r_astore H 243 #[.val (.int x0), .val (.long x1), .second, .val (.long x2), .second, .val (.ref b1), .val (.int p36), .val (.int p38), .val (.int p41), .val (.int p48), .val (.ref b167), .unset, .unset] at_241 rfl rfl rfl ?_
    refine r_iload H 245 at_243 rfl rfl ?_
    refine r_bipush H 247 (6 : Int32) at_245 (by decide) rfl ?_
    refine r_icmpneT H 308 at_247 (by decide) (by decide) (by have := rr285; have : (6 : Int32).toInt = 6 := (by decide); simp only [Int32.lt_iff_toInt_lt, ← Int32.toInt_inj]; omega) ?_
    refine r_iconst H 309 (0 : Int32) at_308 (by decide) rfl ?_
    refine r_istore H 311 #[.val (.int x0), .val (.long x1), .second, .val (.long x2), .second, .val (.ref b1), .val (.int p36), .val (.int p38), .val (.int p41), .val (.int p48), .val (.ref b167), .val (.int (0 : Int32)), .unset] at_309 rfl rfl ?_
    refine r_iload H 313 at_311 rfl rfl ?_
    refine r_iconst H 314 (2 : Int32) at_313 (by decide) rfl ?_
    refine r_icmpneT H 339 at_314 (by decide) (by decide) (by have := rr285; have : (2 : Int32).toInt = 2 := (by decide); simp only [Int32.lt_iff_toInt_lt, ← Int32.toInt_inj]; omega) ?_
    refine r_iconst H 340 (0 : Int32) at_339 (by decide) rfl ?_
    refine r_istore H 342 #[.val (.int x0), .val (.long x1), .second, .val (.long x2), .second, .val (.ref b1), .val (.int p36), .val (.int p38), .val (.int p41), .val (.int p48), .val (.ref b167), .val (.int (0 : Int32)), .val (.int (0 : Int32))] at_340 rfl rfl ?_
    refine r_aload H 344 at_342 rfl rfl rfl ?_
    have z286 := Nat.le_trans z35 K170.1
    refine r_static H 347 at_344 (tw37 hw) (tw38 hw) (tw39 hw) (tw40 hw) (by decide) (lenOf pd_9 rfl) (rm_isHelp_77 hw ("" :: Ts) b167 b168 kc169 cs hh177 h0.size (nlt Zf Z0) z286 q173 q175 q176 q174 wS hcw hh0 S_cs hh1 (nin_cons (by decide) hT__2d__2d_help) (nin_cons (by decide) hT__2d_h) hcs) (argsL := [(.ref b167)]) (rest := []) rfl (W := 0) (nlq rfl) rfl (by decide) (by decide) (by decide) (by decide) nlr rfl ?_
    rintro _ hh288 ⟨rfl, K287⟩
    refine r_iload H 349 at_347 rfl rfl ?_
    refine r_ifneF H 352 at_349 rfl (by decide) ?_
    refine r_iload H 354 at_352 rfl rfl ?_
    refine r_ifeqT H 361 at_354 (by decide) (by decide) (by decide) ?_
    refine r_iconst H 362 (0 : Int32) at_361 (by decide) rfl ?_
    refine r_icmpneF H 365 at_362 rfl (by decide) ?_
    refine r_iconst H 366 (1 : Int32) at_365 (by decide) rfl ?_
    refine r_goto H 370 at_366 (by decide) (by decide) ?_
    exact r_nreturn (1 : Int32) H (by simp) at_370 (by decide) (by decide) (by decide) Z0 (fun _ t => t) rfl
  ·
   have rr289 : 1 ≤ p38.toInt ∧ p38.toInt ≤ 1 := by have := rr43; have : (1 : Int32).toInt = 1 := (by decide); have hc_ := c44; simp only [Int32.lt_iff_toInt_lt, ← Int32.toInt_inj] at hc_; omega
   refine r_aload H 188 at_186 rfl rfl rfl ?_
   refine r_iconst H 189 (0 : Int32) at_188 (by decide) rfl ?_
   refine r_bipush H 191 (45 : Int32) at_189 (by decide) rfl ?_
   refine r_castore H 192 (45 : Int32) at_191 A33 (by decide) (Nat.le_of_ble_eq_true rfl) (nlt nlr (Nat.le_of_eq g1.symm)) (by decide) rfl ?_
   intro h290 K290 A290
   have q291 := (q34.keep K33)
   change Ar Z h290 b1 kc1 .char [(.int (45 : Int32)), (.int p6), (.int p11), (.int p16), (.int p21), (.int p26), (.int p31)] at A290
   refine r_aload H 194 at_192 rfl rfl rfl ?_
   refine r_iconst H 195 (1 : Int32) at_194 (by decide) rfl ?_
   refine r_bipush H 197 (104 : Int32) at_195 (by decide) rfl ?_
   refine r_castore H 198 (104 : Int32) at_197 A290 (by decide) (Nat.le_of_ble_eq_true rfl) (nlt nlr (Nat.le_of_eq g1.symm)) (by decide) rfl ?_
   intro h292 K292 A292
   have q293 := (q291.keep K290)
   change Ar Z h292 b1 kc1 .char [(.int (45 : Int32)), (.int (104 : Int32)), (.int p11), (.int p16), (.int p21), (.int p26), (.int p31)] at A292
   refine r_iconst H 199 (2 : Int32) at_198 (by decide) rfl ?_
   refine r_iloadN H 200 at_199 rfl rfl ?_
   refine r_iconst H 201 (2 : Int32) at_200 (by decide) rfl ?_
   obtain ⟨p294, ep294, rp294⟩ : ∃ p : Int32, (ush32 x0 (2 : Int32)) = p ∧ 0 ≤ p.toInt ∧ p.toInt ≤ 1073741823 := ⟨_, rfl, (by have h1 := ushr_eq x0 (2 : Int32) 2 (by decide) (by decide); have h2 := rng32 x0; omega)⟩
   refine r_iushr H 202 p294 at_201 ep294 rfl ?_
   refine r_iconst H 203 (1 : Int32) at_202 (by decide) rfl ?_
   obtain ⟨p295, ep295, rp295⟩ : ∃ p : Int32, (p294 &&& (1 : Int32)) = p ∧ 0 ≤ p.toInt ∧ p.toInt ≤ 1 := ⟨_, rfl, (by have h := c_and p294 (1 : Int32) (by decide); have : (1 : Int32).toInt = 1 := (by decide); omega)⟩
   refine r_iand H 204 p295 at_203 ep295 rfl ?_
   obtain ⟨p296, ep296, rp296⟩ : ∃ p : Int32, ((2 : Int32) + p295) = p ∧ 2 ≤ p.toInt ∧ p.toInt ≤ 3 := ⟨_, rfl, (by have : (2 : Int32).toInt = 2 := (by decide); have := rp295; have h1 := c_iadd (2 : Int32) p295; have h2 := rng32 ((2 : Int32) + p295); omega)⟩
   refine r_iadd H 205 p296 at_204 ep296 rfl ?_
   refine r_istore H 207 #[.val (.int x0), .val (.long x1), .second, .val (.long x2), .second, .val (.ref b1), .val (.int p36), .val (.int p38), .val (.int p41), .val (.int p296), .unset, .unset, .unset] at_205 rfl rfl ?_
   refine r_iload H 209 at_207 rfl rfl ?_
   refine r_iconst H 210 (2 : Int32) at_209 (by decide) rfl ?_
   refine r_icmpge H 234 213 at_210 (by decide) (by decide) rfl (fun c297 => ?_) (fun c297 => ?_)
   ·
    have rr298 : 2 ≤ p41.toInt ∧ p41.toInt ≤ 7 := by have := rp41; have : (2 : Int32).toInt = 2 := (by decide); have hc_ := c297; simp only [Int32.lt_iff_toInt_lt, ← Int32.toInt_inj] at hc_; omega
    refine r_aload H 236 at_234 rfl rfl rfl ?_
    refine r_iload H 238 at_236 rfl rfl ?_
    have z299 := Nat.le_trans z35 K290.1
    have z300 := Nat.le_trans z299 K292.1
    refine r_static H 241 at_238 (tw5 hw) (tw6 hw) (tw3 hw) (tw7 hw) (by decide) (lenOf pd_6 rfl) (rm_word_2 hw Ts b1 p296 (45 : Int32) (104 : Int32) p11 p16 p21 p26 p31 kc1 cs h292 h0.size (nlt Zf Z0) z300 A292 rp296 (by have : (45 : Int32).toInt = 45 := (by decide); omega) (by have : (104 : Int32).toInt = 104 := (by decide); omega) (by have := rp11; omega) S_cs hcs) (argsL := [(.ref b1), (.int p296)]) (rest := []) rfl (W := 0) (nlq rfl) rfl (by decide) (by decide) (by decide) (by decide) nlr rfl ?_
    rintro _ hh327 (⟨b301, b302, kc303, rfl, c305, K304, g306, g307, g308, q309, q310, q311, q312, q313⟩ | ⟨b314, b315, kc316, rfl, c318, K317, g319, g320, g321, q322, q323, q324, q325, q326⟩)
    ·
     have rr328 : 3 ≤ p296.toInt ∧ p296.toInt ≤ 3 := by have := rp296; have : (2 : Int32).toInt = 2 := (by decide); have hc_ := c305; simp only [Int32.lt_iff_toInt_lt, ← Int32.toInt_inj] at hc_; omega
     refine r_astore H 243 #[.val (.int x0), .val (.long x1), .second, .val (.long x2), .second, .val (.ref b1), .val (.int p36), .val (.int p38), .val (.int p41), .val (.int p296), .val (.ref b301), .unset, .unset] at_241 rfl rfl rfl ?_
     refine r_iload H 245 at_243 rfl rfl ?_
     refine r_bipush H 247 (6 : Int32) at_245 (by decide) rfl ?_
     refine r_icmpneT H 308 at_247 (by decide) (by decide) (by have := rr328; have : (6 : Int32).toInt = 6 := (by decide); simp only [Int32.lt_iff_toInt_lt, ← Int32.toInt_inj]; omega) ?_
     refine r_iconst H 309 (0 : Int32) at_308 (by decide) rfl ?_
     refine r_istore H 311 #[.val (.int x0), .val (.long x1), .second, .val (.long x2), .second, .val (.ref b1), .val (.int p36), .val (.int p38), .val (.int p41), .val (.int p296), .val (.ref b301), .val (.int (0 : Int32)), .unset] at_309 rfl rfl ?_
     refine r_iload H 313 at_311 rfl rfl ?_
     refine r_iconst H 314 (2 : Int32) at_313 (by decide) rfl ?_
     refine r_icmpneT H 339 at_314 (by decide) (by decide) (by have := rr328; have : (2 : Int32).toInt = 2 := (by decide); simp only [Int32.lt_iff_toInt_lt, ← Int32.toInt_inj]; omega) ?_
     refine r_iconst H 340 (0 : Int32) at_339 (by decide) rfl ?_
     refine r_istore H 342 #[.val (.int x0), .val (.long x1), .second, .val (.long x2), .second, .val (.ref b1), .val (.int p36), .val (.int p38), .val (.int p41), .val (.int p296), .val (.ref b301), .val (.int (0 : Int32)), .val (.int (0 : Int32))] at_340 rfl rfl ?_
     refine r_aload H 344 at_342 rfl rfl rfl ?_
     have z329 := Nat.le_trans z300 K304.1
     refine r_static H 347 at_344 (tw37 hw) (tw38 hw) (tw39 hw) (tw40 hw) (by decide) (lenOf pd_9 rfl) (rm_isHelp_13 hw Ts b301 b302 (cB8 (45 : Int32)) (cB8 (104 : Int32)) (cB8 p11) kc303 cs hh327 h0.size (nlt Zf Z0) z329 q309 q311 q312 q310 wS hcw hh0 S_cs hh1 hT__2d__2d_help hT__2d_h hcs) (argsL := [(.ref b301)]) (rest := []) rfl (W := 0) (nlq rfl) rfl (by decide) (by decide) (by decide) (by decide) nlr rfl ?_
     rintro _ hh331 ⟨rfl, K330⟩
     refine r_iload H 349 at_347 rfl rfl ?_
     refine r_ifneF H 352 at_349 rfl (by decide) ?_
     refine r_iload H 354 at_352 rfl rfl ?_
     refine r_ifeqT H 361 at_354 (by decide) (by decide) (by decide) ?_
     refine r_iconst H 362 (0 : Int32) at_361 (by decide) rfl ?_
     refine r_icmpneF H 365 at_362 rfl (by decide) ?_
     refine r_iconst H 366 (1 : Int32) at_365 (by decide) rfl ?_
     refine r_goto H 370 at_366 (by decide) (by decide) ?_
     exact r_nreturn (1 : Int32) H (by simp) at_370 (by decide) (by decide) (by decide) Z0 (by intro t ht; simp only [List.mem_cons] at ht ⊢; rcases ht with ht | ht | ht <;> simp [ht]) rfl
    ·
     have rr332 : 2 ≤ p296.toInt ∧ p296.toInt ≤ 2 := by have := rp296; have : (2 : Int32).toInt = 2 := (by decide); have hc_ := c318; simp only [Int32.lt_iff_toInt_lt, ← Int32.toInt_inj] at hc_; omega
     refine r_astore H 243 #[.val (.int x0), .val (.long x1), .second, .val (.long x2), .second, .val (.ref b1), .val (.int p36), .val (.int p38), .val (.int p41), .val (.int p296), .val (.ref b314), .unset, .unset] at_241 rfl rfl rfl ?_
     refine r_iload H 245 at_243 rfl rfl ?_
     refine r_bipush H 247 (6 : Int32) at_245 (by decide) rfl ?_
     refine r_icmpneT H 308 at_247 (by decide) (by decide) (by have := rr332; have : (6 : Int32).toInt = 6 := (by decide); simp only [Int32.lt_iff_toInt_lt, ← Int32.toInt_inj]; omega) ?_
     refine r_iconst H 309 (0 : Int32) at_308 (by decide) rfl ?_
     refine r_istore H 311 #[.val (.int x0), .val (.long x1), .second, .val (.long x2), .second, .val (.ref b1), .val (.int p36), .val (.int p38), .val (.int p41), .val (.int p296), .val (.ref b314), .val (.int (0 : Int32)), .unset] at_309 rfl rfl ?_
     refine r_iload H 313 at_311 rfl rfl ?_
     refine r_iconst H 314 (2 : Int32) at_313 (by decide) rfl ?_
     refine r_icmpneF H 317 at_314 rfl (by have := rr332; have : (2 : Int32).toInt = 2 := (by decide); simp only [Int32.lt_iff_toInt_lt, ← Int32.toInt_inj]; omega) ?_
     refine r_aload H 319 at_317 rfl rfl rfl ?_
     refine r_iconst H 320 (0 : Int32) at_319 (by decide) rfl ?_
     have q333 := (A292.keep K317 nin0)
     refine r_caload H 321 (45 : Int32) at_320 q333 (by decide) rfl rfl ?_
     refine r_bipush H 323 (45 : Int32) at_321 (by decide) rfl ?_
     refine r_icmpneF H 326 at_323 rfl (by decide) ?_
     refine r_aload H 328 at_326 rfl rfl rfl ?_
     refine r_iconst H 329 (1 : Int32) at_328 (by decide) rfl ?_
     refine r_caload H 330 (104 : Int32) at_329 q333 (by decide) rfl rfl ?_
     refine r_bipush H 332 (104 : Int32) at_330 (by decide) rfl ?_
     refine r_icmpneF H 335 at_332 rfl (by decide) ?_
     refine r_iconst H 336 (1 : Int32) at_335 (by decide) rfl ?_
     refine r_goto H 340 at_336 (by decide) (by decide) ?_
     refine r_istore H 342 #[.val (.int x0), .val (.long x1), .second, .val (.long x2), .second, .val (.ref b1), .val (.int p36), .val (.int p38), .val (.int p41), .val (.int p296), .val (.ref b314), .val (.int (0 : Int32)), .val (.int (1 : Int32))] at_340 rfl rfl ?_
     refine r_aload H 344 at_342 rfl rfl rfl ?_
     have z334 := Nat.le_trans z300 K317.1
     refine r_static H 347 at_344 (tw37 hw) (tw38 hw) (tw39 hw) (tw40 hw) (by decide) (lenOf pd_9 rfl) (rm_isHelp_18 hw Ts b314 b315 (cB8 (45 : Int32)) (cB8 (104 : Int32)) kc316 cs hh327 h0.size (nlt Zf Z0) z334 q322 q324 q325 q323 wS hcw hh0 S_cs hh1 hT__2d__2d_help hT__2d_h hcs) (argsL := [(.ref b314)]) (rest := []) rfl (W := 0) (nlq rfl) rfl (by decide) (by decide) (by decide) (by decide) nlr rfl ?_
     rintro _ hh337 ⟨p335, rfl, ep335, rp335, K336⟩
     refine r_iload H 349 at_347 rfl rfl ?_
     refine r_ifneF H 352 at_349 rfl (by decide) ?_
     refine r_iload H 354 at_352 rfl rfl ?_
     refine r_ifeqF H 357 at_354 rfl (by decide) ?_
     refine r_iconst H 358 (1 : Int32) at_357 (by decide) rfl ?_
     refine r_goto H 362 at_358 (by decide) (by decide) ?_
     refine Run.join (P := fun z => (if p335 = (1 : Int32) then (1 : Int32) else (0 : Int32)) = z ∧ (0 ≤ z.toInt ∧ z.toInt ≤ 1)) (pcB := 370) (LB := fun z => #[.val (.int x0), .val (.long x1), .second, .val (.long x2), .second, .val (.ref b1), .val (.int p36), .val (.int p38), .val (.int p41), .val (.int p296), .val (.ref b314), .val (.int (0 : Int32)), .val (.int (1 : Int32))]) (SB := fun z => [(.int z)]) (fun key => ?_) ?_
     ·
      refine r_icmpne H 369 365 at_362 (by decide) (by decide) rfl (fun c338 => ?_) (fun c338 => ?_)
      ·
       have rr339 : 0 ≤ p335.toInt ∧ p335.toInt ≤ 0 := by have := rp335; have : (1 : Int32).toInt = 1 := (by decide); have hc_ := c338; simp only [Int32.lt_iff_toInt_lt, ← Int32.toInt_inj] at hc_; omega
       refine r_iconst H 370 (0 : Int32) at_369 (by decide) rfl ?_
       exact key (0 : Int32) ⟨(by rw [if_neg c338]), (by have : (0 : Int32).toInt = 0 := (by decide); omega)⟩
      ·
       have rr340 : 1 ≤ p335.toInt ∧ p335.toInt ≤ 1 := by have := rp335; have : (1 : Int32).toInt = 1 := (by decide); have hc_ := c338; simp only [Int32.lt_iff_toInt_lt, ← Int32.toInt_inj] at hc_; omega
       refine r_iconst H 366 (1 : Int32) at_365 (by decide) rfl ?_
       refine r_goto H 370 at_366 (by decide) (by decide) ?_
       exact key (1 : Int32) ⟨(by rw [if_pos c338]), (by have : (1 : Int32).toInt = 1 := (by decide); omega)⟩
     rintro p341 ⟨ep341, rp341⟩
     have hone : p341 = 1 := by rw [← ep341, ← ep335]; exact lf_4
     exact r_nreturn (1 : Int32) H (by simp) at_370 (by rw [hone]; decide) (by decide) (by decide) Z0 (by intro t ht; simp only [List.mem_cons] at ht ⊢; rcases ht with ht | ht | ht <;> simp [ht]) rfl
   ·
    have rr342 : 0 ≤ p41.toInt ∧ p41.toInt ≤ 1 := by have := rp41; have : (2 : Int32).toInt = 2 := (by decide); have hc_ := c297; simp only [Int32.lt_iff_toInt_lt, ← Int32.toInt_inj] at hc_; omega
    refine r_aload H 215 at_213 rfl rfl rfl ?_
    refine r_iload H 217 at_215 rfl rfl ?_
    refine r_iload H 219 at_217 rfl rfl ?_
    have c343 : p41 = (0 : Int32) ∨ p41 = (1 : Int32) := by
     have := rr342; simp only [← Int32.toInt_inj]; have : (0 : Int32).toInt = 0 := (by decide); have : (1 : Int32).toInt = 1 := (by decide); omega
    rcases c343 with c343 | c343
    ·
     subst c343
     refine r_castore H 220 p36 at_219 A292 (by decide) (Nat.le_of_ble_eq_true rfl) (nlt nlr (Nat.le_of_eq g1.symm)) (nar_char_id (by have := rp36; omega)) rfl ?_
     intro h344 K344 A344
     have q345 := (q293.keep K292)
     change Ar Z h344 b1 kc1 .char [(.int p36), (.int (104 : Int32)), (.int p11), (.int p16), (.int p21), (.int p26), (.int p31)] at A344
     refine r_goto H 234 at_220 (by decide) (by decide) ?_
     refine r_aload H 236 at_234 rfl rfl rfl ?_
     refine r_iload H 238 at_236 rfl rfl ?_
     have z346 := Nat.le_trans z35 K290.1
     have z347 := Nat.le_trans z346 K292.1
     have z348 := Nat.le_trans z347 K344.1
     refine r_static H 241 at_238 (tw5 hw) (tw6 hw) (tw3 hw) (tw7 hw) (by decide) (lenOf pd_6 rfl) (rm_word_2 hw Ts b1 p296 p36 (104 : Int32) p11 p16 p21 p26 p31 kc1 cs h344 h0.size (nlt Zf Z0) z348 A344 rp296 (by have := rp36; omega) (by have : (104 : Int32).toInt = 104 := (by decide); omega) (by have := rp11; omega) S_cs hcs) (argsL := [(.ref b1), (.int p296)]) (rest := []) rfl (W := 0) (nlq rfl) rfl (by decide) (by decide) (by decide) (by decide) nlr rfl ?_
     rintro _ hh375 (⟨b349, b350, kc351, rfl, c353, K352, g354, g355, g356, q357, q358, q359, q360, q361⟩ | ⟨b362, b363, kc364, rfl, c366, K365, g367, g368, g369, q370, q371, q372, q373, q374⟩)
     ·
      have rr376 : 3 ≤ p296.toInt ∧ p296.toInt ≤ 3 := by have := rp296; have : (2 : Int32).toInt = 2 := (by decide); have hc_ := c353; simp only [Int32.lt_iff_toInt_lt, ← Int32.toInt_inj] at hc_; omega
      refine r_astore H 243 #[.val (.int x0), .val (.long x1), .second, .val (.long x2), .second, .val (.ref b1), .val (.int p36), .val (.int p38), .val (.int (0 : Int32)), .val (.int p296), .val (.ref b349), .unset, .unset] at_241 rfl rfl rfl ?_
      refine r_iload H 245 at_243 rfl rfl ?_
      refine r_bipush H 247 (6 : Int32) at_245 (by decide) rfl ?_
      refine r_icmpneT H 308 at_247 (by decide) (by decide) (by have := rr376; have : (6 : Int32).toInt = 6 := (by decide); simp only [Int32.lt_iff_toInt_lt, ← Int32.toInt_inj]; omega) ?_
      refine r_iconst H 309 (0 : Int32) at_308 (by decide) rfl ?_
      refine r_istore H 311 #[.val (.int x0), .val (.long x1), .second, .val (.long x2), .second, .val (.ref b1), .val (.int p36), .val (.int p38), .val (.int (0 : Int32)), .val (.int p296), .val (.ref b349), .val (.int (0 : Int32)), .unset] at_309 rfl rfl ?_
      refine r_iload H 313 at_311 rfl rfl ?_
      refine r_iconst H 314 (2 : Int32) at_313 (by decide) rfl ?_
      refine r_icmpneT H 339 at_314 (by decide) (by decide) (by have := rr376; have : (2 : Int32).toInt = 2 := (by decide); simp only [Int32.lt_iff_toInt_lt, ← Int32.toInt_inj]; omega) ?_
      refine r_iconst H 340 (0 : Int32) at_339 (by decide) rfl ?_
      refine r_istore H 342 #[.val (.int x0), .val (.long x1), .second, .val (.long x2), .second, .val (.ref b1), .val (.int p36), .val (.int p38), .val (.int (0 : Int32)), .val (.int p296), .val (.ref b349), .val (.int (0 : Int32)), .val (.int (0 : Int32))] at_340 rfl rfl ?_
      refine r_aload H 344 at_342 rfl rfl rfl ?_
      have z377 := Nat.le_trans z348 K352.1
      refine r_static H 347 at_344 (tw37 hw) (tw38 hw) (tw39 hw) (tw40 hw) (by decide) (lenOf pd_9 rfl) (rm_isHelp_13 hw Ts b349 b350 (cB8 p36) (cB8 (104 : Int32)) (cB8 p11) kc351 cs hh375 h0.size (nlt Zf Z0) z377 q357 q359 q360 q358 wS hcw hh0 S_cs hh1 hT__2d__2d_help hT__2d_h hcs) (argsL := [(.ref b349)]) (rest := []) rfl (W := 0) (nlq rfl) rfl (by decide) (by decide) (by decide) (by decide) nlr rfl ?_
      rintro _ hh379 ⟨rfl, K378⟩
      refine r_iload H 349 at_347 rfl rfl ?_
      refine r_ifneF H 352 at_349 rfl (by decide) ?_
      refine r_iload H 354 at_352 rfl rfl ?_
      refine r_ifeqT H 361 at_354 (by decide) (by decide) (by decide) ?_
      refine r_iconst H 362 (0 : Int32) at_361 (by decide) rfl ?_
      refine r_icmpneF H 365 at_362 rfl (by decide) ?_
      refine r_iconst H 366 (1 : Int32) at_365 (by decide) rfl ?_
      refine r_goto H 370 at_366 (by decide) (by decide) ?_
      exact r_nreturn (1 : Int32) H (by simp) at_370 (by decide) (by decide) (by decide) Z0 (by intro t ht; simp only [List.mem_cons] at ht ⊢; rcases ht with ht | ht | ht <;> simp [ht]) rfl
     ·
      have rr380 : 2 ≤ p296.toInt ∧ p296.toInt ≤ 2 := by have := rp296; have : (2 : Int32).toInt = 2 := (by decide); have hc_ := c366; simp only [Int32.lt_iff_toInt_lt, ← Int32.toInt_inj] at hc_; omega
      refine r_astore H 243 #[.val (.int x0), .val (.long x1), .second, .val (.long x2), .second, .val (.ref b1), .val (.int p36), .val (.int p38), .val (.int (0 : Int32)), .val (.int p296), .val (.ref b362), .unset, .unset] at_241 rfl rfl rfl ?_
      refine r_iload H 245 at_243 rfl rfl ?_
      refine r_bipush H 247 (6 : Int32) at_245 (by decide) rfl ?_
      refine r_icmpneT H 308 at_247 (by decide) (by decide) (by have := rr380; have : (6 : Int32).toInt = 6 := (by decide); simp only [Int32.lt_iff_toInt_lt, ← Int32.toInt_inj]; omega) ?_
      refine r_iconst H 309 (0 : Int32) at_308 (by decide) rfl ?_
      refine r_istore H 311 #[.val (.int x0), .val (.long x1), .second, .val (.long x2), .second, .val (.ref b1), .val (.int p36), .val (.int p38), .val (.int (0 : Int32)), .val (.int p296), .val (.ref b362), .val (.int (0 : Int32)), .unset] at_309 rfl rfl ?_
      refine r_iload H 313 at_311 rfl rfl ?_
      refine r_iconst H 314 (2 : Int32) at_313 (by decide) rfl ?_
      refine r_icmpneF H 317 at_314 rfl (by have := rr380; have : (2 : Int32).toInt = 2 := (by decide); simp only [Int32.lt_iff_toInt_lt, ← Int32.toInt_inj]; omega) ?_
      refine r_aload H 319 at_317 rfl rfl rfl ?_
      refine r_iconst H 320 (0 : Int32) at_319 (by decide) rfl ?_
      have q381 := (A344.keep K365 nin0)
      refine r_caload H 321 p36 at_320 q381 (by decide) rfl rfl ?_
      refine r_bipush H 323 (45 : Int32) at_321 (by decide) rfl ?_
      refine Run.join (P := fun z => (if p36 = (45 : Int32) then (1 : Int32) else (0 : Int32)) = z ∧ (0 ≤ z.toInt ∧ z.toInt ≤ 1)) (pcB := 340) (LB := fun z => #[.val (.int x0), .val (.long x1), .second, .val (.long x2), .second, .val (.ref b1), .val (.int p36), .val (.int p38), .val (.int (0 : Int32)), .val (.int p296), .val (.ref b362), .val (.int (0 : Int32)), .unset]) (SB := fun z => [(.int z)]) (fun key => ?_) ?_
      ·
       refine r_icmpne H 339 326 at_323 (by decide) (by decide) rfl (fun c382 => ?_) (fun c382 => ?_)
       ·
        refine r_iconst H 340 (0 : Int32) at_339 (by decide) rfl ?_
        exact key (0 : Int32) ⟨(by rw [if_neg c382]), (by have : (0 : Int32).toInt = 0 := (by decide); omega)⟩
       ·
        have rr383 : 45 ≤ p36.toInt ∧ p36.toInt ≤ 45 := by have := rp36; have : (45 : Int32).toInt = 45 := (by decide); have hc_ := c382; simp only [Int32.lt_iff_toInt_lt, ← Int32.toInt_inj] at hc_; omega
        refine r_aload H 328 at_326 rfl rfl rfl ?_
        refine r_iconst H 329 (1 : Int32) at_328 (by decide) rfl ?_
        refine r_caload H 330 (104 : Int32) at_329 q381 (by decide) rfl rfl ?_
        refine r_bipush H 332 (104 : Int32) at_330 (by decide) rfl ?_
        refine r_icmpneF H 335 at_332 rfl (by decide) ?_
        refine r_iconst H 336 (1 : Int32) at_335 (by decide) rfl ?_
        refine r_goto H 340 at_336 (by decide) (by decide) ?_
        exact key (1 : Int32) ⟨(by rw [if_pos c382]), (by have : (1 : Int32).toInt = 1 := (by decide); omega)⟩
      rintro p384 ⟨ep384, rp384⟩
      refine r_istore H 342 #[.val (.int x0), .val (.long x1), .second, .val (.long x2), .second, .val (.ref b1), .val (.int p36), .val (.int p38), .val (.int (0 : Int32)), .val (.int p296), .val (.ref b362), .val (.int (0 : Int32)), .val (.int p384)] at_340 rfl rfl ?_
      refine r_aload H 344 at_342 rfl rfl rfl ?_
      have z385 := Nat.le_trans z348 K365.1
      refine r_static H 347 at_344 (tw37 hw) (tw38 hw) (tw39 hw) (tw40 hw) (by decide) (lenOf pd_9 rfl) (rm_isHelp_18 hw Ts b362 b363 (cB8 p36) (cB8 (104 : Int32)) kc364 cs hh375 h0.size (nlt Zf Z0) z385 q370 q372 q373 q371 wS hcw hh0 S_cs hh1 hT__2d__2d_help hT__2d_h hcs) (argsL := [(.ref b362)]) (rest := []) rfl (W := 0) (nlq rfl) rfl (by decide) (by decide) (by decide) (by decide) nlr rfl ?_
      rintro _ hh388 ⟨p386, rfl, ep386, rp386, K387⟩
      refine r_iload H 349 at_347 rfl rfl ?_
      refine r_ifneF H 352 at_349 rfl (by decide) ?_
      refine r_iload H 354 at_352 rfl rfl ?_
      refine Run.join (P := fun z => (if p384 = (0 : Int32) then (0 : Int32) else (1 : Int32)) = z ∧ (0 ≤ z.toInt ∧ z.toInt ≤ 1)) (pcB := 362) (LB := fun z => #[.val (.int x0), .val (.long x1), .second, .val (.long x2), .second, .val (.ref b1), .val (.int p36), .val (.int p38), .val (.int (0 : Int32)), .val (.int p296), .val (.ref b362), .val (.int (0 : Int32)), .val (.int p384)]) (SB := fun z => [(.int z), (.int p386)]) (fun key => ?_) ?_
      ·
       refine r_ifeq H 361 357 at_354 (by decide) (by decide) rfl (fun c389 => ?_) (fun c389 => ?_)
       ·
        have rr390 : 0 ≤ p384.toInt ∧ p384.toInt ≤ 0 := by have := rp384; have : (0 : Int32).toInt = 0 := (by decide); have hc_ := c389; simp only [Int32.lt_iff_toInt_lt, ← Int32.toInt_inj] at hc_; omega
        refine r_iconst H 362 (0 : Int32) at_361 (by decide) rfl ?_
        exact key (0 : Int32) ⟨(by rw [if_pos c389]), (by have : (0 : Int32).toInt = 0 := (by decide); omega)⟩
       ·
        have rr391 : 1 ≤ p384.toInt ∧ p384.toInt ≤ 1 := by have := rp384; have : (0 : Int32).toInt = 0 := (by decide); have hc_ := c389; simp only [Int32.lt_iff_toInt_lt, ← Int32.toInt_inj] at hc_; omega
        refine r_iconst H 358 (1 : Int32) at_357 (by decide) rfl ?_
        refine r_goto H 362 at_358 (by decide) (by decide) ?_
        exact key (1 : Int32) ⟨(by rw [if_neg c389]), (by have : (1 : Int32).toInt = 1 := (by decide); omega)⟩
      rintro p392 ⟨ep392, rp392⟩
      refine Run.join (P := fun z => (if p386 = p392 then (1 : Int32) else (0 : Int32)) = z ∧ (0 ≤ z.toInt ∧ z.toInt ≤ 1)) (pcB := 370) (LB := fun z => #[.val (.int x0), .val (.long x1), .second, .val (.long x2), .second, .val (.ref b1), .val (.int p36), .val (.int p38), .val (.int (0 : Int32)), .val (.int p296), .val (.ref b362), .val (.int (0 : Int32)), .val (.int p384)]) (SB := fun z => [(.int z)]) (fun key => ?_) ?_
      ·
       refine r_icmpne H 369 365 at_362 (by decide) (by decide) rfl (fun c393 => ?_) (fun c393 => ?_)
       ·
        refine r_iconst H 370 (0 : Int32) at_369 (by decide) rfl ?_
        exact key (0 : Int32) ⟨(by rw [if_neg c393]), (by have : (0 : Int32).toInt = 0 := (by decide); omega)⟩
       ·
        refine r_iconst H 366 (1 : Int32) at_365 (by decide) rfl ?_
        refine r_goto H 370 at_366 (by decide) (by decide) ?_
        exact key (1 : Int32) ⟨(by rw [if_pos c393]), (by have : (1 : Int32).toInt = 1 := (by decide); omega)⟩
      rintro p394 ⟨ep394, rp394⟩
      have hone : p394 = 1 := by rw [← ep394, ← ep386, ← ep392, ← ep384]; exact lf_5 p36 rp36
      exact r_nreturn (1 : Int32) H (by simp) at_370 (by rw [hone]; decide) (by decide) (by decide) Z0 (by intro t ht; simp only [List.mem_cons] at ht ⊢; rcases ht with ht | ht | ht <;> simp [ht]) rfl
    ·
     subst c343
     refine r_castore H 220 p36 at_219 A292 (by decide) (Nat.le_of_ble_eq_true rfl) (nlt nlr (Nat.le_of_eq g1.symm)) (nar_char_id (by have := rp36; omega)) rfl ?_
     intro h395 K395 A395
     have q396 := (q293.keep K292)
     change Ar Z h395 b1 kc1 .char [(.int (45 : Int32)), (.int p36), (.int p11), (.int p16), (.int p21), (.int p26), (.int p31)] at A395
     refine r_goto H 234 at_220 (by decide) (by decide) ?_
     refine r_aload H 236 at_234 rfl rfl rfl ?_
     refine r_iload H 238 at_236 rfl rfl ?_
     have z397 := Nat.le_trans z35 K290.1
     have z398 := Nat.le_trans z397 K292.1
     have z399 := Nat.le_trans z398 K395.1
     refine r_static H 241 at_238 (tw5 hw) (tw6 hw) (tw3 hw) (tw7 hw) (by decide) (lenOf pd_6 rfl) (rm_word_2 hw Ts b1 p296 (45 : Int32) p36 p11 p16 p21 p26 p31 kc1 cs h395 h0.size (nlt Zf Z0) z399 A395 rp296 (by have : (45 : Int32).toInt = 45 := (by decide); omega) (by have := rp36; omega) (by have := rp11; omega) S_cs hcs) (argsL := [(.ref b1), (.int p296)]) (rest := []) rfl (W := 0) (nlq rfl) rfl (by decide) (by decide) (by decide) (by decide) nlr rfl ?_
     rintro _ hh426 (⟨b400, b401, kc402, rfl, c404, K403, g405, g406, g407, q408, q409, q410, q411, q412⟩ | ⟨b413, b414, kc415, rfl, c417, K416, g418, g419, g420, q421, q422, q423, q424, q425⟩)
     ·
      have rr427 : 3 ≤ p296.toInt ∧ p296.toInt ≤ 3 := by have := rp296; have : (2 : Int32).toInt = 2 := (by decide); have hc_ := c404; simp only [Int32.lt_iff_toInt_lt, ← Int32.toInt_inj] at hc_; omega
      refine r_astore H 243 #[.val (.int x0), .val (.long x1), .second, .val (.long x2), .second, .val (.ref b1), .val (.int p36), .val (.int p38), .val (.int (1 : Int32)), .val (.int p296), .val (.ref b400), .unset, .unset] at_241 rfl rfl rfl ?_
      refine r_iload H 245 at_243 rfl rfl ?_
      refine r_bipush H 247 (6 : Int32) at_245 (by decide) rfl ?_
      refine r_icmpneT H 308 at_247 (by decide) (by decide) (by have := rr427; have : (6 : Int32).toInt = 6 := (by decide); simp only [Int32.lt_iff_toInt_lt, ← Int32.toInt_inj]; omega) ?_
      refine r_iconst H 309 (0 : Int32) at_308 (by decide) rfl ?_
      refine r_istore H 311 #[.val (.int x0), .val (.long x1), .second, .val (.long x2), .second, .val (.ref b1), .val (.int p36), .val (.int p38), .val (.int (1 : Int32)), .val (.int p296), .val (.ref b400), .val (.int (0 : Int32)), .unset] at_309 rfl rfl ?_
      refine r_iload H 313 at_311 rfl rfl ?_
      refine r_iconst H 314 (2 : Int32) at_313 (by decide) rfl ?_
      refine r_icmpneT H 339 at_314 (by decide) (by decide) (by have := rr427; have : (2 : Int32).toInt = 2 := (by decide); simp only [Int32.lt_iff_toInt_lt, ← Int32.toInt_inj]; omega) ?_
      refine r_iconst H 340 (0 : Int32) at_339 (by decide) rfl ?_
      refine r_istore H 342 #[.val (.int x0), .val (.long x1), .second, .val (.long x2), .second, .val (.ref b1), .val (.int p36), .val (.int p38), .val (.int (1 : Int32)), .val (.int p296), .val (.ref b400), .val (.int (0 : Int32)), .val (.int (0 : Int32))] at_340 rfl rfl ?_
      refine r_aload H 344 at_342 rfl rfl rfl ?_
      have z428 := Nat.le_trans z399 K403.1
      refine r_static H 347 at_344 (tw37 hw) (tw38 hw) (tw39 hw) (tw40 hw) (by decide) (lenOf pd_9 rfl) (rm_isHelp_13 hw Ts b400 b401 (cB8 (45 : Int32)) (cB8 p36) (cB8 p11) kc402 cs hh426 h0.size (nlt Zf Z0) z428 q408 q410 q411 q409 wS hcw hh0 S_cs hh1 hT__2d__2d_help hT__2d_h hcs) (argsL := [(.ref b400)]) (rest := []) rfl (W := 0) (nlq rfl) rfl (by decide) (by decide) (by decide) (by decide) nlr rfl ?_
      rintro _ hh430 ⟨rfl, K429⟩
      refine r_iload H 349 at_347 rfl rfl ?_
      refine r_ifneF H 352 at_349 rfl (by decide) ?_
      refine r_iload H 354 at_352 rfl rfl ?_
      refine r_ifeqT H 361 at_354 (by decide) (by decide) (by decide) ?_
      refine r_iconst H 362 (0 : Int32) at_361 (by decide) rfl ?_
      refine r_icmpneF H 365 at_362 rfl (by decide) ?_
      refine r_iconst H 366 (1 : Int32) at_365 (by decide) rfl ?_
      refine r_goto H 370 at_366 (by decide) (by decide) ?_
      exact r_nreturn (1 : Int32) H (by simp) at_370 (by decide) (by decide) (by decide) Z0 (by intro t ht; simp only [List.mem_cons] at ht ⊢; rcases ht with ht | ht | ht <;> simp [ht]) rfl
     ·
      have rr431 : 2 ≤ p296.toInt ∧ p296.toInt ≤ 2 := by have := rp296; have : (2 : Int32).toInt = 2 := (by decide); have hc_ := c417; simp only [Int32.lt_iff_toInt_lt, ← Int32.toInt_inj] at hc_; omega
      refine r_astore H 243 #[.val (.int x0), .val (.long x1), .second, .val (.long x2), .second, .val (.ref b1), .val (.int p36), .val (.int p38), .val (.int (1 : Int32)), .val (.int p296), .val (.ref b413), .unset, .unset] at_241 rfl rfl rfl ?_
      refine r_iload H 245 at_243 rfl rfl ?_
      refine r_bipush H 247 (6 : Int32) at_245 (by decide) rfl ?_
      refine r_icmpneT H 308 at_247 (by decide) (by decide) (by have := rr431; have : (6 : Int32).toInt = 6 := (by decide); simp only [Int32.lt_iff_toInt_lt, ← Int32.toInt_inj]; omega) ?_
      refine r_iconst H 309 (0 : Int32) at_308 (by decide) rfl ?_
      refine r_istore H 311 #[.val (.int x0), .val (.long x1), .second, .val (.long x2), .second, .val (.ref b1), .val (.int p36), .val (.int p38), .val (.int (1 : Int32)), .val (.int p296), .val (.ref b413), .val (.int (0 : Int32)), .unset] at_309 rfl rfl ?_
      refine r_iload H 313 at_311 rfl rfl ?_
      refine r_iconst H 314 (2 : Int32) at_313 (by decide) rfl ?_
      refine r_icmpneF H 317 at_314 rfl (by have := rr431; have : (2 : Int32).toInt = 2 := (by decide); simp only [Int32.lt_iff_toInt_lt, ← Int32.toInt_inj]; omega) ?_
      refine r_aload H 319 at_317 rfl rfl rfl ?_
      refine r_iconst H 320 (0 : Int32) at_319 (by decide) rfl ?_
      have q432 := (A395.keep K416 nin0)
      refine r_caload H 321 (45 : Int32) at_320 q432 (by decide) rfl rfl ?_
      refine r_bipush H 323 (45 : Int32) at_321 (by decide) rfl ?_
      refine r_icmpneF H 326 at_323 rfl (by decide) ?_
      refine r_aload H 328 at_326 rfl rfl rfl ?_
      refine r_iconst H 329 (1 : Int32) at_328 (by decide) rfl ?_
      refine r_caload H 330 p36 at_329 q432 (by decide) rfl rfl ?_
      refine r_bipush H 332 (104 : Int32) at_330 (by decide) rfl ?_
      refine Run.join (P := fun z => (if p36 = (104 : Int32) then (1 : Int32) else (0 : Int32)) = z ∧ (0 ≤ z.toInt ∧ z.toInt ≤ 1)) (pcB := 340) (LB := fun z => #[.val (.int x0), .val (.long x1), .second, .val (.long x2), .second, .val (.ref b1), .val (.int p36), .val (.int p38), .val (.int (1 : Int32)), .val (.int p296), .val (.ref b413), .val (.int (0 : Int32)), .unset]) (SB := fun z => [(.int z)]) (fun key => ?_) ?_
      ·
       refine r_icmpne H 339 335 at_332 (by decide) (by decide) rfl (fun c433 => ?_) (fun c433 => ?_)
       ·
        refine r_iconst H 340 (0 : Int32) at_339 (by decide) rfl ?_
        exact key (0 : Int32) ⟨(by rw [if_neg c433]), (by have : (0 : Int32).toInt = 0 := (by decide); omega)⟩
       ·
        have rr434 : 104 ≤ p36.toInt ∧ p36.toInt ≤ 104 := by have := rp36; have : (104 : Int32).toInt = 104 := (by decide); have hc_ := c433; simp only [Int32.lt_iff_toInt_lt, ← Int32.toInt_inj] at hc_; omega
        refine r_iconst H 336 (1 : Int32) at_335 (by decide) rfl ?_
        refine r_goto H 340 at_336 (by decide) (by decide) ?_
        exact key (1 : Int32) ⟨(by rw [if_pos c433]), (by have : (1 : Int32).toInt = 1 := (by decide); omega)⟩
      rintro p435 ⟨ep435, rp435⟩
      refine r_istore H 342 #[.val (.int x0), .val (.long x1), .second, .val (.long x2), .second, .val (.ref b1), .val (.int p36), .val (.int p38), .val (.int (1 : Int32)), .val (.int p296), .val (.ref b413), .val (.int (0 : Int32)), .val (.int p435)] at_340 rfl rfl ?_
      refine r_aload H 344 at_342 rfl rfl rfl ?_
      have z436 := Nat.le_trans z399 K416.1
      refine r_static H 347 at_344 (tw37 hw) (tw38 hw) (tw39 hw) (tw40 hw) (by decide) (lenOf pd_9 rfl) (rm_isHelp_18 hw Ts b413 b414 (cB8 (45 : Int32)) (cB8 p36) kc415 cs hh426 h0.size (nlt Zf Z0) z436 q421 q423 q424 q422 wS hcw hh0 S_cs hh1 hT__2d__2d_help hT__2d_h hcs) (argsL := [(.ref b413)]) (rest := []) rfl (W := 0) (nlq rfl) rfl (by decide) (by decide) (by decide) (by decide) nlr rfl ?_
      rintro _ hh439 ⟨p437, rfl, ep437, rp437, K438⟩
      refine r_iload H 349 at_347 rfl rfl ?_
      refine r_ifneF H 352 at_349 rfl (by decide) ?_
      refine r_iload H 354 at_352 rfl rfl ?_
      refine Run.join (P := fun z => (if p435 = (0 : Int32) then (0 : Int32) else (1 : Int32)) = z ∧ (0 ≤ z.toInt ∧ z.toInt ≤ 1)) (pcB := 362) (LB := fun z => #[.val (.int x0), .val (.long x1), .second, .val (.long x2), .second, .val (.ref b1), .val (.int p36), .val (.int p38), .val (.int (1 : Int32)), .val (.int p296), .val (.ref b413), .val (.int (0 : Int32)), .val (.int p435)]) (SB := fun z => [(.int z), (.int p437)]) (fun key => ?_) ?_
      ·
       refine r_ifeq H 361 357 at_354 (by decide) (by decide) rfl (fun c440 => ?_) (fun c440 => ?_)
       ·
        have rr441 : 0 ≤ p435.toInt ∧ p435.toInt ≤ 0 := by have := rp435; have : (0 : Int32).toInt = 0 := (by decide); have hc_ := c440; simp only [Int32.lt_iff_toInt_lt, ← Int32.toInt_inj] at hc_; omega
        refine r_iconst H 362 (0 : Int32) at_361 (by decide) rfl ?_
        exact key (0 : Int32) ⟨(by rw [if_pos c440]), (by have : (0 : Int32).toInt = 0 := (by decide); omega)⟩
       ·
        have rr442 : 1 ≤ p435.toInt ∧ p435.toInt ≤ 1 := by have := rp435; have : (0 : Int32).toInt = 0 := (by decide); have hc_ := c440; simp only [Int32.lt_iff_toInt_lt, ← Int32.toInt_inj] at hc_; omega
        refine r_iconst H 358 (1 : Int32) at_357 (by decide) rfl ?_
        refine r_goto H 362 at_358 (by decide) (by decide) ?_
        exact key (1 : Int32) ⟨(by rw [if_neg c440]), (by have : (1 : Int32).toInt = 1 := (by decide); omega)⟩
      rintro p443 ⟨ep443, rp443⟩
      refine Run.join (P := fun z => (if p437 = p443 then (1 : Int32) else (0 : Int32)) = z ∧ (0 ≤ z.toInt ∧ z.toInt ≤ 1)) (pcB := 370) (LB := fun z => #[.val (.int x0), .val (.long x1), .second, .val (.long x2), .second, .val (.ref b1), .val (.int p36), .val (.int p38), .val (.int (1 : Int32)), .val (.int p296), .val (.ref b413), .val (.int (0 : Int32)), .val (.int p435)]) (SB := fun z => [(.int z)]) (fun key => ?_) ?_
      ·
       refine r_icmpne H 369 365 at_362 (by decide) (by decide) rfl (fun c444 => ?_) (fun c444 => ?_)
       ·
        refine r_iconst H 370 (0 : Int32) at_369 (by decide) rfl ?_
        exact key (0 : Int32) ⟨(by rw [if_neg c444]), (by have : (0 : Int32).toInt = 0 := (by decide); omega)⟩
       ·
        refine r_iconst H 366 (1 : Int32) at_365 (by decide) rfl ?_
        refine r_goto H 370 at_366 (by decide) (by decide) ?_
        exact key (1 : Int32) ⟨(by rw [if_pos c444]), (by have : (1 : Int32).toInt = 1 := (by decide); omega)⟩
      rintro p445 ⟨ep445, rp445⟩
      have hone : p445 = 1 := by rw [← ep445, ← ep437, ← ep443, ← ep435]; exact lf_6 p36 rp36
      exact r_nreturn (1 : Int32) H (by simp) at_370 (by rw [hone]; decide) (by decide) (by decide) Z0 (by intro t ht; simp only [List.mem_cons] at ht ⊢; rcases ht with ht | ht | ht <;> simp [ht]) rfl
 ·
  have rr446 : 0 ≤ p38.toInt ∧ p38.toInt ≤ 0 := by have := rp38; have : (0 : Int32).toInt = 0 := (by decide); have hc_ := c42; simp only [Int32.lt_iff_toInt_lt, ← Int32.toInt_inj] at hc_; omega
  refine r_aload H 119 at_117 rfl rfl rfl ?_
  refine r_iconst H 120 (0 : Int32) at_119 (by decide) rfl ?_
  refine r_bipush H 122 (45 : Int32) at_120 (by decide) rfl ?_
  refine r_castore H 123 (45 : Int32) at_122 A33 (by decide) (Nat.le_of_ble_eq_true rfl) (nlt nlr (Nat.le_of_eq g1.symm)) (by decide) rfl ?_
  intro h447 K447 A447
  have q448 := (q34.keep K33)
  change Ar Z h447 b1 kc1 .char [(.int (45 : Int32)), (.int p6), (.int p11), (.int p16), (.int p21), (.int p26), (.int p31)] at A447
  refine r_aload H 125 at_123 rfl rfl rfl ?_
  refine r_iconst H 126 (1 : Int32) at_125 (by decide) rfl ?_
  refine r_bipush H 128 (45 : Int32) at_126 (by decide) rfl ?_
  refine r_castore H 129 (45 : Int32) at_128 A447 (by decide) (Nat.le_of_ble_eq_true rfl) (nlt nlr (Nat.le_of_eq g1.symm)) (by decide) rfl ?_
  intro h449 K449 A449
  have q450 := (q448.keep K447)
  change Ar Z h449 b1 kc1 .char [(.int (45 : Int32)), (.int (45 : Int32)), (.int p11), (.int p16), (.int p21), (.int p26), (.int p31)] at A449
  refine r_aload H 131 at_129 rfl rfl rfl ?_
  refine r_iconst H 132 (2 : Int32) at_131 (by decide) rfl ?_
  refine r_bipush H 134 (104 : Int32) at_132 (by decide) rfl ?_
  refine r_castore H 135 (104 : Int32) at_134 A449 (by decide) (Nat.le_of_ble_eq_true rfl) (nlt nlr (Nat.le_of_eq g1.symm)) (by decide) rfl ?_
  intro h451 K451 A451
  have q452 := (q450.keep K449)
  change Ar Z h451 b1 kc1 .char [(.int (45 : Int32)), (.int (45 : Int32)), (.int (104 : Int32)), (.int p16), (.int p21), (.int p26), (.int p31)] at A451
  refine r_aload H 137 at_135 rfl rfl rfl ?_
  refine r_iconst H 138 (3 : Int32) at_137 (by decide) rfl ?_
  refine r_bipush H 140 (101 : Int32) at_138 (by decide) rfl ?_
  refine r_castore H 141 (101 : Int32) at_140 A451 (by decide) (Nat.le_of_ble_eq_true rfl) (nlt nlr (Nat.le_of_eq g1.symm)) (by decide) rfl ?_
  intro h453 K453 A453
  have q454 := (q452.keep K451)
  change Ar Z h453 b1 kc1 .char [(.int (45 : Int32)), (.int (45 : Int32)), (.int (104 : Int32)), (.int (101 : Int32)), (.int p21), (.int p26), (.int p31)] at A453
  refine r_aload H 143 at_141 rfl rfl rfl ?_
  refine r_iconst H 144 (4 : Int32) at_143 (by decide) rfl ?_
  refine r_bipush H 146 (108 : Int32) at_144 (by decide) rfl ?_
  refine r_castore H 147 (108 : Int32) at_146 A453 (by decide) (Nat.le_of_ble_eq_true rfl) (nlt nlr (Nat.le_of_eq g1.symm)) (by decide) rfl ?_
  intro h455 K455 A455
  have q456 := (q454.keep K453)
  change Ar Z h455 b1 kc1 .char [(.int (45 : Int32)), (.int (45 : Int32)), (.int (104 : Int32)), (.int (101 : Int32)), (.int (108 : Int32)), (.int p26), (.int p31)] at A455
  refine r_aload H 149 at_147 rfl rfl rfl ?_
  refine r_iconst H 150 (5 : Int32) at_149 (by decide) rfl ?_
  refine r_bipush H 152 (112 : Int32) at_150 (by decide) rfl ?_
  refine r_castore H 153 (112 : Int32) at_152 A455 (by decide) (Nat.le_of_ble_eq_true rfl) (nlt nlr (Nat.le_of_eq g1.symm)) (by decide) rfl ?_
  intro h457 K457 A457
  have q458 := (q456.keep K455)
  change Ar Z h457 b1 kc1 .char [(.int (45 : Int32)), (.int (45 : Int32)), (.int (104 : Int32)), (.int (101 : Int32)), (.int (108 : Int32)), (.int (112 : Int32)), (.int p31)] at A457
  refine r_bipush H 155 (6 : Int32) at_153 (by decide) rfl ?_
  refine r_iloadN H 156 at_155 rfl rfl ?_
  refine r_iconst H 157 (2 : Int32) at_156 (by decide) rfl ?_
  obtain ⟨p459, ep459, rp459⟩ : ∃ p : Int32, (ush32 x0 (2 : Int32)) = p ∧ 0 ≤ p.toInt ∧ p.toInt ≤ 1073741823 := ⟨_, rfl, (by have h1 := ushr_eq x0 (2 : Int32) 2 (by decide) (by decide); have h2 := rng32 x0; omega)⟩
  refine r_iushr H 158 p459 at_157 ep459 rfl ?_
  refine r_iconst H 159 (1 : Int32) at_158 (by decide) rfl ?_
  obtain ⟨p460, ep460, rp460⟩ : ∃ p : Int32, (p459 &&& (1 : Int32)) = p ∧ 0 ≤ p.toInt ∧ p.toInt ≤ 1 := ⟨_, rfl, (by have h := c_and p459 (1 : Int32) (by decide); have : (1 : Int32).toInt = 1 := (by decide); omega)⟩
  refine r_iand H 160 p460 at_159 ep460 rfl ?_
  obtain ⟨p461, ep461, rp461⟩ : ∃ p : Int32, ((6 : Int32) + p460) = p ∧ 6 ≤ p.toInt ∧ p.toInt ≤ 7 := ⟨_, rfl, (by have : (6 : Int32).toInt = 6 := (by decide); have := rp460; have h1 := c_iadd (6 : Int32) p460; have h2 := rng32 ((6 : Int32) + p460); omega)⟩
  refine r_iadd H 161 p461 at_160 ep461 rfl ?_
  refine r_istore H 163 #[.val (.int x0), .val (.long x1), .second, .val (.long x2), .second, .val (.ref b1), .val (.int p36), .val (.int p38), .val (.int p41), .val (.int p461), .unset, .unset, .unset] at_161 rfl rfl ?_
  refine r_iload H 165 at_163 rfl rfl ?_
  refine r_bipush H 167 (6 : Int32) at_165 (by decide) rfl ?_
  refine r_icmpge H 234 170 at_167 (by decide) (by decide) rfl (fun c462 => ?_) (fun c462 => ?_)
  ·
   have rr463 : 6 ≤ p41.toInt ∧ p41.toInt ≤ 7 := by have := rp41; have : (6 : Int32).toInt = 6 := (by decide); have hc_ := c462; simp only [Int32.lt_iff_toInt_lt, ← Int32.toInt_inj] at hc_; omega
   refine r_aload H 236 at_234 rfl rfl rfl ?_
   refine r_iload H 238 at_236 rfl rfl ?_
   have z464 := Nat.le_trans z35 K447.1
   have z465 := Nat.le_trans z464 K449.1
   have z466 := Nat.le_trans z465 K451.1
   have z467 := Nat.le_trans z466 K453.1
   have z468 := Nat.le_trans z467 K455.1
   have z469 := Nat.le_trans z468 K457.1
   refine r_static H 241 at_238 (tw5 hw) (tw6 hw) (tw3 hw) (tw7 hw) (by decide) (lenOf pd_6 rfl) (rm_word_23 hw Ts b1 p461 (45 : Int32) (45 : Int32) (104 : Int32) (101 : Int32) (108 : Int32) (112 : Int32) p31 kc1 cs h457 h0.size (nlt Zf Z0) z469 A457 rp461 (by have : (45 : Int32).toInt = 45 := (by decide); omega) (by have : (45 : Int32).toInt = 45 := (by decide); omega) (by have : (104 : Int32).toInt = 104 := (by decide); omega) (by have : (101 : Int32).toInt = 101 := (by decide); omega) (by have : (108 : Int32).toInt = 108 := (by decide); omega) (by have : (112 : Int32).toInt = 112 := (by decide); omega) (by have := rp31; omega) S_cs hcs) (argsL := [(.ref b1), (.int p461)]) (rest := []) rfl (W := 0) (nlq rfl) rfl (by decide) (by decide) (by decide) (by decide) nlr rfl ?_
   rintro _ hh496 (⟨b470, b471, kc472, rfl, c474, K473, g475, g476, g477, q478, q479, q480, q481, q482⟩ | ⟨b483, b484, kc485, rfl, c487, K486, g488, g489, g490, q491, q492, q493, q494, q495⟩)
   ·
    have rr497 : 7 ≤ p461.toInt ∧ p461.toInt ≤ 7 := by have := rp461; have : (6 : Int32).toInt = 6 := (by decide); have hc_ := c474; simp only [Int32.lt_iff_toInt_lt, ← Int32.toInt_inj] at hc_; omega
    refine r_astore H 243 #[.val (.int x0), .val (.long x1), .second, .val (.long x2), .second, .val (.ref b1), .val (.int p36), .val (.int p38), .val (.int p41), .val (.int p461), .val (.ref b470), .unset, .unset] at_241 rfl rfl rfl ?_
    refine r_iload H 245 at_243 rfl rfl ?_
    refine r_bipush H 247 (6 : Int32) at_245 (by decide) rfl ?_
    refine r_icmpneT H 308 at_247 (by decide) (by decide) (by have := rr497; have : (6 : Int32).toInt = 6 := (by decide); simp only [Int32.lt_iff_toInt_lt, ← Int32.toInt_inj]; omega) ?_
    refine r_iconst H 309 (0 : Int32) at_308 (by decide) rfl ?_
    refine r_istore H 311 #[.val (.int x0), .val (.long x1), .second, .val (.long x2), .second, .val (.ref b1), .val (.int p36), .val (.int p38), .val (.int p41), .val (.int p461), .val (.ref b470), .val (.int (0 : Int32)), .unset] at_309 rfl rfl ?_
    refine r_iload H 313 at_311 rfl rfl ?_
    refine r_iconst H 314 (2 : Int32) at_313 (by decide) rfl ?_
    refine r_icmpneT H 339 at_314 (by decide) (by decide) (by have := rr497; have : (2 : Int32).toInt = 2 := (by decide); simp only [Int32.lt_iff_toInt_lt, ← Int32.toInt_inj]; omega) ?_
    refine r_iconst H 340 (0 : Int32) at_339 (by decide) rfl ?_
    refine r_istore H 342 #[.val (.int x0), .val (.long x1), .second, .val (.long x2), .second, .val (.ref b1), .val (.int p36), .val (.int p38), .val (.int p41), .val (.int p461), .val (.ref b470), .val (.int (0 : Int32)), .val (.int (0 : Int32))] at_340 rfl rfl ?_
    refine r_aload H 344 at_342 rfl rfl rfl ?_
    have z498 := Nat.le_trans z469 K473.1
    refine r_static H 347 at_344 (tw37 hw) (tw38 hw) (tw39 hw) (tw40 hw) (by decide) (lenOf pd_9 rfl) (rm_isHelp_34 hw Ts b470 b471 (cB8 (45 : Int32)) (cB8 (45 : Int32)) (cB8 (104 : Int32)) (cB8 (101 : Int32)) (cB8 (108 : Int32)) (cB8 (112 : Int32)) (cB8 p31) kc472 cs hh496 h0.size (nlt Zf Z0) z498 q478 q480 q481 q479 wS hcw hh0 S_cs hh1 hT__2d__2d_help hT__2d_h hcs) (argsL := [(.ref b470)]) (rest := []) rfl (W := 0) (nlq rfl) rfl (by decide) (by decide) (by decide) (by decide) nlr rfl ?_
    rintro _ hh500 ⟨rfl, K499⟩
    refine r_iload H 349 at_347 rfl rfl ?_
    refine r_ifneF H 352 at_349 rfl (by decide) ?_
    refine r_iload H 354 at_352 rfl rfl ?_
    refine r_ifeqT H 361 at_354 (by decide) (by decide) (by decide) ?_
    refine r_iconst H 362 (0 : Int32) at_361 (by decide) rfl ?_
    refine r_icmpneF H 365 at_362 rfl (by decide) ?_
    refine r_iconst H 366 (1 : Int32) at_365 (by decide) rfl ?_
    refine r_goto H 370 at_366 (by decide) (by decide) ?_
    exact r_nreturn (1 : Int32) H (by simp) at_370 (by decide) (by decide) (by decide) Z0 (by intro t ht; simp only [List.mem_cons] at ht ⊢; rcases ht with ht | ht | ht <;> simp [ht]) rfl
   ·
    have rr501 : 6 ≤ p461.toInt ∧ p461.toInt ≤ 6 := by have := rp461; have : (6 : Int32).toInt = 6 := (by decide); have hc_ := c487; simp only [Int32.lt_iff_toInt_lt, ← Int32.toInt_inj] at hc_; omega
    refine r_astore H 243 #[.val (.int x0), .val (.long x1), .second, .val (.long x2), .second, .val (.ref b1), .val (.int p36), .val (.int p38), .val (.int p41), .val (.int p461), .val (.ref b483), .unset, .unset] at_241 rfl rfl rfl ?_
    refine r_iload H 245 at_243 rfl rfl ?_
    refine r_bipush H 247 (6 : Int32) at_245 (by decide) rfl ?_
    refine r_icmpneF H 250 at_247 rfl (by have := rr501; have : (6 : Int32).toInt = 6 := (by decide); simp only [Int32.lt_iff_toInt_lt, ← Int32.toInt_inj]; omega) ?_
    refine r_aload H 252 at_250 rfl rfl rfl ?_
    refine r_iconst H 253 (0 : Int32) at_252 (by decide) rfl ?_
    have q502 := (A457.keep K486 nin0)
    refine r_caload H 254 (45 : Int32) at_253 q502 (by decide) rfl rfl ?_
    refine r_bipush H 256 (45 : Int32) at_254 (by decide) rfl ?_
    refine r_icmpneF H 259 at_256 rfl (by decide) ?_
    refine r_aload H 261 at_259 rfl rfl rfl ?_
    refine r_iconst H 262 (1 : Int32) at_261 (by decide) rfl ?_
    refine r_caload H 263 (45 : Int32) at_262 q502 (by decide) rfl rfl ?_
    refine r_bipush H 265 (45 : Int32) at_263 (by decide) rfl ?_
    refine r_icmpneF H 268 at_265 rfl (by decide) ?_
    refine r_aload H 270 at_268 rfl rfl rfl ?_
    refine r_iconst H 271 (2 : Int32) at_270 (by decide) rfl ?_
    refine r_caload H 272 (104 : Int32) at_271 q502 (by decide) rfl rfl ?_
    refine r_bipush H 274 (104 : Int32) at_272 (by decide) rfl ?_
    refine r_icmpneF H 277 at_274 rfl (by decide) ?_
    refine r_aload H 279 at_277 rfl rfl rfl ?_
    refine r_iconst H 280 (3 : Int32) at_279 (by decide) rfl ?_
    refine r_caload H 281 (101 : Int32) at_280 q502 (by decide) rfl rfl ?_
    refine r_bipush H 283 (101 : Int32) at_281 (by decide) rfl ?_
    refine r_icmpneF H 286 at_283 rfl (by decide) ?_
    refine r_aload H 288 at_286 rfl rfl rfl ?_
    refine r_iconst H 289 (4 : Int32) at_288 (by decide) rfl ?_
    refine r_caload H 290 (108 : Int32) at_289 q502 (by decide) rfl rfl ?_
    refine r_bipush H 292 (108 : Int32) at_290 (by decide) rfl ?_
    refine r_icmpneF H 295 at_292 rfl (by decide) ?_
    refine r_aload H 297 at_295 rfl rfl rfl ?_
    refine r_iconst H 298 (5 : Int32) at_297 (by decide) rfl ?_
    refine r_caload H 299 (112 : Int32) at_298 q502 (by decide) rfl rfl ?_
    refine r_bipush H 301 (112 : Int32) at_299 (by decide) rfl ?_
    refine r_icmpneF H 304 at_301 rfl (by decide) ?_
    refine r_iconst H 305 (1 : Int32) at_304 (by decide) rfl ?_
    refine r_goto H 309 at_305 (by decide) (by decide) ?_
    refine r_istore H 311 #[.val (.int x0), .val (.long x1), .second, .val (.long x2), .second, .val (.ref b1), .val (.int p36), .val (.int p38), .val (.int p41), .val (.int p461), .val (.ref b483), .val (.int (1 : Int32)), .unset] at_309 rfl rfl ?_
    refine r_iload H 313 at_311 rfl rfl ?_
    refine r_iconst H 314 (2 : Int32) at_313 (by decide) rfl ?_
    refine r_icmpneT H 339 at_314 (by decide) (by decide) (by have := rr501; have : (2 : Int32).toInt = 2 := (by decide); simp only [Int32.lt_iff_toInt_lt, ← Int32.toInt_inj]; omega) ?_
    refine r_iconst H 340 (0 : Int32) at_339 (by decide) rfl ?_
    refine r_istore H 342 #[.val (.int x0), .val (.long x1), .second, .val (.long x2), .second, .val (.ref b1), .val (.int p36), .val (.int p38), .val (.int p41), .val (.int p461), .val (.ref b483), .val (.int (1 : Int32)), .val (.int (0 : Int32))] at_340 rfl rfl ?_
    refine r_aload H 344 at_342 rfl rfl rfl ?_
    have z503 := Nat.le_trans z469 K486.1
    refine r_static H 347 at_344 (tw37 hw) (tw38 hw) (tw39 hw) (tw40 hw) (by decide) (lenOf pd_9 rfl) (rm_isHelp_39 hw Ts b483 b484 (cB8 (45 : Int32)) (cB8 (45 : Int32)) (cB8 (104 : Int32)) (cB8 (101 : Int32)) (cB8 (108 : Int32)) (cB8 (112 : Int32)) kc485 cs hh496 h0.size (nlt Zf Z0) z503 q491 q493 q494 q492 wS hcw hh0 S_cs hh1 hT__2d__2d_help hT__2d_h hcs) (argsL := [(.ref b483)]) (rest := []) rfl (W := 0) (nlq rfl) rfl (by decide) (by decide) (by decide) (by decide) nlr rfl ?_
    rintro _ hh508 (⟨rfl, c505, K504⟩ | ⟨rfl, c507, K506⟩)
    ·
     refine r_iload H 349 at_347 rfl rfl ?_
     refine r_ifneT H 357 at_349 (by decide) (by decide) (by decide) ?_
     refine r_iconst H 358 (1 : Int32) at_357 (by decide) rfl ?_
     refine r_goto H 362 at_358 (by decide) (by decide) ?_
     refine r_icmpneF H 365 at_362 rfl (by decide) ?_
     refine r_iconst H 366 (1 : Int32) at_365 (by decide) rfl ?_
     refine r_goto H 370 at_366 (by decide) (by decide) ?_
     exact r_nreturn (1 : Int32) H (by simp) at_370 (by decide) (by decide) (by decide) Z0 (by intro t ht; simp only [List.mem_cons] at ht ⊢; rcases ht with ht | ht | ht <;> simp [ht]) rfl
    ·
     refine r_iload H 349 at_347 rfl rfl ?_
     refine r_ifneT H 357 at_349 (by decide) (by decide) (by decide) ?_
     refine r_iconst H 358 (1 : Int32) at_357 (by decide) rfl ?_
     refine r_goto H 362 at_358 (by decide) (by decide) ?_
     refine r_icmpneT H 369 at_362 (by decide) (by decide) (by decide) ?_
     refine r_iconst H 370 (0 : Int32) at_369 (by decide) rfl ?_
     have hone : (0 : Int32) = 1 := by exact lf_7 c507
     exact r_nreturn (1 : Int32) H (by simp) at_370 (by rw [hone]; decide) (by decide) (by decide) Z0 (by intro t ht; simp only [List.mem_cons] at ht ⊢; rcases ht with ht | ht | ht <;> simp [ht]) rfl
  ·
   have rr509 : 0 ≤ p41.toInt ∧ p41.toInt ≤ 5 := by have := rp41; have : (6 : Int32).toInt = 6 := (by decide); have hc_ := c462; simp only [Int32.lt_iff_toInt_lt, ← Int32.toInt_inj] at hc_; omega
   refine r_aload H 172 at_170 rfl rfl rfl ?_
   refine r_iload H 174 at_172 rfl rfl ?_
   refine r_iload H 176 at_174 rfl rfl ?_
   have c510 : p41 = (0 : Int32) ∨ p41 = (1 : Int32) ∨ p41 = (2 : Int32) ∨ p41 = (3 : Int32) ∨ p41 = (4 : Int32) ∨ p41 = (5 : Int32) := by
    have := rr509; simp only [← Int32.toInt_inj]; have : (0 : Int32).toInt = 0 := (by decide); have : (1 : Int32).toInt = 1 := (by decide); have : (2 : Int32).toInt = 2 := (by decide); have : (3 : Int32).toInt = 3 := (by decide); have : (4 : Int32).toInt = 4 := (by decide); have : (5 : Int32).toInt = 5 := (by decide); omega
   rcases c510 with c510 | c510 | c510 | c510 | c510 | c510
   ·
    subst c510
    refine r_castore H 177 p36 at_176 A457 (by decide) (Nat.le_of_ble_eq_true rfl) (nlt nlr (Nat.le_of_eq g1.symm)) (nar_char_id (by have := rp36; omega)) rfl ?_
    intro h511 K511 A511
    have q512 := (q458.keep K457)
    change Ar Z h511 b1 kc1 .char [(.int p36), (.int (45 : Int32)), (.int (104 : Int32)), (.int (101 : Int32)), (.int (108 : Int32)), (.int (112 : Int32)), (.int p31)] at A511
    refine r_goto H 234 at_177 (by decide) (by decide) ?_
    refine r_aload H 236 at_234 rfl rfl rfl ?_
    refine r_iload H 238 at_236 rfl rfl ?_
    have z513 := Nat.le_trans z35 K447.1
    have z514 := Nat.le_trans z513 K449.1
    have z515 := Nat.le_trans z514 K451.1
    have z516 := Nat.le_trans z515 K453.1
    have z517 := Nat.le_trans z516 K455.1
    have z518 := Nat.le_trans z517 K457.1
    have z519 := Nat.le_trans z518 K511.1
    refine r_static H 241 at_238 (tw5 hw) (tw6 hw) (tw3 hw) (tw7 hw) (by decide) (lenOf pd_6 rfl) (rm_word_23 hw Ts b1 p461 p36 (45 : Int32) (104 : Int32) (101 : Int32) (108 : Int32) (112 : Int32) p31 kc1 cs h511 h0.size (nlt Zf Z0) z519 A511 rp461 (by have := rp36; omega) (by have : (45 : Int32).toInt = 45 := (by decide); omega) (by have : (104 : Int32).toInt = 104 := (by decide); omega) (by have : (101 : Int32).toInt = 101 := (by decide); omega) (by have : (108 : Int32).toInt = 108 := (by decide); omega) (by have : (112 : Int32).toInt = 112 := (by decide); omega) (by have := rp31; omega) S_cs hcs) (argsL := [(.ref b1), (.int p461)]) (rest := []) rfl (W := 0) (nlq rfl) rfl (by decide) (by decide) (by decide) (by decide) nlr rfl ?_
    rintro _ hh546 (⟨b520, b521, kc522, rfl, c524, K523, g525, g526, g527, q528, q529, q530, q531, q532⟩ | ⟨b533, b534, kc535, rfl, c537, K536, g538, g539, g540, q541, q542, q543, q544, q545⟩)
    ·
     have rr547 : 7 ≤ p461.toInt ∧ p461.toInt ≤ 7 := by have := rp461; have : (6 : Int32).toInt = 6 := (by decide); have hc_ := c524; simp only [Int32.lt_iff_toInt_lt, ← Int32.toInt_inj] at hc_; omega
     refine r_astore H 243 #[.val (.int x0), .val (.long x1), .second, .val (.long x2), .second, .val (.ref b1), .val (.int p36), .val (.int p38), .val (.int (0 : Int32)), .val (.int p461), .val (.ref b520), .unset, .unset] at_241 rfl rfl rfl ?_
     refine r_iload H 245 at_243 rfl rfl ?_
     refine r_bipush H 247 (6 : Int32) at_245 (by decide) rfl ?_
     refine r_icmpneT H 308 at_247 (by decide) (by decide) (by have := rr547; have : (6 : Int32).toInt = 6 := (by decide); simp only [Int32.lt_iff_toInt_lt, ← Int32.toInt_inj]; omega) ?_
     refine r_iconst H 309 (0 : Int32) at_308 (by decide) rfl ?_
     refine r_istore H 311 #[.val (.int x0), .val (.long x1), .second, .val (.long x2), .second, .val (.ref b1), .val (.int p36), .val (.int p38), .val (.int (0 : Int32)), .val (.int p461), .val (.ref b520), .val (.int (0 : Int32)), .unset] at_309 rfl rfl ?_
     refine r_iload H 313 at_311 rfl rfl ?_
     refine r_iconst H 314 (2 : Int32) at_313 (by decide) rfl ?_
     refine r_icmpneT H 339 at_314 (by decide) (by decide) (by have := rr547; have : (2 : Int32).toInt = 2 := (by decide); simp only [Int32.lt_iff_toInt_lt, ← Int32.toInt_inj]; omega) ?_
     refine r_iconst H 340 (0 : Int32) at_339 (by decide) rfl ?_
     refine r_istore H 342 #[.val (.int x0), .val (.long x1), .second, .val (.long x2), .second, .val (.ref b1), .val (.int p36), .val (.int p38), .val (.int (0 : Int32)), .val (.int p461), .val (.ref b520), .val (.int (0 : Int32)), .val (.int (0 : Int32))] at_340 rfl rfl ?_
     refine r_aload H 344 at_342 rfl rfl rfl ?_
     have z548 := Nat.le_trans z519 K523.1
     refine r_static H 347 at_344 (tw37 hw) (tw38 hw) (tw39 hw) (tw40 hw) (by decide) (lenOf pd_9 rfl) (rm_isHelp_34 hw Ts b520 b521 (cB8 p36) (cB8 (45 : Int32)) (cB8 (104 : Int32)) (cB8 (101 : Int32)) (cB8 (108 : Int32)) (cB8 (112 : Int32)) (cB8 p31) kc522 cs hh546 h0.size (nlt Zf Z0) z548 q528 q530 q531 q529 wS hcw hh0 S_cs hh1 hT__2d__2d_help hT__2d_h hcs) (argsL := [(.ref b520)]) (rest := []) rfl (W := 0) (nlq rfl) rfl (by decide) (by decide) (by decide) (by decide) nlr rfl ?_
     rintro _ hh550 ⟨rfl, K549⟩
     refine r_iload H 349 at_347 rfl rfl ?_
     refine r_ifneF H 352 at_349 rfl (by decide) ?_
     refine r_iload H 354 at_352 rfl rfl ?_
     refine r_ifeqT H 361 at_354 (by decide) (by decide) (by decide) ?_
     refine r_iconst H 362 (0 : Int32) at_361 (by decide) rfl ?_
     refine r_icmpneF H 365 at_362 rfl (by decide) ?_
     refine r_iconst H 366 (1 : Int32) at_365 (by decide) rfl ?_
     refine r_goto H 370 at_366 (by decide) (by decide) ?_
     exact r_nreturn (1 : Int32) H (by simp) at_370 (by decide) (by decide) (by decide) Z0 (by intro t ht; simp only [List.mem_cons] at ht ⊢; rcases ht with ht | ht | ht <;> simp [ht]) rfl
    ·
     have rr551 : 6 ≤ p461.toInt ∧ p461.toInt ≤ 6 := by have := rp461; have : (6 : Int32).toInt = 6 := (by decide); have hc_ := c537; simp only [Int32.lt_iff_toInt_lt, ← Int32.toInt_inj] at hc_; omega
     refine r_astore H 243 #[.val (.int x0), .val (.long x1), .second, .val (.long x2), .second, .val (.ref b1), .val (.int p36), .val (.int p38), .val (.int (0 : Int32)), .val (.int p461), .val (.ref b533), .unset, .unset] at_241 rfl rfl rfl ?_
     refine r_iload H 245 at_243 rfl rfl ?_
     refine r_bipush H 247 (6 : Int32) at_245 (by decide) rfl ?_
     refine r_icmpneF H 250 at_247 rfl (by have := rr551; have : (6 : Int32).toInt = 6 := (by decide); simp only [Int32.lt_iff_toInt_lt, ← Int32.toInt_inj]; omega) ?_
     refine r_aload H 252 at_250 rfl rfl rfl ?_
     refine r_iconst H 253 (0 : Int32) at_252 (by decide) rfl ?_
     have q552 := (A511.keep K536 nin0)
     refine r_caload H 254 p36 at_253 q552 (by decide) rfl rfl ?_
     refine r_bipush H 256 (45 : Int32) at_254 (by decide) rfl ?_
     refine Run.join (P := fun z => (if p36 = (45 : Int32) then (1 : Int32) else (0 : Int32)) = z ∧ (0 ≤ z.toInt ∧ z.toInt ≤ 1)) (pcB := 309) (LB := fun z => #[.val (.int x0), .val (.long x1), .second, .val (.long x2), .second, .val (.ref b1), .val (.int p36), .val (.int p38), .val (.int (0 : Int32)), .val (.int p461), .val (.ref b533), .unset, .unset]) (SB := fun z => [(.int z)]) (fun key => ?_) ?_
     ·
      refine r_icmpne H 308 259 at_256 (by decide) (by decide) rfl (fun c553 => ?_) (fun c553 => ?_)
      ·
       refine r_iconst H 309 (0 : Int32) at_308 (by decide) rfl ?_
       exact key (0 : Int32) ⟨(by rw [if_neg c553]), (by have : (0 : Int32).toInt = 0 := (by decide); omega)⟩
      ·
       have rr554 : 45 ≤ p36.toInt ∧ p36.toInt ≤ 45 := by have := rp36; have : (45 : Int32).toInt = 45 := (by decide); have hc_ := c553; simp only [Int32.lt_iff_toInt_lt, ← Int32.toInt_inj] at hc_; omega
       refine r_aload H 261 at_259 rfl rfl rfl ?_
       refine r_iconst H 262 (1 : Int32) at_261 (by decide) rfl ?_
       refine r_caload H 263 (45 : Int32) at_262 q552 (by decide) rfl rfl ?_
       refine r_bipush H 265 (45 : Int32) at_263 (by decide) rfl ?_
       refine r_icmpneF H 268 at_265 rfl (by decide) ?_
       refine r_aload H 270 at_268 rfl rfl rfl ?_
       refine r_iconst H 271 (2 : Int32) at_270 (by decide) rfl ?_
       refine r_caload H 272 (104 : Int32) at_271 q552 (by decide) rfl rfl ?_
       refine r_bipush H 274 (104 : Int32) at_272 (by decide) rfl ?_
       refine r_icmpneF H 277 at_274 rfl (by decide) ?_
       refine r_aload H 279 at_277 rfl rfl rfl ?_
       refine r_iconst H 280 (3 : Int32) at_279 (by decide) rfl ?_
       refine r_caload H 281 (101 : Int32) at_280 q552 (by decide) rfl rfl ?_
       refine r_bipush H 283 (101 : Int32) at_281 (by decide) rfl ?_
       refine r_icmpneF H 286 at_283 rfl (by decide) ?_
       refine r_aload H 288 at_286 rfl rfl rfl ?_
       refine r_iconst H 289 (4 : Int32) at_288 (by decide) rfl ?_
       refine r_caload H 290 (108 : Int32) at_289 q552 (by decide) rfl rfl ?_
       refine r_bipush H 292 (108 : Int32) at_290 (by decide) rfl ?_
       refine r_icmpneF H 295 at_292 rfl (by decide) ?_
       refine r_aload H 297 at_295 rfl rfl rfl ?_
       refine r_iconst H 298 (5 : Int32) at_297 (by decide) rfl ?_
       refine r_caload H 299 (112 : Int32) at_298 q552 (by decide) rfl rfl ?_
       refine r_bipush H 301 (112 : Int32) at_299 (by decide) rfl ?_
       refine r_icmpneF H 304 at_301 rfl (by decide) ?_
       refine r_iconst H 305 (1 : Int32) at_304 (by decide) rfl ?_
       refine r_goto H 309 at_305 (by decide) (by decide) ?_
       exact key (1 : Int32) ⟨(by rw [if_pos c553]), (by have : (1 : Int32).toInt = 1 := (by decide); omega)⟩
     rintro p555 ⟨ep555, rp555⟩
     refine r_istore H 311 #[.val (.int x0), .val (.long x1), .second, .val (.long x2), .second, .val (.ref b1), .val (.int p36), .val (.int p38), .val (.int (0 : Int32)), .val (.int p461), .val (.ref b533), .val (.int p555), .unset] at_309 rfl rfl ?_
     refine r_iload H 313 at_311 rfl rfl ?_
     refine r_iconst H 314 (2 : Int32) at_313 (by decide) rfl ?_
     refine r_icmpneT H 339 at_314 (by decide) (by decide) (by have := rr551; have : (2 : Int32).toInt = 2 := (by decide); simp only [Int32.lt_iff_toInt_lt, ← Int32.toInt_inj]; omega) ?_
     refine r_iconst H 340 (0 : Int32) at_339 (by decide) rfl ?_
     refine r_istore H 342 #[.val (.int x0), .val (.long x1), .second, .val (.long x2), .second, .val (.ref b1), .val (.int p36), .val (.int p38), .val (.int (0 : Int32)), .val (.int p461), .val (.ref b533), .val (.int p555), .val (.int (0 : Int32))] at_340 rfl rfl ?_
     refine r_aload H 344 at_342 rfl rfl rfl ?_
     have z556 := Nat.le_trans z519 K536.1
     refine r_static H 347 at_344 (tw37 hw) (tw38 hw) (tw39 hw) (tw40 hw) (by decide) (lenOf pd_9 rfl) (rm_isHelp_39 hw Ts b533 b534 (cB8 p36) (cB8 (45 : Int32)) (cB8 (104 : Int32)) (cB8 (101 : Int32)) (cB8 (108 : Int32)) (cB8 (112 : Int32)) kc535 cs hh546 h0.size (nlt Zf Z0) z556 q541 q543 q544 q542 wS hcw hh0 S_cs hh1 hT__2d__2d_help hT__2d_h hcs) (argsL := [(.ref b533)]) (rest := []) rfl (W := 0) (nlq rfl) rfl (by decide) (by decide) (by decide) (by decide) nlr rfl ?_
     rintro _ hh561 (⟨rfl, c558, K557⟩ | ⟨rfl, c560, K559⟩)
     ·
      refine r_iload H 349 at_347 rfl rfl ?_
      refine Run.join (P := fun z => (if p555 = (0 : Int32) then (0 : Int32) else (1 : Int32)) = z ∧ (0 ≤ z.toInt ∧ z.toInt ≤ 1)) (pcB := 362) (LB := fun z => #[.val (.int x0), .val (.long x1), .second, .val (.long x2), .second, .val (.ref b1), .val (.int p36), .val (.int p38), .val (.int (0 : Int32)), .val (.int p461), .val (.ref b533), .val (.int p555), .val (.int (0 : Int32))]) (SB := fun z => [(.int z), (.int (1 : Int32))]) (fun key => ?_) ?_
      ·
       refine r_ifne H 357 352 at_349 (by decide) (by decide) rfl (fun c562 => ?_) (fun c562 => ?_)
       ·
        have rr563 : 1 ≤ p555.toInt ∧ p555.toInt ≤ 1 := by have := rp555; have : (0 : Int32).toInt = 0 := (by decide); have hc_ := c562; simp only [Int32.lt_iff_toInt_lt, ← Int32.toInt_inj] at hc_; omega
        refine r_iconst H 358 (1 : Int32) at_357 (by decide) rfl ?_
        refine r_goto H 362 at_358 (by decide) (by decide) ?_
        exact key (1 : Int32) ⟨(by rw [if_neg c562]), (by have : (1 : Int32).toInt = 1 := (by decide); omega)⟩
       ·
        have rr564 : 0 ≤ p555.toInt ∧ p555.toInt ≤ 0 := by have := rp555; have : (0 : Int32).toInt = 0 := (by decide); have hc_ := c562; simp only [Int32.lt_iff_toInt_lt, ← Int32.toInt_inj] at hc_; omega
        refine r_iload H 354 at_352 rfl rfl ?_
        refine r_ifeqT H 361 at_354 (by decide) (by decide) (by decide) ?_
        refine r_iconst H 362 (0 : Int32) at_361 (by decide) rfl ?_
        exact key (0 : Int32) ⟨(by rw [if_pos c562]), (by have : (0 : Int32).toInt = 0 := (by decide); omega)⟩
      rintro p565 ⟨ep565, rp565⟩
      refine Run.join (P := fun z => (if (1 : Int32) = p565 then (1 : Int32) else (0 : Int32)) = z ∧ (0 ≤ z.toInt ∧ z.toInt ≤ 1)) (pcB := 370) (LB := fun z => #[.val (.int x0), .val (.long x1), .second, .val (.long x2), .second, .val (.ref b1), .val (.int p36), .val (.int p38), .val (.int (0 : Int32)), .val (.int p461), .val (.ref b533), .val (.int p555), .val (.int (0 : Int32))]) (SB := fun z => [(.int z)]) (fun key => ?_) ?_
      ·
       refine r_icmpne H 369 365 at_362 (by decide) (by decide) rfl (fun c566 => ?_) (fun c566 => ?_)
       ·
        have rr567 : 0 ≤ p565.toInt ∧ p565.toInt ≤ 0 := by have := rp565; have : (1 : Int32).toInt = 1 := (by decide); have hc_ := c566; simp only [Int32.lt_iff_toInt_lt, ← Int32.toInt_inj] at hc_; omega
        refine r_iconst H 370 (0 : Int32) at_369 (by decide) rfl ?_
        exact key (0 : Int32) ⟨(by rw [if_neg c566]), (by have : (0 : Int32).toInt = 0 := (by decide); omega)⟩
       ·
        have rr568 : 1 ≤ p565.toInt ∧ p565.toInt ≤ 1 := by have := rp565; have : (1 : Int32).toInt = 1 := (by decide); have hc_ := c566; simp only [Int32.lt_iff_toInt_lt, ← Int32.toInt_inj] at hc_; omega
        refine r_iconst H 366 (1 : Int32) at_365 (by decide) rfl ?_
        refine r_goto H 370 at_366 (by decide) (by decide) ?_
        exact key (1 : Int32) ⟨(by rw [if_pos c566]), (by have : (1 : Int32).toInt = 1 := (by decide); omega)⟩
      rintro p569 ⟨ep569, rp569⟩
      have hone : p569 = 1 := by rw [← ep569, ← ep565, ← ep555]; exact lf_8 p36 rp36 c558
      exact r_nreturn (1 : Int32) H (by simp) at_370 (by rw [hone]; decide) (by decide) (by decide) Z0 (by intro t ht; simp only [List.mem_cons] at ht ⊢; rcases ht with ht | ht | ht <;> simp [ht]) rfl
     ·
      refine r_iload H 349 at_347 rfl rfl ?_
      refine Run.join (P := fun z => (if p555 = (0 : Int32) then (0 : Int32) else (1 : Int32)) = z ∧ (0 ≤ z.toInt ∧ z.toInt ≤ 1)) (pcB := 362) (LB := fun z => #[.val (.int x0), .val (.long x1), .second, .val (.long x2), .second, .val (.ref b1), .val (.int p36), .val (.int p38), .val (.int (0 : Int32)), .val (.int p461), .val (.ref b533), .val (.int p555), .val (.int (0 : Int32))]) (SB := fun z => [(.int z), (.int (0 : Int32))]) (fun key => ?_) ?_
      ·
       refine r_ifne H 357 352 at_349 (by decide) (by decide) rfl (fun c570 => ?_) (fun c570 => ?_)
       ·
        have rr571 : 1 ≤ p555.toInt ∧ p555.toInt ≤ 1 := by have := rp555; have : (0 : Int32).toInt = 0 := (by decide); have hc_ := c570; simp only [Int32.lt_iff_toInt_lt, ← Int32.toInt_inj] at hc_; omega
        refine r_iconst H 358 (1 : Int32) at_357 (by decide) rfl ?_
        refine r_goto H 362 at_358 (by decide) (by decide) ?_
        exact key (1 : Int32) ⟨(by rw [if_neg c570]), (by have : (1 : Int32).toInt = 1 := (by decide); omega)⟩
       ·
        have rr572 : 0 ≤ p555.toInt ∧ p555.toInt ≤ 0 := by have := rp555; have : (0 : Int32).toInt = 0 := (by decide); have hc_ := c570; simp only [Int32.lt_iff_toInt_lt, ← Int32.toInt_inj] at hc_; omega
        refine r_iload H 354 at_352 rfl rfl ?_
        refine r_ifeqT H 361 at_354 (by decide) (by decide) (by decide) ?_
        refine r_iconst H 362 (0 : Int32) at_361 (by decide) rfl ?_
        exact key (0 : Int32) ⟨(by rw [if_pos c570]), (by have : (0 : Int32).toInt = 0 := (by decide); omega)⟩
      rintro p573 ⟨ep573, rp573⟩
      refine Run.join (P := fun z => (if (0 : Int32) = p573 then (1 : Int32) else (0 : Int32)) = z ∧ (0 ≤ z.toInt ∧ z.toInt ≤ 1)) (pcB := 370) (LB := fun z => #[.val (.int x0), .val (.long x1), .second, .val (.long x2), .second, .val (.ref b1), .val (.int p36), .val (.int p38), .val (.int (0 : Int32)), .val (.int p461), .val (.ref b533), .val (.int p555), .val (.int (0 : Int32))]) (SB := fun z => [(.int z)]) (fun key => ?_) ?_
      ·
       refine r_icmpne H 369 365 at_362 (by decide) (by decide) rfl (fun c574 => ?_) (fun c574 => ?_)
       ·
        have rr575 : 1 ≤ p573.toInt ∧ p573.toInt ≤ 1 := by have := rp573; have : (0 : Int32).toInt = 0 := (by decide); have hc_ := c574; simp only [Int32.lt_iff_toInt_lt, ← Int32.toInt_inj] at hc_; omega
        refine r_iconst H 370 (0 : Int32) at_369 (by decide) rfl ?_
        exact key (0 : Int32) ⟨(by rw [if_neg c574]), (by have : (0 : Int32).toInt = 0 := (by decide); omega)⟩
       ·
        have rr576 : 0 ≤ p573.toInt ∧ p573.toInt ≤ 0 := by have := rp573; have : (0 : Int32).toInt = 0 := (by decide); have hc_ := c574; simp only [Int32.lt_iff_toInt_lt, ← Int32.toInt_inj] at hc_; omega
        refine r_iconst H 366 (1 : Int32) at_365 (by decide) rfl ?_
        refine r_goto H 370 at_366 (by decide) (by decide) ?_
        exact key (1 : Int32) ⟨(by rw [if_pos c574]), (by have : (1 : Int32).toInt = 1 := (by decide); omega)⟩
      rintro p577 ⟨ep577, rp577⟩
      have hone : p577 = 1 := by rw [← ep577, ← ep573, ← ep555]; exact lf_9 p36 rp36 c560
      exact r_nreturn (1 : Int32) H (by simp) at_370 (by rw [hone]; decide) (by decide) (by decide) Z0 (by intro t ht; simp only [List.mem_cons] at ht ⊢; rcases ht with ht | ht | ht <;> simp [ht]) rfl
   ·
    subst c510
    refine r_castore H 177 p36 at_176 A457 (by decide) (Nat.le_of_ble_eq_true rfl) (nlt nlr (Nat.le_of_eq g1.symm)) (nar_char_id (by have := rp36; omega)) rfl ?_
    intro h578 K578 A578
    have q579 := (q458.keep K457)
    change Ar Z h578 b1 kc1 .char [(.int (45 : Int32)), (.int p36), (.int (104 : Int32)), (.int (101 : Int32)), (.int (108 : Int32)), (.int (112 : Int32)), (.int p31)] at A578
    refine r_goto H 234 at_177 (by decide) (by decide) ?_
    refine r_aload H 236 at_234 rfl rfl rfl ?_
    refine r_iload H 238 at_236 rfl rfl ?_
    have z580 := Nat.le_trans z35 K447.1
    have z581 := Nat.le_trans z580 K449.1
    have z582 := Nat.le_trans z581 K451.1
    have z583 := Nat.le_trans z582 K453.1
    have z584 := Nat.le_trans z583 K455.1
    have z585 := Nat.le_trans z584 K457.1
    have z586 := Nat.le_trans z585 K578.1
    refine r_static H 241 at_238 (tw5 hw) (tw6 hw) (tw3 hw) (tw7 hw) (by decide) (lenOf pd_6 rfl) (rm_word_23 hw Ts b1 p461 (45 : Int32) p36 (104 : Int32) (101 : Int32) (108 : Int32) (112 : Int32) p31 kc1 cs h578 h0.size (nlt Zf Z0) z586 A578 rp461 (by have : (45 : Int32).toInt = 45 := (by decide); omega) (by have := rp36; omega) (by have : (104 : Int32).toInt = 104 := (by decide); omega) (by have : (101 : Int32).toInt = 101 := (by decide); omega) (by have : (108 : Int32).toInt = 108 := (by decide); omega) (by have : (112 : Int32).toInt = 112 := (by decide); omega) (by have := rp31; omega) S_cs hcs) (argsL := [(.ref b1), (.int p461)]) (rest := []) rfl (W := 0) (nlq rfl) rfl (by decide) (by decide) (by decide) (by decide) nlr rfl ?_
    rintro _ hh613 (⟨b587, b588, kc589, rfl, c591, K590, g592, g593, g594, q595, q596, q597, q598, q599⟩ | ⟨b600, b601, kc602, rfl, c604, K603, g605, g606, g607, q608, q609, q610, q611, q612⟩)
    ·
     have rr614 : 7 ≤ p461.toInt ∧ p461.toInt ≤ 7 := by have := rp461; have : (6 : Int32).toInt = 6 := (by decide); have hc_ := c591; simp only [Int32.lt_iff_toInt_lt, ← Int32.toInt_inj] at hc_; omega
     refine r_astore H 243 #[.val (.int x0), .val (.long x1), .second, .val (.long x2), .second, .val (.ref b1), .val (.int p36), .val (.int p38), .val (.int (1 : Int32)), .val (.int p461), .val (.ref b587), .unset, .unset] at_241 rfl rfl rfl ?_
     refine r_iload H 245 at_243 rfl rfl ?_
     refine r_bipush H 247 (6 : Int32) at_245 (by decide) rfl ?_
     refine r_icmpneT H 308 at_247 (by decide) (by decide) (by have := rr614; have : (6 : Int32).toInt = 6 := (by decide); simp only [Int32.lt_iff_toInt_lt, ← Int32.toInt_inj]; omega) ?_
     refine r_iconst H 309 (0 : Int32) at_308 (by decide) rfl ?_
     refine r_istore H 311 #[.val (.int x0), .val (.long x1), .second, .val (.long x2), .second, .val (.ref b1), .val (.int p36), .val (.int p38), .val (.int (1 : Int32)), .val (.int p461), .val (.ref b587), .val (.int (0 : Int32)), .unset] at_309 rfl rfl ?_
     refine r_iload H 313 at_311 rfl rfl ?_
     refine r_iconst H 314 (2 : Int32) at_313 (by decide) rfl ?_
     refine r_icmpneT H 339 at_314 (by decide) (by decide) (by have := rr614; have : (2 : Int32).toInt = 2 := (by decide); simp only [Int32.lt_iff_toInt_lt, ← Int32.toInt_inj]; omega) ?_
     refine r_iconst H 340 (0 : Int32) at_339 (by decide) rfl ?_
     refine r_istore H 342 #[.val (.int x0), .val (.long x1), .second, .val (.long x2), .second, .val (.ref b1), .val (.int p36), .val (.int p38), .val (.int (1 : Int32)), .val (.int p461), .val (.ref b587), .val (.int (0 : Int32)), .val (.int (0 : Int32))] at_340 rfl rfl ?_
     refine r_aload H 344 at_342 rfl rfl rfl ?_
     have z615 := Nat.le_trans z586 K590.1
     refine r_static H 347 at_344 (tw37 hw) (tw38 hw) (tw39 hw) (tw40 hw) (by decide) (lenOf pd_9 rfl) (rm_isHelp_34 hw Ts b587 b588 (cB8 (45 : Int32)) (cB8 p36) (cB8 (104 : Int32)) (cB8 (101 : Int32)) (cB8 (108 : Int32)) (cB8 (112 : Int32)) (cB8 p31) kc589 cs hh613 h0.size (nlt Zf Z0) z615 q595 q597 q598 q596 wS hcw hh0 S_cs hh1 hT__2d__2d_help hT__2d_h hcs) (argsL := [(.ref b587)]) (rest := []) rfl (W := 0) (nlq rfl) rfl (by decide) (by decide) (by decide) (by decide) nlr rfl ?_
     rintro _ hh617 ⟨rfl, K616⟩
     refine r_iload H 349 at_347 rfl rfl ?_
     refine r_ifneF H 352 at_349 rfl (by decide) ?_
     refine r_iload H 354 at_352 rfl rfl ?_
     refine r_ifeqT H 361 at_354 (by decide) (by decide) (by decide) ?_
     refine r_iconst H 362 (0 : Int32) at_361 (by decide) rfl ?_
     refine r_icmpneF H 365 at_362 rfl (by decide) ?_
     refine r_iconst H 366 (1 : Int32) at_365 (by decide) rfl ?_
     refine r_goto H 370 at_366 (by decide) (by decide) ?_
     exact r_nreturn (1 : Int32) H (by simp) at_370 (by decide) (by decide) (by decide) Z0 (by intro t ht; simp only [List.mem_cons] at ht ⊢; rcases ht with ht | ht | ht <;> simp [ht]) rfl
    ·
     have rr618 : 6 ≤ p461.toInt ∧ p461.toInt ≤ 6 := by have := rp461; have : (6 : Int32).toInt = 6 := (by decide); have hc_ := c604; simp only [Int32.lt_iff_toInt_lt, ← Int32.toInt_inj] at hc_; omega
     refine r_astore H 243 #[.val (.int x0), .val (.long x1), .second, .val (.long x2), .second, .val (.ref b1), .val (.int p36), .val (.int p38), .val (.int (1 : Int32)), .val (.int p461), .val (.ref b600), .unset, .unset] at_241 rfl rfl rfl ?_
     refine r_iload H 245 at_243 rfl rfl ?_
     refine r_bipush H 247 (6 : Int32) at_245 (by decide) rfl ?_
     refine r_icmpneF H 250 at_247 rfl (by have := rr618; have : (6 : Int32).toInt = 6 := (by decide); simp only [Int32.lt_iff_toInt_lt, ← Int32.toInt_inj]; omega) ?_
     refine r_aload H 252 at_250 rfl rfl rfl ?_
     refine r_iconst H 253 (0 : Int32) at_252 (by decide) rfl ?_
     have q619 := (A578.keep K603 nin0)
     refine r_caload H 254 (45 : Int32) at_253 q619 (by decide) rfl rfl ?_
     refine r_bipush H 256 (45 : Int32) at_254 (by decide) rfl ?_
     refine r_icmpneF H 259 at_256 rfl (by decide) ?_
     refine r_aload H 261 at_259 rfl rfl rfl ?_
     refine r_iconst H 262 (1 : Int32) at_261 (by decide) rfl ?_
     refine r_caload H 263 p36 at_262 q619 (by decide) rfl rfl ?_
     refine r_bipush H 265 (45 : Int32) at_263 (by decide) rfl ?_
     refine Run.join (P := fun z => (if p36 = (45 : Int32) then (1 : Int32) else (0 : Int32)) = z ∧ (0 ≤ z.toInt ∧ z.toInt ≤ 1)) (pcB := 309) (LB := fun z => #[.val (.int x0), .val (.long x1), .second, .val (.long x2), .second, .val (.ref b1), .val (.int p36), .val (.int p38), .val (.int (1 : Int32)), .val (.int p461), .val (.ref b600), .unset, .unset]) (SB := fun z => [(.int z)]) (fun key => ?_) ?_
     ·
      refine r_icmpne H 308 268 at_265 (by decide) (by decide) rfl (fun c620 => ?_) (fun c620 => ?_)
      ·
       refine r_iconst H 309 (0 : Int32) at_308 (by decide) rfl ?_
       exact key (0 : Int32) ⟨(by rw [if_neg c620]), (by have : (0 : Int32).toInt = 0 := (by decide); omega)⟩
      ·
       have rr621 : 45 ≤ p36.toInt ∧ p36.toInt ≤ 45 := by have := rp36; have : (45 : Int32).toInt = 45 := (by decide); have hc_ := c620; simp only [Int32.lt_iff_toInt_lt, ← Int32.toInt_inj] at hc_; omega
       refine r_aload H 270 at_268 rfl rfl rfl ?_
       refine r_iconst H 271 (2 : Int32) at_270 (by decide) rfl ?_
       refine r_caload H 272 (104 : Int32) at_271 q619 (by decide) rfl rfl ?_
       refine r_bipush H 274 (104 : Int32) at_272 (by decide) rfl ?_
       refine r_icmpneF H 277 at_274 rfl (by decide) ?_
       refine r_aload H 279 at_277 rfl rfl rfl ?_
       refine r_iconst H 280 (3 : Int32) at_279 (by decide) rfl ?_
       refine r_caload H 281 (101 : Int32) at_280 q619 (by decide) rfl rfl ?_
       refine r_bipush H 283 (101 : Int32) at_281 (by decide) rfl ?_
       refine r_icmpneF H 286 at_283 rfl (by decide) ?_
       refine r_aload H 288 at_286 rfl rfl rfl ?_
       refine r_iconst H 289 (4 : Int32) at_288 (by decide) rfl ?_
       refine r_caload H 290 (108 : Int32) at_289 q619 (by decide) rfl rfl ?_
       refine r_bipush H 292 (108 : Int32) at_290 (by decide) rfl ?_
       refine r_icmpneF H 295 at_292 rfl (by decide) ?_
       refine r_aload H 297 at_295 rfl rfl rfl ?_
       refine r_iconst H 298 (5 : Int32) at_297 (by decide) rfl ?_
       refine r_caload H 299 (112 : Int32) at_298 q619 (by decide) rfl rfl ?_
       refine r_bipush H 301 (112 : Int32) at_299 (by decide) rfl ?_
       refine r_icmpneF H 304 at_301 rfl (by decide) ?_
       refine r_iconst H 305 (1 : Int32) at_304 (by decide) rfl ?_
       refine r_goto H 309 at_305 (by decide) (by decide) ?_
       exact key (1 : Int32) ⟨(by rw [if_pos c620]), (by have : (1 : Int32).toInt = 1 := (by decide); omega)⟩
     rintro p622 ⟨ep622, rp622⟩
     refine r_istore H 311 #[.val (.int x0), .val (.long x1), .second, .val (.long x2), .second, .val (.ref b1), .val (.int p36), .val (.int p38), .val (.int (1 : Int32)), .val (.int p461), .val (.ref b600), .val (.int p622), .unset] at_309 rfl rfl ?_
     refine r_iload H 313 at_311 rfl rfl ?_
     refine r_iconst H 314 (2 : Int32) at_313 (by decide) rfl ?_
     refine r_icmpneT H 339 at_314 (by decide) (by decide) (by have := rr618; have : (2 : Int32).toInt = 2 := (by decide); simp only [Int32.lt_iff_toInt_lt, ← Int32.toInt_inj]; omega) ?_
     refine r_iconst H 340 (0 : Int32) at_339 (by decide) rfl ?_
     refine r_istore H 342 #[.val (.int x0), .val (.long x1), .second, .val (.long x2), .second, .val (.ref b1), .val (.int p36), .val (.int p38), .val (.int (1 : Int32)), .val (.int p461), .val (.ref b600), .val (.int p622), .val (.int (0 : Int32))] at_340 rfl rfl ?_
     refine r_aload H 344 at_342 rfl rfl rfl ?_
     have z623 := Nat.le_trans z586 K603.1
     refine r_static H 347 at_344 (tw37 hw) (tw38 hw) (tw39 hw) (tw40 hw) (by decide) (lenOf pd_9 rfl) (rm_isHelp_39 hw Ts b600 b601 (cB8 (45 : Int32)) (cB8 p36) (cB8 (104 : Int32)) (cB8 (101 : Int32)) (cB8 (108 : Int32)) (cB8 (112 : Int32)) kc602 cs hh613 h0.size (nlt Zf Z0) z623 q608 q610 q611 q609 wS hcw hh0 S_cs hh1 hT__2d__2d_help hT__2d_h hcs) (argsL := [(.ref b600)]) (rest := []) rfl (W := 0) (nlq rfl) rfl (by decide) (by decide) (by decide) (by decide) nlr rfl ?_
     rintro _ hh628 (⟨rfl, c625, K624⟩ | ⟨rfl, c627, K626⟩)
     ·
      refine r_iload H 349 at_347 rfl rfl ?_
      refine Run.join (P := fun z => (if p622 = (0 : Int32) then (0 : Int32) else (1 : Int32)) = z ∧ (0 ≤ z.toInt ∧ z.toInt ≤ 1)) (pcB := 362) (LB := fun z => #[.val (.int x0), .val (.long x1), .second, .val (.long x2), .second, .val (.ref b1), .val (.int p36), .val (.int p38), .val (.int (1 : Int32)), .val (.int p461), .val (.ref b600), .val (.int p622), .val (.int (0 : Int32))]) (SB := fun z => [(.int z), (.int (1 : Int32))]) (fun key => ?_) ?_
      ·
       refine r_ifne H 357 352 at_349 (by decide) (by decide) rfl (fun c629 => ?_) (fun c629 => ?_)
       ·
        have rr630 : 1 ≤ p622.toInt ∧ p622.toInt ≤ 1 := by have := rp622; have : (0 : Int32).toInt = 0 := (by decide); have hc_ := c629; simp only [Int32.lt_iff_toInt_lt, ← Int32.toInt_inj] at hc_; omega
        refine r_iconst H 358 (1 : Int32) at_357 (by decide) rfl ?_
        refine r_goto H 362 at_358 (by decide) (by decide) ?_
        exact key (1 : Int32) ⟨(by rw [if_neg c629]), (by have : (1 : Int32).toInt = 1 := (by decide); omega)⟩
       ·
        have rr631 : 0 ≤ p622.toInt ∧ p622.toInt ≤ 0 := by have := rp622; have : (0 : Int32).toInt = 0 := (by decide); have hc_ := c629; simp only [Int32.lt_iff_toInt_lt, ← Int32.toInt_inj] at hc_; omega
        refine r_iload H 354 at_352 rfl rfl ?_
        refine r_ifeqT H 361 at_354 (by decide) (by decide) (by decide) ?_
        refine r_iconst H 362 (0 : Int32) at_361 (by decide) rfl ?_
        exact key (0 : Int32) ⟨(by rw [if_pos c629]), (by have : (0 : Int32).toInt = 0 := (by decide); omega)⟩
      rintro p632 ⟨ep632, rp632⟩
      refine Run.join (P := fun z => (if (1 : Int32) = p632 then (1 : Int32) else (0 : Int32)) = z ∧ (0 ≤ z.toInt ∧ z.toInt ≤ 1)) (pcB := 370) (LB := fun z => #[.val (.int x0), .val (.long x1), .second, .val (.long x2), .second, .val (.ref b1), .val (.int p36), .val (.int p38), .val (.int (1 : Int32)), .val (.int p461), .val (.ref b600), .val (.int p622), .val (.int (0 : Int32))]) (SB := fun z => [(.int z)]) (fun key => ?_) ?_
      ·
       refine r_icmpne H 369 365 at_362 (by decide) (by decide) rfl (fun c633 => ?_) (fun c633 => ?_)
       ·
        have rr634 : 0 ≤ p632.toInt ∧ p632.toInt ≤ 0 := by have := rp632; have : (1 : Int32).toInt = 1 := (by decide); have hc_ := c633; simp only [Int32.lt_iff_toInt_lt, ← Int32.toInt_inj] at hc_; omega
        refine r_iconst H 370 (0 : Int32) at_369 (by decide) rfl ?_
        exact key (0 : Int32) ⟨(by rw [if_neg c633]), (by have : (0 : Int32).toInt = 0 := (by decide); omega)⟩
       ·
        have rr635 : 1 ≤ p632.toInt ∧ p632.toInt ≤ 1 := by have := rp632; have : (1 : Int32).toInt = 1 := (by decide); have hc_ := c633; simp only [Int32.lt_iff_toInt_lt, ← Int32.toInt_inj] at hc_; omega
        refine r_iconst H 366 (1 : Int32) at_365 (by decide) rfl ?_
        refine r_goto H 370 at_366 (by decide) (by decide) ?_
        exact key (1 : Int32) ⟨(by rw [if_pos c633]), (by have : (1 : Int32).toInt = 1 := (by decide); omega)⟩
      rintro p636 ⟨ep636, rp636⟩
      have hone : p636 = 1 := by rw [← ep636, ← ep632, ← ep622]; exact lf_10 p36 rp36 c625
      exact r_nreturn (1 : Int32) H (by simp) at_370 (by rw [hone]; decide) (by decide) (by decide) Z0 (by intro t ht; simp only [List.mem_cons] at ht ⊢; rcases ht with ht | ht | ht <;> simp [ht]) rfl
     ·
      refine r_iload H 349 at_347 rfl rfl ?_
      refine Run.join (P := fun z => (if p622 = (0 : Int32) then (0 : Int32) else (1 : Int32)) = z ∧ (0 ≤ z.toInt ∧ z.toInt ≤ 1)) (pcB := 362) (LB := fun z => #[.val (.int x0), .val (.long x1), .second, .val (.long x2), .second, .val (.ref b1), .val (.int p36), .val (.int p38), .val (.int (1 : Int32)), .val (.int p461), .val (.ref b600), .val (.int p622), .val (.int (0 : Int32))]) (SB := fun z => [(.int z), (.int (0 : Int32))]) (fun key => ?_) ?_
      ·
       refine r_ifne H 357 352 at_349 (by decide) (by decide) rfl (fun c637 => ?_) (fun c637 => ?_)
       ·
        have rr638 : 1 ≤ p622.toInt ∧ p622.toInt ≤ 1 := by have := rp622; have : (0 : Int32).toInt = 0 := (by decide); have hc_ := c637; simp only [Int32.lt_iff_toInt_lt, ← Int32.toInt_inj] at hc_; omega
        refine r_iconst H 358 (1 : Int32) at_357 (by decide) rfl ?_
        refine r_goto H 362 at_358 (by decide) (by decide) ?_
        exact key (1 : Int32) ⟨(by rw [if_neg c637]), (by have : (1 : Int32).toInt = 1 := (by decide); omega)⟩
       ·
        have rr639 : 0 ≤ p622.toInt ∧ p622.toInt ≤ 0 := by have := rp622; have : (0 : Int32).toInt = 0 := (by decide); have hc_ := c637; simp only [Int32.lt_iff_toInt_lt, ← Int32.toInt_inj] at hc_; omega
        refine r_iload H 354 at_352 rfl rfl ?_
        refine r_ifeqT H 361 at_354 (by decide) (by decide) (by decide) ?_
        refine r_iconst H 362 (0 : Int32) at_361 (by decide) rfl ?_
        exact key (0 : Int32) ⟨(by rw [if_pos c637]), (by have : (0 : Int32).toInt = 0 := (by decide); omega)⟩
      rintro p640 ⟨ep640, rp640⟩
      refine Run.join (P := fun z => (if (0 : Int32) = p640 then (1 : Int32) else (0 : Int32)) = z ∧ (0 ≤ z.toInt ∧ z.toInt ≤ 1)) (pcB := 370) (LB := fun z => #[.val (.int x0), .val (.long x1), .second, .val (.long x2), .second, .val (.ref b1), .val (.int p36), .val (.int p38), .val (.int (1 : Int32)), .val (.int p461), .val (.ref b600), .val (.int p622), .val (.int (0 : Int32))]) (SB := fun z => [(.int z)]) (fun key => ?_) ?_
      ·
       refine r_icmpne H 369 365 at_362 (by decide) (by decide) rfl (fun c641 => ?_) (fun c641 => ?_)
       ·
        have rr642 : 1 ≤ p640.toInt ∧ p640.toInt ≤ 1 := by have := rp640; have : (0 : Int32).toInt = 0 := (by decide); have hc_ := c641; simp only [Int32.lt_iff_toInt_lt, ← Int32.toInt_inj] at hc_; omega
        refine r_iconst H 370 (0 : Int32) at_369 (by decide) rfl ?_
        exact key (0 : Int32) ⟨(by rw [if_neg c641]), (by have : (0 : Int32).toInt = 0 := (by decide); omega)⟩
       ·
        have rr643 : 0 ≤ p640.toInt ∧ p640.toInt ≤ 0 := by have := rp640; have : (0 : Int32).toInt = 0 := (by decide); have hc_ := c641; simp only [Int32.lt_iff_toInt_lt, ← Int32.toInt_inj] at hc_; omega
        refine r_iconst H 366 (1 : Int32) at_365 (by decide) rfl ?_
        refine r_goto H 370 at_366 (by decide) (by decide) ?_
        exact key (1 : Int32) ⟨(by rw [if_pos c641]), (by have : (1 : Int32).toInt = 1 := (by decide); omega)⟩
      rintro p644 ⟨ep644, rp644⟩
      have hone : p644 = 1 := by rw [← ep644, ← ep640, ← ep622]; exact lf_11 p36 rp36 c627
      exact r_nreturn (1 : Int32) H (by simp) at_370 (by rw [hone]; decide) (by decide) (by decide) Z0 (by intro t ht; simp only [List.mem_cons] at ht ⊢; rcases ht with ht | ht | ht <;> simp [ht]) rfl
   ·
    subst c510
    refine r_castore H 177 p36 at_176 A457 (by decide) (Nat.le_of_ble_eq_true rfl) (nlt nlr (Nat.le_of_eq g1.symm)) (nar_char_id (by have := rp36; omega)) rfl ?_
    intro h645 K645 A645
    have q646 := (q458.keep K457)
    change Ar Z h645 b1 kc1 .char [(.int (45 : Int32)), (.int (45 : Int32)), (.int p36), (.int (101 : Int32)), (.int (108 : Int32)), (.int (112 : Int32)), (.int p31)] at A645
    refine r_goto H 234 at_177 (by decide) (by decide) ?_
    refine r_aload H 236 at_234 rfl rfl rfl ?_
    refine r_iload H 238 at_236 rfl rfl ?_
    have z647 := Nat.le_trans z35 K447.1
    have z648 := Nat.le_trans z647 K449.1
    have z649 := Nat.le_trans z648 K451.1
    have z650 := Nat.le_trans z649 K453.1
    have z651 := Nat.le_trans z650 K455.1
    have z652 := Nat.le_trans z651 K457.1
    have z653 := Nat.le_trans z652 K645.1
    refine r_static H 241 at_238 (tw5 hw) (tw6 hw) (tw3 hw) (tw7 hw) (by decide) (lenOf pd_6 rfl) (rm_word_23 hw Ts b1 p461 (45 : Int32) (45 : Int32) p36 (101 : Int32) (108 : Int32) (112 : Int32) p31 kc1 cs h645 h0.size (nlt Zf Z0) z653 A645 rp461 (by have : (45 : Int32).toInt = 45 := (by decide); omega) (by have : (45 : Int32).toInt = 45 := (by decide); omega) (by have := rp36; omega) (by have : (101 : Int32).toInt = 101 := (by decide); omega) (by have : (108 : Int32).toInt = 108 := (by decide); omega) (by have : (112 : Int32).toInt = 112 := (by decide); omega) (by have := rp31; omega) S_cs hcs) (argsL := [(.ref b1), (.int p461)]) (rest := []) rfl (W := 0) (nlq rfl) rfl (by decide) (by decide) (by decide) (by decide) nlr rfl ?_
    rintro _ hh680 (⟨b654, b655, kc656, rfl, c658, K657, g659, g660, g661, q662, q663, q664, q665, q666⟩ | ⟨b667, b668, kc669, rfl, c671, K670, g672, g673, g674, q675, q676, q677, q678, q679⟩)
    ·
     have rr681 : 7 ≤ p461.toInt ∧ p461.toInt ≤ 7 := by have := rp461; have : (6 : Int32).toInt = 6 := (by decide); have hc_ := c658; simp only [Int32.lt_iff_toInt_lt, ← Int32.toInt_inj] at hc_; omega
     refine r_astore H 243 #[.val (.int x0), .val (.long x1), .second, .val (.long x2), .second, .val (.ref b1), .val (.int p36), .val (.int p38), .val (.int (2 : Int32)), .val (.int p461), .val (.ref b654), .unset, .unset] at_241 rfl rfl rfl ?_
     refine r_iload H 245 at_243 rfl rfl ?_
     refine r_bipush H 247 (6 : Int32) at_245 (by decide) rfl ?_
     refine r_icmpneT H 308 at_247 (by decide) (by decide) (by have := rr681; have : (6 : Int32).toInt = 6 := (by decide); simp only [Int32.lt_iff_toInt_lt, ← Int32.toInt_inj]; omega) ?_
     refine r_iconst H 309 (0 : Int32) at_308 (by decide) rfl ?_
     refine r_istore H 311 #[.val (.int x0), .val (.long x1), .second, .val (.long x2), .second, .val (.ref b1), .val (.int p36), .val (.int p38), .val (.int (2 : Int32)), .val (.int p461), .val (.ref b654), .val (.int (0 : Int32)), .unset] at_309 rfl rfl ?_
     refine r_iload H 313 at_311 rfl rfl ?_
     refine r_iconst H 314 (2 : Int32) at_313 (by decide) rfl ?_
     refine r_icmpneT H 339 at_314 (by decide) (by decide) (by have := rr681; have : (2 : Int32).toInt = 2 := (by decide); simp only [Int32.lt_iff_toInt_lt, ← Int32.toInt_inj]; omega) ?_
     refine r_iconst H 340 (0 : Int32) at_339 (by decide) rfl ?_
     refine r_istore H 342 #[.val (.int x0), .val (.long x1), .second, .val (.long x2), .second, .val (.ref b1), .val (.int p36), .val (.int p38), .val (.int (2 : Int32)), .val (.int p461), .val (.ref b654), .val (.int (0 : Int32)), .val (.int (0 : Int32))] at_340 rfl rfl ?_
     refine r_aload H 344 at_342 rfl rfl rfl ?_
     have z682 := Nat.le_trans z653 K657.1
     refine r_static H 347 at_344 (tw37 hw) (tw38 hw) (tw39 hw) (tw40 hw) (by decide) (lenOf pd_9 rfl) (rm_isHelp_34 hw Ts b654 b655 (cB8 (45 : Int32)) (cB8 (45 : Int32)) (cB8 p36) (cB8 (101 : Int32)) (cB8 (108 : Int32)) (cB8 (112 : Int32)) (cB8 p31) kc656 cs hh680 h0.size (nlt Zf Z0) z682 q662 q664 q665 q663 wS hcw hh0 S_cs hh1 hT__2d__2d_help hT__2d_h hcs) (argsL := [(.ref b654)]) (rest := []) rfl (W := 0) (nlq rfl) rfl (by decide) (by decide) (by decide) (by decide) nlr rfl ?_
     rintro _ hh684 ⟨rfl, K683⟩
     refine r_iload H 349 at_347 rfl rfl ?_
     refine r_ifneF H 352 at_349 rfl (by decide) ?_
     refine r_iload H 354 at_352 rfl rfl ?_
     refine r_ifeqT H 361 at_354 (by decide) (by decide) (by decide) ?_
     refine r_iconst H 362 (0 : Int32) at_361 (by decide) rfl ?_
     refine r_icmpneF H 365 at_362 rfl (by decide) ?_
     refine r_iconst H 366 (1 : Int32) at_365 (by decide) rfl ?_
     refine r_goto H 370 at_366 (by decide) (by decide) ?_
     exact r_nreturn (1 : Int32) H (by simp) at_370 (by decide) (by decide) (by decide) Z0 (by intro t ht; simp only [List.mem_cons] at ht ⊢; rcases ht with ht | ht | ht <;> simp [ht]) rfl
    ·
     have rr685 : 6 ≤ p461.toInt ∧ p461.toInt ≤ 6 := by have := rp461; have : (6 : Int32).toInt = 6 := (by decide); have hc_ := c671; simp only [Int32.lt_iff_toInt_lt, ← Int32.toInt_inj] at hc_; omega
     refine r_astore H 243 #[.val (.int x0), .val (.long x1), .second, .val (.long x2), .second, .val (.ref b1), .val (.int p36), .val (.int p38), .val (.int (2 : Int32)), .val (.int p461), .val (.ref b667), .unset, .unset] at_241 rfl rfl rfl ?_
     refine r_iload H 245 at_243 rfl rfl ?_
     refine r_bipush H 247 (6 : Int32) at_245 (by decide) rfl ?_
     refine r_icmpneF H 250 at_247 rfl (by have := rr685; have : (6 : Int32).toInt = 6 := (by decide); simp only [Int32.lt_iff_toInt_lt, ← Int32.toInt_inj]; omega) ?_
     refine r_aload H 252 at_250 rfl rfl rfl ?_
     refine r_iconst H 253 (0 : Int32) at_252 (by decide) rfl ?_
     have q686 := (A645.keep K670 nin0)
     refine r_caload H 254 (45 : Int32) at_253 q686 (by decide) rfl rfl ?_
     refine r_bipush H 256 (45 : Int32) at_254 (by decide) rfl ?_
     refine r_icmpneF H 259 at_256 rfl (by decide) ?_
     refine r_aload H 261 at_259 rfl rfl rfl ?_
     refine r_iconst H 262 (1 : Int32) at_261 (by decide) rfl ?_
     refine r_caload H 263 (45 : Int32) at_262 q686 (by decide) rfl rfl ?_
     refine r_bipush H 265 (45 : Int32) at_263 (by decide) rfl ?_
     refine r_icmpneF H 268 at_265 rfl (by decide) ?_
     refine r_aload H 270 at_268 rfl rfl rfl ?_
     refine r_iconst H 271 (2 : Int32) at_270 (by decide) rfl ?_
     refine r_caload H 272 p36 at_271 q686 (by decide) rfl rfl ?_
     refine r_bipush H 274 (104 : Int32) at_272 (by decide) rfl ?_
     refine Run.join (P := fun z => (if p36 = (104 : Int32) then (1 : Int32) else (0 : Int32)) = z ∧ (0 ≤ z.toInt ∧ z.toInt ≤ 1)) (pcB := 309) (LB := fun z => #[.val (.int x0), .val (.long x1), .second, .val (.long x2), .second, .val (.ref b1), .val (.int p36), .val (.int p38), .val (.int (2 : Int32)), .val (.int p461), .val (.ref b667), .unset, .unset]) (SB := fun z => [(.int z)]) (fun key => ?_) ?_
     ·
      refine r_icmpne H 308 277 at_274 (by decide) (by decide) rfl (fun c687 => ?_) (fun c687 => ?_)
      ·
       refine r_iconst H 309 (0 : Int32) at_308 (by decide) rfl ?_
       exact key (0 : Int32) ⟨(by rw [if_neg c687]), (by have : (0 : Int32).toInt = 0 := (by decide); omega)⟩
      ·
       have rr688 : 104 ≤ p36.toInt ∧ p36.toInt ≤ 104 := by have := rp36; have : (104 : Int32).toInt = 104 := (by decide); have hc_ := c687; simp only [Int32.lt_iff_toInt_lt, ← Int32.toInt_inj] at hc_; omega
       refine r_aload H 279 at_277 rfl rfl rfl ?_
       refine r_iconst H 280 (3 : Int32) at_279 (by decide) rfl ?_
       refine r_caload H 281 (101 : Int32) at_280 q686 (by decide) rfl rfl ?_
       refine r_bipush H 283 (101 : Int32) at_281 (by decide) rfl ?_
       refine r_icmpneF H 286 at_283 rfl (by decide) ?_
       refine r_aload H 288 at_286 rfl rfl rfl ?_
       refine r_iconst H 289 (4 : Int32) at_288 (by decide) rfl ?_
       refine r_caload H 290 (108 : Int32) at_289 q686 (by decide) rfl rfl ?_
       refine r_bipush H 292 (108 : Int32) at_290 (by decide) rfl ?_
       refine r_icmpneF H 295 at_292 rfl (by decide) ?_
       refine r_aload H 297 at_295 rfl rfl rfl ?_
       refine r_iconst H 298 (5 : Int32) at_297 (by decide) rfl ?_
       refine r_caload H 299 (112 : Int32) at_298 q686 (by decide) rfl rfl ?_
       refine r_bipush H 301 (112 : Int32) at_299 (by decide) rfl ?_
       refine r_icmpneF H 304 at_301 rfl (by decide) ?_
       refine r_iconst H 305 (1 : Int32) at_304 (by decide) rfl ?_
       refine r_goto H 309 at_305 (by decide) (by decide) ?_
       exact key (1 : Int32) ⟨(by rw [if_pos c687]), (by have : (1 : Int32).toInt = 1 := (by decide); omega)⟩
     rintro p689 ⟨ep689, rp689⟩
     refine r_istore H 311 #[.val (.int x0), .val (.long x1), .second, .val (.long x2), .second, .val (.ref b1), .val (.int p36), .val (.int p38), .val (.int (2 : Int32)), .val (.int p461), .val (.ref b667), .val (.int p689), .unset] at_309 rfl rfl ?_
     refine r_iload H 313 at_311 rfl rfl ?_
     refine r_iconst H 314 (2 : Int32) at_313 (by decide) rfl ?_
     refine r_icmpneT H 339 at_314 (by decide) (by decide) (by have := rr685; have : (2 : Int32).toInt = 2 := (by decide); simp only [Int32.lt_iff_toInt_lt, ← Int32.toInt_inj]; omega) ?_
     refine r_iconst H 340 (0 : Int32) at_339 (by decide) rfl ?_
     refine r_istore H 342 #[.val (.int x0), .val (.long x1), .second, .val (.long x2), .second, .val (.ref b1), .val (.int p36), .val (.int p38), .val (.int (2 : Int32)), .val (.int p461), .val (.ref b667), .val (.int p689), .val (.int (0 : Int32))] at_340 rfl rfl ?_
     refine r_aload H 344 at_342 rfl rfl rfl ?_
     have z690 := Nat.le_trans z653 K670.1
     refine r_static H 347 at_344 (tw37 hw) (tw38 hw) (tw39 hw) (tw40 hw) (by decide) (lenOf pd_9 rfl) (rm_isHelp_39 hw Ts b667 b668 (cB8 (45 : Int32)) (cB8 (45 : Int32)) (cB8 p36) (cB8 (101 : Int32)) (cB8 (108 : Int32)) (cB8 (112 : Int32)) kc669 cs hh680 h0.size (nlt Zf Z0) z690 q675 q677 q678 q676 wS hcw hh0 S_cs hh1 hT__2d__2d_help hT__2d_h hcs) (argsL := [(.ref b667)]) (rest := []) rfl (W := 0) (nlq rfl) rfl (by decide) (by decide) (by decide) (by decide) nlr rfl ?_
     rintro _ hh695 (⟨rfl, c692, K691⟩ | ⟨rfl, c694, K693⟩)
     ·
      refine r_iload H 349 at_347 rfl rfl ?_
      refine Run.join (P := fun z => (if p689 = (0 : Int32) then (0 : Int32) else (1 : Int32)) = z ∧ (0 ≤ z.toInt ∧ z.toInt ≤ 1)) (pcB := 362) (LB := fun z => #[.val (.int x0), .val (.long x1), .second, .val (.long x2), .second, .val (.ref b1), .val (.int p36), .val (.int p38), .val (.int (2 : Int32)), .val (.int p461), .val (.ref b667), .val (.int p689), .val (.int (0 : Int32))]) (SB := fun z => [(.int z), (.int (1 : Int32))]) (fun key => ?_) ?_
      ·
       refine r_ifne H 357 352 at_349 (by decide) (by decide) rfl (fun c696 => ?_) (fun c696 => ?_)
       ·
        have rr697 : 1 ≤ p689.toInt ∧ p689.toInt ≤ 1 := by have := rp689; have : (0 : Int32).toInt = 0 := (by decide); have hc_ := c696; simp only [Int32.lt_iff_toInt_lt, ← Int32.toInt_inj] at hc_; omega
        refine r_iconst H 358 (1 : Int32) at_357 (by decide) rfl ?_
        refine r_goto H 362 at_358 (by decide) (by decide) ?_
        exact key (1 : Int32) ⟨(by rw [if_neg c696]), (by have : (1 : Int32).toInt = 1 := (by decide); omega)⟩
       ·
        have rr698 : 0 ≤ p689.toInt ∧ p689.toInt ≤ 0 := by have := rp689; have : (0 : Int32).toInt = 0 := (by decide); have hc_ := c696; simp only [Int32.lt_iff_toInt_lt, ← Int32.toInt_inj] at hc_; omega
        refine r_iload H 354 at_352 rfl rfl ?_
        refine r_ifeqT H 361 at_354 (by decide) (by decide) (by decide) ?_
        refine r_iconst H 362 (0 : Int32) at_361 (by decide) rfl ?_
        exact key (0 : Int32) ⟨(by rw [if_pos c696]), (by have : (0 : Int32).toInt = 0 := (by decide); omega)⟩
      rintro p699 ⟨ep699, rp699⟩
      refine Run.join (P := fun z => (if (1 : Int32) = p699 then (1 : Int32) else (0 : Int32)) = z ∧ (0 ≤ z.toInt ∧ z.toInt ≤ 1)) (pcB := 370) (LB := fun z => #[.val (.int x0), .val (.long x1), .second, .val (.long x2), .second, .val (.ref b1), .val (.int p36), .val (.int p38), .val (.int (2 : Int32)), .val (.int p461), .val (.ref b667), .val (.int p689), .val (.int (0 : Int32))]) (SB := fun z => [(.int z)]) (fun key => ?_) ?_
      ·
       refine r_icmpne H 369 365 at_362 (by decide) (by decide) rfl (fun c700 => ?_) (fun c700 => ?_)
       ·
        have rr701 : 0 ≤ p699.toInt ∧ p699.toInt ≤ 0 := by have := rp699; have : (1 : Int32).toInt = 1 := (by decide); have hc_ := c700; simp only [Int32.lt_iff_toInt_lt, ← Int32.toInt_inj] at hc_; omega
        refine r_iconst H 370 (0 : Int32) at_369 (by decide) rfl ?_
        exact key (0 : Int32) ⟨(by rw [if_neg c700]), (by have : (0 : Int32).toInt = 0 := (by decide); omega)⟩
       ·
        have rr702 : 1 ≤ p699.toInt ∧ p699.toInt ≤ 1 := by have := rp699; have : (1 : Int32).toInt = 1 := (by decide); have hc_ := c700; simp only [Int32.lt_iff_toInt_lt, ← Int32.toInt_inj] at hc_; omega
        refine r_iconst H 366 (1 : Int32) at_365 (by decide) rfl ?_
        refine r_goto H 370 at_366 (by decide) (by decide) ?_
        exact key (1 : Int32) ⟨(by rw [if_pos c700]), (by have : (1 : Int32).toInt = 1 := (by decide); omega)⟩
      rintro p703 ⟨ep703, rp703⟩
      have hone : p703 = 1 := by rw [← ep703, ← ep699, ← ep689]; exact lf_12 p36 rp36 c692
      exact r_nreturn (1 : Int32) H (by simp) at_370 (by rw [hone]; decide) (by decide) (by decide) Z0 (by intro t ht; simp only [List.mem_cons] at ht ⊢; rcases ht with ht | ht | ht <;> simp [ht]) rfl
     ·
      refine r_iload H 349 at_347 rfl rfl ?_
      refine Run.join (P := fun z => (if p689 = (0 : Int32) then (0 : Int32) else (1 : Int32)) = z ∧ (0 ≤ z.toInt ∧ z.toInt ≤ 1)) (pcB := 362) (LB := fun z => #[.val (.int x0), .val (.long x1), .second, .val (.long x2), .second, .val (.ref b1), .val (.int p36), .val (.int p38), .val (.int (2 : Int32)), .val (.int p461), .val (.ref b667), .val (.int p689), .val (.int (0 : Int32))]) (SB := fun z => [(.int z), (.int (0 : Int32))]) (fun key => ?_) ?_
      ·
       refine r_ifne H 357 352 at_349 (by decide) (by decide) rfl (fun c704 => ?_) (fun c704 => ?_)
       ·
        have rr705 : 1 ≤ p689.toInt ∧ p689.toInt ≤ 1 := by have := rp689; have : (0 : Int32).toInt = 0 := (by decide); have hc_ := c704; simp only [Int32.lt_iff_toInt_lt, ← Int32.toInt_inj] at hc_; omega
        refine r_iconst H 358 (1 : Int32) at_357 (by decide) rfl ?_
        refine r_goto H 362 at_358 (by decide) (by decide) ?_
        exact key (1 : Int32) ⟨(by rw [if_neg c704]), (by have : (1 : Int32).toInt = 1 := (by decide); omega)⟩
       ·
        have rr706 : 0 ≤ p689.toInt ∧ p689.toInt ≤ 0 := by have := rp689; have : (0 : Int32).toInt = 0 := (by decide); have hc_ := c704; simp only [Int32.lt_iff_toInt_lt, ← Int32.toInt_inj] at hc_; omega
        refine r_iload H 354 at_352 rfl rfl ?_
        refine r_ifeqT H 361 at_354 (by decide) (by decide) (by decide) ?_
        refine r_iconst H 362 (0 : Int32) at_361 (by decide) rfl ?_
        exact key (0 : Int32) ⟨(by rw [if_pos c704]), (by have : (0 : Int32).toInt = 0 := (by decide); omega)⟩
      rintro p707 ⟨ep707, rp707⟩
      refine Run.join (P := fun z => (if (0 : Int32) = p707 then (1 : Int32) else (0 : Int32)) = z ∧ (0 ≤ z.toInt ∧ z.toInt ≤ 1)) (pcB := 370) (LB := fun z => #[.val (.int x0), .val (.long x1), .second, .val (.long x2), .second, .val (.ref b1), .val (.int p36), .val (.int p38), .val (.int (2 : Int32)), .val (.int p461), .val (.ref b667), .val (.int p689), .val (.int (0 : Int32))]) (SB := fun z => [(.int z)]) (fun key => ?_) ?_
      ·
       refine r_icmpne H 369 365 at_362 (by decide) (by decide) rfl (fun c708 => ?_) (fun c708 => ?_)
       ·
        have rr709 : 1 ≤ p707.toInt ∧ p707.toInt ≤ 1 := by have := rp707; have : (0 : Int32).toInt = 0 := (by decide); have hc_ := c708; simp only [Int32.lt_iff_toInt_lt, ← Int32.toInt_inj] at hc_; omega
        refine r_iconst H 370 (0 : Int32) at_369 (by decide) rfl ?_
        exact key (0 : Int32) ⟨(by rw [if_neg c708]), (by have : (0 : Int32).toInt = 0 := (by decide); omega)⟩
       ·
        have rr710 : 0 ≤ p707.toInt ∧ p707.toInt ≤ 0 := by have := rp707; have : (0 : Int32).toInt = 0 := (by decide); have hc_ := c708; simp only [Int32.lt_iff_toInt_lt, ← Int32.toInt_inj] at hc_; omega
        refine r_iconst H 366 (1 : Int32) at_365 (by decide) rfl ?_
        refine r_goto H 370 at_366 (by decide) (by decide) ?_
        exact key (1 : Int32) ⟨(by rw [if_pos c708]), (by have : (1 : Int32).toInt = 1 := (by decide); omega)⟩
      rintro p711 ⟨ep711, rp711⟩
      have hone : p711 = 1 := by rw [← ep711, ← ep707, ← ep689]; exact lf_13 p36 rp36 c694
      exact r_nreturn (1 : Int32) H (by simp) at_370 (by rw [hone]; decide) (by decide) (by decide) Z0 (by intro t ht; simp only [List.mem_cons] at ht ⊢; rcases ht with ht | ht | ht <;> simp [ht]) rfl
   ·
    subst c510
    refine r_castore H 177 p36 at_176 A457 (by decide) (Nat.le_of_ble_eq_true rfl) (nlt nlr (Nat.le_of_eq g1.symm)) (nar_char_id (by have := rp36; omega)) rfl ?_
    intro h712 K712 A712
    have q713 := (q458.keep K457)
    change Ar Z h712 b1 kc1 .char [(.int (45 : Int32)), (.int (45 : Int32)), (.int (104 : Int32)), (.int p36), (.int (108 : Int32)), (.int (112 : Int32)), (.int p31)] at A712
    refine r_goto H 234 at_177 (by decide) (by decide) ?_
    refine r_aload H 236 at_234 rfl rfl rfl ?_
    refine r_iload H 238 at_236 rfl rfl ?_
    have z714 := Nat.le_trans z35 K447.1
    have z715 := Nat.le_trans z714 K449.1
    have z716 := Nat.le_trans z715 K451.1
    have z717 := Nat.le_trans z716 K453.1
    have z718 := Nat.le_trans z717 K455.1
    have z719 := Nat.le_trans z718 K457.1
    have z720 := Nat.le_trans z719 K712.1
    refine r_static H 241 at_238 (tw5 hw) (tw6 hw) (tw3 hw) (tw7 hw) (by decide) (lenOf pd_6 rfl) (rm_word_23 hw Ts b1 p461 (45 : Int32) (45 : Int32) (104 : Int32) p36 (108 : Int32) (112 : Int32) p31 kc1 cs h712 h0.size (nlt Zf Z0) z720 A712 rp461 (by have : (45 : Int32).toInt = 45 := (by decide); omega) (by have : (45 : Int32).toInt = 45 := (by decide); omega) (by have : (104 : Int32).toInt = 104 := (by decide); omega) (by have := rp36; omega) (by have : (108 : Int32).toInt = 108 := (by decide); omega) (by have : (112 : Int32).toInt = 112 := (by decide); omega) (by have := rp31; omega) S_cs hcs) (argsL := [(.ref b1), (.int p461)]) (rest := []) rfl (W := 0) (nlq rfl) rfl (by decide) (by decide) (by decide) (by decide) nlr rfl ?_
    rintro _ hh747 (⟨b721, b722, kc723, rfl, c725, K724, g726, g727, g728, q729, q730, q731, q732, q733⟩ | ⟨b734, b735, kc736, rfl, c738, K737, g739, g740, g741, q742, q743, q744, q745, q746⟩)
    ·
     have rr748 : 7 ≤ p461.toInt ∧ p461.toInt ≤ 7 := by have := rp461; have : (6 : Int32).toInt = 6 := (by decide); have hc_ := c725; simp only [Int32.lt_iff_toInt_lt, ← Int32.toInt_inj] at hc_; omega
     refine r_astore H 243 #[.val (.int x0), .val (.long x1), .second, .val (.long x2), .second, .val (.ref b1), .val (.int p36), .val (.int p38), .val (.int (3 : Int32)), .val (.int p461), .val (.ref b721), .unset, .unset] at_241 rfl rfl rfl ?_
     refine r_iload H 245 at_243 rfl rfl ?_
     refine r_bipush H 247 (6 : Int32) at_245 (by decide) rfl ?_
     refine r_icmpneT H 308 at_247 (by decide) (by decide) (by have := rr748; have : (6 : Int32).toInt = 6 := (by decide); simp only [Int32.lt_iff_toInt_lt, ← Int32.toInt_inj]; omega) ?_
     refine r_iconst H 309 (0 : Int32) at_308 (by decide) rfl ?_
     refine r_istore H 311 #[.val (.int x0), .val (.long x1), .second, .val (.long x2), .second, .val (.ref b1), .val (.int p36), .val (.int p38), .val (.int (3 : Int32)), .val (.int p461), .val (.ref b721), .val (.int (0 : Int32)), .unset] at_309 rfl rfl ?_
     refine r_iload H 313 at_311 rfl rfl ?_
     refine r_iconst H 314 (2 : Int32) at_313 (by decide) rfl ?_
     refine r_icmpneT H 339 at_314 (by decide) (by decide) (by have := rr748; have : (2 : Int32).toInt = 2 := (by decide); simp only [Int32.lt_iff_toInt_lt, ← Int32.toInt_inj]; omega) ?_
     refine r_iconst H 340 (0 : Int32) at_339 (by decide) rfl ?_
     refine r_istore H 342 #[.val (.int x0), .val (.long x1), .second, .val (.long x2), .second, .val (.ref b1), .val (.int p36), .val (.int p38), .val (.int (3 : Int32)), .val (.int p461), .val (.ref b721), .val (.int (0 : Int32)), .val (.int (0 : Int32))] at_340 rfl rfl ?_
     refine r_aload H 344 at_342 rfl rfl rfl ?_
     have z749 := Nat.le_trans z720 K724.1
     refine r_static H 347 at_344 (tw37 hw) (tw38 hw) (tw39 hw) (tw40 hw) (by decide) (lenOf pd_9 rfl) (rm_isHelp_34 hw Ts b721 b722 (cB8 (45 : Int32)) (cB8 (45 : Int32)) (cB8 (104 : Int32)) (cB8 p36) (cB8 (108 : Int32)) (cB8 (112 : Int32)) (cB8 p31) kc723 cs hh747 h0.size (nlt Zf Z0) z749 q729 q731 q732 q730 wS hcw hh0 S_cs hh1 hT__2d__2d_help hT__2d_h hcs) (argsL := [(.ref b721)]) (rest := []) rfl (W := 0) (nlq rfl) rfl (by decide) (by decide) (by decide) (by decide) nlr rfl ?_
     rintro _ hh751 ⟨rfl, K750⟩
     refine r_iload H 349 at_347 rfl rfl ?_
     refine r_ifneF H 352 at_349 rfl (by decide) ?_
     refine r_iload H 354 at_352 rfl rfl ?_
     refine r_ifeqT H 361 at_354 (by decide) (by decide) (by decide) ?_
     refine r_iconst H 362 (0 : Int32) at_361 (by decide) rfl ?_
     refine r_icmpneF H 365 at_362 rfl (by decide) ?_
     refine r_iconst H 366 (1 : Int32) at_365 (by decide) rfl ?_
     refine r_goto H 370 at_366 (by decide) (by decide) ?_
     exact r_nreturn (1 : Int32) H (by simp) at_370 (by decide) (by decide) (by decide) Z0 (by intro t ht; simp only [List.mem_cons] at ht ⊢; rcases ht with ht | ht | ht <;> simp [ht]) rfl
    ·
     have rr752 : 6 ≤ p461.toInt ∧ p461.toInt ≤ 6 := by have := rp461; have : (6 : Int32).toInt = 6 := (by decide); have hc_ := c738; simp only [Int32.lt_iff_toInt_lt, ← Int32.toInt_inj] at hc_; omega
     refine r_astore H 243 #[.val (.int x0), .val (.long x1), .second, .val (.long x2), .second, .val (.ref b1), .val (.int p36), .val (.int p38), .val (.int (3 : Int32)), .val (.int p461), .val (.ref b734), .unset, .unset] at_241 rfl rfl rfl ?_
     refine r_iload H 245 at_243 rfl rfl ?_
     refine r_bipush H 247 (6 : Int32) at_245 (by decide) rfl ?_
     refine r_icmpneF H 250 at_247 rfl (by have := rr752; have : (6 : Int32).toInt = 6 := (by decide); simp only [Int32.lt_iff_toInt_lt, ← Int32.toInt_inj]; omega) ?_
     refine r_aload H 252 at_250 rfl rfl rfl ?_
     refine r_iconst H 253 (0 : Int32) at_252 (by decide) rfl ?_
     have q753 := (A712.keep K737 nin0)
     refine r_caload H 254 (45 : Int32) at_253 q753 (by decide) rfl rfl ?_
     refine r_bipush H 256 (45 : Int32) at_254 (by decide) rfl ?_
     refine r_icmpneF H 259 at_256 rfl (by decide) ?_
     refine r_aload H 261 at_259 rfl rfl rfl ?_
     refine r_iconst H 262 (1 : Int32) at_261 (by decide) rfl ?_
     refine r_caload H 263 (45 : Int32) at_262 q753 (by decide) rfl rfl ?_
     refine r_bipush H 265 (45 : Int32) at_263 (by decide) rfl ?_
     refine r_icmpneF H 268 at_265 rfl (by decide) ?_
     refine r_aload H 270 at_268 rfl rfl rfl ?_
     refine r_iconst H 271 (2 : Int32) at_270 (by decide) rfl ?_
     refine r_caload H 272 (104 : Int32) at_271 q753 (by decide) rfl rfl ?_
     refine r_bipush H 274 (104 : Int32) at_272 (by decide) rfl ?_
     refine r_icmpneF H 277 at_274 rfl (by decide) ?_
     refine r_aload H 279 at_277 rfl rfl rfl ?_
     refine r_iconst H 280 (3 : Int32) at_279 (by decide) rfl ?_
     refine r_caload H 281 p36 at_280 q753 (by decide) rfl rfl ?_
     refine r_bipush H 283 (101 : Int32) at_281 (by decide) rfl ?_
     refine Run.join (P := fun z => (if p36 = (101 : Int32) then (1 : Int32) else (0 : Int32)) = z ∧ (0 ≤ z.toInt ∧ z.toInt ≤ 1)) (pcB := 309) (LB := fun z => #[.val (.int x0), .val (.long x1), .second, .val (.long x2), .second, .val (.ref b1), .val (.int p36), .val (.int p38), .val (.int (3 : Int32)), .val (.int p461), .val (.ref b734), .unset, .unset]) (SB := fun z => [(.int z)]) (fun key => ?_) ?_
     ·
      refine r_icmpne H 308 286 at_283 (by decide) (by decide) rfl (fun c754 => ?_) (fun c754 => ?_)
      ·
       refine r_iconst H 309 (0 : Int32) at_308 (by decide) rfl ?_
       exact key (0 : Int32) ⟨(by rw [if_neg c754]), (by have : (0 : Int32).toInt = 0 := (by decide); omega)⟩
      ·
       have rr755 : 101 ≤ p36.toInt ∧ p36.toInt ≤ 101 := by have := rp36; have : (101 : Int32).toInt = 101 := (by decide); have hc_ := c754; simp only [Int32.lt_iff_toInt_lt, ← Int32.toInt_inj] at hc_; omega
       refine r_aload H 288 at_286 rfl rfl rfl ?_
       refine r_iconst H 289 (4 : Int32) at_288 (by decide) rfl ?_
       refine r_caload H 290 (108 : Int32) at_289 q753 (by decide) rfl rfl ?_
       refine r_bipush H 292 (108 : Int32) at_290 (by decide) rfl ?_
       refine r_icmpneF H 295 at_292 rfl (by decide) ?_
       refine r_aload H 297 at_295 rfl rfl rfl ?_
       refine r_iconst H 298 (5 : Int32) at_297 (by decide) rfl ?_
       refine r_caload H 299 (112 : Int32) at_298 q753 (by decide) rfl rfl ?_
       refine r_bipush H 301 (112 : Int32) at_299 (by decide) rfl ?_
       refine r_icmpneF H 304 at_301 rfl (by decide) ?_
       refine r_iconst H 305 (1 : Int32) at_304 (by decide) rfl ?_
       refine r_goto H 309 at_305 (by decide) (by decide) ?_
       exact key (1 : Int32) ⟨(by rw [if_pos c754]), (by have : (1 : Int32).toInt = 1 := (by decide); omega)⟩
     rintro p756 ⟨ep756, rp756⟩
     refine r_istore H 311 #[.val (.int x0), .val (.long x1), .second, .val (.long x2), .second, .val (.ref b1), .val (.int p36), .val (.int p38), .val (.int (3 : Int32)), .val (.int p461), .val (.ref b734), .val (.int p756), .unset] at_309 rfl rfl ?_
     refine r_iload H 313 at_311 rfl rfl ?_
     refine r_iconst H 314 (2 : Int32) at_313 (by decide) rfl ?_
     refine r_icmpneT H 339 at_314 (by decide) (by decide) (by have := rr752; have : (2 : Int32).toInt = 2 := (by decide); simp only [Int32.lt_iff_toInt_lt, ← Int32.toInt_inj]; omega) ?_
     refine r_iconst H 340 (0 : Int32) at_339 (by decide) rfl ?_
     refine r_istore H 342 #[.val (.int x0), .val (.long x1), .second, .val (.long x2), .second, .val (.ref b1), .val (.int p36), .val (.int p38), .val (.int (3 : Int32)), .val (.int p461), .val (.ref b734), .val (.int p756), .val (.int (0 : Int32))] at_340 rfl rfl ?_
     refine r_aload H 344 at_342 rfl rfl rfl ?_
     have z757 := Nat.le_trans z720 K737.1
     refine r_static H 347 at_344 (tw37 hw) (tw38 hw) (tw39 hw) (tw40 hw) (by decide) (lenOf pd_9 rfl) (rm_isHelp_39 hw Ts b734 b735 (cB8 (45 : Int32)) (cB8 (45 : Int32)) (cB8 (104 : Int32)) (cB8 p36) (cB8 (108 : Int32)) (cB8 (112 : Int32)) kc736 cs hh747 h0.size (nlt Zf Z0) z757 q742 q744 q745 q743 wS hcw hh0 S_cs hh1 hT__2d__2d_help hT__2d_h hcs) (argsL := [(.ref b734)]) (rest := []) rfl (W := 0) (nlq rfl) rfl (by decide) (by decide) (by decide) (by decide) nlr rfl ?_
     rintro _ hh762 (⟨rfl, c759, K758⟩ | ⟨rfl, c761, K760⟩)
     ·
      refine r_iload H 349 at_347 rfl rfl ?_
      refine Run.join (P := fun z => (if p756 = (0 : Int32) then (0 : Int32) else (1 : Int32)) = z ∧ (0 ≤ z.toInt ∧ z.toInt ≤ 1)) (pcB := 362) (LB := fun z => #[.val (.int x0), .val (.long x1), .second, .val (.long x2), .second, .val (.ref b1), .val (.int p36), .val (.int p38), .val (.int (3 : Int32)), .val (.int p461), .val (.ref b734), .val (.int p756), .val (.int (0 : Int32))]) (SB := fun z => [(.int z), (.int (1 : Int32))]) (fun key => ?_) ?_
      ·
       refine r_ifne H 357 352 at_349 (by decide) (by decide) rfl (fun c763 => ?_) (fun c763 => ?_)
       ·
        have rr764 : 1 ≤ p756.toInt ∧ p756.toInt ≤ 1 := by have := rp756; have : (0 : Int32).toInt = 0 := (by decide); have hc_ := c763; simp only [Int32.lt_iff_toInt_lt, ← Int32.toInt_inj] at hc_; omega
        refine r_iconst H 358 (1 : Int32) at_357 (by decide) rfl ?_
        refine r_goto H 362 at_358 (by decide) (by decide) ?_
        exact key (1 : Int32) ⟨(by rw [if_neg c763]), (by have : (1 : Int32).toInt = 1 := (by decide); omega)⟩
       ·
        have rr765 : 0 ≤ p756.toInt ∧ p756.toInt ≤ 0 := by have := rp756; have : (0 : Int32).toInt = 0 := (by decide); have hc_ := c763; simp only [Int32.lt_iff_toInt_lt, ← Int32.toInt_inj] at hc_; omega
        refine r_iload H 354 at_352 rfl rfl ?_
        refine r_ifeqT H 361 at_354 (by decide) (by decide) (by decide) ?_
        refine r_iconst H 362 (0 : Int32) at_361 (by decide) rfl ?_
        exact key (0 : Int32) ⟨(by rw [if_pos c763]), (by have : (0 : Int32).toInt = 0 := (by decide); omega)⟩
      rintro p766 ⟨ep766, rp766⟩
      refine Run.join (P := fun z => (if (1 : Int32) = p766 then (1 : Int32) else (0 : Int32)) = z ∧ (0 ≤ z.toInt ∧ z.toInt ≤ 1)) (pcB := 370) (LB := fun z => #[.val (.int x0), .val (.long x1), .second, .val (.long x2), .second, .val (.ref b1), .val (.int p36), .val (.int p38), .val (.int (3 : Int32)), .val (.int p461), .val (.ref b734), .val (.int p756), .val (.int (0 : Int32))]) (SB := fun z => [(.int z)]) (fun key => ?_) ?_
      ·
       refine r_icmpne H 369 365 at_362 (by decide) (by decide) rfl (fun c767 => ?_) (fun c767 => ?_)
       ·
        have rr768 : 0 ≤ p766.toInt ∧ p766.toInt ≤ 0 := by have := rp766; have : (1 : Int32).toInt = 1 := (by decide); have hc_ := c767; simp only [Int32.lt_iff_toInt_lt, ← Int32.toInt_inj] at hc_; omega
        refine r_iconst H 370 (0 : Int32) at_369 (by decide) rfl ?_
        exact key (0 : Int32) ⟨(by rw [if_neg c767]), (by have : (0 : Int32).toInt = 0 := (by decide); omega)⟩
       ·
        have rr769 : 1 ≤ p766.toInt ∧ p766.toInt ≤ 1 := by have := rp766; have : (1 : Int32).toInt = 1 := (by decide); have hc_ := c767; simp only [Int32.lt_iff_toInt_lt, ← Int32.toInt_inj] at hc_; omega
        refine r_iconst H 366 (1 : Int32) at_365 (by decide) rfl ?_
        refine r_goto H 370 at_366 (by decide) (by decide) ?_
        exact key (1 : Int32) ⟨(by rw [if_pos c767]), (by have : (1 : Int32).toInt = 1 := (by decide); omega)⟩
      rintro p770 ⟨ep770, rp770⟩
      have hone : p770 = 1 := by rw [← ep770, ← ep766, ← ep756]; exact lf_14 p36 rp36 c759
      exact r_nreturn (1 : Int32) H (by simp) at_370 (by rw [hone]; decide) (by decide) (by decide) Z0 (by intro t ht; simp only [List.mem_cons] at ht ⊢; rcases ht with ht | ht | ht <;> simp [ht]) rfl
     ·
      refine r_iload H 349 at_347 rfl rfl ?_
      refine Run.join (P := fun z => (if p756 = (0 : Int32) then (0 : Int32) else (1 : Int32)) = z ∧ (0 ≤ z.toInt ∧ z.toInt ≤ 1)) (pcB := 362) (LB := fun z => #[.val (.int x0), .val (.long x1), .second, .val (.long x2), .second, .val (.ref b1), .val (.int p36), .val (.int p38), .val (.int (3 : Int32)), .val (.int p461), .val (.ref b734), .val (.int p756), .val (.int (0 : Int32))]) (SB := fun z => [(.int z), (.int (0 : Int32))]) (fun key => ?_) ?_
      ·
       refine r_ifne H 357 352 at_349 (by decide) (by decide) rfl (fun c771 => ?_) (fun c771 => ?_)
       ·
        have rr772 : 1 ≤ p756.toInt ∧ p756.toInt ≤ 1 := by have := rp756; have : (0 : Int32).toInt = 0 := (by decide); have hc_ := c771; simp only [Int32.lt_iff_toInt_lt, ← Int32.toInt_inj] at hc_; omega
        refine r_iconst H 358 (1 : Int32) at_357 (by decide) rfl ?_
        refine r_goto H 362 at_358 (by decide) (by decide) ?_
        exact key (1 : Int32) ⟨(by rw [if_neg c771]), (by have : (1 : Int32).toInt = 1 := (by decide); omega)⟩
       ·
        have rr773 : 0 ≤ p756.toInt ∧ p756.toInt ≤ 0 := by have := rp756; have : (0 : Int32).toInt = 0 := (by decide); have hc_ := c771; simp only [Int32.lt_iff_toInt_lt, ← Int32.toInt_inj] at hc_; omega
        refine r_iload H 354 at_352 rfl rfl ?_
        refine r_ifeqT H 361 at_354 (by decide) (by decide) (by decide) ?_
        refine r_iconst H 362 (0 : Int32) at_361 (by decide) rfl ?_
        exact key (0 : Int32) ⟨(by rw [if_pos c771]), (by have : (0 : Int32).toInt = 0 := (by decide); omega)⟩
      rintro p774 ⟨ep774, rp774⟩
      refine Run.join (P := fun z => (if (0 : Int32) = p774 then (1 : Int32) else (0 : Int32)) = z ∧ (0 ≤ z.toInt ∧ z.toInt ≤ 1)) (pcB := 370) (LB := fun z => #[.val (.int x0), .val (.long x1), .second, .val (.long x2), .second, .val (.ref b1), .val (.int p36), .val (.int p38), .val (.int (3 : Int32)), .val (.int p461), .val (.ref b734), .val (.int p756), .val (.int (0 : Int32))]) (SB := fun z => [(.int z)]) (fun key => ?_) ?_
      ·
       refine r_icmpne H 369 365 at_362 (by decide) (by decide) rfl (fun c775 => ?_) (fun c775 => ?_)
       ·
        have rr776 : 1 ≤ p774.toInt ∧ p774.toInt ≤ 1 := by have := rp774; have : (0 : Int32).toInt = 0 := (by decide); have hc_ := c775; simp only [Int32.lt_iff_toInt_lt, ← Int32.toInt_inj] at hc_; omega
        refine r_iconst H 370 (0 : Int32) at_369 (by decide) rfl ?_
        exact key (0 : Int32) ⟨(by rw [if_neg c775]), (by have : (0 : Int32).toInt = 0 := (by decide); omega)⟩
       ·
        have rr777 : 0 ≤ p774.toInt ∧ p774.toInt ≤ 0 := by have := rp774; have : (0 : Int32).toInt = 0 := (by decide); have hc_ := c775; simp only [Int32.lt_iff_toInt_lt, ← Int32.toInt_inj] at hc_; omega
        refine r_iconst H 366 (1 : Int32) at_365 (by decide) rfl ?_
        refine r_goto H 370 at_366 (by decide) (by decide) ?_
        exact key (1 : Int32) ⟨(by rw [if_pos c775]), (by have : (1 : Int32).toInt = 1 := (by decide); omega)⟩
      rintro p778 ⟨ep778, rp778⟩
      have hone : p778 = 1 := by rw [← ep778, ← ep774, ← ep756]; exact lf_15 p36 rp36 c761
      exact r_nreturn (1 : Int32) H (by simp) at_370 (by rw [hone]; decide) (by decide) (by decide) Z0 (by intro t ht; simp only [List.mem_cons] at ht ⊢; rcases ht with ht | ht | ht <;> simp [ht]) rfl
   ·
    subst c510
    refine r_castore H 177 p36 at_176 A457 (by decide) (Nat.le_of_ble_eq_true rfl) (nlt nlr (Nat.le_of_eq g1.symm)) (nar_char_id (by have := rp36; omega)) rfl ?_
    intro h779 K779 A779
    have q780 := (q458.keep K457)
    change Ar Z h779 b1 kc1 .char [(.int (45 : Int32)), (.int (45 : Int32)), (.int (104 : Int32)), (.int (101 : Int32)), (.int p36), (.int (112 : Int32)), (.int p31)] at A779
    refine r_goto H 234 at_177 (by decide) (by decide) ?_
    refine r_aload H 236 at_234 rfl rfl rfl ?_
    refine r_iload H 238 at_236 rfl rfl ?_
    have z781 := Nat.le_trans z35 K447.1
    have z782 := Nat.le_trans z781 K449.1
    have z783 := Nat.le_trans z782 K451.1
    have z784 := Nat.le_trans z783 K453.1
    have z785 := Nat.le_trans z784 K455.1
    have z786 := Nat.le_trans z785 K457.1
    have z787 := Nat.le_trans z786 K779.1
    refine r_static H 241 at_238 (tw5 hw) (tw6 hw) (tw3 hw) (tw7 hw) (by decide) (lenOf pd_6 rfl) (rm_word_23 hw Ts b1 p461 (45 : Int32) (45 : Int32) (104 : Int32) (101 : Int32) p36 (112 : Int32) p31 kc1 cs h779 h0.size (nlt Zf Z0) z787 A779 rp461 (by have : (45 : Int32).toInt = 45 := (by decide); omega) (by have : (45 : Int32).toInt = 45 := (by decide); omega) (by have : (104 : Int32).toInt = 104 := (by decide); omega) (by have : (101 : Int32).toInt = 101 := (by decide); omega) (by have := rp36; omega) (by have : (112 : Int32).toInt = 112 := (by decide); omega) (by have := rp31; omega) S_cs hcs) (argsL := [(.ref b1), (.int p461)]) (rest := []) rfl (W := 0) (nlq rfl) rfl (by decide) (by decide) (by decide) (by decide) nlr rfl ?_
    rintro _ hh814 (⟨b788, b789, kc790, rfl, c792, K791, g793, g794, g795, q796, q797, q798, q799, q800⟩ | ⟨b801, b802, kc803, rfl, c805, K804, g806, g807, g808, q809, q810, q811, q812, q813⟩)
    ·
     have rr815 : 7 ≤ p461.toInt ∧ p461.toInt ≤ 7 := by have := rp461; have : (6 : Int32).toInt = 6 := (by decide); have hc_ := c792; simp only [Int32.lt_iff_toInt_lt, ← Int32.toInt_inj] at hc_; omega
     refine r_astore H 243 #[.val (.int x0), .val (.long x1), .second, .val (.long x2), .second, .val (.ref b1), .val (.int p36), .val (.int p38), .val (.int (4 : Int32)), .val (.int p461), .val (.ref b788), .unset, .unset] at_241 rfl rfl rfl ?_
     refine r_iload H 245 at_243 rfl rfl ?_
     refine r_bipush H 247 (6 : Int32) at_245 (by decide) rfl ?_
     refine r_icmpneT H 308 at_247 (by decide) (by decide) (by have := rr815; have : (6 : Int32).toInt = 6 := (by decide); simp only [Int32.lt_iff_toInt_lt, ← Int32.toInt_inj]; omega) ?_
     refine r_iconst H 309 (0 : Int32) at_308 (by decide) rfl ?_
     refine r_istore H 311 #[.val (.int x0), .val (.long x1), .second, .val (.long x2), .second, .val (.ref b1), .val (.int p36), .val (.int p38), .val (.int (4 : Int32)), .val (.int p461), .val (.ref b788), .val (.int (0 : Int32)), .unset] at_309 rfl rfl ?_
     refine r_iload H 313 at_311 rfl rfl ?_
     refine r_iconst H 314 (2 : Int32) at_313 (by decide) rfl ?_
     refine r_icmpneT H 339 at_314 (by decide) (by decide) (by have := rr815; have : (2 : Int32).toInt = 2 := (by decide); simp only [Int32.lt_iff_toInt_lt, ← Int32.toInt_inj]; omega) ?_
     refine r_iconst H 340 (0 : Int32) at_339 (by decide) rfl ?_
     refine r_istore H 342 #[.val (.int x0), .val (.long x1), .second, .val (.long x2), .second, .val (.ref b1), .val (.int p36), .val (.int p38), .val (.int (4 : Int32)), .val (.int p461), .val (.ref b788), .val (.int (0 : Int32)), .val (.int (0 : Int32))] at_340 rfl rfl ?_
     refine r_aload H 344 at_342 rfl rfl rfl ?_
     have z816 := Nat.le_trans z787 K791.1
     refine r_static H 347 at_344 (tw37 hw) (tw38 hw) (tw39 hw) (tw40 hw) (by decide) (lenOf pd_9 rfl) (rm_isHelp_34 hw Ts b788 b789 (cB8 (45 : Int32)) (cB8 (45 : Int32)) (cB8 (104 : Int32)) (cB8 (101 : Int32)) (cB8 p36) (cB8 (112 : Int32)) (cB8 p31) kc790 cs hh814 h0.size (nlt Zf Z0) z816 q796 q798 q799 q797 wS hcw hh0 S_cs hh1 hT__2d__2d_help hT__2d_h hcs) (argsL := [(.ref b788)]) (rest := []) rfl (W := 0) (nlq rfl) rfl (by decide) (by decide) (by decide) (by decide) nlr rfl ?_
     rintro _ hh818 ⟨rfl, K817⟩
     refine r_iload H 349 at_347 rfl rfl ?_
     refine r_ifneF H 352 at_349 rfl (by decide) ?_
     refine r_iload H 354 at_352 rfl rfl ?_
     refine r_ifeqT H 361 at_354 (by decide) (by decide) (by decide) ?_
     refine r_iconst H 362 (0 : Int32) at_361 (by decide) rfl ?_
     refine r_icmpneF H 365 at_362 rfl (by decide) ?_
     refine r_iconst H 366 (1 : Int32) at_365 (by decide) rfl ?_
     refine r_goto H 370 at_366 (by decide) (by decide) ?_
     exact r_nreturn (1 : Int32) H (by simp) at_370 (by decide) (by decide) (by decide) Z0 (by intro t ht; simp only [List.mem_cons] at ht ⊢; rcases ht with ht | ht | ht <;> simp [ht]) rfl
    ·
     have rr819 : 6 ≤ p461.toInt ∧ p461.toInt ≤ 6 := by have := rp461; have : (6 : Int32).toInt = 6 := (by decide); have hc_ := c805; simp only [Int32.lt_iff_toInt_lt, ← Int32.toInt_inj] at hc_; omega
     refine r_astore H 243 #[.val (.int x0), .val (.long x1), .second, .val (.long x2), .second, .val (.ref b1), .val (.int p36), .val (.int p38), .val (.int (4 : Int32)), .val (.int p461), .val (.ref b801), .unset, .unset] at_241 rfl rfl rfl ?_
     refine r_iload H 245 at_243 rfl rfl ?_
     refine r_bipush H 247 (6 : Int32) at_245 (by decide) rfl ?_
     refine r_icmpneF H 250 at_247 rfl (by have := rr819; have : (6 : Int32).toInt = 6 := (by decide); simp only [Int32.lt_iff_toInt_lt, ← Int32.toInt_inj]; omega) ?_
     refine r_aload H 252 at_250 rfl rfl rfl ?_
     refine r_iconst H 253 (0 : Int32) at_252 (by decide) rfl ?_
     have q820 := (A779.keep K804 nin0)
     refine r_caload H 254 (45 : Int32) at_253 q820 (by decide) rfl rfl ?_
     refine r_bipush H 256 (45 : Int32) at_254 (by decide) rfl ?_
     refine r_icmpneF H 259 at_256 rfl (by decide) ?_
     refine r_aload H 261 at_259 rfl rfl rfl ?_
     refine r_iconst H 262 (1 : Int32) at_261 (by decide) rfl ?_
     refine r_caload H 263 (45 : Int32) at_262 q820 (by decide) rfl rfl ?_
     refine r_bipush H 265 (45 : Int32) at_263 (by decide) rfl ?_
     refine r_icmpneF H 268 at_265 rfl (by decide) ?_
     refine r_aload H 270 at_268 rfl rfl rfl ?_
     refine r_iconst H 271 (2 : Int32) at_270 (by decide) rfl ?_
     refine r_caload H 272 (104 : Int32) at_271 q820 (by decide) rfl rfl ?_
     refine r_bipush H 274 (104 : Int32) at_272 (by decide) rfl ?_
     refine r_icmpneF H 277 at_274 rfl (by decide) ?_
     refine r_aload H 279 at_277 rfl rfl rfl ?_
     refine r_iconst H 280 (3 : Int32) at_279 (by decide) rfl ?_
     refine r_caload H 281 (101 : Int32) at_280 q820 (by decide) rfl rfl ?_
     refine r_bipush H 283 (101 : Int32) at_281 (by decide) rfl ?_
     refine r_icmpneF H 286 at_283 rfl (by decide) ?_
     refine r_aload H 288 at_286 rfl rfl rfl ?_
     refine r_iconst H 289 (4 : Int32) at_288 (by decide) rfl ?_
     refine r_caload H 290 p36 at_289 q820 (by decide) rfl rfl ?_
     refine r_bipush H 292 (108 : Int32) at_290 (by decide) rfl ?_
     refine Run.join (P := fun z => (if p36 = (108 : Int32) then (1 : Int32) else (0 : Int32)) = z ∧ (0 ≤ z.toInt ∧ z.toInt ≤ 1)) (pcB := 309) (LB := fun z => #[.val (.int x0), .val (.long x1), .second, .val (.long x2), .second, .val (.ref b1), .val (.int p36), .val (.int p38), .val (.int (4 : Int32)), .val (.int p461), .val (.ref b801), .unset, .unset]) (SB := fun z => [(.int z)]) (fun key => ?_) ?_
     ·
      refine r_icmpne H 308 295 at_292 (by decide) (by decide) rfl (fun c821 => ?_) (fun c821 => ?_)
      ·
       refine r_iconst H 309 (0 : Int32) at_308 (by decide) rfl ?_
       exact key (0 : Int32) ⟨(by rw [if_neg c821]), (by have : (0 : Int32).toInt = 0 := (by decide); omega)⟩
      ·
       have rr822 : 108 ≤ p36.toInt ∧ p36.toInt ≤ 108 := by have := rp36; have : (108 : Int32).toInt = 108 := (by decide); have hc_ := c821; simp only [Int32.lt_iff_toInt_lt, ← Int32.toInt_inj] at hc_; omega
       refine r_aload H 297 at_295 rfl rfl rfl ?_
       refine r_iconst H 298 (5 : Int32) at_297 (by decide) rfl ?_
       refine r_caload H 299 (112 : Int32) at_298 q820 (by decide) rfl rfl ?_
       refine r_bipush H 301 (112 : Int32) at_299 (by decide) rfl ?_
       refine r_icmpneF H 304 at_301 rfl (by decide) ?_
       refine r_iconst H 305 (1 : Int32) at_304 (by decide) rfl ?_
       refine r_goto H 309 at_305 (by decide) (by decide) ?_
       exact key (1 : Int32) ⟨(by rw [if_pos c821]), (by have : (1 : Int32).toInt = 1 := (by decide); omega)⟩
     rintro p823 ⟨ep823, rp823⟩
     refine r_istore H 311 #[.val (.int x0), .val (.long x1), .second, .val (.long x2), .second, .val (.ref b1), .val (.int p36), .val (.int p38), .val (.int (4 : Int32)), .val (.int p461), .val (.ref b801), .val (.int p823), .unset] at_309 rfl rfl ?_
     refine r_iload H 313 at_311 rfl rfl ?_
     refine r_iconst H 314 (2 : Int32) at_313 (by decide) rfl ?_
     refine r_icmpneT H 339 at_314 (by decide) (by decide) (by have := rr819; have : (2 : Int32).toInt = 2 := (by decide); simp only [Int32.lt_iff_toInt_lt, ← Int32.toInt_inj]; omega) ?_
     refine r_iconst H 340 (0 : Int32) at_339 (by decide) rfl ?_
     refine r_istore H 342 #[.val (.int x0), .val (.long x1), .second, .val (.long x2), .second, .val (.ref b1), .val (.int p36), .val (.int p38), .val (.int (4 : Int32)), .val (.int p461), .val (.ref b801), .val (.int p823), .val (.int (0 : Int32))] at_340 rfl rfl ?_
     refine r_aload H 344 at_342 rfl rfl rfl ?_
     have z824 := Nat.le_trans z787 K804.1
     refine r_static H 347 at_344 (tw37 hw) (tw38 hw) (tw39 hw) (tw40 hw) (by decide) (lenOf pd_9 rfl) (rm_isHelp_39 hw Ts b801 b802 (cB8 (45 : Int32)) (cB8 (45 : Int32)) (cB8 (104 : Int32)) (cB8 (101 : Int32)) (cB8 p36) (cB8 (112 : Int32)) kc803 cs hh814 h0.size (nlt Zf Z0) z824 q809 q811 q812 q810 wS hcw hh0 S_cs hh1 hT__2d__2d_help hT__2d_h hcs) (argsL := [(.ref b801)]) (rest := []) rfl (W := 0) (nlq rfl) rfl (by decide) (by decide) (by decide) (by decide) nlr rfl ?_
     rintro _ hh829 (⟨rfl, c826, K825⟩ | ⟨rfl, c828, K827⟩)
     ·
      refine r_iload H 349 at_347 rfl rfl ?_
      refine Run.join (P := fun z => (if p823 = (0 : Int32) then (0 : Int32) else (1 : Int32)) = z ∧ (0 ≤ z.toInt ∧ z.toInt ≤ 1)) (pcB := 362) (LB := fun z => #[.val (.int x0), .val (.long x1), .second, .val (.long x2), .second, .val (.ref b1), .val (.int p36), .val (.int p38), .val (.int (4 : Int32)), .val (.int p461), .val (.ref b801), .val (.int p823), .val (.int (0 : Int32))]) (SB := fun z => [(.int z), (.int (1 : Int32))]) (fun key => ?_) ?_
      ·
       refine r_ifne H 357 352 at_349 (by decide) (by decide) rfl (fun c830 => ?_) (fun c830 => ?_)
       ·
        have rr831 : 1 ≤ p823.toInt ∧ p823.toInt ≤ 1 := by have := rp823; have : (0 : Int32).toInt = 0 := (by decide); have hc_ := c830; simp only [Int32.lt_iff_toInt_lt, ← Int32.toInt_inj] at hc_; omega
        refine r_iconst H 358 (1 : Int32) at_357 (by decide) rfl ?_
        refine r_goto H 362 at_358 (by decide) (by decide) ?_
        exact key (1 : Int32) ⟨(by rw [if_neg c830]), (by have : (1 : Int32).toInt = 1 := (by decide); omega)⟩
       ·
        have rr832 : 0 ≤ p823.toInt ∧ p823.toInt ≤ 0 := by have := rp823; have : (0 : Int32).toInt = 0 := (by decide); have hc_ := c830; simp only [Int32.lt_iff_toInt_lt, ← Int32.toInt_inj] at hc_; omega
        refine r_iload H 354 at_352 rfl rfl ?_
        refine r_ifeqT H 361 at_354 (by decide) (by decide) (by decide) ?_
        refine r_iconst H 362 (0 : Int32) at_361 (by decide) rfl ?_
        exact key (0 : Int32) ⟨(by rw [if_pos c830]), (by have : (0 : Int32).toInt = 0 := (by decide); omega)⟩
      rintro p833 ⟨ep833, rp833⟩
      refine Run.join (P := fun z => (if (1 : Int32) = p833 then (1 : Int32) else (0 : Int32)) = z ∧ (0 ≤ z.toInt ∧ z.toInt ≤ 1)) (pcB := 370) (LB := fun z => #[.val (.int x0), .val (.long x1), .second, .val (.long x2), .second, .val (.ref b1), .val (.int p36), .val (.int p38), .val (.int (4 : Int32)), .val (.int p461), .val (.ref b801), .val (.int p823), .val (.int (0 : Int32))]) (SB := fun z => [(.int z)]) (fun key => ?_) ?_
      ·
       refine r_icmpne H 369 365 at_362 (by decide) (by decide) rfl (fun c834 => ?_) (fun c834 => ?_)
       ·
        have rr835 : 0 ≤ p833.toInt ∧ p833.toInt ≤ 0 := by have := rp833; have : (1 : Int32).toInt = 1 := (by decide); have hc_ := c834; simp only [Int32.lt_iff_toInt_lt, ← Int32.toInt_inj] at hc_; omega
        refine r_iconst H 370 (0 : Int32) at_369 (by decide) rfl ?_
        exact key (0 : Int32) ⟨(by rw [if_neg c834]), (by have : (0 : Int32).toInt = 0 := (by decide); omega)⟩
       ·
        have rr836 : 1 ≤ p833.toInt ∧ p833.toInt ≤ 1 := by have := rp833; have : (1 : Int32).toInt = 1 := (by decide); have hc_ := c834; simp only [Int32.lt_iff_toInt_lt, ← Int32.toInt_inj] at hc_; omega
        refine r_iconst H 366 (1 : Int32) at_365 (by decide) rfl ?_
        refine r_goto H 370 at_366 (by decide) (by decide) ?_
        exact key (1 : Int32) ⟨(by rw [if_pos c834]), (by have : (1 : Int32).toInt = 1 := (by decide); omega)⟩
      rintro p837 ⟨ep837, rp837⟩
      have hone : p837 = 1 := by rw [← ep837, ← ep833, ← ep823]; exact lf_16 p36 rp36 c826
      exact r_nreturn (1 : Int32) H (by simp) at_370 (by rw [hone]; decide) (by decide) (by decide) Z0 (by intro t ht; simp only [List.mem_cons] at ht ⊢; rcases ht with ht | ht | ht <;> simp [ht]) rfl
     ·
      refine r_iload H 349 at_347 rfl rfl ?_
      refine Run.join (P := fun z => (if p823 = (0 : Int32) then (0 : Int32) else (1 : Int32)) = z ∧ (0 ≤ z.toInt ∧ z.toInt ≤ 1)) (pcB := 362) (LB := fun z => #[.val (.int x0), .val (.long x1), .second, .val (.long x2), .second, .val (.ref b1), .val (.int p36), .val (.int p38), .val (.int (4 : Int32)), .val (.int p461), .val (.ref b801), .val (.int p823), .val (.int (0 : Int32))]) (SB := fun z => [(.int z), (.int (0 : Int32))]) (fun key => ?_) ?_
      ·
       refine r_ifne H 357 352 at_349 (by decide) (by decide) rfl (fun c838 => ?_) (fun c838 => ?_)
       ·
        have rr839 : 1 ≤ p823.toInt ∧ p823.toInt ≤ 1 := by have := rp823; have : (0 : Int32).toInt = 0 := (by decide); have hc_ := c838; simp only [Int32.lt_iff_toInt_lt, ← Int32.toInt_inj] at hc_; omega
        refine r_iconst H 358 (1 : Int32) at_357 (by decide) rfl ?_
        refine r_goto H 362 at_358 (by decide) (by decide) ?_
        exact key (1 : Int32) ⟨(by rw [if_neg c838]), (by have : (1 : Int32).toInt = 1 := (by decide); omega)⟩
       ·
        have rr840 : 0 ≤ p823.toInt ∧ p823.toInt ≤ 0 := by have := rp823; have : (0 : Int32).toInt = 0 := (by decide); have hc_ := c838; simp only [Int32.lt_iff_toInt_lt, ← Int32.toInt_inj] at hc_; omega
        refine r_iload H 354 at_352 rfl rfl ?_
        refine r_ifeqT H 361 at_354 (by decide) (by decide) (by decide) ?_
        refine r_iconst H 362 (0 : Int32) at_361 (by decide) rfl ?_
        exact key (0 : Int32) ⟨(by rw [if_pos c838]), (by have : (0 : Int32).toInt = 0 := (by decide); omega)⟩
      rintro p841 ⟨ep841, rp841⟩
      refine Run.join (P := fun z => (if (0 : Int32) = p841 then (1 : Int32) else (0 : Int32)) = z ∧ (0 ≤ z.toInt ∧ z.toInt ≤ 1)) (pcB := 370) (LB := fun z => #[.val (.int x0), .val (.long x1), .second, .val (.long x2), .second, .val (.ref b1), .val (.int p36), .val (.int p38), .val (.int (4 : Int32)), .val (.int p461), .val (.ref b801), .val (.int p823), .val (.int (0 : Int32))]) (SB := fun z => [(.int z)]) (fun key => ?_) ?_
      ·
       refine r_icmpne H 369 365 at_362 (by decide) (by decide) rfl (fun c842 => ?_) (fun c842 => ?_)
       ·
        have rr843 : 1 ≤ p841.toInt ∧ p841.toInt ≤ 1 := by have := rp841; have : (0 : Int32).toInt = 0 := (by decide); have hc_ := c842; simp only [Int32.lt_iff_toInt_lt, ← Int32.toInt_inj] at hc_; omega
        refine r_iconst H 370 (0 : Int32) at_369 (by decide) rfl ?_
        exact key (0 : Int32) ⟨(by rw [if_neg c842]), (by have : (0 : Int32).toInt = 0 := (by decide); omega)⟩
       ·
        have rr844 : 0 ≤ p841.toInt ∧ p841.toInt ≤ 0 := by have := rp841; have : (0 : Int32).toInt = 0 := (by decide); have hc_ := c842; simp only [Int32.lt_iff_toInt_lt, ← Int32.toInt_inj] at hc_; omega
        refine r_iconst H 366 (1 : Int32) at_365 (by decide) rfl ?_
        refine r_goto H 370 at_366 (by decide) (by decide) ?_
        exact key (1 : Int32) ⟨(by rw [if_pos c842]), (by have : (1 : Int32).toInt = 1 := (by decide); omega)⟩
      rintro p845 ⟨ep845, rp845⟩
      have hone : p845 = 1 := by rw [← ep845, ← ep841, ← ep823]; exact lf_17 p36 rp36 c828
      exact r_nreturn (1 : Int32) H (by simp) at_370 (by rw [hone]; decide) (by decide) (by decide) Z0 (by intro t ht; simp only [List.mem_cons] at ht ⊢; rcases ht with ht | ht | ht <;> simp [ht]) rfl
   ·
    subst c510
    refine r_castore H 177 p36 at_176 A457 (by decide) (Nat.le_of_ble_eq_true rfl) (nlt nlr (Nat.le_of_eq g1.symm)) (nar_char_id (by have := rp36; omega)) rfl ?_
    intro h846 K846 A846
    have q847 := (q458.keep K457)
    change Ar Z h846 b1 kc1 .char [(.int (45 : Int32)), (.int (45 : Int32)), (.int (104 : Int32)), (.int (101 : Int32)), (.int (108 : Int32)), (.int p36), (.int p31)] at A846
    refine r_goto H 234 at_177 (by decide) (by decide) ?_
    refine r_aload H 236 at_234 rfl rfl rfl ?_
    refine r_iload H 238 at_236 rfl rfl ?_
    have z848 := Nat.le_trans z35 K447.1
    have z849 := Nat.le_trans z848 K449.1
    have z850 := Nat.le_trans z849 K451.1
    have z851 := Nat.le_trans z850 K453.1
    have z852 := Nat.le_trans z851 K455.1
    have z853 := Nat.le_trans z852 K457.1
    have z854 := Nat.le_trans z853 K846.1
    refine r_static H 241 at_238 (tw5 hw) (tw6 hw) (tw3 hw) (tw7 hw) (by decide) (lenOf pd_6 rfl) (rm_word_23 hw Ts b1 p461 (45 : Int32) (45 : Int32) (104 : Int32) (101 : Int32) (108 : Int32) p36 p31 kc1 cs h846 h0.size (nlt Zf Z0) z854 A846 rp461 (by have : (45 : Int32).toInt = 45 := (by decide); omega) (by have : (45 : Int32).toInt = 45 := (by decide); omega) (by have : (104 : Int32).toInt = 104 := (by decide); omega) (by have : (101 : Int32).toInt = 101 := (by decide); omega) (by have : (108 : Int32).toInt = 108 := (by decide); omega) (by have := rp36; omega) (by have := rp31; omega) S_cs hcs) (argsL := [(.ref b1), (.int p461)]) (rest := []) rfl (W := 0) (nlq rfl) rfl (by decide) (by decide) (by decide) (by decide) nlr rfl ?_
    rintro _ hh881 (⟨b855, b856, kc857, rfl, c859, K858, g860, g861, g862, q863, q864, q865, q866, q867⟩ | ⟨b868, b869, kc870, rfl, c872, K871, g873, g874, g875, q876, q877, q878, q879, q880⟩)
    ·
     have rr882 : 7 ≤ p461.toInt ∧ p461.toInt ≤ 7 := by have := rp461; have : (6 : Int32).toInt = 6 := (by decide); have hc_ := c859; simp only [Int32.lt_iff_toInt_lt, ← Int32.toInt_inj] at hc_; omega
     refine r_astore H 243 #[.val (.int x0), .val (.long x1), .second, .val (.long x2), .second, .val (.ref b1), .val (.int p36), .val (.int p38), .val (.int (5 : Int32)), .val (.int p461), .val (.ref b855), .unset, .unset] at_241 rfl rfl rfl ?_
     refine r_iload H 245 at_243 rfl rfl ?_
     refine r_bipush H 247 (6 : Int32) at_245 (by decide) rfl ?_
     refine r_icmpneT H 308 at_247 (by decide) (by decide) (by have := rr882; have : (6 : Int32).toInt = 6 := (by decide); simp only [Int32.lt_iff_toInt_lt, ← Int32.toInt_inj]; omega) ?_
     refine r_iconst H 309 (0 : Int32) at_308 (by decide) rfl ?_
     refine r_istore H 311 #[.val (.int x0), .val (.long x1), .second, .val (.long x2), .second, .val (.ref b1), .val (.int p36), .val (.int p38), .val (.int (5 : Int32)), .val (.int p461), .val (.ref b855), .val (.int (0 : Int32)), .unset] at_309 rfl rfl ?_
     refine r_iload H 313 at_311 rfl rfl ?_
     refine r_iconst H 314 (2 : Int32) at_313 (by decide) rfl ?_
     refine r_icmpneT H 339 at_314 (by decide) (by decide) (by have := rr882; have : (2 : Int32).toInt = 2 := (by decide); simp only [Int32.lt_iff_toInt_lt, ← Int32.toInt_inj]; omega) ?_
     refine r_iconst H 340 (0 : Int32) at_339 (by decide) rfl ?_
     refine r_istore H 342 #[.val (.int x0), .val (.long x1), .second, .val (.long x2), .second, .val (.ref b1), .val (.int p36), .val (.int p38), .val (.int (5 : Int32)), .val (.int p461), .val (.ref b855), .val (.int (0 : Int32)), .val (.int (0 : Int32))] at_340 rfl rfl ?_
     refine r_aload H 344 at_342 rfl rfl rfl ?_
     have z883 := Nat.le_trans z854 K858.1
     refine r_static H 347 at_344 (tw37 hw) (tw38 hw) (tw39 hw) (tw40 hw) (by decide) (lenOf pd_9 rfl) (rm_isHelp_34 hw Ts b855 b856 (cB8 (45 : Int32)) (cB8 (45 : Int32)) (cB8 (104 : Int32)) (cB8 (101 : Int32)) (cB8 (108 : Int32)) (cB8 p36) (cB8 p31) kc857 cs hh881 h0.size (nlt Zf Z0) z883 q863 q865 q866 q864 wS hcw hh0 S_cs hh1 hT__2d__2d_help hT__2d_h hcs) (argsL := [(.ref b855)]) (rest := []) rfl (W := 0) (nlq rfl) rfl (by decide) (by decide) (by decide) (by decide) nlr rfl ?_
     rintro _ hh885 ⟨rfl, K884⟩
     refine r_iload H 349 at_347 rfl rfl ?_
     refine r_ifneF H 352 at_349 rfl (by decide) ?_
     refine r_iload H 354 at_352 rfl rfl ?_
     refine r_ifeqT H 361 at_354 (by decide) (by decide) (by decide) ?_
     refine r_iconst H 362 (0 : Int32) at_361 (by decide) rfl ?_
     refine r_icmpneF H 365 at_362 rfl (by decide) ?_
     refine r_iconst H 366 (1 : Int32) at_365 (by decide) rfl ?_
     refine r_goto H 370 at_366 (by decide) (by decide) ?_
     exact r_nreturn (1 : Int32) H (by simp) at_370 (by decide) (by decide) (by decide) Z0 (by intro t ht; simp only [List.mem_cons] at ht ⊢; rcases ht with ht | ht | ht <;> simp [ht]) rfl
    ·
     have rr886 : 6 ≤ p461.toInt ∧ p461.toInt ≤ 6 := by have := rp461; have : (6 : Int32).toInt = 6 := (by decide); have hc_ := c872; simp only [Int32.lt_iff_toInt_lt, ← Int32.toInt_inj] at hc_; omega
     refine r_astore H 243 #[.val (.int x0), .val (.long x1), .second, .val (.long x2), .second, .val (.ref b1), .val (.int p36), .val (.int p38), .val (.int (5 : Int32)), .val (.int p461), .val (.ref b868), .unset, .unset] at_241 rfl rfl rfl ?_
     refine r_iload H 245 at_243 rfl rfl ?_
     refine r_bipush H 247 (6 : Int32) at_245 (by decide) rfl ?_
     refine r_icmpneF H 250 at_247 rfl (by have := rr886; have : (6 : Int32).toInt = 6 := (by decide); simp only [Int32.lt_iff_toInt_lt, ← Int32.toInt_inj]; omega) ?_
     refine r_aload H 252 at_250 rfl rfl rfl ?_
     refine r_iconst H 253 (0 : Int32) at_252 (by decide) rfl ?_
     have q887 := (A846.keep K871 nin0)
     refine r_caload H 254 (45 : Int32) at_253 q887 (by decide) rfl rfl ?_
     refine r_bipush H 256 (45 : Int32) at_254 (by decide) rfl ?_
     refine r_icmpneF H 259 at_256 rfl (by decide) ?_
     refine r_aload H 261 at_259 rfl rfl rfl ?_
     refine r_iconst H 262 (1 : Int32) at_261 (by decide) rfl ?_
     refine r_caload H 263 (45 : Int32) at_262 q887 (by decide) rfl rfl ?_
     refine r_bipush H 265 (45 : Int32) at_263 (by decide) rfl ?_
     refine r_icmpneF H 268 at_265 rfl (by decide) ?_
     refine r_aload H 270 at_268 rfl rfl rfl ?_
     refine r_iconst H 271 (2 : Int32) at_270 (by decide) rfl ?_
     refine r_caload H 272 (104 : Int32) at_271 q887 (by decide) rfl rfl ?_
     refine r_bipush H 274 (104 : Int32) at_272 (by decide) rfl ?_
     refine r_icmpneF H 277 at_274 rfl (by decide) ?_
     refine r_aload H 279 at_277 rfl rfl rfl ?_
     refine r_iconst H 280 (3 : Int32) at_279 (by decide) rfl ?_
     refine r_caload H 281 (101 : Int32) at_280 q887 (by decide) rfl rfl ?_
     refine r_bipush H 283 (101 : Int32) at_281 (by decide) rfl ?_
     refine r_icmpneF H 286 at_283 rfl (by decide) ?_
     refine r_aload H 288 at_286 rfl rfl rfl ?_
     refine r_iconst H 289 (4 : Int32) at_288 (by decide) rfl ?_
     refine r_caload H 290 (108 : Int32) at_289 q887 (by decide) rfl rfl ?_
     refine r_bipush H 292 (108 : Int32) at_290 (by decide) rfl ?_
     refine r_icmpneF H 295 at_292 rfl (by decide) ?_
     refine r_aload H 297 at_295 rfl rfl rfl ?_
     refine r_iconst H 298 (5 : Int32) at_297 (by decide) rfl ?_
     refine r_caload H 299 p36 at_298 q887 (by decide) rfl rfl ?_
     refine r_bipush H 301 (112 : Int32) at_299 (by decide) rfl ?_
     refine Run.join (P := fun z => (if p36 = (112 : Int32) then (1 : Int32) else (0 : Int32)) = z ∧ (0 ≤ z.toInt ∧ z.toInt ≤ 1)) (pcB := 309) (LB := fun z => #[.val (.int x0), .val (.long x1), .second, .val (.long x2), .second, .val (.ref b1), .val (.int p36), .val (.int p38), .val (.int (5 : Int32)), .val (.int p461), .val (.ref b868), .unset, .unset]) (SB := fun z => [(.int z)]) (fun key => ?_) ?_
     ·
      refine r_icmpne H 308 304 at_301 (by decide) (by decide) rfl (fun c888 => ?_) (fun c888 => ?_)
      ·
       refine r_iconst H 309 (0 : Int32) at_308 (by decide) rfl ?_
       exact key (0 : Int32) ⟨(by rw [if_neg c888]), (by have : (0 : Int32).toInt = 0 := (by decide); omega)⟩
      ·
       have rr889 : 112 ≤ p36.toInt ∧ p36.toInt ≤ 112 := by have := rp36; have : (112 : Int32).toInt = 112 := (by decide); have hc_ := c888; simp only [Int32.lt_iff_toInt_lt, ← Int32.toInt_inj] at hc_; omega
       refine r_iconst H 305 (1 : Int32) at_304 (by decide) rfl ?_
       refine r_goto H 309 at_305 (by decide) (by decide) ?_
       exact key (1 : Int32) ⟨(by rw [if_pos c888]), (by have : (1 : Int32).toInt = 1 := (by decide); omega)⟩
     rintro p890 ⟨ep890, rp890⟩
     refine r_istore H 311 #[.val (.int x0), .val (.long x1), .second, .val (.long x2), .second, .val (.ref b1), .val (.int p36), .val (.int p38), .val (.int (5 : Int32)), .val (.int p461), .val (.ref b868), .val (.int p890), .unset] at_309 rfl rfl ?_
     refine r_iload H 313 at_311 rfl rfl ?_
     refine r_iconst H 314 (2 : Int32) at_313 (by decide) rfl ?_
     refine r_icmpneT H 339 at_314 (by decide) (by decide) (by have := rr886; have : (2 : Int32).toInt = 2 := (by decide); simp only [Int32.lt_iff_toInt_lt, ← Int32.toInt_inj]; omega) ?_
     refine r_iconst H 340 (0 : Int32) at_339 (by decide) rfl ?_
     refine r_istore H 342 #[.val (.int x0), .val (.long x1), .second, .val (.long x2), .second, .val (.ref b1), .val (.int p36), .val (.int p38), .val (.int (5 : Int32)), .val (.int p461), .val (.ref b868), .val (.int p890), .val (.int (0 : Int32))] at_340 rfl rfl ?_
     refine r_aload H 344 at_342 rfl rfl rfl ?_
     have z891 := Nat.le_trans z854 K871.1
     refine r_static H 347 at_344 (tw37 hw) (tw38 hw) (tw39 hw) (tw40 hw) (by decide) (lenOf pd_9 rfl) (rm_isHelp_39 hw Ts b868 b869 (cB8 (45 : Int32)) (cB8 (45 : Int32)) (cB8 (104 : Int32)) (cB8 (101 : Int32)) (cB8 (108 : Int32)) (cB8 p36) kc870 cs hh881 h0.size (nlt Zf Z0) z891 q876 q878 q879 q877 wS hcw hh0 S_cs hh1 hT__2d__2d_help hT__2d_h hcs) (argsL := [(.ref b868)]) (rest := []) rfl (W := 0) (nlq rfl) rfl (by decide) (by decide) (by decide) (by decide) nlr rfl ?_
     rintro _ hh896 (⟨rfl, c893, K892⟩ | ⟨rfl, c895, K894⟩)
     ·
      refine r_iload H 349 at_347 rfl rfl ?_
      refine Run.join (P := fun z => (if p890 = (0 : Int32) then (0 : Int32) else (1 : Int32)) = z ∧ (0 ≤ z.toInt ∧ z.toInt ≤ 1)) (pcB := 362) (LB := fun z => #[.val (.int x0), .val (.long x1), .second, .val (.long x2), .second, .val (.ref b1), .val (.int p36), .val (.int p38), .val (.int (5 : Int32)), .val (.int p461), .val (.ref b868), .val (.int p890), .val (.int (0 : Int32))]) (SB := fun z => [(.int z), (.int (1 : Int32))]) (fun key => ?_) ?_
      ·
       refine r_ifne H 357 352 at_349 (by decide) (by decide) rfl (fun c897 => ?_) (fun c897 => ?_)
       ·
        have rr898 : 1 ≤ p890.toInt ∧ p890.toInt ≤ 1 := by have := rp890; have : (0 : Int32).toInt = 0 := (by decide); have hc_ := c897; simp only [Int32.lt_iff_toInt_lt, ← Int32.toInt_inj] at hc_; omega
        refine r_iconst H 358 (1 : Int32) at_357 (by decide) rfl ?_
        refine r_goto H 362 at_358 (by decide) (by decide) ?_
        exact key (1 : Int32) ⟨(by rw [if_neg c897]), (by have : (1 : Int32).toInt = 1 := (by decide); omega)⟩
       ·
        have rr899 : 0 ≤ p890.toInt ∧ p890.toInt ≤ 0 := by have := rp890; have : (0 : Int32).toInt = 0 := (by decide); have hc_ := c897; simp only [Int32.lt_iff_toInt_lt, ← Int32.toInt_inj] at hc_; omega
        refine r_iload H 354 at_352 rfl rfl ?_
        refine r_ifeqT H 361 at_354 (by decide) (by decide) (by decide) ?_
        refine r_iconst H 362 (0 : Int32) at_361 (by decide) rfl ?_
        exact key (0 : Int32) ⟨(by rw [if_pos c897]), (by have : (0 : Int32).toInt = 0 := (by decide); omega)⟩
      rintro p900 ⟨ep900, rp900⟩
      refine Run.join (P := fun z => (if (1 : Int32) = p900 then (1 : Int32) else (0 : Int32)) = z ∧ (0 ≤ z.toInt ∧ z.toInt ≤ 1)) (pcB := 370) (LB := fun z => #[.val (.int x0), .val (.long x1), .second, .val (.long x2), .second, .val (.ref b1), .val (.int p36), .val (.int p38), .val (.int (5 : Int32)), .val (.int p461), .val (.ref b868), .val (.int p890), .val (.int (0 : Int32))]) (SB := fun z => [(.int z)]) (fun key => ?_) ?_
      ·
       refine r_icmpne H 369 365 at_362 (by decide) (by decide) rfl (fun c901 => ?_) (fun c901 => ?_)
       ·
        have rr902 : 0 ≤ p900.toInt ∧ p900.toInt ≤ 0 := by have := rp900; have : (1 : Int32).toInt = 1 := (by decide); have hc_ := c901; simp only [Int32.lt_iff_toInt_lt, ← Int32.toInt_inj] at hc_; omega
        refine r_iconst H 370 (0 : Int32) at_369 (by decide) rfl ?_
        exact key (0 : Int32) ⟨(by rw [if_neg c901]), (by have : (0 : Int32).toInt = 0 := (by decide); omega)⟩
       ·
        have rr903 : 1 ≤ p900.toInt ∧ p900.toInt ≤ 1 := by have := rp900; have : (1 : Int32).toInt = 1 := (by decide); have hc_ := c901; simp only [Int32.lt_iff_toInt_lt, ← Int32.toInt_inj] at hc_; omega
        refine r_iconst H 366 (1 : Int32) at_365 (by decide) rfl ?_
        refine r_goto H 370 at_366 (by decide) (by decide) ?_
        exact key (1 : Int32) ⟨(by rw [if_pos c901]), (by have : (1 : Int32).toInt = 1 := (by decide); omega)⟩
      rintro p904 ⟨ep904, rp904⟩
      have hone : p904 = 1 := by rw [← ep904, ← ep900, ← ep890]; exact lf_18 p36 rp36 c893
      exact r_nreturn (1 : Int32) H (by simp) at_370 (by rw [hone]; decide) (by decide) (by decide) Z0 (by intro t ht; simp only [List.mem_cons] at ht ⊢; rcases ht with ht | ht | ht <;> simp [ht]) rfl
     ·
      refine r_iload H 349 at_347 rfl rfl ?_
      refine Run.join (P := fun z => (if p890 = (0 : Int32) then (0 : Int32) else (1 : Int32)) = z ∧ (0 ≤ z.toInt ∧ z.toInt ≤ 1)) (pcB := 362) (LB := fun z => #[.val (.int x0), .val (.long x1), .second, .val (.long x2), .second, .val (.ref b1), .val (.int p36), .val (.int p38), .val (.int (5 : Int32)), .val (.int p461), .val (.ref b868), .val (.int p890), .val (.int (0 : Int32))]) (SB := fun z => [(.int z), (.int (0 : Int32))]) (fun key => ?_) ?_
      ·
       refine r_ifne H 357 352 at_349 (by decide) (by decide) rfl (fun c905 => ?_) (fun c905 => ?_)
       ·
        have rr906 : 1 ≤ p890.toInt ∧ p890.toInt ≤ 1 := by have := rp890; have : (0 : Int32).toInt = 0 := (by decide); have hc_ := c905; simp only [Int32.lt_iff_toInt_lt, ← Int32.toInt_inj] at hc_; omega
        refine r_iconst H 358 (1 : Int32) at_357 (by decide) rfl ?_
        refine r_goto H 362 at_358 (by decide) (by decide) ?_
        exact key (1 : Int32) ⟨(by rw [if_neg c905]), (by have : (1 : Int32).toInt = 1 := (by decide); omega)⟩
       ·
        have rr907 : 0 ≤ p890.toInt ∧ p890.toInt ≤ 0 := by have := rp890; have : (0 : Int32).toInt = 0 := (by decide); have hc_ := c905; simp only [Int32.lt_iff_toInt_lt, ← Int32.toInt_inj] at hc_; omega
        refine r_iload H 354 at_352 rfl rfl ?_
        refine r_ifeqT H 361 at_354 (by decide) (by decide) (by decide) ?_
        refine r_iconst H 362 (0 : Int32) at_361 (by decide) rfl ?_
        exact key (0 : Int32) ⟨(by rw [if_pos c905]), (by have : (0 : Int32).toInt = 0 := (by decide); omega)⟩
      rintro p908 ⟨ep908, rp908⟩
      refine Run.join (P := fun z => (if (0 : Int32) = p908 then (1 : Int32) else (0 : Int32)) = z ∧ (0 ≤ z.toInt ∧ z.toInt ≤ 1)) (pcB := 370) (LB := fun z => #[.val (.int x0), .val (.long x1), .second, .val (.long x2), .second, .val (.ref b1), .val (.int p36), .val (.int p38), .val (.int (5 : Int32)), .val (.int p461), .val (.ref b868), .val (.int p890), .val (.int (0 : Int32))]) (SB := fun z => [(.int z)]) (fun key => ?_) ?_
      ·
       refine r_icmpne H 369 365 at_362 (by decide) (by decide) rfl (fun c909 => ?_) (fun c909 => ?_)
       ·
        have rr910 : 1 ≤ p908.toInt ∧ p908.toInt ≤ 1 := by have := rp908; have : (0 : Int32).toInt = 0 := (by decide); have hc_ := c909; simp only [Int32.lt_iff_toInt_lt, ← Int32.toInt_inj] at hc_; omega
        refine r_iconst H 370 (0 : Int32) at_369 (by decide) rfl ?_
        exact key (0 : Int32) ⟨(by rw [if_neg c909]), (by have : (0 : Int32).toInt = 0 := (by decide); omega)⟩
       ·
        have rr911 : 0 ≤ p908.toInt ∧ p908.toInt ≤ 0 := by have := rp908; have : (0 : Int32).toInt = 0 := (by decide); have hc_ := c909; simp only [Int32.lt_iff_toInt_lt, ← Int32.toInt_inj] at hc_; omega
        refine r_iconst H 366 (1 : Int32) at_365 (by decide) rfl ?_
        refine r_goto H 370 at_366 (by decide) (by decide) ?_
        exact key (1 : Int32) ⟨(by rw [if_pos c909]), (by have : (1 : Int32).toInt = 1 := (by decide); omega)⟩
      rintro p912 ⟨ep912, rp912⟩
      have hone : p912 = 1 := by rw [← ep912, ← ep908, ← ep890]; exact lf_19 p36 rp36 c895
      exact r_nreturn (1 : Int32) H (by simp) at_370 (by rw [hone]; decide) (by decide) (by decide) Z0 (by intro t ht; simp only [List.mem_cons] at ht ⊢; rcases ht with ht | ht | ht <;> simp [ht]) rfl
set_option maxRecDepth 65536 in
set_option maxHeartbeats 40000000 in
theorem comes_1 {Post : Tables → Env → Array Value → State → Outcome → State → Prop} (hpost : ∀ tb e args s v u, (limb_1_1.after args s (.returned v) u = true ∧ limb_1_2.after args s (.returned v) u = true ∧ True) → ReturnedEndW s (.returned v) u (Jvm.fieldLocs frame_1_writes args s ++ Jvm.arrayLocs frame_1_arrays args s ++ Jvm.staticLocs frame_1_statics s) 24 3200 → Post tb e args s (.returned v) u) :
    ArmFor flags0 classFile x code maxLocals ret World_1 tables_1 room_1 Calls_1 rest_1 Pre_1 Post := by
  intro l hfl _ _ p e ha hc hk s m args below hf hA hF happ hP
  obtain ⟨hcalls, hrest, hpre⟩ := hP
  obtain ⟨-, -, -, hnamed, -, -, -, hat⟩ := (Spec.applies_iff hf).mp happ
  obtain ⟨hg, hn⟩ := and_e (Cond.before_iff.mp (show (Jvm.Cond.and given_1 narrow_1).before args s = true from hpre))
  obtain ⟨hcnt, hg0⟩ := and_e hg
  obtain ⟨ga0, hg1⟩ := and_e hg0
  obtain ⟨ga1, hg2⟩ := and_e hg1
  obtain ⟨w0, w1, w2, rfl⟩ : ∃ w0 w1 w2 : Value, args = #[w0, w1, w2] := by
    have hs : args.size = 3 := by simpa [Cond.value, given_1] using hcnt
    obtain ⟨L⟩ := args
    match L, hs with
    | [w0, w1, w2], _ => exact ⟨w0, w1, w2, rfl⟩
  have hw := fun d (hd : d ∈ tables_1) => atoms_spec (ws := Jvm.Cond.code x code maxLocals ret :: tables_1) hat d (List.mem_cons_of_mem _ hd)
  obtain ⟨hsets, hown0⟩ := atoms_of _ (rest_1_c_eq ▸ (show rest_1_c.before _ s = true from hrest))
  obtain ⟨i0, ei0⟩ := is_v ga0
  obtain rfl : w0 = (.int i0) := Option.some.inj ei0
  obtain ⟨i1, ei1⟩ := isL_v ga1
  obtain rfl : w1 = (.long i1) := Option.some.inj ei1
  obtain ⟨i2, ei2⟩ := isL_v hg2
  obtain rfl : w2 = (.long i2) := Option.some.inj ei2
  have ncs := not_v (Cond.before_iff.mp (hsets _ (List.mem_of_getElem? (i := 2) rfl)))
  obtain ⟨cs, ecs⟩ := is_v (Cond.before_iff.mp (hsets _ (List.mem_of_getElem? (i := 1) rfl)))
  have S_cs : Sta s s.heap "java/lang/String" "COMPACT_STRINGS" "Z" (.int cs) := Sta.start ecs (Or.inl (hsets _ (List.mem_of_getElem? (i := 0) rfl)))
  have hcs : ¬ (cs = (0 : Int32)) := gotF (Cond.eq_ints ecs (Term.int_eval (0))) ncs
  have wS : ∀ a ∈ Bundle.stringAtoms, a.before #[.int i0, .long i1, .long i2] s = true := by
    intro a ha'
    simp only [Bundle.stringAtoms, List.mem_cons, List.not_mem_nil, or_false] at ha'
    rcases ha' with rfl | rfl | rfl | rfl | rfl | rfl | rfl
    · exact (tw10 hw)
    · exact (tw9 hw)
    · exact (tw26 hw)
    · exact (tw36 hw)
    · exact (tw34 hw)
    · exact (tw42 hw)
    · exact (tw43 hw)
  have hcw : Jvm.Lit.compactW.before #[.int i0, .long i1, .long i2] s = true := (hsets _ (List.mem_of_getElem? (i := 2) rfl))
  have hh0 : Jvm.Lit.constHeld s "com/example/maniera/maniera/cli/CommandLine" 133 := hcalls.1 _ (List.mem_of_getElem? (i := 0) rfl)
  have hh1 : Jvm.Lit.constHeld s "com/example/maniera/maniera/cli/CommandLine" 135 := hcalls.1 _ (List.mem_of_getElem? (i := 1) rfl)
  have hh2 : Jvm.Lit.constHeld s "java/lang/String" 7 := hcalls.1 _ (List.mem_of_getElem? (i := 2) rfl)
  obtain ⟨n, o, h1, h2, h3, _, L, rfl, ⟨rfl, N, -, -⟩, hq⟩ := rm_law hw [] rfl i0 i1 i2 cs s.heap s.heap.size (Nat.le_refl _) (Nat.le_refl _) S_cs wS hcw hh0 hh1 hh2 hcs l p e ha hc hk s m _ below hf ((Spec.applies_iff_loose hf).mp happ).1 ⟨rfl, State.Warmed39.refl s, rfl, IB.start, ⟨Nat.le_refl _, fun _ _ q => q⟩⟩ trivial
  refine ⟨n, _, h1, h2, h3, hpost _ _ _ _ _ _ ⟨Cond.after_iff.mpr rfl, Cond.after_iff.mpr (eq_i res_at (Term.int_eval (1)) rfl), trivial⟩ ⟨hq.1, hq.2.1, hq.2.2.1, (hq.2.2.2.sift fun y hy => Or.inr (N y hy)).mono (by decide) (by decide)⟩⟩
theorem main_1_1 : Claimed_1_1 := comes_1 fun _ _ _ _ _ _ h hF => ⟨h.1, hF⟩
theorem main_1_2 : Claimed_1_2 := comes_1 fun _ _ _ _ _ _ h hF => ⟨h.2.1, hF⟩
end Jvm.Pilot.@@N@@
namespace Jvm.Pilot.@@N@@
open Jvm Jvm.ClassFile Sem Op Lib Jvm.Free Jvm.Stand Jvm.Pilot.@@N@@.Jvm.D
/-! MADE BY PROGRAM (witnessworld.py) out of the Statement's table words and the real class files: 20 classes; the members and pool entries that the words name. The judged class is class 1, her method 1. -/
namespace start1
open Jvm.ClassFile
def u (s : String) : CpInfo := .utf8 (stringToUtf16 s)
/-- a pool by its gaps: so many unusable entries, then the entry; so many at the end -/
def gap : Nat → List CpInfo → List CpInfo
  | 0, r => r
  | n + 1, r => .unusable :: gap n r
def poolList (es : List (Nat × CpInfo)) (last : Nat) : List CpInfo := es.foldr (fun e r => gap e.1 (e.2 :: r)) (gap last [])
def pool (es : List (Nat × CpInfo)) (last : Nat) : Array CpInfo := ⟨poolList es last⟩
def fileOf (pool : Array CpInfo) (this : Nat) (attrs : Array Attribute := #[]) (ms : Array MethodInfo := #[]) (fl : Nat := 33) (sup : Nat := 0) (ifs : Array Nat := #[]) (fds : Array FieldInfo := #[]) : ClassFile where
  minorVersion := 0
  majorVersion := 65
  constantPool := pool
  accessFlags := fl
  thisClass := this
  superClass := sup
  interfaces := ifs
  fields := fds
  methods := ms
  attributes := attrs
def plain (name : String) (sup : Option ClassId) : Class where
  name := name
  kind := .ordinary
  loader := none
  accessFlags := 33
  super := sup
  interfaces := #[]
  cf := none
  fields := #[]
  methods := #[]
  instanceTypes := #[]
  staticTypes := #[]
  resolved := #[]
  callSites := []
  init := .initialized
  statics := none
  mirror := none

def pool0 : Array CpInfo := pool [(5, u "<init>"), (0, u "()V"), (1, .class_ 10), (1, u "java/lang/Object")] 113

def k0c0 : Code := { maxStack := 0, maxLocals := 1, code := object_method_1_code, exceptionTable := #[], attributes := #[] }
def k0m0 : Method := { name := "<init>", desc := "()V", sig := { parameters := [], returnType := none }, accessFlags := 1, code := some k0c0 }
/-- java/lang/Object -/
def k0 : Class := { plain "java/lang/Object" none with
  accessFlags := 33
  interfaces := #[]
  cf := some (fileOf pool0 8 #[] #[{ accessFlags := 1, nameIndex := 5, descriptorIndex := 6, attributes := #[] }] 33 0 #[] #[])
  fields := #[]
  methods := #[k0m0]
  instanceTypes := #[]
  staticTypes := #[]
  resolved := Array.replicate 124 none
  statics := none }

def pool1 : Array CpInfo := pool [(2, .class_ 4), (1, u "java/lang/Object"), (0, u "<init>"), (0, u "()V"), (0, .methodref 8 9), (0, .class_ 10), (0, .nameAndType 11 12), (0, u "com/example/maniera/maniera/cli/CommandLineIsHelpPinLaw"), (0, u "pick"), (0, u "(I)C"), (0, .integer 2147483647), (0, .methodref 8 15), (0, .nameAndType 16 17), (0, u "word"), (0, u "([CI)Ljava/lang/String;"), (0, .methodref 19 20), (0, .class_ 21), (0, .nameAndType 22 23), (0, u "com/example/maniera/maniera/cli/CommandLine"), (0, u "isHelp"), (0, u "(Ljava/lang/String;)Z"), (0, .class_ 25), (0, u "java/lang/String"), (0, .methodref 24 27), (0, .nameAndType 5 28), (0, u "([C)V"), (2, u "law"), (0, u "(IJJ)Z")] 5

def k1m0 : Method := { name := "<init>", desc := "()V", sig := { parameters := [], returnType := none }, accessFlags := 2, code := none }
def k1c1 : Code := { maxStack := 5, maxLocals := 13, code := code, exceptionTable := #[], attributes := #[] }
def k1m1 : Method := { name := "law", desc := "(IJJ)Z", sig := { parameters := [.int, .long, .long], returnType := some .boolean }, accessFlags := 9, code := some k1c1 }
def k1c2 : Code := { maxStack := 2, maxLocals := 2, code := method_3_code, exceptionTable := #[], attributes := #[] }
def k1m2 : Method := { name := "pick", desc := "(I)C", sig := { parameters := [.int], returnType := some .char }, accessFlags := 10, code := some k1c2 }
def k1c3 : Code := { maxStack := 7, maxLocals := 2, code := method_4_code, exceptionTable := #[], attributes := #[] }
def k1m3 : Method := { name := "word", desc := "([CI)Ljava/lang/String;", sig := { parameters := [(.array .char), .int], returnType := some (.object "java/lang/String") }, accessFlags := 10, code := some k1c3 }
/-- com/example/maniera/maniera/cli/CommandLineIsHelpPinLaw -/
def k1 : Class := { plain "com/example/maniera/maniera/cli/CommandLineIsHelpPinLaw" (some 0) with
  accessFlags := 49
  interfaces := #[]
  cf := some (fileOf pool1 8 #[] #[{ accessFlags := 2, nameIndex := 5, descriptorIndex := 6, attributes := #[] }, { accessFlags := 9, nameIndex := 31, descriptorIndex := 32, attributes := #[] }, { accessFlags := 10, nameIndex := 11, descriptorIndex := 12, attributes := #[] }, { accessFlags := 10, nameIndex := 16, descriptorIndex := 17, attributes := #[] }] 49 2 #[] #[])
  fields := #[]
  methods := #[k1m0, k1m1, k1m2, k1m3]
  instanceTypes := #[]
  staticTypes := #[]
  resolved := Array.replicate 38 none
  statics := none }

def pool2 : Array CpInfo := pool [(1, .class_ 2), (0, u "java/io/Serializable"), (0, .class_ 4), (0, u "java/lang/Object")] 2

/-- java/io/Serializable -/
def k2 : Class := { plain "java/io/Serializable" (some 0) with
  accessFlags := 1537
  interfaces := #[]
  cf := some (fileOf pool2 1 #[] #[] 1537 3 #[] #[])
  fields := #[]
  methods := #[]
  instanceTypes := #[]
  staticTypes := #[]
  resolved := Array.replicate 7 none
  statics := none }

def pool3 : Array CpInfo := pool [(1, .class_ 2), (0, u "java/lang/Comparable"), (0, .class_ 4), (0, u "java/lang/Object")] 7

/-- java/lang/Comparable -/
def k3 : Class := { plain "java/lang/Comparable" (some 0) with
  accessFlags := 1537
  interfaces := #[]
  cf := some (fileOf pool3 1 #[] #[] 1537 3 #[] #[])
  fields := #[]
  methods := #[]
  instanceTypes := #[]
  staticTypes := #[]
  resolved := Array.replicate 12 none
  statics := none }

def pool4 : Array CpInfo := pool [(2, .class_ 4), (1, u "java/lang/CharSequence"), (42, .class_ 48), (0, u "java/lang/CharSequence$1CodePointIterator"), (10, .class_ 60), (0, u "java/lang/CharSequence$1CharIterator"), (5, .class_ 67), (0, u "java/lang/Object")] 63

/-- java/lang/CharSequence -/
def k4 : Class := { plain "java/lang/CharSequence" (some 0) with
  accessFlags := 1537
  interfaces := #[]
  cf := some (fileOf pool4 2 #[.nestMembers #[47, 59]] #[] 1537 66 #[] #[])
  fields := #[]
  methods := #[]
  instanceTypes := #[]
  staticTypes := #[]
  resolved := Array.replicate 131 none
  statics := none }

def pool5 : Array CpInfo := pool [(1, .class_ 2), (0, u "java/lang/constant/Constable"), (0, .class_ 4), (0, u "java/lang/Object")] 6

/-- java/lang/constant/Constable -/
def k5 : Class := { plain "java/lang/constant/Constable" (some 0) with
  accessFlags := 1537
  interfaces := #[]
  cf := some (fileOf pool5 1 #[] #[] 1537 3 #[] #[])
  fields := #[]
  methods := #[]
  instanceTypes := #[]
  staticTypes := #[]
  resolved := Array.replicate 11 none
  statics := none }

def pool6 : Array CpInfo := pool [(1, .class_ 2), (0, u "java/lang/constant/ConstantDesc"), (0, .class_ 4), (0, u "java/lang/Object")] 32

/-- java/lang/constant/ConstantDesc -/
def k6 : Class := { plain "java/lang/constant/ConstantDesc" (some 0) with
  accessFlags := 1537
  interfaces := #[]
  cf := some (fileOf pool6 1 #[] #[] 1537 3 #[] #[])
  fields := #[]
  methods := #[]
  instanceTypes := #[]
  staticTypes := #[]
  resolved := Array.replicate 37 none
  statics := none }

def pool7 : Array CpInfo := pool [(1, .methodref 2 3), (0, .class_ 4), (0, .nameAndType 5 6), (0, u "java/lang/Object"), (0, u "<init>"), (0, u "()V"), (0, .string 8), (0, u ""), (0, .fieldref 10 11), (0, .class_ 12), (0, .nameAndType 13 14), (0, u "java/lang/String"), (0, u "value"), (0, u "[B"), (0, .fieldref 10 16), (0, .nameAndType 17 18), (0, u "coder"), (0, u "B"), (2, u "hash"), (0, u "I"), (2, u "hashIsZero"), (0, u "Z"), (0, .methodref 10 28), (0, .nameAndType 5 29), (0, u "([CIILjava/lang/Void;)V"), (8, .fieldref 10 39), (0, .nameAndType 40 26), (0, u "COMPACT_STRINGS"), (1, .class_ 44), (1, u "java/lang/StringUTF16"), (0, u "compress"), (1, .methodref 42 48), (0, .nameAndType 49 50), (0, u "coderFromArrayLen"), (0, u "([BI)B"), (56, .class_ 109), (1, u "java/lang/StringLatin1"), (67, .methodref 42 178), (0, .nameAndType 45 179), (0, u "([CII)[B"), (361, .methodref 107 542), (0, .nameAndType 543 544), (0, u "equals"), (0, u "([B[B)Z"), (28, u "(Ljava/lang/Object;)Z"), (1, .class_ 576), (0, u "java/lang/CharSequence"), (22, u "CASE_INSENSITIVE_ORDER"), (0, u "Ljava/util/Comparator;"), (409, u "([C)V"), (90, u "serialPersistentFields"), (0, u "[Ljava/io/ObjectStreamField;"), (0, .class_ 1104), (0, u "java/lang/String$CaseInsensitiveComparator"), (1, .class_ 1107), (0, u "java/io/Serializable"), (0, .class_ 1109), (0, u "java/lang/Comparable"), (0, .class_ 1111), (0, u "java/lang/constant/Constable"), (0, .class_ 1113), (0, u "java/lang/constant/ConstantDesc"), (2, u "serialVersionUID"), (0, u "J"), (3, u "REPL"), (0, u "C"), (2, u "LATIN1"), (1, u "UTF16")] 323

def k7m0 : Method := { name := "<init>", desc := "()V", sig := { parameters := [], returnType := none }, accessFlags := 1, code := none }
def k7c1 : Code := { maxStack := 5, maxLocals := 2, code := jdk_42_method_3_code, exceptionTable := #[], attributes := #[] }
def k7m1 : Method := { name := "<init>", desc := "([C)V", sig := { parameters := [(.array .char)], returnType := none }, accessFlags := 1, code := some k7c1 }
def k7c2 : Code := { maxStack := 2, maxLocals := 3, code := jdk_42_method_66_code, exceptionTable := #[], attributes := #[] }
def k7m2 : Method := { name := "equals", desc := "(Ljava/lang/Object;)Z", sig := { parameters := [(.object "java/lang/Object")], returnType := some .boolean }, accessFlags := 1, code := some k7c2 }
def k7c3 : Code := { maxStack := 4, maxLocals := 6, code := jdk_42_method_149_code, exceptionTable := #[], attributes := #[] }
def k7m3 : Method := { name := "<init>", desc := "([CIILjava/lang/Void;)V", sig := { parameters := [(.array .char), .int, .int, (.object "java/lang/Void")], returnType := none }, accessFlags := 2, code := some k7c3 }
/-- java/lang/String -/
def k7 : Class := { plain "java/lang/String" (some 0) with
  accessFlags := 49
  interfaces := #[2, 3, 4, 5, 6]
  cf := some (fileOf pool7 10 #[.nestMembers #[1103]] #[{ accessFlags := 1, nameIndex := 5, descriptorIndex := 6, attributes := #[] }, { accessFlags := 1, nameIndex := 5, descriptorIndex := 1010, attributes := #[] }, { accessFlags := 1, nameIndex := 543, descriptorIndex := 573, attributes := #[] }, { accessFlags := 2, nameIndex := 5, descriptorIndex := 29, attributes := #[] }] 49 2 #[1106, 1108, 575, 1110, 1112] #[{ accessFlags := 18, nameIndex := 13, descriptorIndex := 14, attributes := #[] }, { accessFlags := 18, nameIndex := 17, descriptorIndex := 18, attributes := #[] }, { accessFlags := 2, nameIndex := 21, descriptorIndex := 22, attributes := #[] }, { accessFlags := 2, nameIndex := 25, descriptorIndex := 26, attributes := #[] }, { accessFlags := 26, nameIndex := 1116, descriptorIndex := 1117, attributes := #[] }, { accessFlags := 24, nameIndex := 40, descriptorIndex := 26, attributes := #[] }, { accessFlags := 26, nameIndex := 1101, descriptorIndex := 1102, attributes := #[] }, { accessFlags := 26, nameIndex := 1121, descriptorIndex := 1122, attributes := #[] }, { accessFlags := 25, nameIndex := 599, descriptorIndex := 600, attributes := #[] }, { accessFlags := 24, nameIndex := 1125, descriptorIndex := 18, attributes := #[] }, { accessFlags := 24, nameIndex := 1127, descriptorIndex := 18, attributes := #[] }])
  fields := #[{ name := "value", type := (.array .byte), accessFlags := 18, slot := 0, constantValue := 0 }, { name := "coder", type := .byte, accessFlags := 18, slot := 1, constantValue := 0 }, { name := "hash", type := .int, accessFlags := 2, slot := 2, constantValue := 0 }, { name := "hashIsZero", type := .boolean, accessFlags := 2, slot := 3, constantValue := 0 }, { name := "serialVersionUID", type := .long, accessFlags := 26, slot := 0, constantValue := 0 }, { name := "COMPACT_STRINGS", type := .boolean, accessFlags := 24, slot := 1, constantValue := 0 }, { name := "serialPersistentFields", type := (.array (.object "java/io/ObjectStreamField")), accessFlags := 26, slot := 2, constantValue := 0 }, { name := "REPL", type := .char, accessFlags := 26, slot := 3, constantValue := 0 }, { name := "CASE_INSENSITIVE_ORDER", type := (.object "java/util/Comparator"), accessFlags := 25, slot := 4, constantValue := 0 }, { name := "LATIN1", type := .byte, accessFlags := 24, slot := 5, constantValue := 0 }, { name := "UTF16", type := .byte, accessFlags := 24, slot := 6, constantValue := 0 }]
  methods := #[k7m0, k7m1, k7m2, k7m3]
  instanceTypes := #[(.array .byte), .byte, .int, .boolean]
  staticTypes := #[.long, .boolean, (.array (.object "java/io/ObjectStreamField")), .char, (.object "java/util/Comparator"), .byte, .byte]
  resolved := Array.replicate 1451 none
  statics := some 0 }

def pool8 : Array CpInfo := pool [(6, .class_ 8), (1, u "java/lang/Object"), (0, u "<init>"), (0, u "()V"), (1, .class_ 14), (1, u "java/lang/StringUTF16"), (31, u "$assertionsDisabled"), (0, u "Z"), (13, u "HI_BYTE_SHIFT"), (0, u "I"), (2, u "LO_BYTE_SHIFT"), (49, .methodref 12 116), (0, .nameAndType 117 118), (0, u "compress"), (0, u "([CI[BII)I"), (3, u "([CII)[B"), (138, u "coderFromArrayLen"), (0, u "([BI)B"), (106, .class_ 371), (1, u "java/lang/StringUTF16$LinesSpliterator"), (58, u "MAX_LENGTH"), (196, .class_ 628), (0, u "java/lang/StringUTF16$CodePointsSpliterator"), (0, .class_ 630), (0, u "java/lang/StringUTF16$CharsSpliterator")] 4

def k8m0 : Method := { name := "<init>", desc := "()V", sig := { parameters := [], returnType := none }, accessFlags := 0, code := none }
def k8c1 : Code := { maxStack := 2, maxLocals := 2, code := jdk_52_method_15_code, exceptionTable := #[], attributes := #[] }
def k8m1 : Method := { name := "coderFromArrayLen", desc := "([BI)B", sig := { parameters := [(.array .byte), .int], returnType := some .byte }, accessFlags := 8, code := some k8c1 }
def k8c2 : Code := { maxStack := 5, maxLocals := 6, code := jdk_52_method_16_code, exceptionTable := #[], attributes := #[] }
def k8m2 : Method := { name := "compress", desc := "([CII)[B", sig := { parameters := [(.array .char), .int, .int], returnType := some (.array .byte) }, accessFlags := 9, code := some k8c2 }
def k8c3 : Code := { maxStack := 3, maxLocals := 7, code := jdk_52_method_21_code, exceptionTable := #[], attributes := #[] }
def k8m3 : Method := { name := "compress", desc := "([CI[BII)I", sig := { parameters := [(.array .char), .int, (.array .byte), .int, .int], returnType := some .int }, accessFlags := 9, code := some k8c3 }
/-- java/lang/StringUTF16 -/
def k8 : Class := { plain "java/lang/StringUTF16" (some 0) with
  accessFlags := 48
  interfaces := #[]
  cf := some (fileOf pool8 12 #[.nestMembers #[627, 629, 369]] #[{ accessFlags := 0, nameIndex := 9, descriptorIndex := 10, attributes := #[] }, { accessFlags := 8, nameIndex := 261, descriptorIndex := 262, attributes := #[] }, { accessFlags := 9, nameIndex := 117, descriptorIndex := 122, attributes := #[] }, { accessFlags := 9, nameIndex := 117, descriptorIndex := 118, attributes := #[] }] 48 6 #[] #[{ accessFlags := 26, nameIndex := 61, descriptorIndex := 62, attributes := #[] }, { accessFlags := 26, nameIndex := 65, descriptorIndex := 62, attributes := #[] }, { accessFlags := 24, nameIndex := 430, descriptorIndex := 62, attributes := #[] }, { accessFlags := 4120, nameIndex := 46, descriptorIndex := 47, attributes := #[] }])
  fields := #[{ name := "HI_BYTE_SHIFT", type := .int, accessFlags := 26, slot := 0, constantValue := 0 }, { name := "LO_BYTE_SHIFT", type := .int, accessFlags := 26, slot := 1, constantValue := 0 }, { name := "MAX_LENGTH", type := .int, accessFlags := 24, slot := 2, constantValue := 0 }, { name := "$assertionsDisabled", type := .boolean, accessFlags := 4120, slot := 3, constantValue := 0 }]
  methods := #[k8m0, k8m1, k8m2, k8m3]
  instanceTypes := #[]
  staticTypes := #[.int, .int, .int, .boolean]
  resolved := Array.replicate 635 none
  statics := none }

def pool9 : Array CpInfo := pool [(2, .class_ 4), (1, u "java/lang/Object"), (3, .class_ 10), (1, u "com/example/maniera/maniera/cli/CommandLine"), (0, u "help"), (0, u "Z"), (2, u "values"), (0, u "Ljava/util/Map;"), (2, u "operands"), (0, u "Ljava/util/List;"), (25, .class_ 48), (1, u "java/lang/String"), (7, u "(Ljava/lang/String;)Z"), (28, .class_ 87), (1, u "com/example/maniera/maniera/cli/CommandLine$Option"), (1, u "Ljava/lang/String;"), (15, .methodref 46 106), (0, .nameAndType 107 108), (0, u "equals"), (0, u "(Ljava/lang/Object;)Z"), (24, .string 134), (0, u "--help"), (0, .string 136), (0, u "-h"), (5, .class_ 144), (1, u "com/example/maniera/maniera/cli/CommandLine$LabelOption"), (22, u "isHelp"), (47, u "HELP"), (1, u "SHORT_HELP"), (0, u "END_OF_OPTIONS")] 50

def k9c0 : Code := { maxStack := 2, maxLocals := 1, code := prog_2_method_4_code, exceptionTable := #[], attributes := #[] }
def k9m0 : Method := { name := "isHelp", desc := "(Ljava/lang/String;)Z", sig := { parameters := [(.object "java/lang/String")], returnType := some .boolean }, accessFlags := 8, code := some k9c0 }
/-- com/example/maniera/maniera/cli/CommandLine -/
def k9 : Class := { plain "com/example/maniera/maniera/cli/CommandLine" (some 0) with
  accessFlags := 48
  interfaces := #[]
  cf := some (fileOf pool9 8 #[.nestMembers #[142, 85]] #[{ accessFlags := 8, nameIndex := 167, descriptorIndex := 56, attributes := #[] }] 48 2 #[] #[{ accessFlags := 24, nameIndex := 215, descriptorIndex := 89, attributes := #[] }, { accessFlags := 24, nameIndex := 217, descriptorIndex := 89, attributes := #[] }, { accessFlags := 26, nameIndex := 218, descriptorIndex := 89, attributes := #[] }, { accessFlags := 18, nameIndex := 11, descriptorIndex := 12, attributes := #[] }, { accessFlags := 18, nameIndex := 15, descriptorIndex := 16, attributes := #[] }, { accessFlags := 18, nameIndex := 19, descriptorIndex := 20, attributes := #[] }])
  fields := #[{ name := "HELP", type := (.object "java/lang/String"), accessFlags := 24, slot := 0, constantValue := 0 }, { name := "SHORT_HELP", type := (.object "java/lang/String"), accessFlags := 24, slot := 1, constantValue := 0 }, { name := "END_OF_OPTIONS", type := (.object "java/lang/String"), accessFlags := 26, slot := 2, constantValue := 0 }, { name := "help", type := .boolean, accessFlags := 18, slot := 0, constantValue := 0 }, { name := "values", type := (.object "java/util/Map"), accessFlags := 18, slot := 1, constantValue := 0 }, { name := "operands", type := (.object "java/util/List"), accessFlags := 18, slot := 2, constantValue := 0 }]
  methods := #[k9m0]
  instanceTypes := #[.boolean, (.object "java/util/Map"), (.object "java/util/List")]
  staticTypes := #[(.object "java/lang/String"), (.object "java/lang/String"), (.object "java/lang/String")]
  resolved := Array.replicate 269 none
  statics := none }

def pool10 : Array CpInfo := pool [(4, .class_ 6), (1, u "java/lang/Object"), (0, u "<init>"), (0, u "()V"), (5, .class_ 16), (1, u "java/lang/StringLatin1"), (104, u "$assertionsDisabled"), (0, u "Z"), (98, .class_ 223), (1, u "java/lang/StringLatin1$LinesSpliterator"), (57, u "equals"), (0, u "([B[B)Z"), (107, .class_ 391), (0, u "java/lang/StringLatin1$CharsSpliterator")] 3

def k10m0 : Method := { name := "<init>", desc := "()V", sig := { parameters := [], returnType := none }, accessFlags := 0, code := none }
def k10c1 : Code := { maxStack := 3, maxLocals := 3, code := jdk_43_method_13_code, exceptionTable := #[], attributes := #[] }
def k10m1 : Method := { name := "equals", desc := "([B[B)Z", sig := { parameters := [(.array .byte), (.array .byte)], returnType := some .boolean }, accessFlags := 9, code := some k10c1 }
/-- java/lang/StringLatin1 -/
def k10 : Class := { plain "java/lang/StringLatin1" (some 0) with
  accessFlags := 48
  interfaces := #[]
  cf := some (fileOf pool10 14 #[.nestMembers #[390, 221]] #[{ accessFlags := 0, nameIndex := 7, descriptorIndex := 8, attributes := #[] }, { accessFlags := 9, nameIndex := 281, descriptorIndex := 282, attributes := #[] }] 48 4 #[] #[{ accessFlags := 4120, nameIndex := 121, descriptorIndex := 122, attributes := #[] }])
  fields := #[{ name := "$assertionsDisabled", type := .boolean, accessFlags := 4120, slot := 0, constantValue := 0 }]
  methods := #[k10m0, k10m1]
  instanceTypes := #[]
  staticTypes := #[.boolean]
  resolved := Array.replicate 395 none
  statics := none }

def pool11 : Array CpInfo := pool [(2, .class_ 4), (1, u "java/lang/Object"), (0, u "<init>"), (0, u "()V"), (17, .class_ 26), (1, u "jdk/internal/util/Preconditions"), (28, .class_ 56), (0, u "jdk/internal/util/Preconditions$4"), (57, .class_ 115), (0, u "jdk/internal/util/Preconditions$1"), (7, u "SIOOBE_FORMATTER"), (0, u "Ljava/util/function/BiFunction;"), (0, .class_ 126), (0, u "jdk/internal/util/Preconditions$2"), (3, u "AIOOBE_FORMATTER"), (0, .class_ 132), (0, u "jdk/internal/util/Preconditions$3"), (3, u "IOOBE_FORMATTER")] 57

def k11m0 : Method := { name := "<init>", desc := "()V", sig := { parameters := [], returnType := none }, accessFlags := 1, code := none }
/-- jdk/internal/util/Preconditions -/
def k11 : Class := { plain "jdk/internal/util/Preconditions" (some 0) with
  accessFlags := 33
  interfaces := #[]
  cf := some (fileOf pool11 24 #[.nestMembers #[55, 131, 125, 114]] #[{ accessFlags := 1, nameIndex := 5, descriptorIndex := 6, attributes := #[] }] 33 2 #[] #[{ accessFlags := 25, nameIndex := 123, descriptorIndex := 124, attributes := #[] }, { accessFlags := 25, nameIndex := 130, descriptorIndex := 124, attributes := #[] }, { accessFlags := 25, nameIndex := 136, descriptorIndex := 124, attributes := #[] }])
  fields := #[{ name := "SIOOBE_FORMATTER", type := (.object "java/util/function/BiFunction"), accessFlags := 25, slot := 0, constantValue := 0 }, { name := "AIOOBE_FORMATTER", type := (.object "java/util/function/BiFunction"), accessFlags := 25, slot := 1, constantValue := 0 }, { name := "IOOBE_FORMATTER", type := (.object "java/util/function/BiFunction"), accessFlags := 25, slot := 2, constantValue := 0 }]
  methods := #[k11m0]
  instanceTypes := #[]
  staticTypes := #[(.object "java/util/function/BiFunction"), (.object "java/util/function/BiFunction"), (.object "java/util/function/BiFunction")]
  resolved := Array.replicate 194 none
  statics := some 1 }

def pool12 : Array CpInfo := pool [(9, u "<init>"), (6, .class_ 18), (1, u "java/lang/Object"), (0, u "()V"), (1, .class_ 23), (1, u "jdk/internal/util/ArraysSupport"), (0, u "LOG2_ARRAY_LONG_INDEX_SCALE"), (0, u "I"), (2, u "U"), (0, u "Ljdk/internal/misc/Unsafe;"), (8, u "BIG_ENDIAN"), (0, u "Z"), (8, u "LOG2_BYTE_BIT_SIZE"), (4, u "LOG2_ARRAY_INT_INDEX_SCALE"), (54, u "JLA"), (0, u "Ljdk/internal/access/JavaLangAccess;"), (11, u "LOG2_ARRAY_BOOLEAN_INDEX_SCALE"), (9, u "LOG2_ARRAY_BYTE_INDEX_SCALE"), (5, u "LOG2_ARRAY_CHAR_INDEX_SCALE"), (5, u "LOG2_ARRAY_SHORT_INDEX_SCALE"), (18, u "LOG2_ARRAY_FLOAT_INDEX_SCALE"), (24, u "LOG2_ARRAY_DOUBLE_INDEX_SCALE"), (89, u "T_BOOLEAN"), (2, u "T_CHAR"), (1, u "T_FLOAT"), (1, u "T_DOUBLE"), (1, u "T_BYTE"), (1, u "T_SHORT"), (1, u "T_INT"), (1, u "T_LONG"), (1, u "SOFT_MAX_ARRAY_LENGTH")] 83

def k12m0 : Method := { name := "<init>", desc := "()V", sig := { parameters := [], returnType := none }, accessFlags := 2, code := none }
/-- jdk/internal/util/ArraysSupport -/
def k12 : Class := { plain "jdk/internal/util/ArraysSupport" (some 0) with
  accessFlags := 33
  interfaces := #[]
  cf := some (fileOf pool12 21 #[] #[{ accessFlags := 2, nameIndex := 9, descriptorIndex := 19, attributes := #[] }] 33 16 #[] #[{ accessFlags := 24, nameIndex := 28, descriptorIndex := 29, attributes := #[] }, { accessFlags := 26, nameIndex := 38, descriptorIndex := 39, attributes := #[] }, { accessFlags := 25, nameIndex := 121, descriptorIndex := 25, attributes := #[] }, { accessFlags := 25, nameIndex := 131, descriptorIndex := 25, attributes := #[] }, { accessFlags := 25, nameIndex := 137, descriptorIndex := 25, attributes := #[] }, { accessFlags := 25, nameIndex := 143, descriptorIndex := 25, attributes := #[] }, { accessFlags := 25, nameIndex := 53, descriptorIndex := 25, attributes := #[] }, { accessFlags := 25, nameIndex := 24, descriptorIndex := 25, attributes := #[] }, { accessFlags := 25, nameIndex := 162, descriptorIndex := 25, attributes := #[] }, { accessFlags := 25, nameIndex := 187, descriptorIndex := 25, attributes := #[] }, { accessFlags := 26, nameIndex := 48, descriptorIndex := 25, attributes := #[] }, { accessFlags := 25, nameIndex := 277, descriptorIndex := 25, attributes := #[] }, { accessFlags := 25, nameIndex := 280, descriptorIndex := 25, attributes := #[] }, { accessFlags := 25, nameIndex := 282, descriptorIndex := 25, attributes := #[] }, { accessFlags := 25, nameIndex := 284, descriptorIndex := 25, attributes := #[] }, { accessFlags := 25, nameIndex := 286, descriptorIndex := 25, attributes := #[] }, { accessFlags := 25, nameIndex := 288, descriptorIndex := 25, attributes := #[] }, { accessFlags := 25, nameIndex := 290, descriptorIndex := 25, attributes := #[] }, { accessFlags := 25, nameIndex := 292, descriptorIndex := 25, attributes := #[] }, { accessFlags := 26, nameIndex := 108, descriptorIndex := 109, attributes := #[] }, { accessFlags := 25, nameIndex := 294, descriptorIndex := 25, attributes := #[] }])
  fields := #[{ name := "U", type := (.object "jdk/internal/misc/Unsafe"), accessFlags := 24, slot := 0, constantValue := 0 }, { name := "BIG_ENDIAN", type := .boolean, accessFlags := 26, slot := 1, constantValue := 0 }, { name := "LOG2_ARRAY_BOOLEAN_INDEX_SCALE", type := .int, accessFlags := 25, slot := 2, constantValue := 0 }, { name := "LOG2_ARRAY_BYTE_INDEX_SCALE", type := .int, accessFlags := 25, slot := 3, constantValue := 0 }, { name := "LOG2_ARRAY_CHAR_INDEX_SCALE", type := .int, accessFlags := 25, slot := 4, constantValue := 0 }, { name := "LOG2_ARRAY_SHORT_INDEX_SCALE", type := .int, accessFlags := 25, slot := 5, constantValue := 0 }, { name := "LOG2_ARRAY_INT_INDEX_SCALE", type := .int, accessFlags := 25, slot := 6, constantValue := 0 }, { name := "LOG2_ARRAY_LONG_INDEX_SCALE", type := .int, accessFlags := 25, slot := 7, constantValue := 0 }, { name := "LOG2_ARRAY_FLOAT_INDEX_SCALE", type := .int, accessFlags := 25, slot := 8, constantValue := 0 }, { name := "LOG2_ARRAY_DOUBLE_INDEX_SCALE", type := .int, accessFlags := 25, slot := 9, constantValue := 0 }, { name := "LOG2_BYTE_BIT_SIZE", type := .int, accessFlags := 26, slot := 10, constantValue := 0 }, { name := "T_BOOLEAN", type := .int, accessFlags := 25, slot := 11, constantValue := 0 }, { name := "T_CHAR", type := .int, accessFlags := 25, slot := 12, constantValue := 0 }, { name := "T_FLOAT", type := .int, accessFlags := 25, slot := 13, constantValue := 0 }, { name := "T_DOUBLE", type := .int, accessFlags := 25, slot := 14, constantValue := 0 }, { name := "T_BYTE", type := .int, accessFlags := 25, slot := 15, constantValue := 0 }, { name := "T_SHORT", type := .int, accessFlags := 25, slot := 16, constantValue := 0 }, { name := "T_INT", type := .int, accessFlags := 25, slot := 17, constantValue := 0 }, { name := "T_LONG", type := .int, accessFlags := 25, slot := 18, constantValue := 0 }, { name := "JLA", type := (.object "jdk/internal/access/JavaLangAccess"), accessFlags := 26, slot := 19, constantValue := 0 }, { name := "SOFT_MAX_ARRAY_LENGTH", type := .int, accessFlags := 25, slot := 20, constantValue := 0 }]
  methods := #[k12m0]
  instanceTypes := #[]
  staticTypes := #[(.object "jdk/internal/misc/Unsafe"), .boolean, .int, .int, .int, .int, .int, .int, .int, .int, .int, .int, .int, .int, .int, .int, .int, .int, .int, (.object "jdk/internal/access/JavaLangAccess"), .int]
  resolved := Array.replicate 378 none
  statics := none }

def pool13 : Array CpInfo := pool [(1, u "java/lang/Cloneable"), (0, .class_ 1), (0, u "java/lang/Object"), (0, .class_ 3)] 3

/-- java/lang/Cloneable -/
def k13 : Class := { plain "java/lang/Cloneable" (some 0) with
  accessFlags := 1537
  interfaces := #[]
  cf := some (fileOf pool13 2 #[] #[] 1537 4 #[] #[])
  fields := #[]
  methods := #[]
  instanceTypes := #[]
  staticTypes := #[]
  resolved := Array.replicate 8 none
  statics := none }

/-- the primitive byte -/
def k14 : Class := { plain "byte" none with kind := .primitive 'B', accessFlags := 0x411 }
/-- [B -/
def k15 : Class := { plain "[B" (some 0) with kind := .array 14 .byte, interfaces := #[13, 2], accessFlags := 1041 }

/-- the primitive char -/
def k16 : Class := { plain "char" none with kind := .primitive 'C', accessFlags := 0x411 }
/-- [C -/
def k17 : Class := { plain "[C" (some 0) with kind := .array 16 .char, interfaces := #[13, 2], accessFlags := 1041 }

/-- the primitive int -/
def k18 : Class := { plain "int" none with kind := .primitive 'I', accessFlags := 0x411 }
/-- [I -/
def k19 : Class := { plain "[I" (some 0) with kind := .array 18 .int, interfaces := #[13, 2], accessFlags := 1041 }

def heap : Heap := #[{ cls := 7, slots := #[.long 0, .int 1, .null, .int 0, .null, .int 0, .int 0], vm := .statics 7 },
  { cls := 11, slots := #[.null, .null, .null], vm := .statics 11 }]
def classes : Array Class := #[k0, k1, k2, k3, k4, k5, k6, k7, k8, k9, k10, k11, k12, k13, k14, k15, k16, k17, k18, k19]
def interned : List (Array UInt16 × Addr) := []
def slotsUsed : Nat := 10
def theMethod : MethodId := ⟨1, 1⟩
def args0 : Array Value := #[.int 65, .long 66, .long 67]
def aboutOver (below : List Frame) : State where
  vm := { classes := classes, interned := interned.toArray }
  heap := heap
  slotsUsed := slotsUsed
  threads := #[{ frames := .invoking theMethod args0 :: below }]
def below0 : List Frame := [.native { method := ⟨0, 0⟩, args := #[] }]
def about1 : State := aboutOver below0
def p0 : Program := .bare "" "" ""
def e0 : Env := launch0.env 0 0 0
theorem w_frames : about1.frames = Frame.invoking theMethod args0 :: below0 := rfl
set_option maxRecDepth 65536 in
theorem w_args : argsFit about1.vm theMethod args0 = true := by decide +kernel
set_option maxRecDepth 65536 in
theorem w_heap : heapFits about1 = true := by decide +kernel
set_option maxRecDepth 65536 in
theorem w_runnable : about1.curStatus? = some .runnable := by decide +kernel
set_option maxRecDepth 65536 in
theorem w_alone : about1.alone = true := by decide +kernel
set_option maxRecDepth 65536 in
theorem w_named : about1.methodNamed? x = some theMethod := by decide +kernel
set_option maxRecDepth 65536 in
theorem w_hears : about1.hears theMethod below0 = true := by decide +kernel
set_option maxRecDepth 65536 in
theorem w_ripe : about1.ripe theMethod args0 below0 = true := by decide +kernel
theorem w_running : about1.status = .running := rfl
set_option maxRecDepth 65536 in
theorem w_room : about1.hasRoom e0.platform room_1 = true :=
  launch0.hasRoom_least _ room_1 (by decide +kernel) (by decide +kernel) (by decide +kernel) (by decide +kernel) (by decide +kernel) (by decide +kernel)
theorem allAtoms_all (ts : List Jvm.Cond) (a : Array Jvm.Value) (st : Jvm.State) : (allAtoms ts).before a st = ts.all (fun c => c.before a st) := by
  induction ts with
  | nil => rfl
  | cons c t ih =>
    show (Jvm.Cond.and c (allAtoms t)).before a st = _
    rw [Jvm.Cond.before_and, ih, List.all_cons]
def words1 : List Jvm.Cond := Jvm.Cond.code x code maxLocals ret :: tables_1
/-- a 'code' word, met by the world's own term for the bytes: nothing is compared byte by byte -/
theorem code_word {y : MethodName} {bytes : ByteArray} {mx : Nat} {rt : Option FieldType} {a : Array Value} {s : State} {m : MethodId} {meth : Method} {c : Code} (h1 : s.methodNamed? y = some m) (h2 : s.vm.method? m = some meth) (h3 : meth.code = some c) (h4 : c.code = bytes)
    (h5 : (c.maxLocals == mx && c.exceptionTable.isEmpty && decide (c.maxStack ≤ mostOperands) && decide (meth.sig.returnType = rt) && !meth.locks && decide (parseMethodDescriptor y.desc = some meth.sig)) = true) : (Jvm.Cond.code y bytes mx rt).before a s = true := by
  simp only [Bool.and_eq_true, beq_iff_eq, Bool.not_eq_true', decide_eq_true_eq] at h5
  obtain ⟨⟨⟨⟨⟨g1, g2⟩, g3⟩, g4⟩, g5⟩, g6⟩ := h5
  simp [Cond.before, Cond.holds, Cond.value, h1, h2, h3, h4, g1, g2, g3, g4, g5, g6]
def isCode : Jvm.Cond → Bool
  | .code _ _ _ _ => true
  | _ => false
theorem all_split {L : List Jvm.Cond} {P : Jvm.Cond → Bool} (h1 : L.all (fun c => isCode c || P c) = true) (h2 : ∀ c ∈ L.filter isCode, P c = true) : L.all P = true := by
  refine List.all_eq_true.mpr fun c hc => ?_
  have h := List.all_eq_true.mp h1 c hc
  rcases Bool.eq_false_or_eq_true (isCode c) with hi | hi
  · exact h2 c (List.mem_filter.mpr ⟨hc, hi⟩)
  · simpa [hi] using h
set_option maxRecDepth 65536 in
theorem w_c0 : (Jvm.Cond.code x code maxLocals ret).before args0 about1 = true := code_word (m := ⟨1, 1⟩) (meth := k1m1) (c := k1c1) (by decide +kernel) rfl rfl rfl (by decide +kernel)
set_option maxRecDepth 65536 in
theorem w_c1 : (Jvm.Cond.code ({ cls := "com/example/maniera/maniera/cli/CommandLineIsHelpPinLaw", name := "pick", desc := "(I)C" } : Jvm.MethodName) method_3_code (2 : Nat) (Option.some Jvm.ClassFile.FieldType.char)).before args0 about1 = true := code_word (m := ⟨1, 2⟩) (meth := k1m2) (c := k1c2) (by decide +kernel) rfl rfl rfl (by decide +kernel)
set_option maxRecDepth 65536 in
theorem w_c2 : (Jvm.Cond.code ({ cls := "com/example/maniera/maniera/cli/CommandLineIsHelpPinLaw", name := "word", desc := "([CI)Ljava/lang/String;" } : Jvm.MethodName) method_4_code (2 : Nat) (Option.some (Jvm.ClassFile.FieldType.object "java/lang/String"))).before args0 about1 = true := code_word (m := ⟨1, 3⟩) (meth := k1m3) (c := k1c3) (by decide +kernel) rfl rfl rfl (by decide +kernel)
set_option maxRecDepth 65536 in
theorem w_c3 : (Jvm.Cond.code ({ cls := "java/lang/String", name := "<init>", desc := "([C)V" } : Jvm.MethodName) jdk_42_method_3_code (2 : Nat) (Option.none : Option Jvm.ClassFile.FieldType)).before args0 about1 = true := code_word (m := ⟨7, 1⟩) (meth := k7m1) (c := k7c1) (by decide +kernel) rfl rfl rfl (by decide +kernel)
set_option maxRecDepth 65536 in
theorem w_c4 : (Jvm.Cond.code ({ cls := "java/lang/String", name := "<init>", desc := "([CIILjava/lang/Void;)V" } : Jvm.MethodName) jdk_42_method_149_code (6 : Nat) (Option.none : Option Jvm.ClassFile.FieldType)).before args0 about1 = true := code_word (m := ⟨7, 3⟩) (meth := k7m3) (c := k7c3) (by decide +kernel) rfl rfl rfl (by decide +kernel)
set_option maxRecDepth 65536 in
theorem w_c5 : (Jvm.Cond.code ({ cls := "java/lang/Object", name := "<init>", desc := "()V" } : Jvm.MethodName) object_method_1_code (1 : Nat) (Option.none : Option Jvm.ClassFile.FieldType)).before args0 about1 = true := code_word (m := ⟨0, 0⟩) (meth := k0m0) (c := k0c0) (by decide +kernel) rfl rfl rfl (by decide +kernel)
set_option maxRecDepth 65536 in
theorem w_c6 : (Jvm.Cond.code ({ cls := "java/lang/StringUTF16", name := "compress", desc := "([CII)[B" } : Jvm.MethodName) jdk_52_method_16_code (6 : Nat) (Option.some (Jvm.ClassFile.FieldType.array Jvm.ClassFile.FieldType.byte))).before args0 about1 = true := code_word (m := ⟨8, 2⟩) (meth := k8m2) (c := k8c2) (by decide +kernel) rfl rfl rfl (by decide +kernel)
set_option maxRecDepth 65536 in
theorem w_c7 : (Jvm.Cond.code ({ cls := "java/lang/StringUTF16", name := "compress", desc := "([CI[BII)I" } : Jvm.MethodName) jdk_52_method_21_code (7 : Nat) (Option.some Jvm.ClassFile.FieldType.int)).before args0 about1 = true := code_word (m := ⟨8, 3⟩) (meth := k8m3) (c := k8c3) (by decide +kernel) rfl rfl rfl (by decide +kernel)
set_option maxRecDepth 65536 in
theorem w_c8 : (Jvm.Cond.code ({ cls := "java/lang/StringUTF16", name := "coderFromArrayLen", desc := "([BI)B" } : Jvm.MethodName) jdk_52_method_15_code (2 : Nat) (Option.some Jvm.ClassFile.FieldType.byte)).before args0 about1 = true := code_word (m := ⟨8, 1⟩) (meth := k8m1) (c := k8c1) (by decide +kernel) rfl rfl rfl (by decide +kernel)
set_option maxRecDepth 65536 in
theorem w_c9 : (Jvm.Cond.code ({ cls := "com/example/maniera/maniera/cli/CommandLine", name := "isHelp", desc := "(Ljava/lang/String;)Z" } : Jvm.MethodName) prog_2_method_4_code (1 : Nat) (Option.some Jvm.ClassFile.FieldType.boolean)).before args0 about1 = true := code_word (m := ⟨9, 0⟩) (meth := k9m0) (c := k9c0) (by decide +kernel) rfl rfl rfl (by decide +kernel)
set_option maxRecDepth 65536 in
theorem w_c10 : (Jvm.Cond.code ({ cls := "java/lang/String", name := "equals", desc := "(Ljava/lang/Object;)Z" } : Jvm.MethodName) jdk_42_method_66_code (3 : Nat) (Option.some Jvm.ClassFile.FieldType.boolean)).before args0 about1 = true := code_word (m := ⟨7, 2⟩) (meth := k7m2) (c := k7c2) (by decide +kernel) rfl rfl rfl (by decide +kernel)
set_option maxRecDepth 65536 in
theorem w_c11 : (Jvm.Cond.code ({ cls := "java/lang/StringLatin1", name := "equals", desc := "([B[B)Z" } : Jvm.MethodName) jdk_43_method_13_code (3 : Nat) (Option.some Jvm.ClassFile.FieldType.boolean)).before args0 about1 = true := code_word (m := ⟨10, 1⟩) (meth := k10m1) (c := k10c1) (by decide +kernel) rfl rfl rfl (by decide +kernel)
def codes1 : List Jvm.Cond := [Jvm.Cond.code x code maxLocals ret, Jvm.Cond.code ({ cls := "com/example/maniera/maniera/cli/CommandLineIsHelpPinLaw", name := "pick", desc := "(I)C" } : Jvm.MethodName) method_3_code (2 : Nat) (Option.some Jvm.ClassFile.FieldType.char), Jvm.Cond.code ({ cls := "com/example/maniera/maniera/cli/CommandLineIsHelpPinLaw", name := "word", desc := "([CI)Ljava/lang/String;" } : Jvm.MethodName) method_4_code (2 : Nat) (Option.some (Jvm.ClassFile.FieldType.object "java/lang/String")), Jvm.Cond.code ({ cls := "java/lang/String", name := "<init>", desc := "([C)V" } : Jvm.MethodName) jdk_42_method_3_code (2 : Nat) (Option.none : Option Jvm.ClassFile.FieldType), Jvm.Cond.code ({ cls := "java/lang/String", name := "<init>", desc := "([CIILjava/lang/Void;)V" } : Jvm.MethodName) jdk_42_method_149_code (6 : Nat) (Option.none : Option Jvm.ClassFile.FieldType), Jvm.Cond.code ({ cls := "java/lang/Object", name := "<init>", desc := "()V" } : Jvm.MethodName) object_method_1_code (1 : Nat) (Option.none : Option Jvm.ClassFile.FieldType), Jvm.Cond.code ({ cls := "java/lang/StringUTF16", name := "compress", desc := "([CII)[B" } : Jvm.MethodName) jdk_52_method_16_code (6 : Nat) (Option.some (Jvm.ClassFile.FieldType.array Jvm.ClassFile.FieldType.byte)), Jvm.Cond.code ({ cls := "java/lang/StringUTF16", name := "compress", desc := "([CI[BII)I" } : Jvm.MethodName) jdk_52_method_21_code (7 : Nat) (Option.some Jvm.ClassFile.FieldType.int), Jvm.Cond.code ({ cls := "java/lang/StringUTF16", name := "coderFromArrayLen", desc := "([BI)B" } : Jvm.MethodName) jdk_52_method_15_code (2 : Nat) (Option.some Jvm.ClassFile.FieldType.byte), Jvm.Cond.code ({ cls := "com/example/maniera/maniera/cli/CommandLine", name := "isHelp", desc := "(Ljava/lang/String;)Z" } : Jvm.MethodName) prog_2_method_4_code (1 : Nat) (Option.some Jvm.ClassFile.FieldType.boolean), Jvm.Cond.code ({ cls := "java/lang/String", name := "equals", desc := "(Ljava/lang/Object;)Z" } : Jvm.MethodName) jdk_42_method_66_code (3 : Nat) (Option.some Jvm.ClassFile.FieldType.boolean), Jvm.Cond.code ({ cls := "java/lang/StringLatin1", name := "equals", desc := "([B[B)Z" } : Jvm.MethodName) jdk_43_method_13_code (3 : Nat) (Option.some Jvm.ClassFile.FieldType.boolean)]
set_option maxRecDepth 65536 in
theorem codes_eq : words1.filter isCode = codes1 := rfl
theorem w_codes : ∀ c ∈ words1.filter isCode, c.before args0 about1 = true := by
  rw [codes_eq]
  intro c hc
  simp only [codes1, List.mem_cons, List.not_mem_nil, or_false] at hc
  rcases hc with rfl | rfl | rfl | rfl | rfl | rfl | rfl | rfl | rfl | rfl | rfl | rfl
  · exact w_c0
  · exact w_c1
  · exact w_c2
  · exact w_c3
  · exact w_c4
  · exact w_c5
  · exact w_c6
  · exact w_c7
  · exact w_c8
  · exact w_c9
  · exact w_c10
  · exact w_c11
set_option maxRecDepth 65536 in
theorem w_t1 : (words1.take 24).all (fun c => isCode c || c.before args0 about1) = true := by decide +kernel
set_option maxRecDepth 65536 in
theorem w_t2 : ((words1.drop 24).take 24).all (fun c => isCode c || c.before args0 about1) = true := by decide +kernel
set_option maxRecDepth 65536 in
theorem w_t3 : ((words1.drop 24).drop 24).all (fun c => isCode c || c.before args0 about1) = true := by decide +kernel
theorem w_tables : (allAtoms (Jvm.Cond.code x code maxLocals ret :: tables_1)).before args0 about1 = true := by
  rw [allAtoms_all]
  show words1.all (fun c => c.before args0 about1) = true
  refine all_split ?_ w_codes
  rw [← List.take_append_drop 24 words1, List.all_append, w_t1, ← List.take_append_drop 24 (words1.drop 24), List.all_append, w_t2, w_t3]
  rfl
set_option maxRecDepth 65536 in
theorem w_rest : rest_1_c.before args0 about1 = true := by decide +kernel
set_option maxRecDepth 65536 in
theorem w_case : (Jvm.Cond.and given_1 narrow_1).before args0 about1 = true := by decide +kernel
set_option maxRecDepth 65536 in
theorem w_consts : constsHeld consts_1 about1 := Jvm.Lit.constsHeldB_iff.mp (by decide +kernel)
theorem w_applies : (headSpec (Jvm.Cond.code x code maxLocals ret :: tables_1) room_1).applies x e0.platform about1 = true :=
  (Spec.applies_iff w_frames).mpr ⟨w_running, w_runnable, w_alone, w_named, w_hears, w_ripe, w_room, w_tables⟩
theorem atStart : AtStart classFile x code maxLocals ret World_1 tables_1 room_1 Calls_1 rest_1 Pre_1 launch0 p0 e0 about1 theMethod args0 below0 :=
  ⟨lists_1, trivial, launch0.admits_env _ _ _, launch0.least_env, fairChoices_fair.cas, fairChoices_fair.clock, w_frames, w_args, w_heap, w_applies, ⟨w_consts, trivial⟩, w_rest, w_case⟩
end start1
theorem witness_1 : WitnessClaimed_1 := ⟨start1.p0, start1.e0, start1.about1, start1.theMethod, start1.args0, start1.below0, start1.atStart⟩
end Jvm.Pilot.@@N@@
