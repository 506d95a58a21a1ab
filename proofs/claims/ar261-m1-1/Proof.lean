import JvmDerived
import JvmDerived.Pilot.@@N@@Statement
import JvmDerived.Pilot.@@N@@Code
set_option linter.unusedVariables false
set_option linter.unusedSimpArgs false
set_option maxRecDepth 65536
set_option maxHeartbeats 4000000
namespace Jvm.Pilot.@@N@@
open Jvm Jvm.ClassFile Sem Op Lib Jvm.Free Jvm.Stand Jvm.LawKit Jvm.RoadKit Bundle Jvm.Pilot.@@N@@.Jvm.D
abbrev ush32 (x y : Int32) : Int32 := (x.toUInt32 >>> (y &&& 31).toUInt32).toInt32
abbrev Cx : Type := Program × Launch × Env × State × MethodId × Array Value × List Frame × Method × ClassFile.Code
abbrev Cx.p (C : Cx) : Program := C.1
abbrev Cx.l (C : Cx) : Launch := C.2.1
abbrev Cx.e (C : Cx) : Env := C.2.2.1
abbrev Cx.s (C : Cx) : State := C.2.2.2.1
abbrev Cx.m (C : Cx) : MethodId := C.2.2.2.2.1
abbrev Cx.a (C : Cx) : Array Value := C.2.2.2.2.2.1
abbrev Cx.bl (C : Cx) : List Frame := C.2.2.2.2.2.2.1
abbrev Cx.mt (C : Cx) : Method := C.2.2.2.2.2.2.2.1
abbrev Cx.c (C : Cx) : ClassFile.Code := C.2.2.2.2.2.2.2.2
def EndK (w : Bool) (s : State) (o : Outcome) (t : State) (L : List Loc) (k n : Nat) : Prop := match w with
  | true => ReturnedEndW s o t L k n
  | false => FrameEnd s o t L k n
def Stn (C : Cx) (Z : State) (own : String) (by_ : ByteArray) (mL : Nat) (rt : Option FieldType) (nm : String) (q : Nat) : Prop :=
  C.p.tables.exec = Jvm.exec ∧ C.c.code = by_ ∧ C.c.maxLocals = mL ∧ C.mt.sig.returnType = rt ∧ C.mt.locks = false ∧ C.mt.name = nm ∧ C.s.heap.size = q ∧ Ext Z.heap C.s.heap ∧ C.s.vm.findClass own = some C.m.cls
def Pos (C : Cx) (Z : State) (R : Room) (w : Bool) (b : Nat) (Ts : List String) (Li : List (String × Nat × Addr)) (h : Heap) (k n : Nat) (T : State) (vm0 : Vm) (locs : List Loc) : Prop :=
  Stand C.p C.l C.e R (C.s.setVm vm0) C.m C.a C.bl C.mt C.c T locs k n ∧ Z.Warmed39 vm0 ∧ T.heap = h ∧ C.s.Since vm0 h.size ∧ IB Z vm0 Ts ∧ (w = false → vm0 = C.s.vm) ∧ Fr b locs ∧ Z.heap.size ≤ b ∧ Ext Z.heap h ∧ C.s.heap.size ≤ h.size ∧ ∀ x ∈ Li, Lit (C.s.setVm vm0) x.1 x.2.1 x.2.2
def Gl (C : Cx) (Z : State) (R : Room) (w : Bool) (To : List String) (f : Nat) (Q : Option Value → Heap → Prop) (st : State) : Prop :=
  ∃ s₂ o, Steps C.p.tables C.e C.bl st s₂ ∧ s₂.status = .running ∧ Ended s₂ C.bl o ∧ ∃ v L, o = .returned v ∧ (Q v s₂.heap ∧ Fr f L ∧ Ext Z.heap s₂.heap ∧ IB Z s₂.vm To) ∧ EndK w C.s o s₂ L R.cells R.slots
def Run (C : Cx) (Z : State) (R : Room) (w : Bool) (To : List String) (f : Nat) (Q : Option Value → Heap → Prop) (b : Nat) (Ts : List String) (Li : List (String × Nat × Addr)) (h : Heap) (k n : Nat) (pc : Nat) (L : Array Slot) (S : List Value) : Prop :=
  ∀ T vm0 locs, Pos C Z R w b Ts Li h k n T vm0 locs → Gl C Z R w To f Q (T.setTop (mkF C.m pc L S))
def Con (w : Bool) (ws : List Jvm.Cond) (Z : State) (y : MethodName) (yb : ByteArray) (ymL : Nat) (yrt : Option FieldType) (Ry : Room) (Ti To : List String) (f : Nat) (as : Array Value) (h : Heap) (Q : Option Value → Heap → Prop) : Prop :=
  ∀ l, MetFree l y (head1 (Jvm.Cond.code y yb ymL yrt :: ws) Ry) (fun a U => a = as ∧ Z.Warmed39 U.vm ∧ U.heap = h ∧ IB Z U.vm Ti ∧ Ext Z.heap h) (fun _ _ _ _ _ => True)
    (fun _ U o U' => ∃ v L, o = .returned v ∧ (Q v U'.heap ∧ Fr f L ∧ Ext Z.heap U'.heap ∧ IB Z U'.vm To) ∧ EndK w U o U' L Ry.cells Ry.slots)
theorem ib_same {Z : State} {vm0 vm1 : Vm} {Ts : List String} (I : IB Z vm0 Ts) (h : vm1.interned = vm0.interned) : IB Z vm1 Ts := by
  obtain ⟨m, h1, h2⟩ := I; exact ⟨m, h.trans h1, h2⟩
theorem ib_mono {Z : State} {vm0 : Vm} {Ts To : List String} (I : IB Z vm0 Ts) (h : ∀ t ∈ Ts, t ∈ To) : IB Z vm0 To := by
  obtain ⟨m, h1, h2⟩ := I; exact ⟨m, h1, fun q hq => by obtain ⟨t, a, c⟩ := h2 q hq; exact ⟨t, h t a, c⟩⟩
theorem fr_low {k k' : Nat} {L : List Loc} (N : Fr k L) (h : k' ≤ k) : Fr k' L := fun y hy => Nat.le_trans h (N y hy)
theorem since_same {s : State} {vm : Vm} {n n' : Nat} (h : s.Since vm n) (hn : n ≤ n') : s.Since vm n' := ⟨h.1, fun j p hj hp => ⟨(h.2 j p hj hp).1, Nat.lt_of_lt_of_le (h.2 j p hj hp).2 hn⟩⟩
section Walk
variable {C : Cx} {Z : State} {a0 : Array Value} {own : String} {by_ : ByteArray} {mL : Nat} {rt : Option FieldType} {nm : String} {q : Nat} {R : Room} {w : Bool} {To : List String} {f : Nat} {Q : Option Value → Heap → Prop} {b : Nat} {Ts : List String} {Li : List (String × Nat × Addr)} {h : Heap} {k n pc : Nat} {L : Array Slot} {S : List Value}
theorem Run.one {pc' : Nat} {L' : Array Slot} {S' : List Value} (g : ∀ T vm0 locs t, Stand C.p C.l C.e R (C.s.setVm vm0) C.m C.a C.bl C.mt C.c T locs k n → Steps C.p.tables C.e C.bl (T.setTop (mkF C.m pc' L' S')) t → Steps C.p.tables C.e C.bl (T.setTop (mkF C.m pc L S)) t)
    (kk : Run C Z R w To f Q b Ts Li h k n pc' L' S') : Run C Z R w To f Q b Ts Li h k n pc L S := fun T vm0 locs P => by
  obtain ⟨s₂, o, h1, r⟩ := kk T vm0 locs P
  exact ⟨s₂, o, g T vm0 locs _ P.1 h1, r⟩
theorem Stn.dec (H : Stn C Z own by_ mL rt nm q) {pc : Nat} {r : Except ClassFile.DecodeError (Instr × Nat)} (hd : decode by_ pc = r) : decode C.c.code pc = r := by rw [H.2.1]; exact hd
theorem Stn.cl (H : Stn C Z own by_ mL rt nm q) {vm0 : Vm} (hS : C.s.Since vm0 k) : (C.s.setVm vm0).vm.findClass own = some C.m.cls := by
  show vm0.findClass own = _
  rw [hS.1.alike.findClass]; exact H.2.2.2.2.2.2.2.2
theorem Run.low {b' : Nat} (hb : b' ≤ b) (hz : Z.heap.size ≤ b') (kk : Run C Z R w To f Q b' Ts Li h k n pc L S) : Run C Z R w To f Q b Ts Li h k n pc L S := fun T vm0 locs P => by
  obtain ⟨P1, P2, P3, P4, P5, P6, P7, P8, P9⟩ := P
  exact kk T vm0 locs ⟨P1, P2, P3, P4, P5, P6, fr_low P7 hb, hz, P9⟩
theorem r_iloadN (H : Stn C Z own by_ mL rt nm q) (pc' : Nat) {i : Fin 4} {v : Int32} (hd : decode by_ pc = .ok (.iload_n i, 1)) (kk : Run C Z R w To f Q b Ts Li h k n pc' L (.int v :: S)) (hv : L[i.val]? = some (.val (.int v)) := by exact rfl) (hp : pc' = pc + 1 := by exact rfl) : Run C Z R w To f Q b Ts Li h k n pc L (S) := by
  subst hp
  exact kk.one fun T vm0 locs t X kt => XS.iloadN X.here H.1 rfl (H.dec hd) hv kt
theorem r_iload (H : Stn C Z own by_ mL rt nm q) (pc' : Nat) {i : Nat} {v : Int32} (hd : decode by_ pc = .ok (.iload i, 2)) (kk : Run C Z R w To f Q b Ts Li h k n pc' L (.int v :: S)) (hv : L[i]? = some (.val (.int v)) := by exact rfl) (hp : pc' = pc + 2 := by exact rfl) : Run C Z R w To f Q b Ts Li h k n pc L (S) := by
  subst hp
  exact kk.one fun T vm0 locs t X kt => XS.iload X.here H.1 rfl (H.dec hd) hv kt
theorem r_aloadN (H : Stn C Z own by_ mL rt nm q) (pc' : Nat) {i : Fin 4} {v : Value} (hd : decode by_ pc = .ok (.aload_n i, 1)) (kk : Run C Z R w To f Q b Ts Li h k n pc' L (v :: S)) (hv : L[i.val]? = some (.val v) := by exact rfl) (hr : v.isRef = true := by exact rfl) (hp : pc' = pc + 1 := by exact rfl) : Run C Z R w To f Q b Ts Li h k n pc L (S) := by
  subst hp
  exact kk.one fun T vm0 locs t X kt => XS.aloadN X.here H.1 rfl (H.dec hd) hv hr kt
theorem r_aload (H : Stn C Z own by_ mL rt nm q) (pc' : Nat) {i : Nat} {v : Value} (hd : decode by_ pc = .ok (.aload i, 2)) (kk : Run C Z R w To f Q b Ts Li h k n pc' L (v :: S)) (hv : L[i]? = some (.val v) := by exact rfl) (hr : v.isRef = true := by exact rfl) (hp : pc' = pc + 2 := by exact rfl) : Run C Z R w To f Q b Ts Li h k n pc L (S) := by
  subst hp
  exact kk.one fun T vm0 locs t X kt => XS.aload X.here H.1 rfl (H.dec hd) hv hr kt
theorem r_istoreN (H : Stn C Z own by_ mL rt nm q) (pc' : Nat) (L' : Array Slot) {i : Fin 4} {x : Int32} (hd : decode by_ pc = .ok (.istore_n i, 1)) (kk : Run C Z R w To f Q b Ts Li h k n pc' L' (S)) (hl : storeLocals L i.val (.int x) = some L' := by exact rfl) (hp : pc' = pc + 1 := by exact rfl) : Run C Z R w To f Q b Ts Li h k n pc L (.int x :: S) := by
  subst hp
  exact kk.one fun T vm0 locs t X kt => XS.istoreN X.here H.1 rfl (H.dec hd) rfl hl kt
theorem r_istore (H : Stn C Z own by_ mL rt nm q) (pc' : Nat) (L' : Array Slot) {i : Nat} {x : Int32} (hd : decode by_ pc = .ok (.istore i, 2)) (kk : Run C Z R w To f Q b Ts Li h k n pc' L' (S)) (hl : storeLocals L i (.int x) = some L' := by exact rfl) (hp : pc' = pc + 2 := by exact rfl) : Run C Z R w To f Q b Ts Li h k n pc L (.int x :: S) := by
  subst hp
  exact kk.one fun T vm0 locs t X kt => XS.istore X.here H.1 rfl (H.dec hd) rfl hl kt
theorem r_astoreN (H : Stn C Z own by_ mL rt nm q) (pc' : Nat) (L' : Array Slot) {i : Fin 4} {x : Value} (hd : decode by_ pc = .ok (.astore_n i, 1)) (kk : Run C Z R w To f Q b Ts Li h k n pc' L' (S)) (hr : x.isRef = true := by exact rfl) (hl : storeLocals L i.val x = some L' := by exact rfl) (hp : pc' = pc + 1 := by exact rfl) : Run C Z R w To f Q b Ts Li h k n pc L (x :: S) := by
  subst hp
  exact kk.one fun T vm0 locs t X kt => XS.astoreN X.here H.1 rfl (H.dec hd) rfl hr hl kt
theorem r_astore (H : Stn C Z own by_ mL rt nm q) (pc' : Nat) (L' : Array Slot) {i : Nat} {x : Value} (hd : decode by_ pc = .ok (.astore i, 2)) (kk : Run C Z R w To f Q b Ts Li h k n pc' L' (S)) (hr : x.isRef = true := by exact rfl) (hl : storeLocals L i x = some L' := by exact rfl) (hp : pc' = pc + 2 := by exact rfl) : Run C Z R w To f Q b Ts Li h k n pc L (x :: S) := by
  subst hp
  exact kk.one fun T vm0 locs t X kt => XS.astore X.here H.1 rfl (H.dec hd) rfl hr hl kt
theorem r_iinc (H : Stn C Z own by_ mL rt nm q) (pc' : Nat) (L' : Array Slot) {i : Nat} {cst : Int} {x : Int32} (y : Int32) (hd : decode by_ pc = .ok (.iinc i cst, 3)) (kk : Run C Z R w To f Q b Ts Li h k n pc' L' (S)) (hv : L[i]? = some (.val (.int x)) := by exact rfl) (hy : x + Int32.ofInt cst = y := by decide) (hl : storeLocals L i (.int y) = some L' := by exact rfl) (hp : pc' = pc + 3 := by exact rfl) : Run C Z R w To f Q b Ts Li h k n pc L (S) := by
  subst hp
  subst hy
  exact kk.one fun T vm0 locs t X kt => XS.iinc X.here H.1 rfl (H.dec hd) hv hl kt
theorem r_iconst (H : Stn C Z own by_ mL rt nm q) (pc' : Nat) (x : Int32) {i : Int} (hd : decode by_ pc = .ok (.iconst i, 1)) (kk : Run C Z R w To f Q b Ts Li h k n pc' L (.int x :: S)) (hv : Int32.ofInt i = x := by decide) (hp : pc' = pc + 1 := by exact rfl) : Run C Z R w To f Q b Ts Li h k n pc L (S) := by
  subst hp
  subst hv
  exact kk.one fun T vm0 locs t X kt => XS.iconst X.here H.1 rfl (H.dec hd)  kt
theorem r_bipush (H : Stn C Z own by_ mL rt nm q) (pc' : Nat) (x : Int32) {i : Int} (hd : decode by_ pc = .ok (.bipush i, 2)) (kk : Run C Z R w To f Q b Ts Li h k n pc' L (.int x :: S)) (hv : (Int8.ofInt i).toInt32 = x := by decide) (hp : pc' = pc + 2 := by exact rfl) : Run C Z R w To f Q b Ts Li h k n pc L (S) := by
  subst hp
  subst hv
  exact kk.one fun T vm0 locs t X kt => XS.bipush X.here H.1 rfl (H.dec hd)  kt
theorem r_sipush (H : Stn C Z own by_ mL rt nm q) (pc' : Nat) (x : Int32) {i : Int} (hd : decode by_ pc = .ok (.sipush i, 3)) (kk : Run C Z R w To f Q b Ts Li h k n pc' L (.int x :: S)) (hv : (Int16.ofInt i).toInt32 = x := by decide) (hp : pc' = pc + 3 := by exact rfl) : Run C Z R w To f Q b Ts Li h k n pc L (S) := by
  subst hp
  subst hv
  exact kk.one fun T vm0 locs t X kt => XS.sipush X.here H.1 rfl (H.dec hd)  kt
theorem r_null (H : Stn C Z own by_ mL rt nm q) (pc' : Nat) (hd : decode by_ pc = .ok (.aconst_null, 1)) (kk : Run C Z R w To f Q b Ts Li h k n pc' L (.null :: S)) (hp : pc' = pc + 1 := by exact rfl) : Run C Z R w To f Q b Ts Li h k n pc L (S) := by
  subst hp
  exact kk.one fun T vm0 locs t X kt => XS.aconstNull X.here H.1 rfl (H.dec hd)  kt
theorem r_iadd (H : Stn C Z own by_ mL rt nm q) (pc' : Nat) (z : Int32) {x y : Int32} (hd : decode by_ pc = .ok (.iadd, 1)) (hz : (x + y) = z) (kk : Run C Z R w To f Q b Ts Li h k n pc' L (.int z :: S)) (hp : pc' = pc + 1 := by exact rfl) : Run C Z R w To f Q b Ts Li h k n pc L (.int y :: .int x :: S) := by
  subst hp
  subst hz
  exact kk.one fun T vm0 locs t X kt => XS.iadd X.here H.1 rfl (H.dec hd) rfl kt
theorem r_isub (H : Stn C Z own by_ mL rt nm q) (pc' : Nat) (z : Int32) {x y : Int32} (hd : decode by_ pc = .ok (.isub, 1)) (kk : Run C Z R w To f Q b Ts Li h k n pc' L (.int z :: S)) (hz : (x - y) = z := by decide) (hp : pc' = pc + 1 := by exact rfl) : Run C Z R w To f Q b Ts Li h k n pc L (.int y :: .int x :: S) := by
  subst hp
  subst hz
  exact kk.one fun T vm0 locs t X kt => XS.isub X.here H.1 rfl (H.dec hd) rfl kt
theorem r_iand (H : Stn C Z own by_ mL rt nm q) (pc' : Nat) (z : Int32) {x y : Int32} (hd : decode by_ pc = .ok (.iand, 1)) (hz : (x &&& y) = z) (kk : Run C Z R w To f Q b Ts Li h k n pc' L (.int z :: S)) (hp : pc' = pc + 1 := by exact rfl) : Run C Z R w To f Q b Ts Li h k n pc L (.int y :: .int x :: S) := by
  subst hp
  subst hz
  exact kk.one fun T vm0 locs t X kt => XS.iand X.here H.1 rfl (H.dec hd) rfl kt
theorem r_ior (H : Stn C Z own by_ mL rt nm q) (pc' : Nat) (z : Int32) {x y : Int32} (hd : decode by_ pc = .ok (.ior, 1)) (kk : Run C Z R w To f Q b Ts Li h k n pc' L (.int z :: S)) (hz : (x ||| y) = z := by exact rfl) (hp : pc' = pc + 1 := by exact rfl) : Run C Z R w To f Q b Ts Li h k n pc L (.int y :: .int x :: S) := by
  subst hp
  subst hz
  exact kk.one fun T vm0 locs t X kt => XS.ior X.here H.1 rfl (H.dec hd) rfl kt
theorem r_ishl (H : Stn C Z own by_ mL rt nm q) (pc' : Nat) (z : Int32) {x y : Int32} (hd : decode by_ pc = .ok (.ishl, 1)) (hz : (x <<< (y &&& 31)) = z) (kk : Run C Z R w To f Q b Ts Li h k n pc' L (.int z :: S)) (hp : pc' = pc + 1 := by exact rfl) : Run C Z R w To f Q b Ts Li h k n pc L (.int y :: .int x :: S) := by
  subst hp
  subst hz
  exact kk.one fun T vm0 locs t X kt => XS.ishl X.here H.1 rfl (H.dec hd) rfl kt
theorem r_ishr (H : Stn C Z own by_ mL rt nm q) (pc' : Nat) (z : Int32) {x y : Int32} (hd : decode by_ pc = .ok (.ishr, 1)) (hz : (x >>> (y &&& 31)) = z) (kk : Run C Z R w To f Q b Ts Li h k n pc' L (.int z :: S)) (hp : pc' = pc + 1 := by exact rfl) : Run C Z R w To f Q b Ts Li h k n pc L (.int y :: .int x :: S) := by
  subst hp
  subst hz
  exact kk.one fun T vm0 locs t X kt => XS.ishr X.here H.1 rfl (H.dec hd) rfl kt
theorem r_iushr (H : Stn C Z own by_ mL rt nm q) (pc' : Nat) (z : Int32) {x y : Int32} (hd : decode by_ pc = .ok (.iushr, 1)) (kk : Run C Z R w To f Q b Ts Li h k n pc' L (.int z :: S)) (hz : (ush32 x y) = z := by decide) (hp : pc' = pc + 1 := by exact rfl) : Run C Z R w To f Q b Ts Li h k n pc L (.int y :: .int x :: S) := by
  subst hp
  subst hz
  exact kk.one fun T vm0 locs t X kt => XS.iushr X.here H.1 rfl (H.dec hd) rfl kt
theorem r_irem (H : Stn C Z own by_ mL rt nm q) (pc' : Nat) (z : Int32) {x y : Int32} (hd : decode by_ pc = .ok (.irem, 1)) (hz : x % y = z) (kk : Run C Z R w To f Q b Ts Li h k n pc' L (.int z :: S)) (hy : y ≠ 0 := by decide) (hp : pc' = pc + 1 := by exact rfl) : Run C Z R w To f Q b Ts Li h k n pc L (.int y :: .int x :: S) := by
  subst hp hz
  exact kk.one fun T vm0 locs t X kt => iremM X H.1 rfl (H.dec hd) rfl hy kt
theorem r_i2b (H : Stn C Z own by_ mL rt nm q) (pc' : Nat) (z : Int32) {x : Int32} (hd : decode by_ pc = .ok (.i2b, 1)) (hz : (x.toInt8.toInt32) = z) (kk : Run C Z R w To f Q b Ts Li h k n pc' L (.int z :: S)) (hp : pc' = pc + 1 := by exact rfl) : Run C Z R w To f Q b Ts Li h k n pc L (.int x :: S) := by
  subst hp
  subst hz
  exact kk.one fun T vm0 locs t X kt => XS.i2b X.here H.1 rfl (H.dec hd) rfl kt
theorem r_i2c (H : Stn C Z own by_ mL rt nm q) (pc' : Nat) (z : Int32) {x : Int32} (hd : decode by_ pc = .ok (.i2c, 1)) (hz : (x.toUInt32.toUInt16.toUInt32.toInt32) = z) (kk : Run C Z R w To f Q b Ts Li h k n pc' L (.int z :: S)) (hp : pc' = pc + 1 := by exact rfl) : Run C Z R w To f Q b Ts Li h k n pc L (.int x :: S) := by
  subst hp
  subst hz
  exact kk.one fun T vm0 locs t X kt => XS.i2c X.here H.1 rfl (H.dec hd) rfl kt
theorem r_dup (H : Stn C Z own by_ mL rt nm q) (pc' : Nat) {x : Value} (hd : decode by_ pc = .ok (.dup, 1)) (kk : Run C Z R w To f Q b Ts Li h k n pc' L (x :: x :: S)) (hc : x.category = 1 := by exact rfl) (hp : pc' = pc + 1 := by exact rfl) : Run C Z R w To f Q b Ts Li h k n pc L (x :: S) := by
  subst hp
  exact kk.one fun T vm0 locs t X kt => XS.dup X.here H.1 rfl (H.dec hd) rfl hc kt
theorem r_pop (H : Stn C Z own by_ mL rt nm q) (pc' : Nat) {x : Value} (hd : decode by_ pc = .ok (.pop, 1)) (kk : Run C Z R w To f Q b Ts Li h k n pc' L (S)) (hc : x.category = 1 := by exact rfl) (hp : pc' = pc + 1 := by exact rfl) : Run C Z R w To f Q b Ts Li h k n pc L (x :: S) := by
  subst hp
  exact kk.one fun T vm0 locs t X kt => XS.pop X.here H.1 rfl (H.dec hd) rfl hc kt
theorem r_goto (H : Stn C Z own by_ mL rt nm q) (pc' : Nat) {o : Int} (hd : decode by_ pc = .ok (.goto o, 3)) (kk : Run C Z R w To f Q b Ts Li h k n pc' L S) (ho : 0 ≤ (pc : Int) + o := by decide) (hp : ((pc : Int) + o).toNat = pc' := by decide) : Run C Z R w To f Q b Ts Li h k n pc L S := by
  exact kk.one fun T vm0 locs t X kt => XS.goto X.here H.1 rfl rfl (H.dec hd) ho hp kt
theorem r_icmpltT (H : Stn C Z own by_ mL rt nm q) (pc' : Nat) {x y : Int32} {o : Int} (hd : decode by_ pc = .ok (.if_icmp .lt o, 3)) (kk : Run C Z R w To f Q b Ts Li h k n pc' L S) (ho : 0 ≤ (pc : Int) + o := by decide) (hp : ((pc : Int) + o).toNat = pc' := by decide) (c : x < y := by decide) : Run C Z R w To f Q b Ts Li h k n pc L (.int y :: .int x :: S) := by
  exact kk.one fun T vm0 locs t X kt => XS.icmpYes X.here H.1 rfl rfl (H.dec hd) rfl (tlt c).1 ho hp kt
theorem r_icmpltF (H : Stn C Z own by_ mL rt nm q) (pc' : Nat) {x y : Int32} {o : Int} (hd : decode by_ pc = .ok (.if_icmp .lt o, 3)) (kk : Run C Z R w To f Q b Ts Li h k n pc' L S) (hp : pc' = pc + 3 := by exact rfl) (c : ¬ x < y := by decide) : Run C Z R w To f Q b Ts Li h k n pc L (.int y :: .int x :: S) := by
  subst hp
  exact kk.one fun T vm0 locs t X kt => XS.icmpNo X.here H.1 rfl (H.dec hd) rfl (flt c).1 kt
theorem r_ifltT (H : Stn C Z own by_ mL rt nm q) (pc' : Nat) {x : Int32} {o : Int} (hd : decode by_ pc = .ok (.ifCond .lt o, 3)) (kk : Run C Z R w To f Q b Ts Li h k n pc' L S) (ho : 0 ≤ (pc : Int) + o := by decide) (hp : ((pc : Int) + o).toNat = pc' := by decide) (c : x < 0 := by decide) : Run C Z R w To f Q b Ts Li h k n pc L (.int x :: S) := by
  exact kk.one fun T vm0 locs t X kt => XS.ifYes X.here H.1 rfl rfl (H.dec hd) rfl ((if0 _ _).trans (tlt c).1) ho hp kt
theorem r_ifltF (H : Stn C Z own by_ mL rt nm q) (pc' : Nat) {x : Int32} {o : Int} (hd : decode by_ pc = .ok (.ifCond .lt o, 3)) (kk : Run C Z R w To f Q b Ts Li h k n pc' L S) (hp : pc' = pc + 3 := by exact rfl) (c : ¬ x < 0 := by decide) : Run C Z R w To f Q b Ts Li h k n pc L (.int x :: S) := by
  subst hp
  exact kk.one fun T vm0 locs t X kt => XS.ifNo X.here H.1 rfl (H.dec hd) rfl ((if0 _ _).trans (flt c).1) kt
theorem r_icmpgeT (H : Stn C Z own by_ mL rt nm q) (pc' : Nat) {x y : Int32} {o : Int} (hd : decode by_ pc = .ok (.if_icmp .ge o, 3)) (kk : Run C Z R w To f Q b Ts Li h k n pc' L S) (ho : 0 ≤ (pc : Int) + o := by decide) (hp : ((pc : Int) + o).toNat = pc' := by decide) (c : ¬ x < y := by decide) : Run C Z R w To f Q b Ts Li h k n pc L (.int y :: .int x :: S) := by
  exact kk.one fun T vm0 locs t X kt => XS.icmpYes X.here H.1 rfl rfl (H.dec hd) rfl (flt c).2.1 ho hp kt
theorem r_icmpgeF (H : Stn C Z own by_ mL rt nm q) (pc' : Nat) {x y : Int32} {o : Int} (hd : decode by_ pc = .ok (.if_icmp .ge o, 3)) (kk : Run C Z R w To f Q b Ts Li h k n pc' L S) (hp : pc' = pc + 3 := by exact rfl) (c : x < y := by decide) : Run C Z R w To f Q b Ts Li h k n pc L (.int y :: .int x :: S) := by
  subst hp
  exact kk.one fun T vm0 locs t X kt => XS.icmpNo X.here H.1 rfl (H.dec hd) rfl (tlt c).2.1 kt
theorem r_ifgeT (H : Stn C Z own by_ mL rt nm q) (pc' : Nat) {x : Int32} {o : Int} (hd : decode by_ pc = .ok (.ifCond .ge o, 3)) (kk : Run C Z R w To f Q b Ts Li h k n pc' L S) (ho : 0 ≤ (pc : Int) + o := by decide) (hp : ((pc : Int) + o).toNat = pc' := by decide) (c : ¬ x < 0 := by decide) : Run C Z R w To f Q b Ts Li h k n pc L (.int x :: S) := by
  exact kk.one fun T vm0 locs t X kt => XS.ifYes X.here H.1 rfl rfl (H.dec hd) rfl ((if0 _ _).trans (flt c).2.1) ho hp kt
theorem r_ifgeF (H : Stn C Z own by_ mL rt nm q) (pc' : Nat) {x : Int32} {o : Int} (hd : decode by_ pc = .ok (.ifCond .ge o, 3)) (kk : Run C Z R w To f Q b Ts Li h k n pc' L S) (hp : pc' = pc + 3 := by exact rfl) (c : x < 0 := by decide) : Run C Z R w To f Q b Ts Li h k n pc L (.int x :: S) := by
  subst hp
  exact kk.one fun T vm0 locs t X kt => XS.ifNo X.here H.1 rfl (H.dec hd) rfl ((if0 _ _).trans (tlt c).2.1) kt
theorem r_icmpgtT (H : Stn C Z own by_ mL rt nm q) (pc' : Nat) {x y : Int32} {o : Int} (hd : decode by_ pc = .ok (.if_icmp .gt o, 3)) (ho : 0 ≤ (pc : Int) + o) (hp : ((pc : Int) + o).toNat = pc') (c : y < x) (kk : Run C Z R w To f Q b Ts Li h k n pc' L S) : Run C Z R w To f Q b Ts Li h k n pc L (.int y :: .int x :: S) := by
  exact kk.one fun T vm0 locs t X kt => XS.icmpYes X.here H.1 rfl rfl (H.dec hd) rfl (tlt c).2.2.1 ho hp kt
theorem r_icmpgtF (H : Stn C Z own by_ mL rt nm q) (pc' : Nat) {x y : Int32} {o : Int} (hd : decode by_ pc = .ok (.if_icmp .gt o, 3)) (hp : pc' = pc + 3) (c : ¬ y < x) (kk : Run C Z R w To f Q b Ts Li h k n pc' L S) : Run C Z R w To f Q b Ts Li h k n pc L (.int y :: .int x :: S) := by
  subst hp
  exact kk.one fun T vm0 locs t X kt => XS.icmpNo X.here H.1 rfl (H.dec hd) rfl (flt c).2.2.1 kt
theorem r_icmpgt (H : Stn C Z own by_ mL rt nm q) (pt : Nat) (pf : Nat) {x y : Int32} {o : Int} (hd : decode by_ pc = .ok (.if_icmp .gt o, 3)) (kt : y < x → Run C Z R w To f Q b Ts Li h k n pt L S) (kf : ¬ y < x → Run C Z R w To f Q b Ts Li h k n pf L S) (ho : 0 ≤ (pc : Int) + o := by decide) (hp : ((pc : Int) + o).toNat = pt := by decide) (hf : pf = pc + 3 := by exact rfl) : Run C Z R w To f Q b Ts Li h k n pc L (.int y :: .int x :: S) := by
  by_cases c : y < x
  · exact r_icmpgtT H pt hd ho hp c (kt c)
  · exact r_icmpgtF H pf hd hf c (kf c)
theorem r_icmpleT (H : Stn C Z own by_ mL rt nm q) (pc' : Nat) {x y : Int32} {o : Int} (hd : decode by_ pc = .ok (.if_icmp .le o, 3)) (ho : 0 ≤ (pc : Int) + o) (hp : ((pc : Int) + o).toNat = pc') (c : ¬ y < x) (kk : Run C Z R w To f Q b Ts Li h k n pc' L S) : Run C Z R w To f Q b Ts Li h k n pc L (.int y :: .int x :: S) := by
  exact kk.one fun T vm0 locs t X kt => XS.icmpYes X.here H.1 rfl rfl (H.dec hd) rfl (flt c).2.2.2 ho hp kt
theorem r_icmpleF (H : Stn C Z own by_ mL rt nm q) (pc' : Nat) {x y : Int32} {o : Int} (hd : decode by_ pc = .ok (.if_icmp .le o, 3)) (hp : pc' = pc + 3) (c : y < x) (kk : Run C Z R w To f Q b Ts Li h k n pc' L S) : Run C Z R w To f Q b Ts Li h k n pc L (.int y :: .int x :: S) := by
  subst hp
  exact kk.one fun T vm0 locs t X kt => XS.icmpNo X.here H.1 rfl (H.dec hd) rfl (tlt c).2.2.2 kt
theorem r_icmple (H : Stn C Z own by_ mL rt nm q) (pt : Nat) (pf : Nat) {x y : Int32} {o : Int} (hd : decode by_ pc = .ok (.if_icmp .le o, 3)) (kt : ¬ y < x → Run C Z R w To f Q b Ts Li h k n pt L S) (kf : y < x → Run C Z R w To f Q b Ts Li h k n pf L S) (ho : 0 ≤ (pc : Int) + o := by decide) (hp : ((pc : Int) + o).toNat = pt := by decide) (hf : pf = pc + 3 := by exact rfl) : Run C Z R w To f Q b Ts Li h k n pc L (.int y :: .int x :: S) := by
  by_cases c : ¬ y < x
  · exact r_icmpleT H pt hd ho hp c (kt c)
  · exact r_icmpleF H pf hd hf (Decidable.not_not.mp c) (kf (Decidable.not_not.mp c))
theorem r_ifleT (H : Stn C Z own by_ mL rt nm q) (pc' : Nat) {x : Int32} {o : Int} (hd : decode by_ pc = .ok (.ifCond .le o, 3)) (kk : Run C Z R w To f Q b Ts Li h k n pc' L S) (ho : 0 ≤ (pc : Int) + o := by decide) (hp : ((pc : Int) + o).toNat = pc' := by decide) (c : ¬ 0 < x := by decide) : Run C Z R w To f Q b Ts Li h k n pc L (.int x :: S) := by
  exact kk.one fun T vm0 locs t X kt => XS.ifYes X.here H.1 rfl rfl (H.dec hd) rfl ((if0 _ _).trans (flt c).2.2.2) ho hp kt
theorem r_ifleF (H : Stn C Z own by_ mL rt nm q) (pc' : Nat) {x : Int32} {o : Int} (hd : decode by_ pc = .ok (.ifCond .le o, 3)) (kk : Run C Z R w To f Q b Ts Li h k n pc' L S) (hp : pc' = pc + 3 := by exact rfl) (c : 0 < x := by decide) : Run C Z R w To f Q b Ts Li h k n pc L (.int x :: S) := by
  subst hp
  exact kk.one fun T vm0 locs t X kt => XS.ifNo X.here H.1 rfl (H.dec hd) rfl ((if0 _ _).trans (tlt c).2.2.2) kt
theorem r_icmpeqT (H : Stn C Z own by_ mL rt nm q) (pc' : Nat) {x y : Int32} {o : Int} (hd : decode by_ pc = .ok (.if_icmp .eq o, 3)) (ho : 0 ≤ (pc : Int) + o) (hp : ((pc : Int) + o).toNat = pc') (c : x = y) (kk : Run C Z R w To f Q b Ts Li h k n pc' L S) : Run C Z R w To f Q b Ts Li h k n pc L (.int y :: .int x :: S) := by
  exact kk.one fun T vm0 locs t X kt => XS.icmpYes X.here H.1 rfl rfl (H.dec hd) rfl (teq c).1 ho hp kt
theorem r_icmpeqF (H : Stn C Z own by_ mL rt nm q) (pc' : Nat) {x y : Int32} {o : Int} (hd : decode by_ pc = .ok (.if_icmp .eq o, 3)) (hp : pc' = pc + 3) (c : ¬ x = y) (kk : Run C Z R w To f Q b Ts Li h k n pc' L S) : Run C Z R w To f Q b Ts Li h k n pc L (.int y :: .int x :: S) := by
  subst hp
  exact kk.one fun T vm0 locs t X kt => XS.icmpNo X.here H.1 rfl (H.dec hd) rfl (feq c).1 kt
theorem r_icmpeq (H : Stn C Z own by_ mL rt nm q) (pt : Nat) (pf : Nat) {x y : Int32} {o : Int} (hd : decode by_ pc = .ok (.if_icmp .eq o, 3)) (kt : x = y → Run C Z R w To f Q b Ts Li h k n pt L S) (kf : ¬ x = y → Run C Z R w To f Q b Ts Li h k n pf L S) (ho : 0 ≤ (pc : Int) + o := by decide) (hp : ((pc : Int) + o).toNat = pt := by decide) (hf : pf = pc + 3 := by exact rfl) : Run C Z R w To f Q b Ts Li h k n pc L (.int y :: .int x :: S) := by
  by_cases c : x = y
  · exact r_icmpeqT H pt hd ho hp c (kt c)
  · exact r_icmpeqF H pf hd hf c (kf c)
theorem r_ifeqT (H : Stn C Z own by_ mL rt nm q) (pc' : Nat) {x : Int32} {o : Int} (hd : decode by_ pc = .ok (.ifCond .eq o, 3)) (ho : 0 ≤ (pc : Int) + o) (hp : ((pc : Int) + o).toNat = pc') (c : x = 0) (kk : Run C Z R w To f Q b Ts Li h k n pc' L S) : Run C Z R w To f Q b Ts Li h k n pc L (.int x :: S) := by
  exact kk.one fun T vm0 locs t X kt => XS.ifYes X.here H.1 rfl rfl (H.dec hd) rfl ((if0 _ _).trans (teq c).1) ho hp kt
theorem r_ifeqF (H : Stn C Z own by_ mL rt nm q) (pc' : Nat) {x : Int32} {o : Int} (hd : decode by_ pc = .ok (.ifCond .eq o, 3)) (hp : pc' = pc + 3) (c : ¬ x = 0) (kk : Run C Z R w To f Q b Ts Li h k n pc' L S) : Run C Z R w To f Q b Ts Li h k n pc L (.int x :: S) := by
  subst hp
  exact kk.one fun T vm0 locs t X kt => XS.ifNo X.here H.1 rfl (H.dec hd) rfl ((if0 _ _).trans (feq c).1) kt
theorem r_ifeq (H : Stn C Z own by_ mL rt nm q) (pt : Nat) (pf : Nat) {x : Int32} {o : Int} (hd : decode by_ pc = .ok (.ifCond .eq o, 3)) (kt : x = 0 → Run C Z R w To f Q b Ts Li h k n pt L S) (kf : ¬ x = 0 → Run C Z R w To f Q b Ts Li h k n pf L S) (ho : 0 ≤ (pc : Int) + o := by decide) (hp : ((pc : Int) + o).toNat = pt := by decide) (hf : pf = pc + 3 := by exact rfl) : Run C Z R w To f Q b Ts Li h k n pc L (.int x :: S) := by
  by_cases c : x = 0
  · exact r_ifeqT H pt hd ho hp c (kt c)
  · exact r_ifeqF H pf hd hf c (kf c)
theorem r_icmpneT (H : Stn C Z own by_ mL rt nm q) (pc' : Nat) {x y : Int32} {o : Int} (hd : decode by_ pc = .ok (.if_icmp .ne o, 3)) (ho : 0 ≤ (pc : Int) + o) (hp : ((pc : Int) + o).toNat = pc') (c : ¬ x = y) (kk : Run C Z R w To f Q b Ts Li h k n pc' L S) : Run C Z R w To f Q b Ts Li h k n pc L (.int y :: .int x :: S) := by
  exact kk.one fun T vm0 locs t X kt => XS.icmpYes X.here H.1 rfl rfl (H.dec hd) rfl (feq c).2 ho hp kt
theorem r_icmpneF (H : Stn C Z own by_ mL rt nm q) (pc' : Nat) {x y : Int32} {o : Int} (hd : decode by_ pc = .ok (.if_icmp .ne o, 3)) (hp : pc' = pc + 3) (c : x = y) (kk : Run C Z R w To f Q b Ts Li h k n pc' L S) : Run C Z R w To f Q b Ts Li h k n pc L (.int y :: .int x :: S) := by
  subst hp
  exact kk.one fun T vm0 locs t X kt => XS.icmpNo X.here H.1 rfl (H.dec hd) rfl (teq c).2 kt
theorem r_icmpne (H : Stn C Z own by_ mL rt nm q) (pt : Nat) (pf : Nat) {x y : Int32} {o : Int} (hd : decode by_ pc = .ok (.if_icmp .ne o, 3)) (kt : ¬ x = y → Run C Z R w To f Q b Ts Li h k n pt L S) (kf : x = y → Run C Z R w To f Q b Ts Li h k n pf L S) (ho : 0 ≤ (pc : Int) + o := by decide) (hp : ((pc : Int) + o).toNat = pt := by decide) (hf : pf = pc + 3 := by exact rfl) : Run C Z R w To f Q b Ts Li h k n pc L (.int y :: .int x :: S) := by
  by_cases c : ¬ x = y
  · exact r_icmpneT H pt hd ho hp c (kt c)
  · exact r_icmpneF H pf hd hf (Decidable.not_not.mp c) (kf (Decidable.not_not.mp c))
theorem r_ifneT (H : Stn C Z own by_ mL rt nm q) (pc' : Nat) {x : Int32} {o : Int} (hd : decode by_ pc = .ok (.ifCond .ne o, 3)) (kk : Run C Z R w To f Q b Ts Li h k n pc' L S) (ho : 0 ≤ (pc : Int) + o := by decide) (hp : ((pc : Int) + o).toNat = pc' := by decide) (c : ¬ x = 0 := by decide) : Run C Z R w To f Q b Ts Li h k n pc L (.int x :: S) := by
  exact kk.one fun T vm0 locs t X kt => XS.ifYes X.here H.1 rfl rfl (H.dec hd) rfl ((if0 _ _).trans (feq c).2) ho hp kt
theorem r_ifneF (H : Stn C Z own by_ mL rt nm q) (pc' : Nat) {x : Int32} {o : Int} (hd : decode by_ pc = .ok (.ifCond .ne o, 3)) (kk : Run C Z R w To f Q b Ts Li h k n pc' L S) (hp : pc' = pc + 3 := by exact rfl) (c : x = 0 := by decide) : Run C Z R w To f Q b Ts Li h k n pc L (.int x :: S) := by
  subst hp
  exact kk.one fun T vm0 locs t X kt => XS.ifNo X.here H.1 rfl (H.dec hd) rfl ((if0 _ _).trans (teq c).2) kt
theorem r_acmp (H : Stn C Z own by_ mL rt nm q) (pc' : Nat) {cd : ClassFile.ACond} {x y : Value} {o : Int} (same : Bool) (hd : decode by_ pc = .ok (.if_acmp cd o, 3)) (hq : decide (x = y) = same) (kk : Run C Z R w To f Q b Ts Li h k n pc' L S) (h1 : x.isRef = true := by exact rfl) (h2 : y.isRef = true := by exact rfl) (ho : 0 ≤ (pc : Int) + o := by decide) (hp : pc' = if acV cd same = true then ((pc : Int) + o).toNat else pc + 3 := by decide) : Run C Z R w To f Q b Ts Li h k n pc L (y :: x :: S) := by
  exact kk.one fun T vm0 locs t X kt => Jvm.RoadKit.acmp X H.1 rfl h1 h2 rfl (H.dec hd) rfl hq ho hp kt
theorem Pos.done {T : State} {vm0 : Vm} {locs : List Loc} (H : Stn C Z own by_ mL rt nm q) (P : Pos C Z R w b Ts Li h k n T vm0 locs) {v : Option Value} (hv : rt = none → v = none) (hk : k ≤ R.cells) (hn : n ≤ R.slots) (hf : f ≤ b) (hT : ∀ t ∈ Ts, t ∈ To) (hQ : Q v h) {g : JFrame}
    (st : ∀ fs, (∀ (f : JFrame) (acts : List Action), f.method = C.m → f.locked = none → f.entered = [] → (doReturn C.e (T.setTop f) acts v).1 = T.setFrames fs) → Steps C.p.tables C.e C.bl (T.setTop g) (T.setFrames fs)) : Gl C Z R w To f Q (T.setTop g) := by
  obtain ⟨X, hZ, eT, hS, hI, hw, N, hz, hE, hq, hL⟩ := P
  have hlk : C.mt.locks = false := H.2.2.2.2.1
  have hv' : C.mt.sig.returnType = none → v = none := fun e => hv (by rw [← H.2.2.2.1]; exact e)
  have hin : T.vm.interned = vm0.interned := X.warmed.interned_eq
  cases w with
  | false =>
    have e0 := hw rfl
    subst e0
    obtain ⟨fs, hr, hrun, hended, hW, hsame⟩ := Stand.leave (s := C.s) X (v := v) hv' hlk
    exact ⟨_, _, st fs hr, hrun, hended, v, locs, rfl, ⟨by show Q v T.heap; rw [eT]; exact hQ, fr_low N hf, by show Ext Z.heap T.heap; rw [eT]; exact hE, ib_mono (ib_same hI hin) hT⟩, ⟨v, rfl⟩, hW, hsame.mono hk hn⟩
  | true =>
    obtain ⟨fs, hr, hrun, hended, h1, h2, h3, hsame⟩ := Stand.leaveW X (v := v) hS (Nat.le_of_eq (by rw [eT])) hv' hlk
    exact ⟨_, _, st fs hr, hrun, hended, v, locs, rfl, ⟨by show Q v T.heap; rw [eT]; exact hQ, fr_low N hf, by show Ext Z.heap T.heap; rw [eT]; exact hE, ib_mono (ib_same hI hin) hT⟩, h1, h2, h3, hsame.mono hk hn⟩
theorem r_return (H : Stn C Z own by_ mL none nm q) (hd : decode by_ pc = .ok (.return_, 1)) (hQ : Q none h) (hk : k ≤ R.cells := by decide) (hn : n ≤ R.slots := by decide) (hf : f ≤ b := by exact Nat.le_refl _) (hT : ∀ t ∈ Ts, t ∈ To := by exact fun _ t => t) : Run C Z R w To f Q b Ts Li h k n pc L [] := fun T vm0 locs P =>
  P.done H (v := none) (fun _ => rfl) hk hn hf hT hQ fun fs hr => P.1.returnOut H.1 H.2.2.2.1 (H.dec hd) hr
theorem retI' {p : Program} {l : Launch} {e : Env} {R : Room} {s : State} {m : MethodId} {args : Array Value} {below : List Frame} {meth : Method} {c : ClassFile.Code} {T : State} {locs : List Loc} {cells slots : Nat} (X : Stand p l e R s m args below meth c T locs cells slots) (hx : p.tables.exec = Jvm.exec) {pc : Nat} {Ls : Array Slot} {z : Int32} {rest : List Value} (hret : meth.sig.returnType = some .int) (hd : decode c.code pc = .ok (.ireturn, 1)) {fs : List Frame}
    (hl : ∀ (f : JFrame) (acts : List Action), f.method = m → f.locked = none → f.entered = [] → (doReturn e (T.setTop f) acts (some (.int z))).1 = T.setFrames fs) : Steps p.tables e below (T.setTop (mkF m pc Ls (.int z :: rest))) (T.setFrames fs) := retOut X hx hret rfl (Or.inl ⟨rfl, Or.inl rfl, z, rfl⟩) hd hl
theorem r_ireturn {z : Int32} (H : Stn C Z own by_ mL (some .int) nm q) (hd : decode by_ pc = .ok (.ireturn, 1)) (hQ : Q (some (.int z)) h) (hk : k ≤ R.cells := by decide) (hn : n ≤ R.slots := by decide) (hf : f ≤ b := by exact Nat.le_refl _) (hT : ∀ t ∈ Ts, t ∈ To := by exact fun _ t => t) : Run C Z R w To f Q b Ts Li h k n pc L (.int z :: S) := fun T vm0 locs P =>
  P.done H (v := some (.int z)) (fun e => by cases e) hk hn hf hT hQ fun fs hr => retI' P.1 H.1 H.2.2.2.1 (H.dec hd) hr
theorem r_nreturn {z : Int32} (z' : Int32) {t : FieldType} (H : Stn C Z own by_ mL (some t) nm q) (hd : decode by_ pc = .ok (.ireturn, 1)) (hz : nar t z = z') (hf : f ≤ b) (hT : ∀ t ∈ Ts, t ∈ To) (hQ : Q (some (.int z')) h) (ht : t = .boolean ∨ t = .byte ∨ t = .char ∨ t = .short := by simp) (hk : k ≤ R.cells := by decide) (hn : n ≤ R.slots := by decide) : Run C Z R w To f Q b Ts Li h k n pc L (.int z :: S) := fun T vm0 locs P => by
  subst hz
  exact P.done H (v := some (.int (nar t z))) (fun e => by cases e) hk hn hf hT hQ fun fs hr => retN P.1 H.1 H.2.2.2.1 ht (H.dec hd) hr
theorem r_areturn {v : Value} {t : FieldType} (H : Stn C Z own by_ mL (some t) nm q) (hd : decode by_ pc = .ok (.areturn, 1)) (hQ : Q (some v) h) (ht : t.isReference = true := by exact rfl) (hv : v.isRef = true := by exact rfl) (hk : k ≤ R.cells := by decide) (hn : n ≤ R.slots := by decide) (hf : f ≤ b := by exact Nat.le_refl _) (hT : ∀ t ∈ Ts, t ∈ To := by exact fun _ t => t) : Run C Z R w To f Q b Ts Li h k n pc L (v :: S) := fun T vm0 locs P =>
  P.done H (v := some v) (fun e => by cases e) hk hn hf hT hQ fun fs hr => retOut P.1 H.1 H.2.2.2.1 (by rcases ref_cases hv with rfl | ⟨a, rfl⟩ <;> cases t <;> first | rfl | simp [FieldType.isReference] at ht) (Or.inr (Or.inr (Or.inr (Or.inr ⟨rfl, ht, hv⟩)))) (H.dec hd) hr
theorem Run.hold {pc' : Nat} {L' : Array Slot} {S' : List Value} (g : ∀ T vm0 locs, Pos C Z R w b Ts Li h k n T vm0 locs → ∃ T', Stand C.p C.l C.e R (C.s.setVm vm0) C.m C.a C.bl C.mt C.c T' locs k n ∧ T'.heap = h ∧ ∀ t, Steps C.p.tables C.e C.bl (T'.setTop (mkF C.m pc' L' S')) t → Steps C.p.tables C.e C.bl (T.setTop (mkF C.m pc L S)) t)
    (kk : Run C Z R w To f Q b Ts Li h k n pc' L' S') : Run C Z R w To f Q b Ts Li h k n pc L S := fun T vm0 locs P => by
  obtain ⟨T', X', e', st⟩ := g T vm0 locs P
  obtain ⟨X, hZ, eT, r⟩ := P
  obtain ⟨s₂, o, h1, r'⟩ := kk T' vm0 locs ⟨X', hZ, e', r⟩
  exact ⟨s₂, o, st _ h1, r'⟩
theorem Pos.cl {T : State} {vm0 : Vm} {locs : List Loc} (P : Pos C Z R w b Ts Li h k n T vm0 locs) (H : Stn C Z own by_ mL rt nm q) : (C.s.setVm vm0).vm.findClass own = some C.m.cls := H.cl P.2.2.2.1
theorem r_getf (H : Stn C Z own by_ mL rt nm q) (pc' : Nat) {idx : Nat} {R0 O fn d : String} {a : Addr} {v : Value} (hd : decode by_ pc = .ok (.getfield idx, 3)) (w1 : (Cond.fieldLink own idx R0 fn d).before a0 Z = true) (F : Fld Z h a O fn d v) (kk : Run C Z R w To f Q b Ts Li h k n pc' L (v :: S)) (via : Via Z R0 O fn d := by exact Via.refl) (hp : pc' = pc + 3 := by exact rfl) : Run C Z R w To f Q b Ts Li h k n pc L (.ref a :: S) := by
  subst hp
  exact kk.hold fun T vm0 locs P => getF (host := "") P.1 H.1 P.2.1 (P.cl H) (Or.inl w1) via P.2.2.1 F (g := mkF C.m pc L (.ref a :: S)) rfl rfl (H.dec hd)
theorem r_gets (H : Stn C Z own by_ mL rt nm q) (pc' : Nat) {idx : Nat} {R0 O fn d : String} {v : Value} (hd : decode by_ pc = .ok (.getstatic idx, 3)) (w1 : (Cond.fieldLink own idx R0 fn d).before a0 Z = true) (F : Sta Z Z.heap O fn d v) (kk : Run C Z R w To f Q b Ts Li h k n pc' L (v :: S)) (via : Via Z R0 O fn d := by exact Via.refl) (hp : pc' = pc + 3 := by exact rfl) : Run C Z R w To f Q b Ts Li h k n pc L S := by
  subst hp
  exact kk.hold fun T vm0 locs P => getS2 (host := "") P.1 H.1 P.2.1 (P.cl H) (Or.inl w1) via P.2.2.1 (F.ext P.2.2.2.2.2.2.2.2.1) (g := mkF C.m pc L S) rfl (H.dec hd)
theorem r_initO (H : Stn C Z own by_ mL rt nm q) (pc' : Nat) {idx : Nat} {a : Addr} (hd : decode by_ pc = .ok (.invokespecial idx, 3)) (w1 : (Cond.methodLink own idx Lib.objectInit).before a0 Z = true) (w2 : (Cond.instanceMethod Lib.objectInit).before a0 Z = true) (w3 : (Cond.code Lib.objectInit ⟨#[0xb1]⟩ 1 none).before a0 Z = true) {W : Nat} (kk : Run C Z R w To f Q b Ts Li h k n pc' L S) (hL : L.size = mL := by exact rfl) (hf : 1 ≤ R.frames := by decide) (hW : (S.map fun v => v.category).sum ≤ W := by exact Nat.le_of_eq rfl) (hl : W + 12 ≤ R.locals := by decide) (hp : pc' = pc + 3 := by exact rfl) : Run C Z R w To f Q b Ts Li h k n pc L (.ref a :: S) := by
  subst hp
  exact kk.hold fun T vm0 locs P => initO P.1 H.1 P.2.1 (P.cl H) w1 w2 w3 P.2.2.1 (g := mkF C.m pc L (.ref a :: S)) rfl (by rw [H.2.2.1]; exact hL) rfl (H.dec hd) hf (W := W) (by show 2 * 0 + _ ≤ _; omega) hl
theorem r_ldcI (H : Stn C Z own by_ mL rt nm q) (pc' : Nat) {idx : Nat} {v : Int32} (hd : decode by_ pc = .ok (.ldc idx, 2)) (w1 : (Cond.constant own idx v).before a0 Z = true) (kk : Run C Z R w To f Q b Ts Li h k n pc' L (.int v :: S)) (hp : pc' = pc + 2 := by exact rfl) : Run C Z R w To f Q b Ts Li h k n pc L S := by
  subst hp
  exact kk.hold fun T vm0 locs P => ⟨T, P.1, P.2.2.1, P.1.ldcInt H.1 (P.cl H) (mvT (s := C.s.setVm vm0) P.2.1 w1) (g := mkF C.m pc L S) rfl (H.dec hd)⟩
def Ar (Z : State) (h : Heap) (a : Addr) (kc : ClassId) (ty : FieldType) (vs : List Value) : Prop := ∃ c : Cell, Arr Z h a c ty ∧ c.cls = kc ∧ c.slots = vs.toArray ∧ vs.length < 2 ^ 31 ∧ ∀ v ∈ vs, fits ty v = true
theorem Ar.lt {a : Addr} {kc : ClassId} {ty : FieldType} {vs : List Value} (F : Ar Z h a kc ty vs) : a < h.size := by obtain ⟨c, A, -⟩ := F; exact A.lt
theorem Ar.ext {h' : Heap} {a : Addr} {kc : ClassId} {ty : FieldType} {vs : List Value} (F : Ar Z h a kc ty vs) (E : Ext h h') : Ar Z h' a kc ty vs := by obtain ⟨c, A, r⟩ := F; exact ⟨c, A.ext E, r⟩
theorem Ar.keep {h' : Heap} {a : Addr} {kc : ClassId} {ty : FieldType} {vs : List Value} {ws : List Addr} (F : Ar Z h a kc ty vs) (K : Keep h h' ws) (hn : a ∉ ws) : Ar Z h' a kc ty vs := by obtain ⟨c, A, r⟩ := F; exact ⟨c, ⟨K.2.1 a c A.1 hn, A.2⟩, r⟩
theorem Ar.of_arv {a : Addr} {kc : ClassId} {ty : FieldType} {vs : List Value} {z : Int32} {dv : Value} (F : Arv Z h a kc ty z vs dv) (hz : z.toNatClampNeg = vs.length) : Ar Z h a kc ty vs := by
  obtain ⟨c, A, h1, h2, h3, h4, h5⟩ := F
  have hs : c.slots.size = vs.length := by rw [h2, hz]
  refine ⟨c, A, h1, ?_, by rw [← hz]; exact (back32 h3).2, fun v hv => ?_⟩
  · apply Array.ext
    · simpa using hs
    · intro i q1 q2
      have e := h4 i q1
      rw [Array.getElem?_eq_getElem q1] at e
      have hi : i < vs.length := by omega
      rw [List.getD_eq_getElem?_getD, List.getElem?_eq_getElem hi] at e
      simpa using e
  · obtain ⟨i, hi, e⟩ := List.mem_iff_getElem.mp hv
    have := h5 i (by omega)
    rw [List.getD_eq_getElem?_getD, List.getElem?_eq_getElem hi] at this
    rw [← e]; exact this
theorem Ar.new {a : Addr} {kc : ClassId} {ty : FieldType} {z : Int32} (A : Arr Z h a (newA kc ty z) ty) (hn : ¬ z < 0) : Ar Z h a kc ty (List.replicate z.toNatClampNeg (defaultValue ty)) :=
  ⟨_, A, rfl, by simp [newA], by simpa using (back32 hn).2, fun v hv => by rw [List.eq_of_mem_replicate hv]; cases ty <;> rfl⟩
theorem Ar.put {h' : Heap} {a : Addr} {kc : ClassId} {ty : FieldType} {vs : List Value} {i : Nat} {v : Value} (F : Ar Z h a kc ty vs) (W : Wr h h' a i v) (hv : fits ty v = true) : Ar Z h' a kc ty (vs.set i v) := by
  obtain ⟨c, A, h1, h2, h3, h4⟩ := F
  refine ⟨_, A.same W, h1, ?_, by simpa using h3, fun u hu => ?_⟩
  · simp [Cell.setSlot, h2]
  · rcases List.mem_or_eq_of_mem_set hu with q | q
    · exact h4 u q
    · rw [q]; exact hv
theorem Ar.size {a : Addr} {kc : ClassId} {ty : FieldType} {vs : List Value} {c : Cell} (A : Arr Z h a c ty) (F : Ar Z h a kc ty vs) : c.slots = vs.toArray ∧ vs.length < 2 ^ 31 := by
  obtain ⟨c', A', h1, h2, h3, h4⟩ := F
  cases A.1.symm.trans A'.1
  exact ⟨h2, h3⟩
theorem ld_in {vs : List Value} {j : Int32} {v : Value} {c : Cell} (hs : c.slots = vs.toArray) (hj : ¬ j < 0) (hv : vs[j.toNatClampNeg]? = some v) : ¬ (j < 0 ∨ c.slots.size ≤ j.toNatClampNeg) ∧ c.slots[j.toNatClampNeg]? = some v := by
  refine ⟨fun q => q.elim hj fun u => ?_, by rw [hs]; simpa using hv⟩
  rw [hs] at u
  have := (List.getElem?_eq_some_iff.mp hv).1
  simp at u; omega
theorem r_alen (H : Stn C Z own by_ mL rt nm q) (pc' : Nat) {a : Addr} {kc : ClassId} {ty : FieldType} {vs : List Value} (z : Int32) (hd : decode by_ pc = .ok (.arraylength, 1)) (F : Ar Z h a kc ty vs) (kk : Run C Z R w To f Q b Ts Li h k n pc' L (.int z :: S)) (hz : vs.length.toInt32 = z := by exact rfl) (hp : pc' = pc + 1 := by exact rfl) : Run C Z R w To f Q b Ts Li h k n pc L (.ref a :: S) := by
  subst hp hz
  refine kk.hold fun T vm0 locs P => ?_
  obtain ⟨c, A, h1, h2, h3, h4⟩ := F
  refine ⟨T, P.1, P.2.2.1, fun t kt => ?_⟩
  refine P.1.arraylength H.1 (by rw [P.2.2.1]; exact A.1) (State.isArrayOf_alike P.2.1.alike A.2.1) (g := mkF C.m pc L (.ref a :: S)) rfl rfl (H.dec hd) _ ?_
  have e : c.slots.size.toInt32 = vs.length.toInt32 := by rw [h2]; simp
  rw [e]; exact kt
theorem r_caload (H : Stn C Z own by_ mL rt nm q) (pc' : Nat) {a : Addr} {kc : ClassId} {vs : List Value} {j : Int32} (v : Int32) (hd : decode by_ pc = .ok (.caload, 1)) (F : Ar Z h a kc .char vs) (kk : Run C Z R w To f Q b Ts Li h k n pc' L (.int v :: S)) (hj : ¬ j < 0 := by decide) (hv : vs[j.toNatClampNeg]? = some (.int v) := by exact rfl) (hp : pc' = pc + 1 := by exact rfl) : Run C Z R w To f Q b Ts Li h k n pc L (.int j :: .ref a :: S) := by
  subst hp
  refine kk.hold fun T vm0 locs P => ?_
  obtain ⟨c, A, h1, h2, h3, h4⟩ := F
  obtain ⟨q1, q2⟩ := ld_in h2 hj hv
  exact ⟨T, P.1, P.2.2.1, P.1.caload H.1 (by rw [P.2.2.1]; exact A.1) (State.isArrayOf_alike P.2.1.alike A.2.1) A.2.2 q1 q2 (g := mkF C.m pc L (.int j :: .ref a :: S)) rfl rfl (H.dec hd)⟩
theorem r_baload (H : Stn C Z own by_ mL rt nm q) (pc' : Nat) {a : Addr} {kc : ClassId} {vs : List Value} {j : Int32} (v : Int32) (hd : decode by_ pc = .ok (.baload, 1)) (F : Ar Z h a kc .byte vs) (kk : Run C Z R w To f Q b Ts Li h k n pc' L (.int v :: S)) (hj : ¬ j < 0 := by decide) (hv : vs[j.toNatClampNeg]? = some (.int v) := by exact rfl) (hp : pc' = pc + 1 := by exact rfl) : Run C Z R w To f Q b Ts Li h k n pc L (.int j :: .ref a :: S) := by
  subst hp
  refine kk.hold fun T vm0 locs P => ?_
  obtain ⟨c, A, h1, h2, h3, h4⟩ := F
  obtain ⟨q1, q2⟩ := ld_in h2 hj hv
  exact ⟨T, P.1, P.2.2.1, P.1.baloadBytes H.1 (by rw [P.2.2.1]; exact A.1) (State.isArrayOf_alike P.2.1.alike A.2.1) A.2.2 q1 q2 (g := mkF C.m pc L (.int j :: .ref a :: S)) rfl rfl (H.dec hd)⟩
theorem Run.write {pc' : Nat} {L' : Array Slot} {S' : List Value} {a : Addr} {sl : Nat} {v : Value} (hb : b ≤ a) (g : ∀ T vm0 locs, Pos C Z R w b Ts Li h k n T vm0 locs → ∃ T' h', Stand C.p C.l C.e R (C.s.setVm vm0) C.m C.a C.bl C.mt C.c T' (locs ++ [⟨a, sl⟩]) k n ∧ T'.heap = h' ∧ Wr h h' a sl v ∧ ∀ t, Steps C.p.tables C.e C.bl (T'.setTop (mkF C.m pc' L' S')) t → Steps C.p.tables C.e C.bl (T.setTop (mkF C.m pc L S)) t)
    (kk : ∀ h', Wr h h' a sl v → Keep h h' [a] → Run C Z R w To f Q b Ts Li h' k n pc' L' S') : Run C Z R w To f Q b Ts Li h k n pc L S := fun T vm0 locs P => by
  obtain ⟨T', h', X', e', W, st⟩ := g T vm0 locs P
  obtain ⟨X, hZ, eT, hS, hI, hw, N, hz, hE, hq, hL⟩ := P
  have K := Keep.of_wr W
  have hE' : Ext Z.heap h' := (Old.wr (n0 := Z.heap.size) ⟨rfl, hE⟩ W (Nat.le_trans hz hb)).2
  obtain ⟨s₂, o, h1, r'⟩ := kk h' W K T' vm0 _ ⟨X', hZ, e', since_same hS K.1, hI, hw, Fr.snoc X' N hb, hz, hE', Nat.le_trans hq K.1, hL⟩
  exact ⟨s₂, o, st _ h1, r'⟩
theorem r_castore (H : Stn C Z own by_ mL rt nm q) (pc' : Nat) {a : Addr} {kc : ClassId} {vs : List Value} {j x : Int32} (y : Int32) (hd : decode by_ pc = .ok (.castore, 1)) (F : Ar Z h a kc .char vs) (hb : b ≤ a) (hy : (nar .char x) = y) (kk : ∀ h', Keep h h' [a] → Ar Z h' a kc .char (vs.set j.toNatClampNeg (.int y)) → Run C Z R w To f Q b Ts Li h' k n pc' L S) (hj : ¬ j < 0 := by decide) (hi : j.toNatClampNeg < vs.length := by exact Nat.le_of_ble_eq_true rfl) (hp : pc' = pc + 1 := by exact rfl) : Run C Z R w To f Q b Ts Li h k n pc L (.int x :: .int j :: .ref a :: S) := by
  subst hp hy
  obtain ⟨c, A, h1, h2, h3, h4⟩ := id F
  have hin : ¬ (j < 0 ∨ c.slots.size ≤ j.toNatClampNeg) := fun q => q.elim hj fun u => by rw [h2] at u; simp at u; omega
  exact Run.write hb (fun T vm0 locs P => stC P.1 H.1 P.2.1 P.2.2.1 A hin (g := mkF C.m pc L (.int x :: .int j :: .ref a :: S)) rfl rfl (H.dec hd)) fun h' W K => kk h' K (F.put W (fits_nar_char _))
theorem r_bastore (H : Stn C Z own by_ mL rt nm q) (pc' : Nat) {a : Addr} {kc : ClassId} {vs : List Value} {j x : Int32} (y : Int32) (hd : decode by_ pc = .ok (.bastore, 1)) (F : Ar Z h a kc .byte vs) (hb : b ≤ a) (hy : (nar .byte x) = y) (kk : ∀ h', Keep h h' [a] → Ar Z h' a kc .byte (vs.set j.toNatClampNeg (.int y)) → Run C Z R w To f Q b Ts Li h' k n pc' L S) (hj : ¬ j < 0 := by decide) (hi : j.toNatClampNeg < vs.length := by exact Nat.le_of_ble_eq_true rfl) (hp : pc' = pc + 1 := by exact rfl) : Run C Z R w To f Q b Ts Li h k n pc L (.int x :: .int j :: .ref a :: S) := by
  subst hp hy
  obtain ⟨c, A, h1, h2, h3, h4⟩ := id F
  have hin : ¬ (j < 0 ∨ c.slots.size ≤ j.toNatClampNeg) := fun q => q.elim hj fun u => by rw [h2] at u; simp at u; omega
  exact Run.write hb (fun T vm0 locs P => stB P.1 H.1 P.2.1 P.2.2.1 A hin (g := mkF C.m pc L (.int x :: .int j :: .ref a :: S)) rfl rfl (H.dec hd)) fun h' W K => kk h' K (F.put W (fits_nar_byte _))
theorem r_putf (H : Stn C Z own by_ mL rt nm q) (pc' : Nat) {idx kk0 : Nat} {R0 O fn d CC : String} {ty : FieldType} {a : Addr} {v old : Value} (hd : decode by_ pc = .ok (.putfield idx, 3)) (w1 : (Cond.fieldLink own idx R0 fn d).before a0 Z = true) (F : Fld Z h a O fn d old) (E : Exa Z h a CC) (wl : (Cond.lays CC O fn d).before a0 Z = true ∨ ((Cond.laysFinal CC O fn d).before a0 Z = true ∧ own = O ∧ nm = "<init>")) (wi : (Cond.instantiable CC kk0).before a0 Z = true) (hb : b ≤ a) (kk : ∀ h', Wr h h' a (Jvm.RoadKit.slotOf Z O fn d) v → Keep h h' [a] → Exa Z h' a CC → Fld Z h' a O fn d v → Run C Z R w To f Q b Ts Li h' k n pc' L S) (via : Via Z R0 O fn d := by exact Via.refl) (hty : parseFieldDescriptor d = some ty := by decide) (hn : narrow ty v = v := by exact rfl) (hf' : fits ty v = true := by exact rfl) (hp : pc' = pc + 3 := by exact rfl) : Run C Z R w To f Q b Ts Li h k n pc L (v :: .ref a :: S) := by
  subst hp
  exact Run.write hb (fun T vm0 locs P => putF (host := "") P.1 H.1 P.2.1 (P.cl H) (Or.inl w1) via P.2.2.1 F E (wl.imp id fun z => ⟨z.1, z.2.1, H.2.2.2.2.2.1.trans z.2.2⟩) wi hty hn hf' (g := mkF C.m pc L (v :: .ref a :: S)) rfl rfl (H.dec hd)) fun h' W K => kk h' W K (E.wr W) (F.same W)
theorem r_putn (H : Stn C Z own by_ mL rt nm q) (pc' : Nat) {idx kk0 : Nat} {R0 O fn d CC : String} {ty : FieldType} {a : Addr} {v old : Value} (v' : Value) (hd : decode by_ pc = .ok (.putfield idx, 3)) (w1 : (Cond.fieldLink own idx R0 fn d).before a0 Z = true) (F : Fld Z h a O fn d old) (E : Exa Z h a CC) (wl : (Cond.lays CC O fn d).before a0 Z = true ∨ ((Cond.laysFinal CC O fn d).before a0 Z = true ∧ own = O ∧ nm = "<init>")) (wi : (Cond.instantiable CC kk0).before a0 Z = true) (hb : b ≤ a) (kk : ∀ h', Wr h h' a (Jvm.RoadKit.slotOf Z O fn d) v' → Keep h h' [a] → Exa Z h' a CC → Fld Z h' a O fn d v' → Run C Z R w To f Q b Ts Li h' k n pc' L S) (via : Via Z R0 O fn d := by exact Via.refl) (hty : parseFieldDescriptor d = some ty := by decide) (hn : narrow ty v = v' := by exact rfl) (hf' : fits ty v' = true := by decide) (hp : pc' = pc + 3 := by exact rfl) : Run C Z R w To f Q b Ts Li h k n pc L (v :: .ref a :: S) := by
  subst hp
  exact Run.write hb (fun T vm0 locs P => putFN P.1 H.1 P.2.1 (P.cl H) w1 via P.2.2.1 F E (wl.imp id fun z => ⟨z.1, z.2.1, H.2.2.2.2.2.1.trans z.2.2⟩) wi hty hn hf' (g := mkF C.m pc L (v :: .ref a :: S)) rfl rfl (H.dec hd)) fun h' W K => kk h' W K (E.wr W) (F.same W)
theorem Run.make {pc' k' n' : Nat} {L' : Array Slot} {S' : List Value} {P' : Heap → Prop} (hkk : k ≤ k') (g : ∀ T vm0 locs, Pos C Z R w b Ts Li h k n T vm0 locs → ∃ T' h', Stand C.p C.l C.e R (C.s.setVm vm0) C.m C.a C.bl C.mt C.c T' locs k' n' ∧ T'.heap = h' ∧ Ext h h' ∧ P' h' ∧ ∀ t, Steps C.p.tables C.e C.bl (T'.setTop (mkF C.m pc' L' S')) t → Steps C.p.tables C.e C.bl (T.setTop (mkF C.m pc L S)) t)
    (kk : ∀ h', Ext h h' → P' h' → Run C Z R w To f Q b Ts Li h' k' n' pc' L' S') : Run C Z R w To f Q b Ts Li h k n pc L S := fun T vm0 locs P => by
  obtain ⟨T', h', X', e', E, hP, st⟩ := g T vm0 locs P
  obtain ⟨X, hZ, eT, hS, hI, hw, N, hz, hE, hq, hL⟩ := P
  obtain ⟨s₂, o, h1, r'⟩ := kk h' E hP T' vm0 locs ⟨X', hZ, e', since_same hS E.1, hI, hw, N, hz, ⟨Nat.le_trans hE.1 E.1, fun x c r => E.2 x c (hE.2 x c r)⟩, Nat.le_trans hq E.1, hL⟩
  exact ⟨s₂, o, st _ h1, r'⟩
theorem Keep.of_ext {h h' : Heap} (E : Ext h h') : Keep h h' [] := (Keep.refl h []).ext E
theorem r_new (H : Stn C Z own by_ mL rt nm q) (pc' : Nat) {idx ns : Nat} {CC : String} (hd : decode by_ pc = .ok (.new idx, 3)) (w1 : (Cond.classLink own idx CC).before a0 Z = true) (wi : (Cond.instantiable CC ns).before a0 Z = true) (wz : (Cond.initialized CC).before a0 Z = true) (kk : ∀ h' a, a = h.size → a < h'.size → Keep h h' [] → Exa Z h' a CC → (∀ {O nm d : String} {ty : FieldType}, Laid Z a0 CC O nm d → parseFieldDescriptor d = some ty → Fld Z h' a O nm d (defaultValue ty)) → Run C Z R w To f Q b Ts Li h' (k + 1) (n + ns) pc' L (.ref a :: S)) (hc : k + 1 ≤ R.cells := by decide) (hl : n + ns ≤ R.slots := by decide) (hp : pc' = pc + 3 := by exact rfl) : Run C Z R w To f Q b Ts Li h k n pc L S := by
  subst hp
  refine Run.make (P' := fun h' => Exa Z h' h.size CC ∧ (∀ {O nm d : String} {ty : FieldType}, Laid Z a0 CC O nm d → parseFieldDescriptor d = some ty → Fld Z h' h.size O nm d (defaultValue ty))) (Nat.le_succ k) (fun T vm0 locs P => ?_) fun h' E hP => kk h' _ rfl hP.1.lt (Keep.of_ext E) hP.1 hP.2
  obtain ⟨T', h', X', e', E, A, D, -, st⟩ := newO P.1 H.1 P.2.1 (P.cl H) w1 wi wz P.2.2.1 (g := mkF C.m pc L S) rfl (H.dec hd) hc hl
  exact ⟨T', h', X', e', E, ⟨A, D⟩, st⟩
theorem r_newP (H : Stn C Z own by_ mL rt nm q) (pc' : Nat) {aty : ArrayType} {z : Int32} (ad : String) (cap : Nat) (hd : decode by_ pc = .ok (.newarray aty, 2)) (w1 : (Cond.arrayClass (newarray.typeOf aty)).before a0 Z = true) (kk : ∀ h' a kc, a = h.size → a < h'.size → Keep h h' [] → Exa Z h' a ad → Ar Z h' a kc (newarray.typeOf aty) (List.replicate z.toNatClampNeg (defaultValue (newarray.typeOf aty))) → Run C Z R w To f Q b Ts Li h' (k + 1) (n + cap) pc' L (.ref a :: S)) (had : "[" ++ (newarray.typeOf aty).toString = ad := by exact rfl) (hn : ¬ z < 0 := by decide) (hcap : z.toNatClampNeg ≤ cap := by decide) (hb : cap * 8 ≤ 536870912 := by decide) (hc : k + 1 ≤ R.cells := by decide) (hl : n + cap ≤ R.slots := by decide) (hp : pc' = pc + 2 := by exact rfl) : Run C Z R w To f Q b Ts Li h k n pc L (.int z :: S) := by
  subst hp
  refine Run.make (P' := fun h' => ∃ kc, Exa Z h' h.size ad ∧ Ar Z h' h.size kc (newarray.typeOf aty) (List.replicate z.toNatClampNeg (defaultValue (newarray.typeOf aty)))) (Nat.le_succ k) (fun T vm0 locs P => ?_) fun h' E hP => by obtain ⟨kc, h1, h2⟩ := hP; exact kk h' _ kc rfl h2.lt (Keep.of_ext E) h1 h2
  obtain ⟨T', h', cA, X', e', E, A, A2, st⟩ := newPE P.1 H.1 P.2.1 w1 P.2.2.1 (g := mkF C.m pc L (.int z :: S)) rfl (H.dec hd) rfl hn hcap hb hc hl had
  exact ⟨T', h', X', e', E, ⟨cA, A2, Ar.new A hn⟩, st⟩
section Contract
variable {y : MethodName} {yb : ByteArray} {ymL : Nat} {yrt : Option FieldType} {Ry : Room} {Ti To' : List String} {f' : Nat} {as : Array Value} {Qy Qy' : Option Value → Heap → Prop} {ws : List Jvm.Cond}
theorem Con.mono (hc : Con w ws Z y yb ymL yrt Ry Ti To' f' as h Qy) (hq : ∀ v h', Qy v h' → Qy' v h') : Con w ws Z y yb ymL yrt Ry Ti To' f' as h Qy' := by
  intro l p e ha hca hk s m args below hf happ hP hK
  obtain ⟨n, o, h1, h2, h3, v, L, e1, hQ, hE⟩ := hc l p e ha hca hk s m args below hf happ hP hK
  exact ⟨n, o, h1, h2, h3, v, L, e1, ⟨hq _ _ hQ.1, hQ.2⟩, hE⟩
theorem con_of (bb : Nat) (L0 : Array Slot) (hpl : plainFor y = true) (hef : ∀ m, entryFrame m as ymL = mkF m 0 L0 []) (hz : Z.heap.size ≤ bb)
    (body : ∀ C : Cx, Stn C Z y.cls yb ymL yrt y.name h.size → Ext Z.heap h → Run C Z Ry w To' f' Qy bb Ti [] h 0 0 0 L0 []) : Con w ws Z y yb ymL yrt Ry Ti To' f' as h Qy := by
  intro l
  refine MetFree.of_bodySF hpl hisR ?_
  intro p e s m args below meth c s₁ Bd hml0 hP hK
  obtain ⟨rfl, hZ, hh, hI, hE⟩ := hP
  have X0 : Stand p l e Ry s m args below meth c s₁ [] 0 0 := Stand.of_body Bd
  have e0 : s₁.heap = h := by rw [← hh, Bd.state]; rfl
  have H : Stn (p, l, e, s, m, args, below, meth, c) Z y.cls yb ymL yrt y.name h.size := ⟨Bd.exec, Bd.bytes, hml0, Bd.returns, Bd.notSynchronized, (name_of_methodNamed Bd.named Bd.method).1, (by show s.heap.size = _; rw [hh]), (by show Ext Z.heap s.heap; rw [hh]; exact hE), findClass_of_methodNamed Bd.named⟩
  obtain ⟨s₂, o, h1, h2, h3, r⟩ := body (p, l, e, s, m, args, below, meth, c) H hE s₁ s.vm [] ⟨X0, hZ, e0, (State.WarmedH.refl s).since _, hI, fun _ => rfl, Fr.nil _, hz, hE, Nat.le_of_eq (by show s.heap.size = _; rw [hh]), fun _ q => by cases q⟩
  exact ⟨s₂, o, castTop (hef m) h1, h2, h3, r⟩
theorem Con.back {p : Program} {l : Launch} {e : Env} {R : Room} {below : List Frame} {s : State} {args : Array Value} {len W : Nat} (hc : Con false [] Z y yb ymL yrt Ry Ti To' f' as h Qy) (hZ : Z.Warmed39 s.vm) (hI : IB Z s.vm Ti) (hE : Ext Z.heap h)
    (wc : (Cond.code y yb ymL yrt).before a0 Z = true) (wz : (Cond.initialized y.cls).before a0 Z = true) (hf : Ry.frames + 1 ≤ R.frames) (hl : W + (ymL + 11) + Ry.locals ≤ R.locals) :
    Back l R p e below s args y len W (fun A a => a = as ∧ A.U.heap = h ∧ A.cells + Ry.cells ≤ R.cells ∧ A.slots + Ry.slots ≤ R.slots)
      (fun A _ v B => ∃ L, (Qy v B.U.heap ∧ Fr f' L ∧ Ext Z.heap B.U.heap ∧ IB Z B.U.vm To') ∧ B.locs = A.locs ++ L ∧ B.cells = A.cells + Ry.cells ∧ B.slots = A.slots + Ry.slots) :=
  Back.of_free (bytes := yb) (maxL := ymL) (ret := yrt) (E := fun _ _ o t L k n => k = Ry.cells ∧ n = Ry.slots ∧ ∃ v, o = .returned v ∧ (Qy v t.heap ∧ Fr f' L ∧ Ext Z.heap t.heap ∧ IB Z t.vm To')) (hc l) hf hl
    (fun m meth c A a Y hp => have hU : Z.Warmed39 A.U.vm := wtrans hZ Y.warmed
      ⟨by show (Cond.and _ .tt).before a A.U = true; rw [Cond.before_and, mv hU wc]; rfl, mv hU wc, mv hU wz, hp.2.2.1, hp.2.2.2⟩)
    (fun m meth c A a g mk Y hp => ⟨hp.1, wtrans hZ Y.warmed, hp.2.1, ib_same hI Y.warmed.interned_eq, hE⟩) (fun _ _ _ _ _ _ _ _ _ => trivial)
    (fun _ _ _ _ ⟨v, L, h1, h2, h3⟩ => ⟨L, _, _, h3, rfl, rfl, v, h1, h2⟩)
    (fun m meth c A a g mk v t L k n Y hp _ _ ⟨e1, e2, v', e3, e4⟩ => by cases e3; subst e1 e2; exact ⟨L, e4, rfl, rfl, rfl⟩)
theorem Con.backS {p : Program} {l : Launch} {e : Env} {R : Room} {below : List Frame} {s : State} {args : Array Value} {len W : Nat} (hc : Con true [] Z y yb ymL yrt Ry Ti To' f' as h Qy) (hZ : Z.Warmed39 s.vm) (hI : IB Z s.vm Ti) (hE : Ext Z.heap h)
    (wc : (Cond.code y yb ymL yrt).before a0 Z = true) (wz : (Cond.initialized y.cls).before a0 Z = true) (hf : Ry.frames + 1 ≤ R.frames) (hl : W + (ymL + 11) + Ry.locals ≤ R.locals) :
    BackS l R p e below s args y len W (fun A a => a = as ∧ A.U.heap = h ∧ A.cells + Ry.cells ≤ R.cells ∧ A.slots + Ry.slots ≤ R.slots)
      (fun A _ v B => ∃ L, (Qy v B.U.heap ∧ Fr f' L ∧ Ext Z.heap B.U.heap ∧ IB Z B.U.vm To') ∧ B.locs = A.locs ++ L ∧ B.cells = A.cells + Ry.cells ∧ B.slots = A.slots + Ry.slots) :=
  BackS.of_freeW (bytes := yb) (maxL := ymL) (ret := yrt) (E := fun _ _ o t L k n => k = Ry.cells ∧ n = Ry.slots ∧ ∃ v, o = .returned v ∧ (Qy v t.heap ∧ Fr f' L ∧ Ext Z.heap t.heap ∧ IB Z t.vm To')) (hc l) hf hl
    (fun m meth c A a Y hp => have hU : Z.Warmed39 A.U.vm := wtrans hZ Y.warmed
      ⟨by show (Cond.and _ .tt).before a A.U = true; rw [Cond.before_and, mv hU wc]; rfl, mv hU wc, mv hU wz, hp.2.2.1, hp.2.2.2⟩)
    (fun m meth c A a g mk Y hp => ⟨hp.1, wtrans hZ Y.warmed, hp.2.1, ib_same hI Y.warmed.interned_eq, hE⟩) (fun _ _ _ _ _ _ _ _ _ => trivial)
    (fun _ _ _ _ ⟨v, L, h1, h2, h3⟩ => ⟨L, _, _, h3, rfl, rfl, v, h1, h2⟩)
    (fun m meth c A a g mk v t L k n Y hp _ _ ⟨e1, e2, v', e3, e4⟩ => by cases e3; subst e1 e2; exact ⟨L, e4, rfl, rfl, rfl⟩)
theorem Pos.afterN {T : State} {vm0 : Vm} {locs : List Loc} {U : State} {ls : List Loc} {ce sl : Nat} {Lc : List Loc} (P : Pos C Z R false b Ts Li h k n T vm0 locs) (X' : Stand C.p C.l C.e R (C.s.setVm vm0) C.m C.a C.bl C.mt C.c U ls ce sl)
    (hF : Fr f' Lc) (hE' : Ext Z.heap U.heap) (hI' : IB Z U.vm To') (l1 : ls = locs ++ Lc) (c1 : ce = k + Ry.cells) (s1 : sl = n + Ry.slots) (hb : b ≤ f') : Pos C Z R false b To' Li U.heap (k + Ry.cells) (n + Ry.slots) U vm0 (locs ++ Lc) := by
  obtain ⟨X, hZ, eT, hS, hI, hw, N, hz, hE, hq, hL⟩ := P
  subst l1 c1 s1
  have e0 := hw rfl
  subst e0
  exact ⟨X', hZ, rfl, (State.WarmedH.refl C.s).since _, ib_same hI' X'.warmed.interned_eq.symm, fun _ => rfl, N.app (fr_low hF hb), hz, hE', X'.same.2.1, hL⟩
theorem Pos.afterS {T : State} {vm0 : Vm} {locs : List Loc} {U : State} {ls : List Loc} {ce sl : Nat} {Lc : List Loc} (P : Pos C Z R true b Ts Li h k n T vm0 locs) (X' : Stand C.p C.l C.e R ((C.s.setVm vm0).setVm U.vm) C.m C.a C.bl C.mt C.c U ls ce sl)
    (hS' : (C.s.setVm vm0).Since U.vm U.heap.size) (hg : T.heap.size ≤ U.heap.size) (hF : Fr f' Lc) (hE' : Ext Z.heap U.heap) (hI' : IB Z U.vm To') (l1 : ls = locs ++ Lc) (c1 : ce = k + Ry.cells) (s1 : sl = n + Ry.slots) (hb : b ≤ f') : Pos C Z R true b To' Li U.heap (k + Ry.cells) (n + Ry.slots) U U.vm (locs ++ Lc) := by
  obtain ⟨X, hZ, eT, hS, hI, hw, N, hz, hE, hq, hL⟩ := P
  subst l1 c1 s1
  exact ⟨X', State.Warmed39.trans (t := C.s.setVm vm0) hZ hS'.1, rfl, hS.trans hS' (by rw [← eT]; exact hg), hI', fun e => (by cases e), N.app (fr_low hF hb), hz, hE', Nat.le_trans hq (by rw [← eT]; exact hg), fun x hx => (hL x hx).stays hS'.1⟩
end Contract
theorem r_static (H : Stn C Z own by_ mL rt nm q) (pc' : Nat) {idx : Nat} {y : MethodName} {yb : ByteArray} {ymL : Nat} {yrt : Option FieldType} {Ry : Room} {To' : List String} {f' : Nat} {Qy : Option Value → Heap → Prop} {argsL rest : List Value} {W : Nat} (hd : decode by_ pc = .ok (.invokestatic idx, 3)) (w1 : (Cond.methodLink own idx y).before a0 Z = true) (w2 : (Cond.static y).before a0 Z = true) (w3 : (Cond.initialized y.cls).before a0 Z = true) (w4 : (Cond.code y yb ymL yrt).before a0 Z = true) (hlen : ∀ sig, parseMethodDescriptor y.desc = some sig → argsL.length = sig.parameters.length) (hc : Con w [] Z y yb ymL yrt Ry Ts To' f' argsL.toArray h Qy) (kk : ∀ v h', Qy v h' → Run C Z R w To f Q b To' Li h' (k + Ry.cells) (n + Ry.slots) pc' L (v.toList ++ rest)) (hy : y.cls ≠ "java/lang/invoke/MethodHandle" ∧ y.cls ≠ "java/lang/invoke/VarHandle" := by decide) (hs : S = argsL.reverse ++ rest := by exact rfl) (hW : (rest.map fun v => v.category).sum ≤ W := by exact Nat.le_of_eq rfl) (hL : L.size = mL := by exact rfl) (hf : Ry.frames + 1 ≤ R.frames := by decide) (hl : W + (ymL + 11) + Ry.locals ≤ R.locals := by decide) (hk : k + Ry.cells ≤ R.cells := by decide) (hn : n + Ry.slots ≤ R.slots := by decide) (hb : b ≤ f' := by exact Nat.le_refl _) (hp : pc' = pc + 3 := by exact rfl) : Run C Z R w To f Q b Ts Li h k n pc L S := by
  subst hp hs
  intro T vm0 locs P
  cases w with
  | false =>
    obtain ⟨v, vm₁, ⟨U, ls, ce, sl⟩, -, X', ⟨Lc, ⟨hQ, hF, hE', hI'⟩, l1, c1, s1⟩, st⟩ := Jvm.LawKit.callS P.1 H.1 (P.cl H) (mvT (s := C.s.setVm vm0) P.2.1 w1) (mvT (s := C.s.setVm vm0) P.2.1 w2) (mvT (s := C.s.setVm vm0) P.2.1 w3) (mvT (s := C.s.setVm vm0) P.2.1 w4) hy (hc.back P.2.1 P.2.2.2.2.1 P.2.2.2.2.2.2.2.2.1 w4 w3 hf hl) (g := mkF C.m pc L (argsL.reverse ++ rest)) rfl (by rw [H.2.2.1]; exact hL) hlen rfl (by show 2 * 0 + _ ≤ _; omega) (H.dec hd) (fun _ _ => ⟨rfl, P.2.2.1, hk, hn⟩)
    obtain ⟨s₂, o, h1, r⟩ := kk v U.heap hQ U vm0 _ (P.afterN X' hF hE' hI' l1 c1 s1 hb)
    exact ⟨s₂, o, st _ h1, r⟩
  | true =>
    obtain ⟨v, vm₁, ⟨U, ls, ce, sl⟩, -, X', hS', hg, ⟨Lc, ⟨hQ, hF, hE', hI'⟩, l1, c1, s1⟩, st⟩ := callSS P.1 H.1 (P.cl H) (mvT (s := C.s.setVm vm0) P.2.1 w1) (mvT (s := C.s.setVm vm0) P.2.1 w2) (mvT (s := C.s.setVm vm0) P.2.1 w3) (mvT (s := C.s.setVm vm0) P.2.1 w4) hy (hc.backS P.2.1 P.2.2.2.2.1 P.2.2.2.2.2.2.2.2.1 w4 w3 hf hl) (g := mkF C.m pc L (argsL.reverse ++ rest)) rfl (by rw [H.2.2.1]; exact hL) hlen rfl (by show 2 * 0 + _ ≤ _; omega) (H.dec hd) (fun _ _ => ⟨rfl, P.2.2.1, hk, hn⟩)
    obtain ⟨s₂, o, h1, r⟩ := kk v U.heap hQ U U.vm _ (P.afterS X' hS' hg hF hE' hI' l1 c1 s1 hb)
    exact ⟨s₂, o, st.trans h1, r⟩
theorem r_special (H : Stn C Z own by_ mL rt nm q) (pc' : Nat) {idx : Nat} {y : MethodName} {yb : ByteArray} {ymL : Nat} {Ry : Room} {To' : List String} {f' : Nat} {Qy : Option Value → Heap → Prop} {a : Addr} {argsL rest : List Value} {W : Nat} (hd : decode by_ pc = .ok (.invokespecial idx, 3)) (w1 : (Cond.methodLink own idx y).before a0 Z = true) (w2 : (Cond.instanceMethod y).before a0 Z = true) (w3 : (Cond.initialized y.cls).before a0 Z = true) (w4 : (Cond.code y yb ymL none).before a0 Z = true) (hlen : ∀ sig, parseMethodDescriptor y.desc = some sig → argsL.length = sig.parameters.length) (hc : Con w [] Z y yb ymL none Ry Ts To' f' (.ref a :: argsL).toArray h Qy) (kk : ∀ v h', Qy v h' → Run C Z R w To f Q b To' Li h' (k + Ry.cells) (n + Ry.slots) pc' L (v.toList ++ rest)) (hy : y.cls ≠ "java/lang/invoke/MethodHandle" ∧ y.cls ≠ "java/lang/invoke/VarHandle" := by decide) (hy1 : y.name = "<init>" := by exact rfl) (hs : S = argsL.reverse ++ .ref a :: rest := by exact rfl) (hW : (rest.map fun v => v.category).sum ≤ W := by exact Nat.le_of_eq rfl) (hL : L.size = mL := by exact rfl) (hf : Ry.frames + 1 ≤ R.frames := by decide) (hl : W + (ymL + 11) + Ry.locals ≤ R.locals := by decide) (hk : k + Ry.cells ≤ R.cells := by decide) (hn : n + Ry.slots ≤ R.slots := by decide) (hb : b ≤ f' := by exact Nat.le_refl _) (hp : pc' = pc + 3 := by exact rfl) : Run C Z R w To f Q b Ts Li h k n pc L S := by
  subst hp hs
  intro T vm0 locs P
  cases w with
  | false =>
    obtain ⟨v, vm₁, ⟨U, ls, ce, sl⟩, -, X', ⟨Lc, ⟨hQ, hF, hE', hI'⟩, l1, c1, s1⟩, st⟩ := P.1.specialBack H.1 hy1 (P.cl H) (mvT (s := C.s.setVm vm0) P.2.1 w1) (mvT (s := C.s.setVm vm0) P.2.1 w2) (mvT (s := C.s.setVm vm0) P.2.1 w4) hy (hc.back P.2.1 P.2.2.2.2.1 P.2.2.2.2.2.2.2.2.1 w4 w3 hf hl) (g := mkF C.m pc L (argsL.reverse ++ .ref a :: rest)) rfl (by rw [H.2.2.1]; exact hL) (Steps.refl _) (a := a) hlen rfl (by show 2 * 0 + _ ≤ _; omega) (H.dec hd) (fun _ _ => ⟨rfl, P.2.2.1, hk, hn⟩)
    obtain ⟨s₂, o, h1, r⟩ := kk v U.heap hQ U vm0 _ (P.afterN X' hF hE' hI' l1 c1 s1 hb)
    exact ⟨s₂, o, st.trans h1, r⟩
  | true =>
    obtain ⟨v, vm₁, ⟨U, ls, ce, sl⟩, -, X', hS', hg, ⟨Lc, ⟨hQ, hF, hE', hI'⟩, l1, c1, s1⟩, st⟩ := P.1.specialBackS H.1 hy1 (P.cl H) (mvT (s := C.s.setVm vm0) P.2.1 w1) (mvT (s := C.s.setVm vm0) P.2.1 w2) (mvT (s := C.s.setVm vm0) P.2.1 w4) hy (hc.backS P.2.1 P.2.2.2.2.1 P.2.2.2.2.2.2.2.2.1 w4 w3 hf hl) (g := mkF C.m pc L (argsL.reverse ++ .ref a :: rest)) rfl (by rw [H.2.2.1]; exact hL) (Steps.refl _) (a := a) hlen rfl (by show 2 * 0 + _ ≤ _; omega) (H.dec hd) (fun _ _ => ⟨rfl, P.2.2.1, hk, hn⟩)
    obtain ⟨s₂, o, h1, r⟩ := kk v U.heap hQ U U.vm _ (P.afterS X' hS' hg hF hE' hI' l1 c1 s1 hb)
    exact ⟨s₂, o, st.trans h1, r⟩
theorem r_virtual (H : Stn C Z own by_ mL rt nm q) (pc' : Nat) {idx : Nat} {y : MethodName} {yb : ByteArray} {ymL : Nat} {yrt : Option FieldType} {Ry : Room} {To' : List String} {f' : Nat} {Qy : Option Value → Heap → Prop} {z : MethodName} {CC : String} {a : Addr} {argsL rest : List Value} {W : Nat} (hd : decode by_ pc = .ok (.invokevirtual idx, 3)) (w1 : (Cond.methodLink own idx y).before a0 Z = true) (wd : (Cond.declares y).before a0 Z = true) (hnf : ∀ vm0, Z.Warmed39 vm0 → NotFace (C.s.setVm vm0) y) (w2 : (Cond.selects CC y z).before a0 Z = true) (w5 : (Cond.instanceMethod z).before a0 Z = true) (w3 : (Cond.initialized z.cls).before a0 Z = true) (w4 : (Cond.code z yb ymL yrt).before a0 Z = true) (E : Exa Z h a CC) (hlen : ∀ sig, parseMethodDescriptor y.desc = some sig → argsL.length = sig.parameters.length) (hc : Con w [] Z z yb ymL yrt Ry Ts To' f' (.ref a :: argsL).toArray h Qy) (kk : ∀ v h', Qy v h' → Run C Z R w To f Q b To' Li h' (k + Ry.cells) (n + Ry.slots) pc' L (v.toList ++ rest)) (hy : y.cls ≠ "java/lang/invoke/MethodHandle" ∧ y.cls ≠ "java/lang/invoke/VarHandle" := by decide) (hs : S = argsL.reverse ++ .ref a :: rest := by exact rfl) (hW : (rest.map fun v => v.category).sum ≤ W := by exact Nat.le_of_eq rfl) (hL : L.size = mL := by exact rfl) (hf : Ry.frames + 1 ≤ R.frames := by decide) (hl : W + (ymL + 11) + Ry.locals ≤ R.locals := by decide) (hk : k + Ry.cells ≤ R.cells := by decide) (hn : n + Ry.slots ≤ R.slots := by decide) (hb : b ≤ f' := by exact Nat.le_refl _) (hp : pc' = pc + 3 := by exact rfl) : Run C Z R w To f Q b Ts Li h k n pc L S := by
  subst hp hs
  intro T vm0 locs P
  obtain ⟨cB, kB, q1, q2, q3⟩ := isOf (T := T) (s := C.s.setVm vm0) P.2.1 P.2.2.1 E
  cases w with
  | false =>
    obtain ⟨v, vm₁, ⟨U, ls, ce, sl⟩, -, X', ⟨Lc, ⟨hQ, hF, hE', hI'⟩, l1, c1, s1⟩, st⟩ := P.1.virtualBack H.1 (P.cl H) (mvT (s := C.s.setVm vm0) P.2.1 w1) (mvT (s := C.s.setVm vm0) P.2.1 wd) (hnf vm0 P.2.1) (mvT (s := C.s.setVm vm0) P.2.1 w2) (mvT (s := C.s.setVm vm0) P.2.1 w5) hy (hc.back P.2.1 P.2.2.2.2.1 P.2.2.2.2.2.2.2.2.1 w4 w3 hf hl) q1 q3 (g := mkF C.m pc L (argsL.reverse ++ .ref a :: rest)) rfl (by rw [H.2.2.1]; exact hL) (Steps.refl _) hlen rfl (by show 2 * 0 + _ ≤ _; omega) (H.dec hd) (fun _ _ => ⟨rfl, P.2.2.1, hk, hn⟩)
    obtain ⟨s₂, o, h1, r⟩ := kk v U.heap hQ U vm0 _ (P.afterN X' hF hE' hI' l1 c1 s1 hb)
    exact ⟨s₂, o, st.trans h1, r⟩
  | true =>
    obtain ⟨v, vm₁, ⟨U, ls, ce, sl⟩, -, X', hS', hg, ⟨Lc, ⟨hQ, hF, hE', hI'⟩, l1, c1, s1⟩, st⟩ := P.1.virtualBackS H.1 (P.cl H) (mvT (s := C.s.setVm vm0) P.2.1 w1) (mvT (s := C.s.setVm vm0) P.2.1 wd) (hnf vm0 P.2.1) (mvT (s := C.s.setVm vm0) P.2.1 w2) (mvT (s := C.s.setVm vm0) P.2.1 w5) hy (hc.backS P.2.1 P.2.2.2.2.1 P.2.2.2.2.2.2.2.2.1 w4 w3 hf hl) q1 q3 (g := mkF C.m pc L (argsL.reverse ++ .ref a :: rest)) rfl (by rw [H.2.2.1]; exact hL) (Steps.refl _) hlen rfl (by show 2 * 0 + _ ≤ _; omega) (H.dec hd) (fun _ _ => ⟨rfl, P.2.2.1, hk, hn⟩)
    obtain ⟨s₂, o, h1, r⟩ := kk v U.heap hQ U U.vm _ (P.afterS X' hS' hg hF hE' hI' l1 c1 s1 hb)
    exact ⟨s₂, o, st.trans h1, r⟩
theorem nf_sel {vmS : State} {CC : String} {y : MethodName} (w2 : (Cond.selects CC y y).before a0 Z = true) : ∀ vm0, Z.Warmed39 vm0 → NotFace (vmS.setVm vm0) y := fun vm0 hZ => notFace_of_selects (args := #[]) (mvT (s := vmS.setVm vm0) hZ w2)
theorem r_ldcS (H : Stn C Z own by_ mL rt nm b) (pc' : Nat) {idx : Nat} {text : String} {vs : List Value} {z : Int32} (ns : Nat) (hd : decode by_ pc = .ok (.ldc idx, 2)) (w1 : (Cond.stringLink own idx text).before a0 Z = true) (wS : ∀ a ∈ Bundle.stringAtoms, a.before a0 Z = true) (hnot : text ∉ Ts) (hh : Jvm.Lit.constHeld Z own idx) (hcw : Jvm.Lit.compactW.before a0 Z = true) (ht : (∀ c ∈ text.toList, c.toNat < 256) ∧ text.toList.map (fun c => Value.int (Jvm.Lit.byteI c.toNat.toUInt16)) = vs) (kk : ∀ h' a v kc, Keep h h' [] → Exa Z h' a "java/lang/String" → Fld Z h' a "java/lang/String" "coder" "B" (.int 0) → Fld Z h' a "java/lang/String" "value" "[B" (.ref v) → Ar Z h' v kc .byte vs → ((a < b ∧ v < b) ∨ (h.size ≤ a ∧ h.size ≤ v)) → Run C Z R true To f Q b (text :: Ts) [(own, idx, a)] h' (k + 2) (n + (ns + 4)) pc' L (.ref a :: S)) (hz : ¬ z < 0 := by decide) (hl : z.toNatClampNeg = vs.length := by decide) (hns : 4 * text.toList.length ≤ ns := by decide) (hbig : ns ≤ 536870912 := by decide) (hc : k + 2 ≤ R.cells := by decide) (hsl : n + (ns + 4) ≤ R.slots := by decide) (hp : pc' = pc + 2 := by exact rfl) : Run C Z R true To f Q b Ts Li h k n pc L S := by
  subst hp
  intro T vm0 locs P
  obtain ⟨X, hZ, eT, hS, hI, hw, N, hzz, hE, hq, hL⟩ := P
  obtain ⟨a, T', h', k1, v, kc, X', e', E, hS', hk1, hW', ho', x1, x2, x3, x4, x5, x6, hI', hLit, hwh, st⟩ := ldcSVd X H.1 hZ (H.cl hS) w1 wS eT hS (Nat.le_refl _) (by rw [H.2.2.2.2.2.2.1]; exact N) (fun bb cl r => H.2.2.2.2.2.2.2.1.2 bb cl r) hI hnot hh hcw ht hz hl (g := mkF C.m pc L S) rfl (H.dec hd) hns hbig hc hsl
  subst e'
  obtain ⟨s₂, o, h1, r⟩ := kk T'.heap a v kc (Keep.of_ext E) x1 x2 x3 (Ar.of_arv x4 hl) (by rw [← H.2.2.2.2.2.2.1]; exact hwh) T' T'.vm locs ⟨X', hW', rfl, since_same hS' hk1, hI', fun e => (by cases e), N, hzz, ⟨Nat.le_trans hE.1 E.1, fun x c r => E.2 x c (hE.2 x c r)⟩, Nat.le_trans hq E.1, fun x hx => (by cases List.mem_singleton.mp hx; exact hLit)⟩
  exact ⟨s₂, o, st _ h1, r⟩
theorem r_ldcA (H : Stn C Z own by_ mL rt nm q) (pc' : Nat) {idx : Nat} {text : String} {a : Addr} (hd : decode by_ pc = .ok (.ldc idx, 2)) (w1 : (Cond.stringLink own idx text).before a0 Z = true) (hm : (own, idx, a) ∈ Li) (kk : Run C Z R w To f Q b Ts Li h k n pc' L (.ref a :: S)) (hp : pc' = pc + 2 := by exact rfl) : Run C Z R w To f Q b Ts Li h k n pc L S := by
  subst hp
  exact kk.hold fun T vm0 locs P => ⟨T, P.1, P.2.2.1, ldcAgain P.1 H.1 P.2.1 (P.cl H) w1 (P.2.2.2.2.2.2.2.2.2.2 _ hm) (g := mkF C.m pc L S) rfl (H.dec hd)⟩

theorem Run.join {P : Int32 → Prop} {pcB : Nat} {LB : Int32 → Array Slot} {SB : Int32 → List Value} (k2 : (∀ z, P z → Run C Z R w To f Q b Ts Li h k n pcB (LB z) (SB z)) → Run C Z R w To f Q b Ts Li h k n pc L S)
    (k1 : ∀ z, P z → Run C Z R w To f Q b Ts Li h k n pcB (LB z) (SB z)) : Run C Z R w To f Q b Ts Li h k n pc L S := k2 k1
end Walk
theorem i2c_id {x : Int32} (h : 0 ≤ x.toInt ∧ x.toInt ≤ 65535) : x.toUInt32.toUInt16.toUInt32.toInt32 = x := by
  apply Int32.toInt_inj.mp; have := c_i2c x; omega
theorem i2b_id {x : Int32} (h : -128 ≤ x.toInt ∧ x.toInt ≤ 127) : x.toInt8.toInt32 = x := by
  apply Int32.toInt_inj.mp; have := c_i2b x; omega
theorem and1_id {x : Int32} (h : 0 ≤ x.toInt ∧ x.toInt ≤ 1) : x &&& 1 = x := by
  apply Int32.toInt_inj.mp; have h1 := c_mask x 1 1 (by decide) (by decide); rw [h1]; omega
theorem nar_char_id {x : Int32} (h : 0 ≤ x.toInt ∧ x.toInt ≤ 65535) : nar .char x = x := i2c_id h
theorem nar_byte_id {x : Int32} (h : -128 ≤ x.toInt ∧ x.toInt ≤ 127) : nar .byte x = x := i2b_id h
theorem nar_bool_id {x : Int32} (h : 0 ≤ x.toInt ∧ x.toInt ≤ 1) : nar .boolean x = x := and1_id h
theorem ne_ar {Z : State} {h : Heap} {a0 : Array Value} {a b : Addr} {CC : String} {k : Nat} {kc : ClassId} {ty : FieldType} {vs : List Value} (E : Exa Z h a CC) (wi : (Cond.instantiable CC k).before a0 Z = true) (F : Ar Z h b kc ty vs) : a ≠ b := by
  obtain ⟨c, A, -⟩ := F; exact ne_arr E wi A
abbrev cL8 (c : Int32) : Int32 := (c >>> ((0 : Int32) &&& 31)).toInt8.toInt32
abbrev cH8 (c : Int32) : Int32 := (c >>> ((8 : Int32) &&& 31)).toInt8.toInt32
abbrev cB8 (c : Int32) : Int32 := c.toInt8.toInt32
theorem i2b_ne {x v : Int32} (h : 0 ≤ x.toInt ∧ x.toInt ≤ 255) (hv : 0 ≤ v.toInt ∧ v.toInt ≤ 127) (hn : ¬ x = v) : ¬ x.toInt8.toInt32 = v := fun e => hn (by
  apply Int32.toInt_inj.mp; have := c_i2b x; rw [← e] at hv ⊢; omega)

abbrev vI (x : Int32) : Slot := .val (.int x)
abbrev vR (x : Addr) : Slot := .val (.ref x)
theorem nlr {n : Nat} : n ≤ n := Nat.le_refl n
theorem nlt {a b c : Nat} (h : a ≤ b) (g : b ≤ c) : a ≤ c := Nat.le_trans h g
theorem nlq {a b : Nat} (h : a = b) : a ≤ b := Nat.le_of_eq h
theorem own_u16 (c : Int32) (h : 0 ≤ c.toInt ∧ c.toInt ≤ 65535) : (((((((c >>> ((0 : Int32) &&& 31)).toInt8.toInt32) &&& (255 : Int32)) <<< ((0 : Int32) &&& 31)) ||| (((((c >>> ((8 : Int32) &&& 31)).toInt8.toInt32) &&& (255 : Int32)) <<< ((8 : Int32) &&& 31))))).toUInt32.toUInt16.toUInt32.toInt32) = c := by
  have s0 := c_ishr c 0 0 (by decide)
  have s8 := c_ishr c 8 8 (by decide)
  generalize (c >>> ((0 : Int32) &&& 31)) = a at *
  generalize (c >>> ((8 : Int32) &&& 31)) = b at *
  have b0 := c_i2b a
  have b8 := c_i2b b
  generalize a.toInt8.toInt32 = a' at *
  generalize b.toInt8.toInt32 = b' at *
  have m0 := c_mask a' 255 8 (by decide) (by decide)
  have m8 := c_mask b' 255 8 (by decide) (by decide)
  generalize (a' &&& (255 : Int32)) = p at *
  generalize (b' &&& (255 : Int32)) = r at *
  have l0 := c_ishl p 0 0 (by decide)
  have l8 := c_ishl r 8 8 (by decide)
  have q0 := rng32 (p <<< ((0 : Int32) &&& 31))
  have q8 := rng32 (r <<< ((8 : Int32) &&& 31))
  generalize (p <<< ((0 : Int32) &&& 31)) = x at *
  generalize (r <<< ((8 : Int32) &&& 31)) = y at *
  have o := c_or' x y 8 (by decide) 256 (by decide) (by omega) (by omega) (by omega)
  have qo := rng32 (x ||| y)
  have i := c_i2c (x ||| y)
  apply Int32.toInt_inj.mp
  omega
abbrev HW (a0 : Array Value) (Z : State) : Prop := ∀ d ∈ tables_1, d.before a0 Z = true
abbrev G_wS (Z : State) (a0 : Array Value) : Prop := ∀ a ∈ Bundle.stringAtoms, a.before a0 Z = true
abbrev G_hcw (Z : State) (a0 : Array Value) : Prop := Jvm.Lit.compactW.before a0 Z = true
abbrev G_hh0 (Z : State) : Prop := Jvm.Lit.constHeld Z "java/lang/String" 7
abbrev G_S__assertionsDisabled (Z : State) : Prop := Sta Z Z.heap "java/lang/StringUTF16" "$assertionsDisabled" "Z" (.int (1 : Int32))
abbrev G_S_HI_BYTE_SHIFT (Z : State) : Prop := Sta Z Z.heap "java/lang/StringUTF16" "HI_BYTE_SHIFT" "I" (.int (0 : Int32))
abbrev G_S_LO_BYTE_SHIFT (Z : State) : Prop := Sta Z Z.heap "java/lang/StringUTF16" "LO_BYTE_SHIFT" "I" (.int (8 : Int32))
abbrev G_S_cs (Z : State) (cs : Int32) : Prop := Sta Z Z.heap "java/lang/String" "COMPACT_STRINGS" "Z" (.int cs)
abbrev G_hsio (Z : State) (sio : Value) : Prop := sio = .null ∨ ∃ a, sio = .ref a
abbrev G_S_sio (Z : State) (sio : Value) : Prop := Sta Z Z.heap "jdk/internal/util/Preconditions" "SIOOBE_FORMATTER" "Ljava/util/function/BiFunction;" sio
theorem tw0 {Z : State} {a0 : Array Value} (hw : HW a0 Z) : ((Jvm.Cond.constant "com/example/ferryline/ferryline/model/OneLineRequirePinLaw" (8 : Nat) (2147483647 : Int32))).before a0 Z = true := hw _ (List.mem_of_getElem? (i := 0) rfl)
theorem tw1 {Z : State} {a0 : Array Value} (hw : HW a0 Z) : ((Jvm.Cond.arrayClass Jvm.ClassFile.FieldType.char)).before a0 Z = true := hw _ (List.mem_of_getElem? (i := 1) rfl)
theorem tw2 {Z : State} {a0 : Array Value} (hw : HW a0 Z) : ((Jvm.Cond.classLink "com/example/ferryline/ferryline/model/OneLineRequirePinLaw" (15 : Nat) "java/lang/String")).before a0 Z = true := hw _ (List.mem_of_getElem? (i := 2) rfl)
theorem tw3 {Z : State} {a0 : Array Value} (hw : HW a0 Z) : ((Jvm.Cond.instantiable "java/lang/String" (4 : Nat))).before a0 Z = true := hw _ (List.mem_of_getElem? (i := 3) rfl)
theorem tw4 {Z : State} {a0 : Array Value} (hw : HW a0 Z) : ((Jvm.Cond.initialized "java/lang/String")).before a0 Z = true := hw _ (List.mem_of_getElem? (i := 4) rfl)
theorem tw5 {Z : State} {a0 : Array Value} (hw : HW a0 Z) : ((Jvm.Cond.methodLink "com/example/ferryline/ferryline/model/OneLineRequirePinLaw" (17 : Nat) ({ cls := "java/lang/String", name := "<init>", desc := "([C)V" } : Jvm.MethodName))).before a0 Z = true := hw _ (List.mem_of_getElem? (i := 5) rfl)
theorem tw6 {Z : State} {a0 : Array Value} (hw : HW a0 Z) : ((Jvm.Cond.instanceMethod ({ cls := "java/lang/String", name := "<init>", desc := "([C)V" } : Jvm.MethodName))).before a0 Z = true := hw _ (List.mem_of_getElem? (i := 6) rfl)
theorem tw7 {Z : State} {a0 : Array Value} (hw : HW a0 Z) : ((Jvm.Cond.code ({ cls := "java/lang/String", name := "<init>", desc := "([C)V" } : Jvm.MethodName) jdk_42_method_3_code (2 : Nat) (Option.none : Option Jvm.ClassFile.FieldType))).before a0 Z = true := hw _ (List.mem_of_getElem? (i := 7) rfl)
theorem tw8 {Z : State} {a0 : Array Value} (hw : HW a0 Z) : ((Jvm.Cond.methodLink "java/lang/String" (27 : Nat) ({ cls := "java/lang/String", name := "<init>", desc := "([CIILjava/lang/Void;)V" } : Jvm.MethodName))).before a0 Z = true := hw _ (List.mem_of_getElem? (i := 8) rfl)
theorem tw9 {Z : State} {a0 : Array Value} (hw : HW a0 Z) : ((Jvm.Cond.instanceMethod ({ cls := "java/lang/String", name := "<init>", desc := "([CIILjava/lang/Void;)V" } : Jvm.MethodName))).before a0 Z = true := hw _ (List.mem_of_getElem? (i := 9) rfl)
theorem tw11 {Z : State} {a0 : Array Value} (hw : HW a0 Z) : ((Jvm.Cond.code ({ cls := "java/lang/String", name := "<init>", desc := "([CIILjava/lang/Void;)V" } : Jvm.MethodName) jdk_42_method_149_code (6 : Nat) (Option.none : Option Jvm.ClassFile.FieldType))).before a0 Z = true := hw _ (List.mem_of_getElem? (i := 11) rfl)
theorem tw12 {Z : State} {a0 : Array Value} (hw : HW a0 Z) : ((Jvm.Cond.methodLink "java/lang/String" (1 : Nat) ({ cls := "java/lang/Object", name := "<init>", desc := "()V" } : Jvm.MethodName))).before a0 Z = true := hw _ (List.mem_of_getElem? (i := 12) rfl)
theorem tw13 {Z : State} {a0 : Array Value} (hw : HW a0 Z) : ((Jvm.Cond.instanceMethod ({ cls := "java/lang/Object", name := "<init>", desc := "()V" } : Jvm.MethodName))).before a0 Z = true := hw _ (List.mem_of_getElem? (i := 13) rfl)
theorem tw14 {Z : State} {a0 : Array Value} (hw : HW a0 Z) : ((Jvm.Cond.code ({ cls := "java/lang/Object", name := "<init>", desc := "()V" } : Jvm.MethodName) object_method_1_code (1 : Nat) (Option.none : Option Jvm.ClassFile.FieldType))).before a0 Z = true := hw _ (List.mem_of_getElem? (i := 14) rfl)
theorem tw15 {Z : State} {a0 : Array Value} (hw : HW a0 Z) : ((Jvm.Cond.stringLink "java/lang/String" (7 : Nat) "")).before a0 Z = true := hw _ (List.mem_of_getElem? (i := 15) rfl)
theorem tw16 {Z : State} {a0 : Array Value} (hw : HW a0 Z) : ((Jvm.Cond.arrayClass Jvm.ClassFile.FieldType.byte)).before a0 Z = true := hw _ (List.mem_of_getElem? (i := 16) rfl)
theorem tw17 {Z : State} {a0 : Array Value} (hw : HW a0 Z) : ((Jvm.Cond.laysFinal "java/lang/String" "java/lang/String" "value" "[B")).before a0 Z = true := hw _ (List.mem_of_getElem? (i := 17) rfl)
theorem tw18 {Z : State} {a0 : Array Value} (hw : HW a0 Z) : ((Jvm.Cond.laysFinal "java/lang/String" "java/lang/String" "coder" "B")).before a0 Z = true := hw _ (List.mem_of_getElem? (i := 18) rfl)
theorem tw19 {Z : State} {a0 : Array Value} (hw : HW a0 Z) : ((Jvm.Cond.soleField "java/lang/String" "value")).before a0 Z = true := hw _ (List.mem_of_getElem? (i := 19) rfl)
theorem tw20 {Z : State} {a0 : Array Value} (hw : HW a0 Z) : ((Jvm.Cond.soleField "java/lang/String" "coder")).before a0 Z = true := hw _ (List.mem_of_getElem? (i := 20) rfl)
theorem tw21 {Z : State} {a0 : Array Value} (hw : HW a0 Z) : ((Jvm.Cond.fieldLink "java/lang/String" (9 : Nat) "java/lang/String" "value" "[B")).before a0 Z = true := hw _ (List.mem_of_getElem? (i := 21) rfl)
theorem tw22 {Z : State} {a0 : Array Value} (hw : HW a0 Z) : ((Jvm.Cond.fieldLink "java/lang/String" (15 : Nat) "java/lang/String" "coder" "B")).before a0 Z = true := hw _ (List.mem_of_getElem? (i := 22) rfl)
theorem tw23 {Z : State} {a0 : Array Value} (hw : HW a0 Z) : ((Jvm.Cond.constant "com/example/ferryline/ferryline/model/OneLineRequirePinLaw" (7 : Nat) (65535 : Int32))).before a0 Z = true := hw _ (List.mem_of_getElem? (i := 23) rfl)
theorem tw24 {Z : State} {a0 : Array Value} (hw : HW a0 Z) : ((Jvm.Cond.methodLink "com/example/ferryline/ferryline/model/OneLineRequirePinLaw" (20 : Nat) ({ cls := "java/lang/String", name := "valueOf", desc := "(C)Ljava/lang/String;" } : Jvm.MethodName))).before a0 Z = true := hw _ (List.mem_of_getElem? (i := 24) rfl)
theorem tw25 {Z : State} {a0 : Array Value} (hw : HW a0 Z) : ((Jvm.Cond.static ({ cls := "java/lang/String", name := "valueOf", desc := "(C)Ljava/lang/String;" } : Jvm.MethodName))).before a0 Z = true := hw _ (List.mem_of_getElem? (i := 25) rfl)
theorem tw26 {Z : State} {a0 : Array Value} (hw : HW a0 Z) : ((Jvm.Cond.code ({ cls := "java/lang/String", name := "valueOf", desc := "(C)Ljava/lang/String;" } : Jvm.MethodName) jdk_42_method_139_code (1 : Nat) (Option.some (Jvm.ClassFile.FieldType.object "java/lang/String")))).before a0 Z = true := hw _ (List.mem_of_getElem? (i := 26) rfl)
theorem tw27 {Z : State} {a0 : Array Value} (hw : HW a0 Z) : ((Jvm.Cond.fieldLink "java/lang/String" (38 : Nat) "java/lang/String" "COMPACT_STRINGS" "Z")).before a0 Z = true := hw _ (List.mem_of_getElem? (i := 27) rfl)
theorem tw28 {Z : State} {a0 : Array Value} (hw : HW a0 Z) : ((Jvm.Cond.methodLink "java/lang/String" (1015 : Nat) ({ cls := "java/lang/StringLatin1", name := "canEncode", desc := "(C)Z" } : Jvm.MethodName))).before a0 Z = true := hw _ (List.mem_of_getElem? (i := 28) rfl)
theorem tw29 {Z : State} {a0 : Array Value} (hw : HW a0 Z) : ((Jvm.Cond.static ({ cls := "java/lang/StringLatin1", name := "canEncode", desc := "(C)Z" } : Jvm.MethodName))).before a0 Z = true := hw _ (List.mem_of_getElem? (i := 29) rfl)
theorem tw30 {Z : State} {a0 : Array Value} (hw : HW a0 Z) : ((Jvm.Cond.initialized "java/lang/StringLatin1")).before a0 Z = true := hw _ (List.mem_of_getElem? (i := 30) rfl)
theorem tw31 {Z : State} {a0 : Array Value} (hw : HW a0 Z) : ((Jvm.Cond.code ({ cls := "java/lang/StringLatin1", name := "canEncode", desc := "(C)Z" } : Jvm.MethodName) jdk_43_method_3_code (1 : Nat) (Option.some Jvm.ClassFile.FieldType.boolean))).before a0 Z = true := hw _ (List.mem_of_getElem? (i := 31) rfl)
theorem tw32 {Z : State} {a0 : Array Value} (hw : HW a0 Z) : ((Jvm.Cond.classLink "java/lang/String" (10 : Nat) "java/lang/String")).before a0 Z = true := hw _ (List.mem_of_getElem? (i := 32) rfl)
theorem tw33 {Z : State} {a0 : Array Value} (hw : HW a0 Z) : ((Jvm.Cond.methodLink "java/lang/String" (1018 : Nat) ({ cls := "java/lang/StringLatin1", name := "toBytes", desc := "(C)[B" } : Jvm.MethodName))).before a0 Z = true := hw _ (List.mem_of_getElem? (i := 33) rfl)
theorem tw34 {Z : State} {a0 : Array Value} (hw : HW a0 Z) : ((Jvm.Cond.static ({ cls := "java/lang/StringLatin1", name := "toBytes", desc := "(C)[B" } : Jvm.MethodName))).before a0 Z = true := hw _ (List.mem_of_getElem? (i := 34) rfl)
theorem tw35 {Z : State} {a0 : Array Value} (hw : HW a0 Z) : ((Jvm.Cond.code ({ cls := "java/lang/StringLatin1", name := "toBytes", desc := "(C)[B" } : Jvm.MethodName) jdk_43_method_46_code (1 : Nat) (Option.some (Jvm.ClassFile.FieldType.array Jvm.ClassFile.FieldType.byte)))).before a0 Z = true := hw _ (List.mem_of_getElem? (i := 35) rfl)
theorem tw36 {Z : State} {a0 : Array Value} (hw : HW a0 Z) : ((Jvm.Cond.methodLink "java/lang/String" (209 : Nat) ({ cls := "java/lang/String", name := "<init>", desc := "([BB)V" } : Jvm.MethodName))).before a0 Z = true := hw _ (List.mem_of_getElem? (i := 36) rfl)
theorem tw37 {Z : State} {a0 : Array Value} (hw : HW a0 Z) : ((Jvm.Cond.instanceMethod ({ cls := "java/lang/String", name := "<init>", desc := "([BB)V" } : Jvm.MethodName))).before a0 Z = true := hw _ (List.mem_of_getElem? (i := 37) rfl)
theorem tw38 {Z : State} {a0 : Array Value} (hw : HW a0 Z) : ((Jvm.Cond.code ({ cls := "java/lang/String", name := "<init>", desc := "([BB)V" } : Jvm.MethodName) jdk_42_method_151_code (3 : Nat) (Option.none : Option Jvm.ClassFile.FieldType))).before a0 Z = true := hw _ (List.mem_of_getElem? (i := 38) rfl)
theorem tw39 {Z : State} {a0 : Array Value} (hw : HW a0 Z) : ((Jvm.Cond.methodLink "com/example/ferryline/ferryline/model/OneLineRequirePinLaw" (24 : Nat) ({ cls := "com/example/ferryline/ferryline/model/OneLine", name := "require", desc := "(Ljava/lang/String;Ljava/lang/String;)Ljava/lang/String;" } : Jvm.MethodName))).before a0 Z = true := hw _ (List.mem_of_getElem? (i := 39) rfl)
theorem tw40 {Z : State} {a0 : Array Value} (hw : HW a0 Z) : ((Jvm.Cond.static ({ cls := "com/example/ferryline/ferryline/model/OneLine", name := "require", desc := "(Ljava/lang/String;Ljava/lang/String;)Ljava/lang/String;" } : Jvm.MethodName))).before a0 Z = true := hw _ (List.mem_of_getElem? (i := 40) rfl)
theorem tw41 {Z : State} {a0 : Array Value} (hw : HW a0 Z) : ((Jvm.Cond.initialized "com/example/ferryline/ferryline/model/OneLine")).before a0 Z = true := hw _ (List.mem_of_getElem? (i := 41) rfl)
theorem tw42 {Z : State} {a0 : Array Value} (hw : HW a0 Z) : ((Jvm.Cond.code ({ cls := "com/example/ferryline/ferryline/model/OneLine", name := "require", desc := "(Ljava/lang/String;Ljava/lang/String;)Ljava/lang/String;" } : Jvm.MethodName) prog_70_method_2_code (2 : Nat) (Option.some (Jvm.ClassFile.FieldType.object "java/lang/String")))).before a0 Z = true := hw _ (List.mem_of_getElem? (i := 42) rfl)
theorem tw43 {Z : State} {a0 : Array Value} (hw : HW a0 Z) : ((Jvm.Cond.methodLink "com/example/ferryline/ferryline/model/OneLine" (7 : Nat) ({ cls := "java/lang/String", name := "indexOf", desc := "(I)I" } : Jvm.MethodName))).before a0 Z = true := hw _ (List.mem_of_getElem? (i := 43) rfl)
theorem tw44 {Z : State} {a0 : Array Value} (hw : HW a0 Z) : ((Jvm.Cond.declares ({ cls := "java/lang/String", name := "indexOf", desc := "(I)I" } : Jvm.MethodName))).before a0 Z = true := hw _ (List.mem_of_getElem? (i := 44) rfl)
theorem tw45 {Z : State} {a0 : Array Value} (hw : HW a0 Z) : ((Jvm.Cond.instanceMethod ({ cls := "java/lang/String", name := "indexOf", desc := "(I)I" } : Jvm.MethodName))).before a0 Z = true := hw _ (List.mem_of_getElem? (i := 45) rfl)
theorem tw46 {Z : State} {a0 : Array Value} (hw : HW a0 Z) : ((Jvm.Cond.selects "java/lang/String" ({ cls := "java/lang/String", name := "indexOf", desc := "(I)I" } : Jvm.MethodName) ({ cls := "java/lang/String", name := "indexOf", desc := "(I)I" } : Jvm.MethodName))).before a0 Z = true := hw _ (List.mem_of_getElem? (i := 46) rfl)
theorem tw47 {Z : State} {a0 : Array Value} (hw : HW a0 Z) : ((Jvm.Cond.code ({ cls := "java/lang/String", name := "indexOf", desc := "(I)I" } : Jvm.MethodName) jdk_42_method_79_code (2 : Nat) (Option.some Jvm.ClassFile.FieldType.int))).before a0 Z = true := hw _ (List.mem_of_getElem? (i := 47) rfl)
theorem tw48 {Z : State} {a0 : Array Value} (hw : HW a0 Z) : ((Jvm.Cond.methodLink "java/lang/String" (633 : Nat) ({ cls := "java/lang/String", name := "indexOf", desc := "(II)I" } : Jvm.MethodName))).before a0 Z = true := hw _ (List.mem_of_getElem? (i := 48) rfl)
theorem tw49 {Z : State} {a0 : Array Value} (hw : HW a0 Z) : ((Jvm.Cond.declares ({ cls := "java/lang/String", name := "indexOf", desc := "(II)I" } : Jvm.MethodName))).before a0 Z = true := hw _ (List.mem_of_getElem? (i := 49) rfl)
theorem tw50 {Z : State} {a0 : Array Value} (hw : HW a0 Z) : ((Jvm.Cond.instanceMethod ({ cls := "java/lang/String", name := "indexOf", desc := "(II)I" } : Jvm.MethodName))).before a0 Z = true := hw _ (List.mem_of_getElem? (i := 50) rfl)
theorem tw51 {Z : State} {a0 : Array Value} (hw : HW a0 Z) : ((Jvm.Cond.selects "java/lang/String" ({ cls := "java/lang/String", name := "indexOf", desc := "(II)I" } : Jvm.MethodName) ({ cls := "java/lang/String", name := "indexOf", desc := "(II)I" } : Jvm.MethodName))).before a0 Z = true := hw _ (List.mem_of_getElem? (i := 51) rfl)
theorem tw52 {Z : State} {a0 : Array Value} (hw : HW a0 Z) : ((Jvm.Cond.code ({ cls := "java/lang/String", name := "indexOf", desc := "(II)I" } : Jvm.MethodName) jdk_42_method_80_code (3 : Nat) (Option.some Jvm.ClassFile.FieldType.int))).before a0 Z = true := hw _ (List.mem_of_getElem? (i := 52) rfl)
theorem tw53 {Z : State} {a0 : Array Value} (hw : HW a0 Z) : ((Jvm.Cond.methodLink "java/lang/String" (492 : Nat) ({ cls := "java/lang/String", name := "isLatin1", desc := "()Z" } : Jvm.MethodName))).before a0 Z = true := hw _ (List.mem_of_getElem? (i := 53) rfl)
theorem tw54 {Z : State} {a0 : Array Value} (hw : HW a0 Z) : ((Jvm.Cond.declares ({ cls := "java/lang/String", name := "isLatin1", desc := "()Z" } : Jvm.MethodName))).before a0 Z = true := hw _ (List.mem_of_getElem? (i := 54) rfl)
theorem tw55 {Z : State} {a0 : Array Value} (hw : HW a0 Z) : ((Jvm.Cond.instanceMethod ({ cls := "java/lang/String", name := "isLatin1", desc := "()Z" } : Jvm.MethodName))).before a0 Z = true := hw _ (List.mem_of_getElem? (i := 55) rfl)
theorem tw56 {Z : State} {a0 : Array Value} (hw : HW a0 Z) : ((Jvm.Cond.selects "java/lang/String" ({ cls := "java/lang/String", name := "isLatin1", desc := "()Z" } : Jvm.MethodName) ({ cls := "java/lang/String", name := "isLatin1", desc := "()Z" } : Jvm.MethodName))).before a0 Z = true := hw _ (List.mem_of_getElem? (i := 56) rfl)
theorem tw57 {Z : State} {a0 : Array Value} (hw : HW a0 Z) : ((Jvm.Cond.code ({ cls := "java/lang/String", name := "isLatin1", desc := "()Z" } : Jvm.MethodName) jdk_42_method_154_code (1 : Nat) (Option.some Jvm.ClassFile.FieldType.boolean))).before a0 Z = true := hw _ (List.mem_of_getElem? (i := 57) rfl)
theorem tw58 {Z : State} {a0 : Array Value} (hw : HW a0 Z) : ((Jvm.Cond.methodLink "java/lang/String" (505 : Nat) ({ cls := "java/lang/String", name := "length", desc := "()I" } : Jvm.MethodName))).before a0 Z = true := hw _ (List.mem_of_getElem? (i := 58) rfl)
theorem tw59 {Z : State} {a0 : Array Value} (hw : HW a0 Z) : ((Jvm.Cond.declares ({ cls := "java/lang/String", name := "length", desc := "()I" } : Jvm.MethodName))).before a0 Z = true := hw _ (List.mem_of_getElem? (i := 59) rfl)
theorem tw60 {Z : State} {a0 : Array Value} (hw : HW a0 Z) : ((Jvm.Cond.instanceMethod ({ cls := "java/lang/String", name := "length", desc := "()I" } : Jvm.MethodName))).before a0 Z = true := hw _ (List.mem_of_getElem? (i := 60) rfl)
theorem tw61 {Z : State} {a0 : Array Value} (hw : HW a0 Z) : ((Jvm.Cond.selects "java/lang/String" ({ cls := "java/lang/String", name := "length", desc := "()I" } : Jvm.MethodName) ({ cls := "java/lang/String", name := "length", desc := "()I" } : Jvm.MethodName))).before a0 Z = true := hw _ (List.mem_of_getElem? (i := 61) rfl)
theorem tw62 {Z : State} {a0 : Array Value} (hw : HW a0 Z) : ((Jvm.Cond.code ({ cls := "java/lang/String", name := "length", desc := "()I" } : Jvm.MethodName) jdk_42_method_54_code (1 : Nat) (Option.some Jvm.ClassFile.FieldType.int))).before a0 Z = true := hw _ (List.mem_of_getElem? (i := 62) rfl)
theorem tw63 {Z : State} {a0 : Array Value} (hw : HW a0 Z) : ((Jvm.Cond.methodLink "java/lang/String" (335 : Nat) ({ cls := "java/lang/String", name := "coder", desc := "()B" } : Jvm.MethodName))).before a0 Z = true := hw _ (List.mem_of_getElem? (i := 63) rfl)
theorem tw64 {Z : State} {a0 : Array Value} (hw : HW a0 Z) : ((Jvm.Cond.declares ({ cls := "java/lang/String", name := "coder", desc := "()B" } : Jvm.MethodName))).before a0 Z = true := hw _ (List.mem_of_getElem? (i := 64) rfl)
theorem tw65 {Z : State} {a0 : Array Value} (hw : HW a0 Z) : ((Jvm.Cond.instanceMethod ({ cls := "java/lang/String", name := "coder", desc := "()B" } : Jvm.MethodName))).before a0 Z = true := hw _ (List.mem_of_getElem? (i := 65) rfl)
theorem tw66 {Z : State} {a0 : Array Value} (hw : HW a0 Z) : ((Jvm.Cond.selects "java/lang/String" ({ cls := "java/lang/String", name := "coder", desc := "()B" } : Jvm.MethodName) ({ cls := "java/lang/String", name := "coder", desc := "()B" } : Jvm.MethodName))).before a0 Z = true := hw _ (List.mem_of_getElem? (i := 66) rfl)
theorem tw67 {Z : State} {a0 : Array Value} (hw : HW a0 Z) : ((Jvm.Cond.code ({ cls := "java/lang/String", name := "coder", desc := "()B" } : Jvm.MethodName) jdk_42_method_152_code (1 : Nat) (Option.some Jvm.ClassFile.FieldType.byte))).before a0 Z = true := hw _ (List.mem_of_getElem? (i := 67) rfl)
theorem tw68 {Z : State} {a0 : Array Value} (hw : HW a0 Z) : ((Jvm.Cond.methodLink "java/lang/String" (637 : Nat) ({ cls := "java/lang/StringLatin1", name := "indexOf", desc := "([BIII)I" } : Jvm.MethodName))).before a0 Z = true := hw _ (List.mem_of_getElem? (i := 68) rfl)
theorem tw69 {Z : State} {a0 : Array Value} (hw : HW a0 Z) : ((Jvm.Cond.static ({ cls := "java/lang/StringLatin1", name := "indexOf", desc := "([BIII)I" } : Jvm.MethodName))).before a0 Z = true := hw _ (List.mem_of_getElem? (i := 69) rfl)
theorem tw70 {Z : State} {a0 : Array Value} (hw : HW a0 Z) : ((Jvm.Cond.code ({ cls := "java/lang/StringLatin1", name := "indexOf", desc := "([BIII)I" } : Jvm.MethodName) jdk_43_method_22_code (4 : Nat) (Option.some Jvm.ClassFile.FieldType.int))).before a0 Z = true := hw _ (List.mem_of_getElem? (i := 70) rfl)
theorem tw71 {Z : State} {a0 : Array Value} (hw : HW a0 Z) : ((Jvm.Cond.methodLink "java/lang/StringLatin1" (88 : Nat) ({ cls := "java/lang/StringLatin1", name := "canEncode", desc := "(I)Z" } : Jvm.MethodName))).before a0 Z = true := hw _ (List.mem_of_getElem? (i := 71) rfl)
theorem tw72 {Z : State} {a0 : Array Value} (hw : HW a0 Z) : ((Jvm.Cond.static ({ cls := "java/lang/StringLatin1", name := "canEncode", desc := "(I)Z" } : Jvm.MethodName))).before a0 Z = true := hw _ (List.mem_of_getElem? (i := 72) rfl)
theorem tw73 {Z : State} {a0 : Array Value} (hw : HW a0 Z) : ((Jvm.Cond.code ({ cls := "java/lang/StringLatin1", name := "canEncode", desc := "(I)Z" } : Jvm.MethodName) jdk_43_method_4_code (1 : Nat) (Option.some Jvm.ClassFile.FieldType.boolean))).before a0 Z = true := hw _ (List.mem_of_getElem? (i := 73) rfl)
theorem tw74 {Z : State} {a0 : Array Value} (hw : HW a0 Z) : ((Jvm.Cond.methodLink "java/lang/StringLatin1" (92 : Nat) ({ cls := "java/lang/Math", name := "max", desc := "(II)I" } : Jvm.MethodName))).before a0 Z = true := hw _ (List.mem_of_getElem? (i := 74) rfl)
theorem tw75 {Z : State} {a0 : Array Value} (hw : HW a0 Z) : ((Jvm.Cond.static ({ cls := "java/lang/Math", name := "max", desc := "(II)I" } : Jvm.MethodName))).before a0 Z = true := hw _ (List.mem_of_getElem? (i := 75) rfl)
theorem tw76 {Z : State} {a0 : Array Value} (hw : HW a0 Z) : ((Jvm.Cond.initialized "java/lang/Math")).before a0 Z = true := hw _ (List.mem_of_getElem? (i := 76) rfl)
theorem tw77 {Z : State} {a0 : Array Value} (hw : HW a0 Z) : ((Jvm.Cond.code ({ cls := "java/lang/Math", name := "max", desc := "(II)I" } : Jvm.MethodName) jdk_29_method_65_code (2 : Nat) (Option.some Jvm.ClassFile.FieldType.int))).before a0 Z = true := hw _ (List.mem_of_getElem? (i := 77) rfl)
theorem tw78 {Z : State} {a0 : Array Value} (hw : HW a0 Z) : ((Jvm.Cond.methodLink "java/lang/StringLatin1" (38 : Nat) ({ cls := "java/lang/Math", name := "min", desc := "(II)I" } : Jvm.MethodName))).before a0 Z = true := hw _ (List.mem_of_getElem? (i := 78) rfl)
theorem tw79 {Z : State} {a0 : Array Value} (hw : HW a0 Z) : ((Jvm.Cond.static ({ cls := "java/lang/Math", name := "min", desc := "(II)I" } : Jvm.MethodName))).before a0 Z = true := hw _ (List.mem_of_getElem? (i := 79) rfl)
theorem tw80 {Z : State} {a0 : Array Value} (hw : HW a0 Z) : ((Jvm.Cond.code ({ cls := "java/lang/Math", name := "min", desc := "(II)I" } : Jvm.MethodName) jdk_29_method_69_code (2 : Nat) (Option.some Jvm.ClassFile.FieldType.int))).before a0 Z = true := hw _ (List.mem_of_getElem? (i := 80) rfl)
theorem tw81 {Z : State} {a0 : Array Value} (hw : HW a0 Z) : ((Jvm.Cond.methodLink "com/example/ferryline/ferryline/model/OneLineRequirePinLaw" (30 : Nat) ({ cls := "java/lang/String", name := "length", desc := "()I" } : Jvm.MethodName))).before a0 Z = true := hw _ (List.mem_of_getElem? (i := 81) rfl)
theorem tw82 {Z : State} {a0 : Array Value} (hw : HW a0 Z) : ((Jvm.Cond.methodLink "com/example/ferryline/ferryline/model/OneLineRequirePinLaw" (9 : Nat) ({ cls := "com/example/ferryline/ferryline/model/OneLineRequirePinLaw", name := "safe", desc := "(I)C" } : Jvm.MethodName))).before a0 Z = true := hw _ (List.mem_of_getElem? (i := 82) rfl)
theorem tw83 {Z : State} {a0 : Array Value} (hw : HW a0 Z) : ((Jvm.Cond.static ({ cls := "com/example/ferryline/ferryline/model/OneLineRequirePinLaw", name := "safe", desc := "(I)C" } : Jvm.MethodName))).before a0 Z = true := hw _ (List.mem_of_getElem? (i := 83) rfl)
theorem tw84 {Z : State} {a0 : Array Value} (hw : HW a0 Z) : ((Jvm.Cond.initialized "com/example/ferryline/ferryline/model/OneLineRequirePinLaw")).before a0 Z = true := hw _ (List.mem_of_getElem? (i := 84) rfl)
theorem tw85 {Z : State} {a0 : Array Value} (hw : HW a0 Z) : ((Jvm.Cond.code ({ cls := "com/example/ferryline/ferryline/model/OneLineRequirePinLaw", name := "safe", desc := "(I)C" } : Jvm.MethodName) method_2_code (2 : Nat) (Option.some Jvm.ClassFile.FieldType.char))).before a0 Z = true := hw _ (List.mem_of_getElem? (i := 85) rfl)
theorem tw86 {Z : State} {a0 : Array Value} (hw : HW a0 Z) : ((Jvm.Cond.methodLink "java/lang/String" (177 : Nat) ({ cls := "java/lang/StringUTF16", name := "compress", desc := "([CII)[B" } : Jvm.MethodName))).before a0 Z = true := hw _ (List.mem_of_getElem? (i := 86) rfl)
theorem tw87 {Z : State} {a0 : Array Value} (hw : HW a0 Z) : ((Jvm.Cond.static ({ cls := "java/lang/StringUTF16", name := "compress", desc := "([CII)[B" } : Jvm.MethodName))).before a0 Z = true := hw _ (List.mem_of_getElem? (i := 87) rfl)
theorem tw88 {Z : State} {a0 : Array Value} (hw : HW a0 Z) : ((Jvm.Cond.initialized "java/lang/StringUTF16")).before a0 Z = true := hw _ (List.mem_of_getElem? (i := 88) rfl)
theorem tw89 {Z : State} {a0 : Array Value} (hw : HW a0 Z) : ((Jvm.Cond.code ({ cls := "java/lang/StringUTF16", name := "compress", desc := "([CII)[B" } : Jvm.MethodName) jdk_52_method_16_code (6 : Nat) (Option.some (Jvm.ClassFile.FieldType.array Jvm.ClassFile.FieldType.byte)))).before a0 Z = true := hw _ (List.mem_of_getElem? (i := 89) rfl)
theorem tw90 {Z : State} {a0 : Array Value} (hw : HW a0 Z) : ((Jvm.Cond.methodLink "java/lang/StringUTF16" (115 : Nat) ({ cls := "java/lang/StringUTF16", name := "compress", desc := "([CI[BII)I" } : Jvm.MethodName))).before a0 Z = true := hw _ (List.mem_of_getElem? (i := 90) rfl)
theorem tw91 {Z : State} {a0 : Array Value} (hw : HW a0 Z) : ((Jvm.Cond.static ({ cls := "java/lang/StringUTF16", name := "compress", desc := "([CI[BII)I" } : Jvm.MethodName))).before a0 Z = true := hw _ (List.mem_of_getElem? (i := 91) rfl)
theorem tw92 {Z : State} {a0 : Array Value} (hw : HW a0 Z) : ((Jvm.Cond.code ({ cls := "java/lang/StringUTF16", name := "compress", desc := "([CI[BII)I" } : Jvm.MethodName) jdk_52_method_21_code (7 : Nat) (Option.some Jvm.ClassFile.FieldType.int))).before a0 Z = true := hw _ (List.mem_of_getElem? (i := 92) rfl)
theorem tw93 {Z : State} {a0 : Array Value} (hw : HW a0 Z) : ((Jvm.Cond.methodLink "java/lang/String" (47 : Nat) ({ cls := "java/lang/StringUTF16", name := "coderFromArrayLen", desc := "([BI)B" } : Jvm.MethodName))).before a0 Z = true := hw _ (List.mem_of_getElem? (i := 93) rfl)
theorem tw94 {Z : State} {a0 : Array Value} (hw : HW a0 Z) : ((Jvm.Cond.static ({ cls := "java/lang/StringUTF16", name := "coderFromArrayLen", desc := "([BI)B" } : Jvm.MethodName))).before a0 Z = true := hw _ (List.mem_of_getElem? (i := 94) rfl)
theorem tw95 {Z : State} {a0 : Array Value} (hw : HW a0 Z) : ((Jvm.Cond.code ({ cls := "java/lang/StringUTF16", name := "coderFromArrayLen", desc := "([BI)B" } : Jvm.MethodName) jdk_52_method_15_code (2 : Nat) (Option.some Jvm.ClassFile.FieldType.byte))).before a0 Z = true := hw _ (List.mem_of_getElem? (i := 95) rfl)
theorem tw96 {Z : State} {a0 : Array Value} (hw : HW a0 Z) : ((Jvm.Cond.methodLink "java/lang/StringLatin1" (95 : Nat) ({ cls := "java/lang/StringLatin1", name := "indexOfChar", desc := "([BIII)I" } : Jvm.MethodName))).before a0 Z = true := hw _ (List.mem_of_getElem? (i := 96) rfl)
theorem tw97 {Z : State} {a0 : Array Value} (hw : HW a0 Z) : ((Jvm.Cond.static ({ cls := "java/lang/StringLatin1", name := "indexOfChar", desc := "([BIII)I" } : Jvm.MethodName))).before a0 Z = true := hw _ (List.mem_of_getElem? (i := 97) rfl)
theorem tw98 {Z : State} {a0 : Array Value} (hw : HW a0 Z) : ((Jvm.Cond.code ({ cls := "java/lang/StringLatin1", name := "indexOfChar", desc := "([BIII)I" } : Jvm.MethodName) jdk_43_method_23_code (6 : Nat) (Option.some Jvm.ClassFile.FieldType.int))).before a0 Z = true := hw _ (List.mem_of_getElem? (i := 98) rfl)
theorem tw99 {Z : State} {a0 : Array Value} (hw : HW a0 Z) : ((Jvm.Cond.methodLink "java/lang/StringUTF16" (119 : Nat) ({ cls := "java/lang/StringUTF16", name := "toBytes", desc := "([CII)[B" } : Jvm.MethodName))).before a0 Z = true := hw _ (List.mem_of_getElem? (i := 99) rfl)
theorem tw100 {Z : State} {a0 : Array Value} (hw : HW a0 Z) : ((Jvm.Cond.static ({ cls := "java/lang/StringUTF16", name := "toBytes", desc := "([CII)[B" } : Jvm.MethodName))).before a0 Z = true := hw _ (List.mem_of_getElem? (i := 100) rfl)
theorem tw101 {Z : State} {a0 : Array Value} (hw : HW a0 Z) : ((Jvm.Cond.code ({ cls := "java/lang/StringUTF16", name := "toBytes", desc := "([CII)[B" } : Jvm.MethodName) jdk_52_method_14_code (5 : Nat) (Option.some (Jvm.ClassFile.FieldType.array Jvm.ClassFile.FieldType.byte)))).before a0 Z = true := hw _ (List.mem_of_getElem? (i := 101) rfl)
theorem tw102 {Z : State} {a0 : Array Value} (hw : HW a0 Z) : ((Jvm.Cond.methodLink "java/lang/StringUTF16" (107 : Nat) ({ cls := "java/lang/StringUTF16", name := "newBytesFor", desc := "(I)[B" } : Jvm.MethodName))).before a0 Z = true := hw _ (List.mem_of_getElem? (i := 102) rfl)
theorem tw103 {Z : State} {a0 : Array Value} (hw : HW a0 Z) : ((Jvm.Cond.static ({ cls := "java/lang/StringUTF16", name := "newBytesFor", desc := "(I)[B" } : Jvm.MethodName))).before a0 Z = true := hw _ (List.mem_of_getElem? (i := 103) rfl)
theorem tw104 {Z : State} {a0 : Array Value} (hw : HW a0 Z) : ((Jvm.Cond.code ({ cls := "java/lang/StringUTF16", name := "newBytesFor", desc := "(I)[B" } : Jvm.MethodName) jdk_52_method_2_code (1 : Nat) (Option.some (Jvm.ClassFile.FieldType.array Jvm.ClassFile.FieldType.byte)))).before a0 Z = true := hw _ (List.mem_of_getElem? (i := 104) rfl)
theorem tw105 {Z : State} {a0 : Array Value} (hw : HW a0 Z) : ((Jvm.Cond.methodLink "java/lang/StringUTF16" (11 : Nat) ({ cls := "java/lang/StringUTF16", name := "newBytesLength", desc := "(I)I" } : Jvm.MethodName))).before a0 Z = true := hw _ (List.mem_of_getElem? (i := 105) rfl)
theorem tw106 {Z : State} {a0 : Array Value} (hw : HW a0 Z) : ((Jvm.Cond.static ({ cls := "java/lang/StringUTF16", name := "newBytesLength", desc := "(I)I" } : Jvm.MethodName))).before a0 Z = true := hw _ (List.mem_of_getElem? (i := 106) rfl)
theorem tw107 {Z : State} {a0 : Array Value} (hw : HW a0 Z) : ((Jvm.Cond.code ({ cls := "java/lang/StringUTF16", name := "newBytesLength", desc := "(I)I" } : Jvm.MethodName) jdk_52_method_3_code (1 : Nat) (Option.some Jvm.ClassFile.FieldType.int))).before a0 Z = true := hw _ (List.mem_of_getElem? (i := 107) rfl)
theorem tw108 {Z : State} {a0 : Array Value} (hw : HW a0 Z) : ((Jvm.Cond.constant "java/lang/StringUTF16" (20 : Nat) (1073741823 : Int32))).before a0 Z = true := hw _ (List.mem_of_getElem? (i := 108) rfl)
theorem tw109 {Z : State} {a0 : Array Value} (hw : HW a0 Z) : ((Jvm.Cond.methodLink "java/lang/StringUTF16" (111 : Nat) ({ cls := "java/lang/StringUTF16", name := "putChar", desc := "([BII)V" } : Jvm.MethodName))).before a0 Z = true := hw _ (List.mem_of_getElem? (i := 109) rfl)
theorem tw110 {Z : State} {a0 : Array Value} (hw : HW a0 Z) : ((Jvm.Cond.static ({ cls := "java/lang/StringUTF16", name := "putChar", desc := "([BII)V" } : Jvm.MethodName))).before a0 Z = true := hw _ (List.mem_of_getElem? (i := 110) rfl)
theorem tw111 {Z : State} {a0 : Array Value} (hw : HW a0 Z) : ((Jvm.Cond.code ({ cls := "java/lang/StringUTF16", name := "putChar", desc := "([BII)V" } : Jvm.MethodName) jdk_52_method_4_code (3 : Nat) (Option.none : Option Jvm.ClassFile.FieldType))).before a0 Z = true := hw _ (List.mem_of_getElem? (i := 111) rfl)
theorem tw112 {Z : State} {a0 : Array Value} (hw : HW a0 Z) : ((Jvm.Cond.fieldLink "java/lang/StringUTF16" (44 : Nat) "java/lang/StringUTF16" "$assertionsDisabled" "Z")).before a0 Z = true := hw _ (List.mem_of_getElem? (i := 112) rfl)
theorem tw113 {Z : State} {a0 : Array Value} (hw : HW a0 Z) : ((Jvm.Cond.fieldLink "java/lang/StringUTF16" (59 : Nat) "java/lang/StringUTF16" "HI_BYTE_SHIFT" "I")).before a0 Z = true := hw _ (List.mem_of_getElem? (i := 113) rfl)
theorem tw114 {Z : State} {a0 : Array Value} (hw : HW a0 Z) : ((Jvm.Cond.fieldLink "java/lang/StringUTF16" (63 : Nat) "java/lang/StringUTF16" "LO_BYTE_SHIFT" "I")).before a0 Z = true := hw _ (List.mem_of_getElem? (i := 114) rfl)
theorem tw115 {Z : State} {a0 : Array Value} (hw : HW a0 Z) : ((Jvm.Cond.methodLink "java/lang/StringUTF16" (71 : Nat) ({ cls := "java/lang/StringUTF16", name := "getChar", desc := "([BI)C" } : Jvm.MethodName))).before a0 Z = true := hw _ (List.mem_of_getElem? (i := 115) rfl)
theorem tw116 {Z : State} {a0 : Array Value} (hw : HW a0 Z) : ((Jvm.Cond.static ({ cls := "java/lang/StringUTF16", name := "getChar", desc := "([BI)C" } : Jvm.MethodName))).before a0 Z = true := hw _ (List.mem_of_getElem? (i := 116) rfl)
theorem tw117 {Z : State} {a0 : Array Value} (hw : HW a0 Z) : ((Jvm.Cond.code ({ cls := "java/lang/StringUTF16", name := "getChar", desc := "([BI)C" } : Jvm.MethodName) jdk_52_method_5_code (2 : Nat) (Option.some Jvm.ClassFile.FieldType.char))).before a0 Z = true := hw _ (List.mem_of_getElem? (i := 117) rfl)
theorem tw118 {Z : State} {a0 : Array Value} (hw : HW a0 Z) : ((Jvm.Cond.methodLink "java/lang/String" (1021 : Nat) ({ cls := "java/lang/StringUTF16", name := "toBytes", desc := "(C)[B" } : Jvm.MethodName))).before a0 Z = true := hw _ (List.mem_of_getElem? (i := 118) rfl)
theorem tw119 {Z : State} {a0 : Array Value} (hw : HW a0 Z) : ((Jvm.Cond.static ({ cls := "java/lang/StringUTF16", name := "toBytes", desc := "(C)[B" } : Jvm.MethodName))).before a0 Z = true := hw _ (List.mem_of_getElem? (i := 119) rfl)
theorem tw120 {Z : State} {a0 : Array Value} (hw : HW a0 Z) : ((Jvm.Cond.code ({ cls := "java/lang/StringUTF16", name := "toBytes", desc := "(C)[B" } : Jvm.MethodName) jdk_52_method_24_code (2 : Nat) (Option.some (Jvm.ClassFile.FieldType.array Jvm.ClassFile.FieldType.byte)))).before a0 Z = true := hw _ (List.mem_of_getElem? (i := 120) rfl)
theorem tw121 {Z : State} {a0 : Array Value} (hw : HW a0 Z) : ((Jvm.Cond.methodLink "java/lang/String" (640 : Nat) ({ cls := "java/lang/StringUTF16", name := "indexOf", desc := "([BIII)I" } : Jvm.MethodName))).before a0 Z = true := hw _ (List.mem_of_getElem? (i := 121) rfl)
theorem tw122 {Z : State} {a0 : Array Value} (hw : HW a0 Z) : ((Jvm.Cond.static ({ cls := "java/lang/StringUTF16", name := "indexOf", desc := "([BIII)I" } : Jvm.MethodName))).before a0 Z = true := hw _ (List.mem_of_getElem? (i := 122) rfl)
theorem tw123 {Z : State} {a0 : Array Value} (hw : HW a0 Z) : ((Jvm.Cond.code ({ cls := "java/lang/StringUTF16", name := "indexOf", desc := "([BIII)I" } : Jvm.MethodName) jdk_52_method_40_code (4 : Nat) (Option.some Jvm.ClassFile.FieldType.int))).before a0 Z = true := hw _ (List.mem_of_getElem? (i := 123) rfl)
theorem tw124 {Z : State} {a0 : Array Value} (hw : HW a0 Z) : ((Jvm.Cond.methodLink "java/lang/StringUTF16" (224 : Nat) ({ cls := "java/lang/Math", name := "max", desc := "(II)I" } : Jvm.MethodName))).before a0 Z = true := hw _ (List.mem_of_getElem? (i := 124) rfl)
theorem tw125 {Z : State} {a0 : Array Value} (hw : HW a0 Z) : ((Jvm.Cond.methodLink "java/lang/StringUTF16" (183 : Nat) ({ cls := "java/lang/Math", name := "min", desc := "(II)I" } : Jvm.MethodName))).before a0 Z = true := hw _ (List.mem_of_getElem? (i := 125) rfl)
theorem tw126 {Z : State} {a0 : Array Value} (hw : HW a0 Z) : ((Jvm.Cond.constant "java/lang/StringUTF16" (227 : Nat) (65536 : Int32))).before a0 Z = true := hw _ (List.mem_of_getElem? (i := 126) rfl)
theorem tw127 {Z : State} {a0 : Array Value} (hw : HW a0 Z) : ((Jvm.Cond.methodLink "java/lang/StringUTF16" (228 : Nat) ({ cls := "java/lang/StringUTF16", name := "indexOfChar", desc := "([BIII)I" } : Jvm.MethodName))).before a0 Z = true := hw _ (List.mem_of_getElem? (i := 127) rfl)
theorem tw128 {Z : State} {a0 : Array Value} (hw : HW a0 Z) : ((Jvm.Cond.static ({ cls := "java/lang/StringUTF16", name := "indexOfChar", desc := "([BIII)I" } : Jvm.MethodName))).before a0 Z = true := hw _ (List.mem_of_getElem? (i := 128) rfl)
theorem tw129 {Z : State} {a0 : Array Value} (hw : HW a0 Z) : ((Jvm.Cond.code ({ cls := "java/lang/StringUTF16", name := "indexOfChar", desc := "([BIII)I" } : Jvm.MethodName) jdk_52_method_47_code (4 : Nat) (Option.some Jvm.ClassFile.FieldType.int))).before a0 Z = true := hw _ (List.mem_of_getElem? (i := 129) rfl)
theorem tw130 {Z : State} {a0 : Array Value} (hw : HW a0 Z) : ((Jvm.Cond.methodLink "java/lang/StringUTF16" (96 : Nat) ({ cls := "java/lang/StringUTF16", name := "checkBoundsBeginEnd", desc := "(II[B)V" } : Jvm.MethodName))).before a0 Z = true := hw _ (List.mem_of_getElem? (i := 130) rfl)
theorem tw131 {Z : State} {a0 : Array Value} (hw : HW a0 Z) : ((Jvm.Cond.static ({ cls := "java/lang/StringUTF16", name := "checkBoundsBeginEnd", desc := "(II[B)V" } : Jvm.MethodName))).before a0 Z = true := hw _ (List.mem_of_getElem? (i := 131) rfl)
theorem tw132 {Z : State} {a0 : Array Value} (hw : HW a0 Z) : ((Jvm.Cond.code ({ cls := "java/lang/StringUTF16", name := "checkBoundsBeginEnd", desc := "(II[B)V" } : Jvm.MethodName) jdk_52_method_93_code (3 : Nat) (Option.none : Option Jvm.ClassFile.FieldType))).before a0 Z = true := hw _ (List.mem_of_getElem? (i := 132) rfl)
theorem tw133 {Z : State} {a0 : Array Value} (hw : HW a0 Z) : ((Jvm.Cond.methodLink "java/lang/StringUTF16" (48 : Nat) ({ cls := "java/lang/StringUTF16", name := "length", desc := "([B)I" } : Jvm.MethodName))).before a0 Z = true := hw _ (List.mem_of_getElem? (i := 133) rfl)
theorem tw134 {Z : State} {a0 : Array Value} (hw : HW a0 Z) : ((Jvm.Cond.static ({ cls := "java/lang/StringUTF16", name := "length", desc := "([B)I" } : Jvm.MethodName))).before a0 Z = true := hw _ (List.mem_of_getElem? (i := 134) rfl)
theorem tw135 {Z : State} {a0 : Array Value} (hw : HW a0 Z) : ((Jvm.Cond.code ({ cls := "java/lang/StringUTF16", name := "length", desc := "([B)I" } : Jvm.MethodName) jdk_52_method_6_code (1 : Nat) (Option.some Jvm.ClassFile.FieldType.int))).before a0 Z = true := hw _ (List.mem_of_getElem? (i := 135) rfl)
theorem tw136 {Z : State} {a0 : Array Value} (hw : HW a0 Z) : ((Jvm.Cond.methodLink "java/lang/StringUTF16" (241 : Nat) ({ cls := "java/lang/String", name := "checkBoundsBeginEnd", desc := "(III)V" } : Jvm.MethodName))).before a0 Z = true := hw _ (List.mem_of_getElem? (i := 136) rfl)
theorem tw137 {Z : State} {a0 : Array Value} (hw : HW a0 Z) : ((Jvm.Cond.static ({ cls := "java/lang/String", name := "checkBoundsBeginEnd", desc := "(III)V" } : Jvm.MethodName))).before a0 Z = true := hw _ (List.mem_of_getElem? (i := 137) rfl)
theorem tw138 {Z : State} {a0 : Array Value} (hw : HW a0 Z) : ((Jvm.Cond.code ({ cls := "java/lang/String", name := "checkBoundsBeginEnd", desc := "(III)V" } : Jvm.MethodName) jdk_42_method_158_code (3 : Nat) (Option.none : Option Jvm.ClassFile.FieldType))).before a0 Z = true := hw _ (List.mem_of_getElem? (i := 138) rfl)
theorem tw139 {Z : State} {a0 : Array Value} (hw : HW a0 Z) : ((Jvm.Cond.fieldLink "java/lang/String" (1053 : Nat) "jdk/internal/util/Preconditions" "SIOOBE_FORMATTER" "Ljava/util/function/BiFunction;")).before a0 Z = true := hw _ (List.mem_of_getElem? (i := 139) rfl)
theorem tw140 {Z : State} {a0 : Array Value} (hw : HW a0 Z) : ((Jvm.Cond.initialized "jdk/internal/util/Preconditions")).before a0 Z = true := hw _ (List.mem_of_getElem? (i := 140) rfl)
theorem tw141 {Z : State} {a0 : Array Value} (hw : HW a0 Z) : ((Jvm.Cond.methodLink "java/lang/String" (1062 : Nat) ({ cls := "jdk/internal/util/Preconditions", name := "checkFromToIndex", desc := "(IIILjava/util/function/BiFunction;)I" } : Jvm.MethodName))).before a0 Z = true := hw _ (List.mem_of_getElem? (i := 141) rfl)
theorem tw142 {Z : State} {a0 : Array Value} (hw : HW a0 Z) : ((Jvm.Cond.static ({ cls := "jdk/internal/util/Preconditions", name := "checkFromToIndex", desc := "(IIILjava/util/function/BiFunction;)I" } : Jvm.MethodName))).before a0 Z = true := hw _ (List.mem_of_getElem? (i := 142) rfl)
theorem tw143 {Z : State} {a0 : Array Value} (hw : HW a0 Z) : ((Jvm.Cond.code ({ cls := "jdk/internal/util/Preconditions", name := "checkFromToIndex", desc := "(IIILjava/util/function/BiFunction;)I" } : Jvm.MethodName) jdk_41_method_12_code (4 : Nat) (Option.some Jvm.ClassFile.FieldType.int))).before a0 Z = true := hw _ (List.mem_of_getElem? (i := 143) rfl)
theorem tw144 {Z : State} {a0 : Array Value} (hw : HW a0 Z) : ((Jvm.Cond.methodLink "java/lang/StringUTF16" (244 : Nat) ({ cls := "java/lang/StringUTF16", name := "indexOfCharUnsafe", desc := "([BIII)I" } : Jvm.MethodName))).before a0 Z = true := hw _ (List.mem_of_getElem? (i := 144) rfl)
theorem tw145 {Z : State} {a0 : Array Value} (hw : HW a0 Z) : ((Jvm.Cond.static ({ cls := "java/lang/StringUTF16", name := "indexOfCharUnsafe", desc := "([BIII)I" } : Jvm.MethodName))).before a0 Z = true := hw _ (List.mem_of_getElem? (i := 145) rfl)
theorem tw146 {Z : State} {a0 : Array Value} (hw : HW a0 Z) : ((Jvm.Cond.code ({ cls := "java/lang/StringUTF16", name := "indexOfCharUnsafe", desc := "([BIII)I" } : Jvm.MethodName) jdk_52_method_48_code (5 : Nat) (Option.some Jvm.ClassFile.FieldType.int))).before a0 Z = true := hw _ (List.mem_of_getElem? (i := 146) rfl)
theorem pd_0 : parseMethodDescriptor "([CIILjava/lang/Void;)V" = some ⟨[(.array .char), .int, .int, (.object "java/lang/Void")], none⟩ := by decide +kernel
theorem pd_1 : parseMethodDescriptor "([C)V" = some ⟨[(.array .char)], none⟩ := by decide +kernel
theorem pd_2 : parseMethodDescriptor "(C)Z" = some ⟨[.char], some .boolean⟩ := by decide +kernel
theorem pd_3 : parseMethodDescriptor "([BII)V" = some ⟨[(.array .byte), .int, .int], none⟩ := by decide +kernel
theorem pd_4 : parseMethodDescriptor "(C)[B" = some ⟨[.char], some (.array .byte)⟩ := by decide +kernel
theorem pd_5 : parseMethodDescriptor "([BB)V" = some ⟨[(.array .byte), .byte], none⟩ := by decide +kernel
theorem pd_6 : parseMethodDescriptor "(C)Ljava/lang/String;" = some ⟨[.char], some (.object "java/lang/String")⟩ := by decide +kernel
theorem pd_7 : parseMethodDescriptor "()Z" = some ⟨[], some .boolean⟩ := by decide +kernel
theorem pd_8 : parseMethodDescriptor "()B" = some ⟨[], some .byte⟩ := by decide +kernel
theorem pd_9 : parseMethodDescriptor "()I" = some ⟨[], some .int⟩ := by decide +kernel
theorem pd_10 : parseMethodDescriptor "(I)Z" = some ⟨[.int], some .boolean⟩ := by decide +kernel
theorem pd_11 : parseMethodDescriptor "(II)I" = some ⟨[.int, .int], some .int⟩ := by decide +kernel
theorem pd_12 : parseMethodDescriptor "([BIII)I" = some ⟨[(.array .byte), .int, .int, .int], some .int⟩ := by decide +kernel
theorem pd_13 : parseMethodDescriptor "(I)I" = some ⟨[.int], some .int⟩ := by decide +kernel
theorem pd_14 : parseMethodDescriptor "(Ljava/lang/String;Ljava/lang/String;)Ljava/lang/String;" = some ⟨[(.object "java/lang/String"), (.object "java/lang/String")], some (.object "java/lang/String")⟩ := by decide +kernel
theorem pd_15 : parseMethodDescriptor "(I)C" = some ⟨[.int], some .char⟩ := by decide +kernel
theorem pd_16 : parseMethodDescriptor "([CI[BII)I" = some ⟨[(.array .char), .int, (.array .byte), .int, .int], some .int⟩ := by decide +kernel
theorem pd_17 : parseMethodDescriptor "(I)[B" = some ⟨[.int], some (.array .byte)⟩ := by decide +kernel
theorem pd_18 : parseMethodDescriptor "([CII)[B" = some ⟨[(.array .char), .int, .int], some (.array .byte)⟩ := by decide +kernel
theorem pd_19 : parseMethodDescriptor "([BI)C" = some ⟨[(.array .byte), .int], some .char⟩ := by decide +kernel
theorem pd_20 : parseMethodDescriptor "([BI)B" = some ⟨[(.array .byte), .int], some .byte⟩ := by decide +kernel
theorem pd_21 : parseMethodDescriptor "([B)I" = some ⟨[(.array .byte)], some .int⟩ := by decide +kernel
theorem pd_22 : parseMethodDescriptor "(IIILjava/util/function/BiFunction;)I" = some ⟨[.int, .int, .int, (.object "java/util/function/BiFunction")], some .int⟩ := by decide +kernel
theorem pd_23 : parseMethodDescriptor "(III)V" = some ⟨[.int, .int, .int], none⟩ := by decide +kernel
theorem pd_24 : parseMethodDescriptor "(II[B)V" = some ⟨[.int, .int, (.array .byte)], none⟩ := by decide +kernel
theorem pn_0 : plainName "java/lang/String" = true := by first | (simp [plainName, overriddenIn]; done) | decide +kernel
theorem pn_1 : plainName "java/lang/StringLatin1" = true := by first | (simp [plainName, overriddenIn]; done) | decide +kernel
theorem pn_2 : plainName "java/lang/StringUTF16" = true := by first | (simp [plainName, overriddenIn]; done) | decide +kernel
theorem pn_3 : plainName "com/example/ferryline/ferryline/model/OneLine" = true := by first | (simp [plainName, overriddenIn]; done) | decide +kernel
theorem pn_4 : plainName "com/example/ferryline/ferryline/model/OneLineRequirePinLaw" = true := by first | (simp [plainName, overriddenIn]; done) | decide +kernel
theorem pn_5 : plainName "jdk/internal/util/Preconditions" = true := by first | (simp [plainName, overriddenIn]; done) | decide +kernel
theorem d_j42_3_0 : decode jdk_42_method_3_code 0 = .ok (.aload_n 0, 1) := by decide +kernel
theorem d_j42_3_1 : decode jdk_42_method_3_code 1 = .ok (.aload_n 1, 1) := by decide +kernel
theorem d_j42_3_2 : decode jdk_42_method_3_code 2 = .ok (.iconst 0, 1) := by decide +kernel
theorem d_j42_3_3 : decode jdk_42_method_3_code 3 = .ok (.aload_n 1, 1) := by decide +kernel
theorem d_j42_3_4 : decode jdk_42_method_3_code 4 = .ok (.arraylength, 1) := by decide +kernel
theorem d_j42_3_5 : decode jdk_42_method_3_code 5 = .ok (.aconst_null, 1) := by decide +kernel
theorem d_j42_3_6 : decode jdk_42_method_3_code 6 = .ok (.invokespecial 27, 3) := by decide +kernel
theorem d_j42_149_0 : decode jdk_42_method_149_code 0 = .ok (.aload_n 0, 1) := by decide +kernel
theorem d_j42_149_1 : decode jdk_42_method_149_code 1 = .ok (.invokespecial 1, 3) := by decide +kernel
theorem d_j42_149_4 : decode jdk_42_method_149_code 4 = .ok (.iload_n 3, 1) := by decide +kernel
theorem d_j42_149_5 : decode jdk_42_method_149_code 5 = .ok (.ifCond .ne 22, 3) := by decide +kernel
theorem d_j42_149_8 : decode jdk_42_method_149_code 8 = .ok (.aload_n 0, 1) := by decide +kernel
theorem d_j42_149_9 : decode jdk_42_method_149_code 9 = .ok (.ldc 7, 2) := by decide +kernel
theorem d_j42_149_11 : decode jdk_42_method_149_code 11 = .ok (.getfield 9, 3) := by decide +kernel
theorem d_j42_149_14 : decode jdk_42_method_149_code 14 = .ok (.putfield 9, 3) := by decide +kernel
theorem d_j42_149_17 : decode jdk_42_method_149_code 17 = .ok (.aload_n 0, 1) := by decide +kernel
theorem d_j42_149_18 : decode jdk_42_method_149_code 18 = .ok (.ldc 7, 2) := by decide +kernel
theorem d_j42_149_20 : decode jdk_42_method_149_code 20 = .ok (.getfield 15, 3) := by decide +kernel
theorem d_j42_149_23 : decode jdk_42_method_149_code 23 = .ok (.putfield 15, 3) := by decide +kernel
theorem d_j42_149_26 : decode jdk_42_method_149_code 26 = .ok (.return_, 1) := by decide +kernel
theorem d_j42_3_9 : decode jdk_42_method_3_code 9 = .ok (.return_, 1) := by decide +kernel
theorem d_j42_139_0 : decode jdk_42_method_139_code 0 = .ok (.getstatic 38, 3) := by decide +kernel
theorem d_j42_139_3 : decode jdk_42_method_139_code 3 = .ok (.ifCond .eq 23, 3) := by decide +kernel
theorem d_j42_139_6 : decode jdk_42_method_139_code 6 = .ok (.iload_n 0, 1) := by decide +kernel
theorem d_j42_139_7 : decode jdk_42_method_139_code 7 = .ok (.invokestatic 1015, 3) := by decide +kernel
theorem d_j43_3_0 : decode jdk_43_method_3_code 0 = .ok (.iload_n 0, 1) := by decide +kernel
theorem d_j43_3_1 : decode jdk_43_method_3_code 1 = .ok (.sipush 255, 3) := by decide +kernel
theorem d_j43_3_4 : decode jdk_43_method_3_code 4 = .ok (.if_icmp .gt 7, 3) := by decide +kernel
theorem d_j43_3_11 : decode jdk_43_method_3_code 11 = .ok (.iconst 0, 1) := by decide +kernel
theorem d_j43_3_7 : decode jdk_43_method_3_code 7 = .ok (.iconst 1, 1) := by decide +kernel
theorem d_j43_3_8 : decode jdk_43_method_3_code 8 = .ok (.goto 4, 3) := by decide +kernel
theorem d_j43_3_12 : decode jdk_43_method_3_code 12 = .ok (.ireturn, 1) := by decide +kernel
theorem d_j42_139_10 : decode jdk_42_method_139_code 10 = .ok (.ifCond .eq 16, 3) := by decide +kernel
theorem d_j42_139_26 : decode jdk_42_method_139_code 26 = .ok (.new 10, 3) := by decide +kernel
theorem d_j42_139_29 : decode jdk_42_method_139_code 29 = .ok (.dup, 1) := by decide +kernel
theorem d_j42_139_30 : decode jdk_42_method_139_code 30 = .ok (.iload_n 0, 1) := by decide +kernel
theorem d_j42_139_31 : decode jdk_42_method_139_code 31 = .ok (.invokestatic 1021, 3) := by decide +kernel
theorem d_j52_24_0 : decode jdk_52_method_24_code 0 = .ok (.iconst 2, 1) := by decide +kernel
theorem d_j52_24_1 : decode jdk_52_method_24_code 1 = .ok (.newarray .byte, 2) := by decide +kernel
theorem d_j52_24_3 : decode jdk_52_method_24_code 3 = .ok (.astore_n 1, 1) := by decide +kernel
theorem d_j52_24_4 : decode jdk_52_method_24_code 4 = .ok (.aload_n 1, 1) := by decide +kernel
theorem d_j52_24_5 : decode jdk_52_method_24_code 5 = .ok (.iconst 0, 1) := by decide +kernel
theorem d_j52_24_6 : decode jdk_52_method_24_code 6 = .ok (.iload_n 0, 1) := by decide +kernel
theorem d_j52_24_7 : decode jdk_52_method_24_code 7 = .ok (.invokestatic 111, 3) := by decide +kernel
theorem d_j52_4_0 : decode jdk_52_method_4_code 0 = .ok (.getstatic 44, 3) := by decide +kernel
theorem d_j52_4_3 : decode jdk_52_method_4_code 3 = .ok (.ifCond .ne 25, 3) := by decide +kernel
theorem d_j52_4_28 : decode jdk_52_method_4_code 28 = .ok (.iload_n 1, 1) := by decide +kernel
theorem d_j52_4_29 : decode jdk_52_method_4_code 29 = .ok (.iconst 1, 1) := by decide +kernel
theorem d_j52_4_30 : decode jdk_52_method_4_code 30 = .ok (.ishl, 1) := by decide +kernel
theorem d_j52_4_31 : decode jdk_52_method_4_code 31 = .ok (.istore_n 1, 1) := by decide +kernel
theorem d_j52_4_32 : decode jdk_52_method_4_code 32 = .ok (.aload_n 0, 1) := by decide +kernel
theorem d_j52_4_33 : decode jdk_52_method_4_code 33 = .ok (.iload_n 1, 1) := by decide +kernel
theorem d_j52_4_34 : decode jdk_52_method_4_code 34 = .ok (.iinc 1 1, 3) := by decide +kernel
theorem d_j52_4_37 : decode jdk_52_method_4_code 37 = .ok (.iload_n 2, 1) := by decide +kernel
theorem d_j52_4_38 : decode jdk_52_method_4_code 38 = .ok (.getstatic 59, 3) := by decide +kernel
theorem d_j52_4_41 : decode jdk_52_method_4_code 41 = .ok (.ishr, 1) := by decide +kernel
theorem d_j52_4_42 : decode jdk_52_method_4_code 42 = .ok (.i2b, 1) := by decide +kernel
theorem d_j52_4_43 : decode jdk_52_method_4_code 43 = .ok (.bastore, 1) := by decide +kernel
theorem d_j52_4_44 : decode jdk_52_method_4_code 44 = .ok (.aload_n 0, 1) := by decide +kernel
theorem d_j52_4_45 : decode jdk_52_method_4_code 45 = .ok (.iload_n 1, 1) := by decide +kernel
theorem d_j52_4_46 : decode jdk_52_method_4_code 46 = .ok (.iload_n 2, 1) := by decide +kernel
theorem d_j52_4_47 : decode jdk_52_method_4_code 47 = .ok (.getstatic 63, 3) := by decide +kernel
theorem d_j52_4_50 : decode jdk_52_method_4_code 50 = .ok (.ishr, 1) := by decide +kernel
theorem d_j52_4_51 : decode jdk_52_method_4_code 51 = .ok (.i2b, 1) := by decide +kernel
theorem d_j52_4_52 : decode jdk_52_method_4_code 52 = .ok (.bastore, 1) := by decide +kernel
theorem d_j52_4_53 : decode jdk_52_method_4_code 53 = .ok (.return_, 1) := by decide +kernel
theorem d_j52_24_10 : decode jdk_52_method_24_code 10 = .ok (.aload_n 1, 1) := by decide +kernel
theorem d_j52_24_11 : decode jdk_52_method_24_code 11 = .ok (.areturn, 1) := by decide +kernel
theorem d_j42_139_34 : decode jdk_42_method_139_code 34 = .ok (.iconst 1, 1) := by decide +kernel
theorem d_j42_139_35 : decode jdk_42_method_139_code 35 = .ok (.invokespecial 209, 3) := by decide +kernel
theorem d_j42_151_0 : decode jdk_42_method_151_code 0 = .ok (.aload_n 0, 1) := by decide +kernel
theorem d_j42_151_1 : decode jdk_42_method_151_code 1 = .ok (.invokespecial 1, 3) := by decide +kernel
theorem d_j42_151_4 : decode jdk_42_method_151_code 4 = .ok (.aload_n 0, 1) := by decide +kernel
theorem d_j42_151_5 : decode jdk_42_method_151_code 5 = .ok (.aload_n 1, 1) := by decide +kernel
theorem d_j42_151_6 : decode jdk_42_method_151_code 6 = .ok (.putfield 9, 3) := by decide +kernel
theorem d_j42_151_9 : decode jdk_42_method_151_code 9 = .ok (.aload_n 0, 1) := by decide +kernel
theorem d_j42_151_10 : decode jdk_42_method_151_code 10 = .ok (.iload_n 2, 1) := by decide +kernel
theorem d_j42_151_11 : decode jdk_42_method_151_code 11 = .ok (.putfield 15, 3) := by decide +kernel
theorem d_j42_151_14 : decode jdk_42_method_151_code 14 = .ok (.return_, 1) := by decide +kernel
theorem d_j42_139_38 : decode jdk_42_method_139_code 38 = .ok (.areturn, 1) := by decide +kernel
theorem d_j42_139_13 : decode jdk_42_method_139_code 13 = .ok (.new 10, 3) := by decide +kernel
theorem d_j42_139_16 : decode jdk_42_method_139_code 16 = .ok (.dup, 1) := by decide +kernel
theorem d_j42_139_17 : decode jdk_42_method_139_code 17 = .ok (.iload_n 0, 1) := by decide +kernel
theorem d_j42_139_18 : decode jdk_42_method_139_code 18 = .ok (.invokestatic 1018, 3) := by decide +kernel
theorem d_j43_46_0 : decode jdk_43_method_46_code 0 = .ok (.iconst 1, 1) := by decide +kernel
theorem d_j43_46_1 : decode jdk_43_method_46_code 1 = .ok (.newarray .byte, 2) := by decide +kernel
theorem d_j43_46_3 : decode jdk_43_method_46_code 3 = .ok (.dup, 1) := by decide +kernel
theorem d_j43_46_4 : decode jdk_43_method_46_code 4 = .ok (.iconst 0, 1) := by decide +kernel
theorem d_j43_46_5 : decode jdk_43_method_46_code 5 = .ok (.iload_n 0, 1) := by decide +kernel
theorem d_j43_46_6 : decode jdk_43_method_46_code 6 = .ok (.i2b, 1) := by decide +kernel
theorem d_j43_46_7 : decode jdk_43_method_46_code 7 = .ok (.bastore, 1) := by decide +kernel
theorem d_j43_46_8 : decode jdk_43_method_46_code 8 = .ok (.areturn, 1) := by decide +kernel
theorem d_j42_139_21 : decode jdk_42_method_139_code 21 = .ok (.iconst 0, 1) := by decide +kernel
theorem d_j42_139_22 : decode jdk_42_method_139_code 22 = .ok (.invokespecial 209, 3) := by decide +kernel
theorem d_j42_139_25 : decode jdk_42_method_139_code 25 = .ok (.areturn, 1) := by decide +kernel
theorem d_g70_2_0 : decode prog_70_method_2_code 0 = .ok (.aload_n 1, 1) := by decide +kernel
theorem d_g70_2_1 : decode prog_70_method_2_code 1 = .ok (.bipush 10, 2) := by decide +kernel
theorem d_g70_2_3 : decode prog_70_method_2_code 3 = .ok (.invokevirtual 7, 3) := by decide +kernel
theorem d_j42_79_0 : decode jdk_42_method_79_code 0 = .ok (.aload_n 0, 1) := by decide +kernel
theorem d_j42_79_1 : decode jdk_42_method_79_code 1 = .ok (.iload_n 1, 1) := by decide +kernel
theorem d_j42_79_2 : decode jdk_42_method_79_code 2 = .ok (.iconst 0, 1) := by decide +kernel
theorem d_j42_79_3 : decode jdk_42_method_79_code 3 = .ok (.invokevirtual 633, 3) := by decide +kernel
theorem d_j42_80_0 : decode jdk_42_method_80_code 0 = .ok (.aload_n 0, 1) := by decide +kernel
theorem d_j42_80_1 : decode jdk_42_method_80_code 1 = .ok (.invokevirtual 492, 3) := by decide +kernel
theorem d_j42_154_0 : decode jdk_42_method_154_code 0 = .ok (.getstatic 38, 3) := by decide +kernel
theorem d_j42_154_3 : decode jdk_42_method_154_code 3 = .ok (.ifCond .eq 14, 3) := by decide +kernel
theorem d_j42_154_6 : decode jdk_42_method_154_code 6 = .ok (.aload_n 0, 1) := by decide +kernel
theorem d_j42_154_7 : decode jdk_42_method_154_code 7 = .ok (.getfield 15, 3) := by decide +kernel
theorem d_j42_154_10 : decode jdk_42_method_154_code 10 = .ok (.ifCond .ne 7, 3) := by decide +kernel
theorem d_j42_154_13 : decode jdk_42_method_154_code 13 = .ok (.iconst 1, 1) := by decide +kernel
theorem d_j42_154_14 : decode jdk_42_method_154_code 14 = .ok (.goto 4, 3) := by decide +kernel
theorem d_j42_154_18 : decode jdk_42_method_154_code 18 = .ok (.ireturn, 1) := by decide +kernel
theorem d_j42_80_4 : decode jdk_42_method_80_code 4 = .ok (.ifCond .eq 19, 3) := by decide +kernel
theorem d_j42_80_7 : decode jdk_42_method_80_code 7 = .ok (.aload_n 0, 1) := by decide +kernel
theorem d_j42_80_8 : decode jdk_42_method_80_code 8 = .ok (.getfield 9, 3) := by decide +kernel
theorem d_j42_80_11 : decode jdk_42_method_80_code 11 = .ok (.iload_n 1, 1) := by decide +kernel
theorem d_j42_80_12 : decode jdk_42_method_80_code 12 = .ok (.iload_n 2, 1) := by decide +kernel
theorem d_j42_80_13 : decode jdk_42_method_80_code 13 = .ok (.aload_n 0, 1) := by decide +kernel
theorem d_j42_80_14 : decode jdk_42_method_80_code 14 = .ok (.invokevirtual 505, 3) := by decide +kernel
theorem d_j42_54_0 : decode jdk_42_method_54_code 0 = .ok (.aload_n 0, 1) := by decide +kernel
theorem d_j42_54_1 : decode jdk_42_method_54_code 1 = .ok (.getfield 9, 3) := by decide +kernel
theorem d_j42_54_4 : decode jdk_42_method_54_code 4 = .ok (.arraylength, 1) := by decide +kernel
theorem d_j42_54_5 : decode jdk_42_method_54_code 5 = .ok (.aload_n 0, 1) := by decide +kernel
theorem d_j42_54_6 : decode jdk_42_method_54_code 6 = .ok (.invokevirtual 335, 3) := by decide +kernel
theorem d_j42_152_0 : decode jdk_42_method_152_code 0 = .ok (.getstatic 38, 3) := by decide +kernel
theorem d_j42_152_3 : decode jdk_42_method_152_code 3 = .ok (.ifCond .eq 10, 3) := by decide +kernel
theorem d_j42_152_6 : decode jdk_42_method_152_code 6 = .ok (.aload_n 0, 1) := by decide +kernel
theorem d_j42_152_7 : decode jdk_42_method_152_code 7 = .ok (.getfield 15, 3) := by decide +kernel
theorem d_j42_152_10 : decode jdk_42_method_152_code 10 = .ok (.goto 4, 3) := by decide +kernel
theorem d_j42_152_14 : decode jdk_42_method_152_code 14 = .ok (.ireturn, 1) := by decide +kernel
theorem d_j42_54_9 : decode jdk_42_method_54_code 9 = .ok (.ishr, 1) := by decide +kernel
theorem d_j42_54_10 : decode jdk_42_method_54_code 10 = .ok (.ireturn, 1) := by decide +kernel
theorem d_j42_80_17 : decode jdk_42_method_80_code 17 = .ok (.invokestatic 637, 3) := by decide +kernel
theorem d_j43_22_0 : decode jdk_43_method_22_code 0 = .ok (.iload_n 1, 1) := by decide +kernel
theorem d_j43_22_1 : decode jdk_43_method_22_code 1 = .ok (.invokestatic 88, 3) := by decide +kernel
theorem d_j43_4_0 : decode jdk_43_method_4_code 0 = .ok (.iload_n 0, 1) := by decide +kernel
theorem d_j43_4_1 : decode jdk_43_method_4_code 1 = .ok (.ifCond .lt 14, 3) := by decide +kernel
theorem d_j43_4_4 : decode jdk_43_method_4_code 4 = .ok (.iload_n 0, 1) := by decide +kernel
theorem d_j43_4_5 : decode jdk_43_method_4_code 5 = .ok (.sipush 255, 3) := by decide +kernel
theorem d_j43_4_8 : decode jdk_43_method_4_code 8 = .ok (.if_icmp .gt 7, 3) := by decide +kernel
theorem d_j43_4_11 : decode jdk_43_method_4_code 11 = .ok (.iconst 1, 1) := by decide +kernel
theorem d_j43_4_12 : decode jdk_43_method_4_code 12 = .ok (.goto 4, 3) := by decide +kernel
theorem d_j43_4_16 : decode jdk_43_method_4_code 16 = .ok (.ireturn, 1) := by decide +kernel
theorem d_j43_22_4 : decode jdk_43_method_22_code 4 = .ok (.ifCond .ne 5, 3) := by decide +kernel
theorem d_j43_22_9 : decode jdk_43_method_22_code 9 = .ok (.iload_n 2, 1) := by decide +kernel
theorem d_j43_22_10 : decode jdk_43_method_22_code 10 = .ok (.iconst 0, 1) := by decide +kernel
theorem d_j43_22_11 : decode jdk_43_method_22_code 11 = .ok (.invokestatic 92, 3) := by decide +kernel
theorem d_j29_65_0 : decode jdk_29_method_65_code 0 = .ok (.iload_n 0, 1) := by decide +kernel
theorem d_j29_65_1 : decode jdk_29_method_65_code 1 = .ok (.iload_n 1, 1) := by decide +kernel
theorem d_j29_65_2 : decode jdk_29_method_65_code 2 = .ok (.if_icmp .lt 7, 3) := by decide +kernel
theorem d_j29_65_5 : decode jdk_29_method_65_code 5 = .ok (.iload_n 0, 1) := by decide +kernel
theorem d_j29_65_6 : decode jdk_29_method_65_code 6 = .ok (.goto 4, 3) := by decide +kernel
theorem d_j29_65_10 : decode jdk_29_method_65_code 10 = .ok (.ireturn, 1) := by decide +kernel
theorem d_j43_22_14 : decode jdk_43_method_22_code 14 = .ok (.istore_n 2, 1) := by decide +kernel
theorem d_j43_22_15 : decode jdk_43_method_22_code 15 = .ok (.iload_n 3, 1) := by decide +kernel
theorem d_j43_22_16 : decode jdk_43_method_22_code 16 = .ok (.aload_n 0, 1) := by decide +kernel
theorem d_j43_22_17 : decode jdk_43_method_22_code 17 = .ok (.arraylength, 1) := by decide +kernel
theorem d_j43_22_18 : decode jdk_43_method_22_code 18 = .ok (.invokestatic 38, 3) := by decide +kernel
theorem d_j29_69_0 : decode jdk_29_method_69_code 0 = .ok (.iload_n 0, 1) := by decide +kernel
theorem d_j29_69_1 : decode jdk_29_method_69_code 1 = .ok (.iload_n 1, 1) := by decide +kernel
theorem d_j29_69_2 : decode jdk_29_method_69_code 2 = .ok (.if_icmp .gt 7, 3) := by decide +kernel
theorem d_j29_69_5 : decode jdk_29_method_69_code 5 = .ok (.iload_n 0, 1) := by decide +kernel
theorem d_j29_69_6 : decode jdk_29_method_69_code 6 = .ok (.goto 4, 3) := by decide +kernel
theorem d_j29_69_10 : decode jdk_29_method_69_code 10 = .ok (.ireturn, 1) := by decide +kernel
theorem d_j43_22_21 : decode jdk_43_method_22_code 21 = .ok (.istore_n 3, 1) := by decide +kernel
theorem d_j43_22_22 : decode jdk_43_method_22_code 22 = .ok (.iload_n 2, 1) := by decide +kernel
theorem d_j43_22_23 : decode jdk_43_method_22_code 23 = .ok (.iload_n 3, 1) := by decide +kernel
theorem d_j43_22_24 : decode jdk_43_method_22_code 24 = .ok (.if_icmp .lt 5, 3) := by decide +kernel
theorem d_j43_22_27 : decode jdk_43_method_22_code 27 = .ok (.iconst (-1), 1) := by decide +kernel
theorem d_j43_22_28 : decode jdk_43_method_22_code 28 = .ok (.ireturn, 1) := by decide +kernel
theorem d_j42_80_20 : decode jdk_42_method_80_code 20 = .ok (.goto 16, 3) := by decide +kernel
theorem d_j42_80_36 : decode jdk_42_method_80_code 36 = .ok (.ireturn, 1) := by decide +kernel
theorem d_j42_79_6 : decode jdk_42_method_79_code 6 = .ok (.ireturn, 1) := by decide +kernel
theorem d_g70_2_6 : decode prog_70_method_2_code 6 = .ok (.ifCond .ge 12, 3) := by decide +kernel
theorem d_g70_2_9 : decode prog_70_method_2_code 9 = .ok (.aload_n 1, 1) := by decide +kernel
theorem d_g70_2_10 : decode prog_70_method_2_code 10 = .ok (.bipush 13, 2) := by decide +kernel
theorem d_g70_2_12 : decode prog_70_method_2_code 12 = .ok (.invokevirtual 7, 3) := by decide +kernel
theorem d_g70_2_15 : decode prog_70_method_2_code 15 = .ok (.ifCond .lt 23, 3) := by decide +kernel
theorem d_g70_2_38 : decode prog_70_method_2_code 38 = .ok (.aload_n 1, 1) := by decide +kernel
theorem d_g70_2_39 : decode prog_70_method_2_code 39 = .ok (.areturn, 1) := by decide +kernel
theorem d_2_0 : decode method_2_code 0 = .ok (.iload_n 0, 1) := by decide +kernel
theorem d_2_1 : decode method_2_code 1 = .ok (.ldc 7, 2) := by decide +kernel
theorem d_2_3 : decode method_2_code 3 = .ok (.iand, 1) := by decide +kernel
theorem d_2_4 : decode method_2_code 4 = .ok (.i2c, 1) := by decide +kernel
theorem d_2_5 : decode method_2_code 5 = .ok (.istore_n 1, 1) := by decide +kernel
theorem d_2_6 : decode method_2_code 6 = .ok (.iload_n 1, 1) := by decide +kernel
theorem d_2_7 : decode method_2_code 7 = .ok (.bipush 10, 2) := by decide +kernel
theorem d_2_9 : decode method_2_code 9 = .ok (.if_icmp .eq 9, 3) := by decide +kernel
theorem d_2_18 : decode method_2_code 18 = .ok (.iload_n 1, 1) := by decide +kernel
theorem d_2_19 : decode method_2_code 19 = .ok (.iconst 1, 1) := by decide +kernel
theorem d_2_20 : decode method_2_code 20 = .ok (.iadd, 1) := by decide +kernel
theorem d_2_21 : decode method_2_code 21 = .ok (.i2c, 1) := by decide +kernel
theorem d_2_22 : decode method_2_code 22 = .ok (.ireturn, 1) := by decide +kernel
theorem d_2_12 : decode method_2_code 12 = .ok (.iload_n 1, 1) := by decide +kernel
theorem d_2_13 : decode method_2_code 13 = .ok (.bipush 13, 2) := by decide +kernel
theorem d_2_15 : decode method_2_code 15 = .ok (.if_icmp .ne 8, 3) := by decide +kernel
theorem d_2_23 : decode method_2_code 23 = .ok (.iload_n 1, 1) := by decide +kernel
theorem d_2_24 : decode method_2_code 24 = .ok (.ireturn, 1) := by decide +kernel
theorem d_j42_149_27 : decode jdk_42_method_149_code 27 = .ok (.getstatic 38, 3) := by decide +kernel
theorem d_j42_149_30 : decode jdk_42_method_149_code 30 = .ok (.ifCond .eq 28, 3) := by decide +kernel
theorem d_j42_149_33 : decode jdk_42_method_149_code 33 = .ok (.aload_n 1, 1) := by decide +kernel
theorem d_j42_149_34 : decode jdk_42_method_149_code 34 = .ok (.iload_n 2, 1) := by decide +kernel
theorem d_j42_149_35 : decode jdk_42_method_149_code 35 = .ok (.iload_n 3, 1) := by decide +kernel
theorem d_j42_149_36 : decode jdk_42_method_149_code 36 = .ok (.invokestatic 177, 3) := by decide +kernel
theorem d_j52_16_0 : decode jdk_52_method_16_code 0 = .ok (.iload_n 2, 1) := by decide +kernel
theorem d_j52_16_1 : decode jdk_52_method_16_code 1 = .ok (.newarray .byte, 2) := by decide +kernel
theorem d_j52_16_3 : decode jdk_52_method_16_code 3 = .ok (.astore_n 3, 1) := by decide +kernel
theorem d_j52_16_4 : decode jdk_52_method_16_code 4 = .ok (.aload_n 0, 1) := by decide +kernel
theorem d_j52_16_5 : decode jdk_52_method_16_code 5 = .ok (.iload_n 1, 1) := by decide +kernel
theorem d_j52_16_6 : decode jdk_52_method_16_code 6 = .ok (.aload_n 3, 1) := by decide +kernel
theorem d_j52_16_7 : decode jdk_52_method_16_code 7 = .ok (.iconst 0, 1) := by decide +kernel
theorem d_j52_16_8 : decode jdk_52_method_16_code 8 = .ok (.iload_n 2, 1) := by decide +kernel
theorem d_j52_16_9 : decode jdk_52_method_16_code 9 = .ok (.invokestatic 115, 3) := by decide +kernel
theorem d_j52_21_0 : decode jdk_52_method_21_code 0 = .ok (.iconst 0, 1) := by decide +kernel
theorem d_j52_21_1 : decode jdk_52_method_21_code 1 = .ok (.istore 5, 2) := by decide +kernel
theorem d_j52_21_3 : decode jdk_52_method_21_code 3 = .ok (.iload 5, 2) := by decide +kernel
theorem d_j52_21_5 : decode jdk_52_method_21_code 5 = .ok (.iload 4, 2) := by decide +kernel
theorem d_j52_21_7 : decode jdk_52_method_21_code 7 = .ok (.if_icmp .ge 37, 3) := by decide +kernel
theorem d_j52_21_10 : decode jdk_52_method_21_code 10 = .ok (.aload_n 0, 1) := by decide +kernel
theorem d_j52_21_11 : decode jdk_52_method_21_code 11 = .ok (.iload_n 1, 1) := by decide +kernel
theorem d_j52_21_12 : decode jdk_52_method_21_code 12 = .ok (.caload, 1) := by decide +kernel
theorem d_j52_21_13 : decode jdk_52_method_21_code 13 = .ok (.istore 6, 2) := by decide +kernel
theorem d_j52_21_15 : decode jdk_52_method_21_code 15 = .ok (.iload 6, 2) := by decide +kernel
theorem d_j52_21_17 : decode jdk_52_method_21_code 17 = .ok (.sipush 255, 3) := by decide +kernel
theorem d_j52_21_20 : decode jdk_52_method_21_code 20 = .ok (.if_icmp .le 6, 3) := by decide +kernel
theorem d_j52_21_26 : decode jdk_52_method_21_code 26 = .ok (.aload_n 2, 1) := by decide +kernel
theorem d_j52_21_27 : decode jdk_52_method_21_code 27 = .ok (.iload_n 3, 1) := by decide +kernel
theorem d_j52_21_28 : decode jdk_52_method_21_code 28 = .ok (.iload 6, 2) := by decide +kernel
theorem d_j52_21_30 : decode jdk_52_method_21_code 30 = .ok (.i2b, 1) := by decide +kernel
theorem d_j52_21_31 : decode jdk_52_method_21_code 31 = .ok (.bastore, 1) := by decide +kernel
theorem d_j52_21_32 : decode jdk_52_method_21_code 32 = .ok (.iinc 1 1, 3) := by decide +kernel
theorem d_j52_21_35 : decode jdk_52_method_21_code 35 = .ok (.iinc 3 1, 3) := by decide +kernel
theorem d_j52_21_38 : decode jdk_52_method_21_code 38 = .ok (.iinc 5 1, 3) := by decide +kernel
theorem d_j52_21_41 : decode jdk_52_method_21_code 41 = .ok (.goto (-38), 3) := by decide +kernel
theorem d_j52_21_44 : decode jdk_52_method_21_code 44 = .ok (.iload 4, 2) := by decide +kernel
theorem d_j52_21_46 : decode jdk_52_method_21_code 46 = .ok (.ireturn, 1) := by decide +kernel
theorem d_j52_21_23 : decode jdk_52_method_21_code 23 = .ok (.iload 5, 2) := by decide +kernel
theorem d_j52_21_25 : decode jdk_52_method_21_code 25 = .ok (.ireturn, 1) := by decide +kernel
theorem d_j52_16_12 : decode jdk_52_method_16_code 12 = .ok (.istore 4, 2) := by decide +kernel
theorem d_j52_16_14 : decode jdk_52_method_16_code 14 = .ok (.iload 4, 2) := by decide +kernel
theorem d_j52_16_16 : decode jdk_52_method_16_code 16 = .ok (.iload_n 2, 1) := by decide +kernel
theorem d_j52_16_17 : decode jdk_52_method_16_code 17 = .ok (.if_icmp .eq 40, 3) := by decide +kernel
theorem d_j52_16_57 : decode jdk_52_method_16_code 57 = .ok (.aload_n 3, 1) := by decide +kernel
theorem d_j52_16_58 : decode jdk_52_method_16_code 58 = .ok (.areturn, 1) := by decide +kernel
theorem d_j52_16_20 : decode jdk_52_method_16_code 20 = .ok (.aload_n 0, 1) := by decide +kernel
theorem d_j52_16_21 : decode jdk_52_method_16_code 21 = .ok (.iload_n 1, 1) := by decide +kernel
theorem d_j52_16_22 : decode jdk_52_method_16_code 22 = .ok (.iload_n 2, 1) := by decide +kernel
theorem d_j52_16_23 : decode jdk_52_method_16_code 23 = .ok (.invokestatic 119, 3) := by decide +kernel
theorem d_j52_14_0 : decode jdk_52_method_14_code 0 = .ok (.iload_n 2, 1) := by decide +kernel
theorem d_j52_14_1 : decode jdk_52_method_14_code 1 = .ok (.invokestatic 107, 3) := by decide +kernel
theorem d_j52_2_0 : decode jdk_52_method_2_code 0 = .ok (.iload_n 0, 1) := by decide +kernel
theorem d_j52_2_1 : decode jdk_52_method_2_code 1 = .ok (.invokestatic 11, 3) := by decide +kernel
theorem d_j52_3_0 : decode jdk_52_method_3_code 0 = .ok (.iload_n 0, 1) := by decide +kernel
theorem d_j52_3_1 : decode jdk_52_method_3_code 1 = .ok (.ifCond .ge 11, 3) := by decide +kernel
theorem d_j52_3_12 : decode jdk_52_method_3_code 12 = .ok (.iload_n 0, 1) := by decide +kernel
theorem d_j52_3_13 : decode jdk_52_method_3_code 13 = .ok (.ldc 20, 2) := by decide +kernel
theorem d_j52_3_15 : decode jdk_52_method_3_code 15 = .ok (.if_icmp .lt 40, 3) := by decide +kernel
theorem d_j52_3_55 : decode jdk_52_method_3_code 55 = .ok (.iload_n 0, 1) := by decide +kernel
theorem d_j52_3_56 : decode jdk_52_method_3_code 56 = .ok (.iconst 1, 1) := by decide +kernel
theorem d_j52_3_57 : decode jdk_52_method_3_code 57 = .ok (.ishl, 1) := by decide +kernel
theorem d_j52_3_58 : decode jdk_52_method_3_code 58 = .ok (.ireturn, 1) := by decide +kernel
theorem d_j52_2_4 : decode jdk_52_method_2_code 4 = .ok (.newarray .byte, 2) := by decide +kernel
theorem d_j52_2_6 : decode jdk_52_method_2_code 6 = .ok (.areturn, 1) := by decide +kernel
theorem d_j52_14_4 : decode jdk_52_method_14_code 4 = .ok (.astore_n 3, 1) := by decide +kernel
theorem d_j52_14_5 : decode jdk_52_method_14_code 5 = .ok (.iconst 0, 1) := by decide +kernel
theorem d_j52_14_6 : decode jdk_52_method_14_code 6 = .ok (.istore 4, 2) := by decide +kernel
theorem d_j52_14_8 : decode jdk_52_method_14_code 8 = .ok (.iload 4, 2) := by decide +kernel
theorem d_j52_14_10 : decode jdk_52_method_14_code 10 = .ok (.iload_n 2, 1) := by decide +kernel
theorem d_j52_14_11 : decode jdk_52_method_14_code 11 = .ok (.if_icmp .ge 21, 3) := by decide +kernel
theorem d_j52_14_14 : decode jdk_52_method_14_code 14 = .ok (.aload_n 3, 1) := by decide +kernel
theorem d_j52_14_15 : decode jdk_52_method_14_code 15 = .ok (.iload 4, 2) := by decide +kernel
theorem d_j52_14_17 : decode jdk_52_method_14_code 17 = .ok (.aload_n 0, 1) := by decide +kernel
theorem d_j52_14_18 : decode jdk_52_method_14_code 18 = .ok (.iload_n 1, 1) := by decide +kernel
theorem d_j52_14_19 : decode jdk_52_method_14_code 19 = .ok (.caload, 1) := by decide +kernel
theorem d_j52_14_20 : decode jdk_52_method_14_code 20 = .ok (.invokestatic 111, 3) := by decide +kernel
theorem d_j52_14_23 : decode jdk_52_method_14_code 23 = .ok (.iinc 1 1, 3) := by decide +kernel
theorem d_j52_14_26 : decode jdk_52_method_14_code 26 = .ok (.iinc 4 1, 3) := by decide +kernel
theorem d_j52_14_29 : decode jdk_52_method_14_code 29 = .ok (.goto (-21), 3) := by decide +kernel
theorem d_j52_14_32 : decode jdk_52_method_14_code 32 = .ok (.aload_n 3, 1) := by decide +kernel
theorem d_j52_14_33 : decode jdk_52_method_14_code 33 = .ok (.areturn, 1) := by decide +kernel
theorem d_j52_16_26 : decode jdk_52_method_16_code 26 = .ok (.astore 5, 2) := by decide +kernel
theorem d_j52_16_28 : decode jdk_52_method_16_code 28 = .ok (.aload 5, 2) := by decide +kernel
theorem d_j52_16_30 : decode jdk_52_method_16_code 30 = .ok (.iload 4, 2) := by decide +kernel
theorem d_j52_16_32 : decode jdk_52_method_16_code 32 = .ok (.invokestatic 71, 3) := by decide +kernel
theorem d_j52_5_0 : decode jdk_52_method_5_code 0 = .ok (.getstatic 44, 3) := by decide +kernel
theorem d_j52_5_3 : decode jdk_52_method_5_code 3 = .ok (.ifCond .ne 25, 3) := by decide +kernel
theorem d_j52_5_28 : decode jdk_52_method_5_code 28 = .ok (.iload_n 1, 1) := by decide +kernel
theorem d_j52_5_29 : decode jdk_52_method_5_code 29 = .ok (.iconst 1, 1) := by decide +kernel
theorem d_j52_5_30 : decode jdk_52_method_5_code 30 = .ok (.ishl, 1) := by decide +kernel
theorem d_j52_5_31 : decode jdk_52_method_5_code 31 = .ok (.istore_n 1, 1) := by decide +kernel
theorem d_j52_5_32 : decode jdk_52_method_5_code 32 = .ok (.aload_n 0, 1) := by decide +kernel
theorem d_j52_5_33 : decode jdk_52_method_5_code 33 = .ok (.iload_n 1, 1) := by decide +kernel
theorem d_j52_5_34 : decode jdk_52_method_5_code 34 = .ok (.iinc 1 1, 3) := by decide +kernel
theorem d_j52_5_37 : decode jdk_52_method_5_code 37 = .ok (.baload, 1) := by decide +kernel
theorem d_j52_5_38 : decode jdk_52_method_5_code 38 = .ok (.sipush 255, 3) := by decide +kernel
theorem d_j52_5_41 : decode jdk_52_method_5_code 41 = .ok (.iand, 1) := by decide +kernel
theorem d_j52_5_42 : decode jdk_52_method_5_code 42 = .ok (.getstatic 59, 3) := by decide +kernel
theorem d_j52_5_45 : decode jdk_52_method_5_code 45 = .ok (.ishl, 1) := by decide +kernel
theorem d_j52_5_46 : decode jdk_52_method_5_code 46 = .ok (.aload_n 0, 1) := by decide +kernel
theorem d_j52_5_47 : decode jdk_52_method_5_code 47 = .ok (.iload_n 1, 1) := by decide +kernel
theorem d_j52_5_48 : decode jdk_52_method_5_code 48 = .ok (.baload, 1) := by decide +kernel
theorem d_j52_5_49 : decode jdk_52_method_5_code 49 = .ok (.sipush 255, 3) := by decide +kernel
theorem d_j52_5_52 : decode jdk_52_method_5_code 52 = .ok (.iand, 1) := by decide +kernel
theorem d_j52_5_53 : decode jdk_52_method_5_code 53 = .ok (.getstatic 63, 3) := by decide +kernel
theorem d_j52_5_56 : decode jdk_52_method_5_code 56 = .ok (.ishl, 1) := by decide +kernel
theorem d_j52_5_57 : decode jdk_52_method_5_code 57 = .ok (.ior, 1) := by decide +kernel
theorem d_j52_5_58 : decode jdk_52_method_5_code 58 = .ok (.i2c, 1) := by decide +kernel
theorem d_j52_5_59 : decode jdk_52_method_5_code 59 = .ok (.ireturn, 1) := by decide +kernel
theorem d_j52_16_35 : decode jdk_52_method_16_code 35 = .ok (.sipush 255, 3) := by decide +kernel
theorem d_j52_16_38 : decode jdk_52_method_16_code 38 = .ok (.if_icmp .gt 16, 3) := by decide +kernel
theorem d_j52_16_54 : decode jdk_52_method_16_code 54 = .ok (.aload 5, 2) := by decide +kernel
theorem d_j52_16_56 : decode jdk_52_method_16_code 56 = .ok (.areturn, 1) := by decide +kernel
theorem d_j42_149_39 : decode jdk_42_method_149_code 39 = .ok (.astore 5, 2) := by decide +kernel
theorem d_j42_149_41 : decode jdk_42_method_149_code 41 = .ok (.aload_n 0, 1) := by decide +kernel
theorem d_j42_149_42 : decode jdk_42_method_149_code 42 = .ok (.aload 5, 2) := by decide +kernel
theorem d_j42_149_44 : decode jdk_42_method_149_code 44 = .ok (.iload_n 3, 1) := by decide +kernel
theorem d_j42_149_45 : decode jdk_42_method_149_code 45 = .ok (.invokestatic 47, 3) := by decide +kernel
theorem d_j52_15_0 : decode jdk_52_method_15_code 0 = .ok (.iload_n 1, 1) := by decide +kernel
theorem d_j52_15_1 : decode jdk_52_method_15_code 1 = .ok (.aload_n 0, 1) := by decide +kernel
theorem d_j52_15_2 : decode jdk_52_method_15_code 2 = .ok (.arraylength, 1) := by decide +kernel
theorem d_j52_15_3 : decode jdk_52_method_15_code 3 = .ok (.isub, 1) := by decide +kernel
theorem d_j52_15_4 : decode jdk_52_method_15_code 4 = .ok (.bipush 31, 2) := by decide +kernel
theorem d_j52_15_6 : decode jdk_52_method_15_code 6 = .ok (.iushr, 1) := by decide +kernel
theorem d_j52_15_7 : decode jdk_52_method_15_code 7 = .ok (.i2b, 1) := by decide +kernel
theorem d_j52_15_8 : decode jdk_52_method_15_code 8 = .ok (.ireturn, 1) := by decide +kernel
theorem d_j42_149_48 : decode jdk_42_method_149_code 48 = .ok (.putfield 15, 3) := by decide +kernel
theorem d_j42_149_51 : decode jdk_42_method_149_code 51 = .ok (.aload_n 0, 1) := by decide +kernel
theorem d_j42_149_52 : decode jdk_42_method_149_code 52 = .ok (.aload 5, 2) := by decide +kernel
theorem d_j42_149_54 : decode jdk_42_method_149_code 54 = .ok (.putfield 9, 3) := by decide +kernel
theorem d_j42_149_57 : decode jdk_42_method_149_code 57 = .ok (.return_, 1) := by decide +kernel
theorem d_j43_22_29 : decode jdk_43_method_22_code 29 = .ok (.aload_n 0, 1) := by decide +kernel
theorem d_j43_22_30 : decode jdk_43_method_22_code 30 = .ok (.iload_n 1, 1) := by decide +kernel
theorem d_j43_22_31 : decode jdk_43_method_22_code 31 = .ok (.iload_n 2, 1) := by decide +kernel
theorem d_j43_22_32 : decode jdk_43_method_22_code 32 = .ok (.iload_n 3, 1) := by decide +kernel
theorem d_j43_22_33 : decode jdk_43_method_22_code 33 = .ok (.invokestatic 95, 3) := by decide +kernel
theorem d_j43_23_0 : decode jdk_43_method_23_code 0 = .ok (.iload_n 1, 1) := by decide +kernel
theorem d_j43_23_1 : decode jdk_43_method_23_code 1 = .ok (.i2b, 1) := by decide +kernel
theorem d_j43_23_2 : decode jdk_43_method_23_code 2 = .ok (.istore 4, 2) := by decide +kernel
theorem d_j43_23_4 : decode jdk_43_method_23_code 4 = .ok (.iload_n 2, 1) := by decide +kernel
theorem d_j43_23_5 : decode jdk_43_method_23_code 5 = .ok (.istore 5, 2) := by decide +kernel
theorem d_j43_23_7 : decode jdk_43_method_23_code 7 = .ok (.iload 5, 2) := by decide +kernel
theorem d_j43_23_9 : decode jdk_43_method_23_code 9 = .ok (.iload_n 3, 1) := by decide +kernel
theorem d_j43_23_10 : decode jdk_43_method_23_code 10 = .ok (.if_icmp .ge 21, 3) := by decide +kernel
theorem d_j43_23_13 : decode jdk_43_method_23_code 13 = .ok (.aload_n 0, 1) := by decide +kernel
theorem d_j43_23_14 : decode jdk_43_method_23_code 14 = .ok (.iload 5, 2) := by decide +kernel
theorem d_j43_23_16 : decode jdk_43_method_23_code 16 = .ok (.baload, 1) := by decide +kernel
theorem d_j43_23_17 : decode jdk_43_method_23_code 17 = .ok (.iload 4, 2) := by decide +kernel
theorem d_j43_23_19 : decode jdk_43_method_23_code 19 = .ok (.if_icmp .ne 6, 3) := by decide +kernel
theorem d_j43_23_25 : decode jdk_43_method_23_code 25 = .ok (.iinc 5 1, 3) := by decide +kernel
theorem d_j43_23_28 : decode jdk_43_method_23_code 28 = .ok (.goto (-21), 3) := by decide +kernel
theorem d_j43_23_31 : decode jdk_43_method_23_code 31 = .ok (.iconst (-1), 1) := by decide +kernel
theorem d_j43_23_32 : decode jdk_43_method_23_code 32 = .ok (.ireturn, 1) := by decide +kernel
theorem d_j43_22_36 : decode jdk_43_method_22_code 36 = .ok (.ireturn, 1) := by decide +kernel
theorem d_j42_154_17 : decode jdk_42_method_154_code 17 = .ok (.iconst 0, 1) := by decide +kernel
theorem d_j42_80_23 : decode jdk_42_method_80_code 23 = .ok (.aload_n 0, 1) := by decide +kernel
theorem d_j42_80_24 : decode jdk_42_method_80_code 24 = .ok (.getfield 9, 3) := by decide +kernel
theorem d_j42_80_27 : decode jdk_42_method_80_code 27 = .ok (.iload_n 1, 1) := by decide +kernel
theorem d_j42_80_28 : decode jdk_42_method_80_code 28 = .ok (.iload_n 2, 1) := by decide +kernel
theorem d_j42_80_29 : decode jdk_42_method_80_code 29 = .ok (.aload_n 0, 1) := by decide +kernel
theorem d_j42_80_30 : decode jdk_42_method_80_code 30 = .ok (.invokevirtual 505, 3) := by decide +kernel
theorem d_j42_80_33 : decode jdk_42_method_80_code 33 = .ok (.invokestatic 640, 3) := by decide +kernel
theorem d_j52_40_0 : decode jdk_52_method_40_code 0 = .ok (.iload_n 2, 1) := by decide +kernel
theorem d_j52_40_1 : decode jdk_52_method_40_code 1 = .ok (.iconst 0, 1) := by decide +kernel
theorem d_j52_40_2 : decode jdk_52_method_40_code 2 = .ok (.invokestatic 224, 3) := by decide +kernel
theorem d_j52_40_5 : decode jdk_52_method_40_code 5 = .ok (.istore_n 2, 1) := by decide +kernel
theorem d_j52_40_6 : decode jdk_52_method_40_code 6 = .ok (.iload_n 3, 1) := by decide +kernel
theorem d_j52_40_7 : decode jdk_52_method_40_code 7 = .ok (.aload_n 0, 1) := by decide +kernel
theorem d_j52_40_8 : decode jdk_52_method_40_code 8 = .ok (.arraylength, 1) := by decide +kernel
theorem d_j52_40_9 : decode jdk_52_method_40_code 9 = .ok (.iconst 1, 1) := by decide +kernel
theorem d_j52_40_10 : decode jdk_52_method_40_code 10 = .ok (.ishr, 1) := by decide +kernel
theorem d_j52_40_11 : decode jdk_52_method_40_code 11 = .ok (.invokestatic 183, 3) := by decide +kernel
theorem d_j52_40_14 : decode jdk_52_method_40_code 14 = .ok (.istore_n 3, 1) := by decide +kernel
theorem d_j52_40_15 : decode jdk_52_method_40_code 15 = .ok (.iload_n 2, 1) := by decide +kernel
theorem d_j52_40_16 : decode jdk_52_method_40_code 16 = .ok (.iload_n 3, 1) := by decide +kernel
theorem d_j52_40_17 : decode jdk_52_method_40_code 17 = .ok (.if_icmp .lt 5, 3) := by decide +kernel
theorem d_j52_40_22 : decode jdk_52_method_40_code 22 = .ok (.iload_n 1, 1) := by decide +kernel
theorem d_j52_40_23 : decode jdk_52_method_40_code 23 = .ok (.ldc 227, 2) := by decide +kernel
theorem d_j52_40_25 : decode jdk_52_method_40_code 25 = .ok (.if_icmp .ge 11, 3) := by decide +kernel
theorem d_j52_40_28 : decode jdk_52_method_40_code 28 = .ok (.aload_n 0, 1) := by decide +kernel
theorem d_j52_40_29 : decode jdk_52_method_40_code 29 = .ok (.iload_n 1, 1) := by decide +kernel
theorem d_j52_40_30 : decode jdk_52_method_40_code 30 = .ok (.iload_n 2, 1) := by decide +kernel
theorem d_j52_40_31 : decode jdk_52_method_40_code 31 = .ok (.iload_n 3, 1) := by decide +kernel
theorem d_j52_40_32 : decode jdk_52_method_40_code 32 = .ok (.invokestatic 228, 3) := by decide +kernel
theorem d_j52_47_0 : decode jdk_52_method_47_code 0 = .ok (.iload_n 2, 1) := by decide +kernel
theorem d_j52_47_1 : decode jdk_52_method_47_code 1 = .ok (.iload_n 3, 1) := by decide +kernel
theorem d_j52_47_2 : decode jdk_52_method_47_code 2 = .ok (.aload_n 0, 1) := by decide +kernel
theorem d_j52_47_3 : decode jdk_52_method_47_code 3 = .ok (.invokestatic 96, 3) := by decide +kernel
theorem d_j52_93_0 : decode jdk_52_method_93_code 0 = .ok (.iload_n 0, 1) := by decide +kernel
theorem d_j52_93_1 : decode jdk_52_method_93_code 1 = .ok (.iload_n 1, 1) := by decide +kernel
theorem d_j52_93_2 : decode jdk_52_method_93_code 2 = .ok (.aload_n 2, 1) := by decide +kernel
theorem d_j52_93_3 : decode jdk_52_method_93_code 3 = .ok (.invokestatic 48, 3) := by decide +kernel
theorem d_j52_6_0 : decode jdk_52_method_6_code 0 = .ok (.aload_n 0, 1) := by decide +kernel
theorem d_j52_6_1 : decode jdk_52_method_6_code 1 = .ok (.arraylength, 1) := by decide +kernel
theorem d_j52_6_2 : decode jdk_52_method_6_code 2 = .ok (.iconst 1, 1) := by decide +kernel
theorem d_j52_6_3 : decode jdk_52_method_6_code 3 = .ok (.ishr, 1) := by decide +kernel
theorem d_j52_6_4 : decode jdk_52_method_6_code 4 = .ok (.ireturn, 1) := by decide +kernel
theorem d_j52_93_6 : decode jdk_52_method_93_code 6 = .ok (.invokestatic 241, 3) := by decide +kernel
theorem d_j42_158_0 : decode jdk_42_method_158_code 0 = .ok (.iload_n 0, 1) := by decide +kernel
theorem d_j42_158_1 : decode jdk_42_method_158_code 1 = .ok (.iload_n 1, 1) := by decide +kernel
theorem d_j42_158_2 : decode jdk_42_method_158_code 2 = .ok (.iload_n 2, 1) := by decide +kernel
theorem d_j42_158_3 : decode jdk_42_method_158_code 3 = .ok (.getstatic 1053, 3) := by decide +kernel
theorem d_j42_158_6 : decode jdk_42_method_158_code 6 = .ok (.invokestatic 1062, 3) := by decide +kernel
theorem d_j41_12_0 : decode jdk_41_method_12_code 0 = .ok (.iload_n 0, 1) := by decide +kernel
theorem d_j41_12_1 : decode jdk_41_method_12_code 1 = .ok (.ifCond .lt 13, 3) := by decide +kernel
theorem d_j41_12_4 : decode jdk_41_method_12_code 4 = .ok (.iload_n 0, 1) := by decide +kernel
theorem d_j41_12_5 : decode jdk_41_method_12_code 5 = .ok (.iload_n 1, 1) := by decide +kernel
theorem d_j41_12_6 : decode jdk_41_method_12_code 6 = .ok (.if_icmp .gt 8, 3) := by decide +kernel
theorem d_j41_12_9 : decode jdk_41_method_12_code 9 = .ok (.iload_n 1, 1) := by decide +kernel
theorem d_j41_12_10 : decode jdk_41_method_12_code 10 = .ok (.iload_n 2, 1) := by decide +kernel
theorem d_j41_12_11 : decode jdk_41_method_12_code 11 = .ok (.if_icmp .le 11, 3) := by decide +kernel
theorem d_j41_12_22 : decode jdk_41_method_12_code 22 = .ok (.iload_n 0, 1) := by decide +kernel
theorem d_j41_12_23 : decode jdk_41_method_12_code 23 = .ok (.ireturn, 1) := by decide +kernel
theorem d_j42_158_9 : decode jdk_42_method_158_code 9 = .ok (.pop, 1) := by decide +kernel
theorem d_j42_158_10 : decode jdk_42_method_158_code 10 = .ok (.return_, 1) := by decide +kernel
theorem d_j52_93_9 : decode jdk_52_method_93_code 9 = .ok (.return_, 1) := by decide +kernel
theorem d_j52_47_6 : decode jdk_52_method_47_code 6 = .ok (.aload_n 0, 1) := by decide +kernel
theorem d_j52_47_7 : decode jdk_52_method_47_code 7 = .ok (.iload_n 1, 1) := by decide +kernel
theorem d_j52_47_8 : decode jdk_52_method_47_code 8 = .ok (.iload_n 2, 1) := by decide +kernel
theorem d_j52_47_9 : decode jdk_52_method_47_code 9 = .ok (.iload_n 3, 1) := by decide +kernel
theorem d_j52_47_10 : decode jdk_52_method_47_code 10 = .ok (.invokestatic 244, 3) := by decide +kernel
theorem d_j52_48_0 : decode jdk_52_method_48_code 0 = .ok (.iload_n 2, 1) := by decide +kernel
theorem d_j52_48_1 : decode jdk_52_method_48_code 1 = .ok (.istore 4, 2) := by decide +kernel
theorem d_j52_48_3 : decode jdk_52_method_48_code 3 = .ok (.iload 4, 2) := by decide +kernel
theorem d_j52_48_5 : decode jdk_52_method_48_code 5 = .ok (.iload_n 3, 1) := by decide +kernel
theorem d_j52_48_6 : decode jdk_52_method_48_code 6 = .ok (.if_icmp .ge 22, 3) := by decide +kernel
theorem d_j52_48_9 : decode jdk_52_method_48_code 9 = .ok (.aload_n 0, 1) := by decide +kernel
theorem d_j52_48_10 : decode jdk_52_method_48_code 10 = .ok (.iload 4, 2) := by decide +kernel
theorem d_j52_48_12 : decode jdk_52_method_48_code 12 = .ok (.invokestatic 71, 3) := by decide +kernel
theorem d_j52_48_15 : decode jdk_52_method_48_code 15 = .ok (.iload_n 1, 1) := by decide +kernel
theorem d_j52_48_16 : decode jdk_52_method_48_code 16 = .ok (.if_icmp .ne 6, 3) := by decide +kernel
theorem d_j52_48_22 : decode jdk_52_method_48_code 22 = .ok (.iinc 4 1, 3) := by decide +kernel
theorem d_j52_48_25 : decode jdk_52_method_48_code 25 = .ok (.goto (-22), 3) := by decide +kernel
theorem d_j52_48_28 : decode jdk_52_method_48_code 28 = .ok (.iconst (-1), 1) := by decide +kernel
theorem d_j52_48_29 : decode jdk_52_method_48_code 29 = .ok (.ireturn, 1) := by decide +kernel
theorem d_j52_47_13 : decode jdk_52_method_47_code 13 = .ok (.ireturn, 1) := by decide +kernel
theorem d_j52_40_35 : decode jdk_52_method_40_code 35 = .ok (.ireturn, 1) := by decide +kernel
def Q_init_2 (Z : State) (a1 : Addr) (h0 : Heap) (v : Option Value) (h : Heap) : Prop := ∃ (lv1 : Addr) (kl1 : ClassId), v = none ∧ Keep h0 h [a1] ∧ Exa Z h a1 "java/lang/String" ∧ Fld Z h a1 "java/lang/String" "coder" "B" (.int 0) ∧ Fld Z h a1 "java/lang/String" "value" "[B" (.ref lv1) ∧ Ar Z h lv1 kl1 .byte []
def R_init_2 : Room := { frames := 1, cells := 2, slots := 4, locals := 12 }
theorem rm_init_2 {Z : State} {a0 : Array Value} (hw : HW a0 Z) (Ts : List String) (a1 : Addr) (a2 : Addr) (h0 : Heap) (f : Nat) (Zf : Z.heap.size ≤ f) (Z0 : f ≤ h0.size) (E_a1 : Exa Z h0 a1 "java/lang/String") (F_value_a1 : Fld Z h0 a1 "java/lang/String" "value" "[B" .null) (g_a1 : f ≤ a1) (F_coder_a1 : Fld Z h0 a1 "java/lang/String" "coder" "B" (.int 0)) (wS : G_wS Z a0) (hcw : G_hcw Z a0) (hh0 : G_hh0 Z) (hT_empty : "" ∉ Ts) :
  Con true [] Z (⟨"java/lang/String", "<init>", "([CIILjava/lang/Void;)V"⟩ : MethodName) jdk_42_method_149_code 6 none R_init_2 Ts ("" :: Ts) f #[.ref a1, .ref a2, .int 0, .int 0, .null] h0 (Q_init_2 Z a1 h0) := by
 refine con_of h0.size #[vR a1, vR a2, vI 0, vI 0, .val .null, .unset] (plainFor_of_name pn_0) (fun m => rfl) (nlt Zf Z0) ?_
 intro C H hX0
 refine r_aloadN H 1 d_j42_149_0 ?_
 refine r_initO (W := 0) H 4 d_j42_149_1 (tw12 hw) (tw13 hw) (tw14 hw) ?_
 refine r_iloadN H 5 d_j42_149_4 ?_
 refine r_ifneF H 8 d_j42_149_5 ?_
 refine r_aloadN H 9 d_j42_149_8 ?_
 refine r_ldcS (vs := []) (z := (0 : Int32)) H 11 0 d_j42_149_9 (tw15 hw) wS hT_empty hh0 hcw ⟨by decide, by decide⟩ ?_
 intro h1 la1 lv1 kl1 K1 E1 C1 V1 A1 D1
 refine r_getf H 14 d_j42_149_11 (tw21 hw) V1 ?_
 have q2 := (E_a1.keep K1)
 have q3 := (F_value_a1.keep K1 nin0)
 refine Run.low Z0 Zf ?_
 refine r_putf (ty := (.array .byte)) H 17 d_j42_149_14 (tw21 hw) q3 q2 (Or.inr ⟨(tw17 hw), rfl, rfl⟩) (tw3 hw) g_a1 ?_
 intro h4 W4 K4 E4 F4
 refine r_aloadN H 18 d_j42_149_17 ?_
 refine r_ldcA H 20 d_j42_149_18 (tw15 hw) (List.mem_singleton.mpr rfl) ?_
 have q5 := (C1.other W4 (Or.inr (slot_ne (Or.inr (tw18 hw)) (Or.inr (tw17 hw)) (by decide) (t := .byte) (t' := (.array .byte)) (by decide) (by decide))))
 refine r_getf H 23 d_j42_149_20 (tw22 hw) q5 ?_
 have q6 := ((F_coder_a1.keep K1 nin0).other W4 (Or.inr (slot_ne (Or.inr (tw18 hw)) (Or.inr (tw17 hw)) (by decide) (t := .byte) (t' := (.array .byte)) (by decide) (by decide))))
 refine r_putn (v' := (.int 0)) (ty := .byte) H 26 d_j42_149_23 (tw22 hw) q6 E4 (Or.inr ⟨(tw18 hw), rfl, rfl⟩) (tw3 hw) g_a1 ?_
 intro h7 W7 K7 E7 F7
 have k8 : Keep h0 h1 [a1] := Keep.trans (Keep.refl h0 [a1]) K1 all0
 have k9 : Keep h0 h4 [a1] := Keep.trans k8 K4 (allS (Or.inl (List.mem_of_getElem? (i := 0) rfl)) all0)
 have k10 : Keep h0 h7 [a1] := Keep.trans k9 K7 (allS (Or.inl (List.mem_of_getElem? (i := 0) rfl)) all0)
 have q11 := (F4.other W7 (Or.inr (slot_ne (Or.inr (tw17 hw)) (Or.inr (tw18 hw)) (by decide) (t := (.array .byte)) (t' := .byte) (by decide) (by decide))))
 have q12 := ((A1.keep K4 (ninS (Ne.symm (ne_ar (E_a1.keep K1) (tw3 hw) A1)) nin0)).keep K7 (ninS (Ne.symm (ne_ar (E_a1.keep K1) (tw3 hw) A1)) nin0))
 exact r_return H d_j42_149_26 (⟨lv1, kl1, rfl, k10, E7, F7, q11, q12⟩)
def Q_init_1 (Z : State) (a1 : Addr) (h0 : Heap) (v : Option Value) (h : Heap) : Prop := ∃ (b1 : Addr) (kc2 : ClassId), v = none ∧ Keep h0 h [a1] ∧ Exa Z h a1 "java/lang/String" ∧ Fld Z h a1 "java/lang/String" "coder" "B" (.int 0) ∧ Fld Z h a1 "java/lang/String" "value" "[B" (.ref b1) ∧ Ar Z h b1 kc2 .byte []
def R_init_1 : Room := { frames := 2, cells := 2, slots := 4, locals := 29 }
theorem rm_init_1 {Z : State} {a0 : Array Value} (hw : HW a0 Z) (Ts : List String) (a1 : Addr) (a2 : Addr) (c1 : ClassId) (h0 : Heap) (f : Nat) (Zf : Z.heap.size ≤ f) (Z0 : f ≤ h0.size) (A_a2 : Ar Z h0 a2 c1 .char []) (g_a1 : f ≤ a1) (E_a1 : Exa Z h0 a1 "java/lang/String") (F_value_a1 : Fld Z h0 a1 "java/lang/String" "value" "[B" .null) (F_coder_a1 : Fld Z h0 a1 "java/lang/String" "coder" "B" (.int 0)) (wS : G_wS Z a0) (hcw : G_hcw Z a0) (hh0 : G_hh0 Z) (hT_empty : "" ∉ Ts) :
  Con true [] Z (⟨"java/lang/String", "<init>", "([C)V"⟩ : MethodName) jdk_42_method_3_code 2 none R_init_1 Ts ("" :: Ts) f #[.ref a1, .ref a2] h0 (Q_init_1 Z a1 h0) := by
 refine con_of h0.size #[vR a1, vR a2] (plainFor_of_name pn_0) (fun m => rfl) (nlt Zf Z0) ?_
 intro C H hX0
 refine r_aloadN H 1 d_j42_3_0 ?_
 refine r_aloadN H 2 d_j42_3_1 ?_
 refine r_iconst H 3 0 d_j42_3_2 ?_
 refine r_aloadN H 4 d_j42_3_3 ?_
 refine r_alen H 5 0 d_j42_3_4 A_a2 ?_
 refine r_null H 6 d_j42_3_5 ?_
 refine Run.low Z0 Zf ?_
 refine r_special (a := a1) (argsL := [.ref a2, .int 0, .int 0, .null]) (rest := []) (W := 0) H 9 d_j42_3_6 (tw8 hw) (tw9 hw) (tw4 hw) (tw11 hw) (lenOf pd_0 rfl) (rm_init_2 hw Ts a1 a2 h0 f Zf Z0 E_a1 F_value_a1 g_a1 F_coder_a1 wS hcw hh0 hT_empty) ?_
 rintro _ hh8 ⟨b1, kc2, rfl, K3, q4, q5, q6, q7⟩
 have k9 : Keep h0 hh8 [a1] := Keep.trans (Keep.refl h0 [a1]) K3 (allS (Or.inl (List.mem_of_getElem? (i := 0) rfl)) all0)
 exact r_return H d_j42_3_9 (⟨b1, kc2, rfl, k9, q4, q5, q6, q7⟩)
def Q_canEncode_4 (Z : State) (i1 : Int32) (h0 : Heap) (v : Option Value) (h : Heap) : Prop := ∃ (z : Int32), v = some (.int z) ∧ (if (255 : Int32) < i1 then (0 : Int32) else (1 : Int32)) = z ∧ (0 ≤ z.toInt ∧ z.toInt ≤ 1) ∧ h0 = h
def R_canEncode_4 : Room := { frames := 0, cells := 0, slots := 0, locals := 0 }
theorem rm_canEncode_4 {w : Bool} {Z : State} {a0 : Array Value} (hw : HW a0 Z) (Ts : List String) (i1 : Int32) (h0 : Heap) (f : Nat) (Zf : Z.heap.size ≤ f) (Z0 : f ≤ h0.size) (r_i1 : 0 ≤ i1.toInt ∧ i1.toInt ≤ 65535) :
  Con w [] Z (⟨"java/lang/StringLatin1", "canEncode", "(C)Z"⟩ : MethodName) jdk_43_method_3_code 1 (some .boolean) R_canEncode_4 Ts Ts f #[.int i1] h0 (Q_canEncode_4 Z i1 h0) := by
 refine con_of f #[vI i1] (plainFor_of_name pn_1) (fun m => rfl) Zf ?_
 intro C H hX0
 refine r_iloadN H 1 d_j43_3_0 ?_
 refine r_sipush H 4 255 d_j43_3_1 ?_
 refine Run.join (P := fun z => (if (255 : Int32) < i1 then (0 : Int32) else (1 : Int32)) = z ∧ (0 ≤ z.toInt ∧ z.toInt ≤ 1)) (pcB := 12) (LB := fun z => #[vI i1]) (SB := fun z => [.int z]) (fun key => ?_) ?_
 ·
  refine r_icmpgt H 11 7 d_j43_3_4 (fun c1 => ?_) (fun c1 => ?_)
  ·
   refine r_iconst H 12 0 d_j43_3_11 ?_
   exact key (0 : Int32) ⟨(by rw [if_pos c1]), (by decide)⟩
  ·
   refine r_iconst H 8 1 d_j43_3_7 ?_
   refine r_goto H 12 d_j43_3_8 ?_
   exact key (1 : Int32) ⟨(by rw [if_neg c1]), (by decide)⟩
 rintro p4 ⟨ep4, rp4⟩
 subst ep4
 exact r_nreturn (if (255 : Int32) < i1 then (0 : Int32) else (1 : Int32)) H d_j43_3_12 (nar_bool_id (by have := rp4; omega)) nlr (fun _ t => t) (⟨_, rfl, rfl, (by have := rp4; omega), rfl⟩)
def Q_putChar_6 (Z : State) (a1 : Addr) (i1 : Int32) (c1 : ClassId) (h0 : Heap) (v : Option Value) (h : Heap) : Prop := v = none ∧ Keep h0 h [a1] ∧ Ar Z h a1 c1 .byte [.int (cL8 i1), .int (cH8 i1)] ∧ Exa Z h a1 "[B"
def R_putChar_6 : Room := { frames := 0, cells := 0, slots := 0, locals := 0 }
theorem rm_putChar_6 {w : Bool} {Z : State} {a0 : Array Value} (hw : HW a0 Z) (Ts : List String) (a1 : Addr) (i1 : Int32) (i2 : Int32) (i3 : Int32) (c1 : ClassId) (h0 : Heap) (f : Nat) (Zf : Z.heap.size ≤ f) (Z0 : f ≤ h0.size) (A_a1 : Ar Z h0 a1 c1 .byte [.int i2, .int i3]) (g_a1 : f ≤ a1) (E_a1 : Exa Z h0 a1 "[B") (r_i1 : 0 ≤ i1.toInt ∧ i1.toInt ≤ 65535) (S__assertionsDisabled : G_S__assertionsDisabled Z) (S_HI_BYTE_SHIFT : G_S_HI_BYTE_SHIFT Z) (S_LO_BYTE_SHIFT : G_S_LO_BYTE_SHIFT Z) :
  Con w [] Z (⟨"java/lang/StringUTF16", "putChar", "([BII)V"⟩ : MethodName) jdk_52_method_4_code 3 none R_putChar_6 Ts Ts f #[.ref a1, .int 0, .int i1] h0 (Q_putChar_6 Z a1 i1 c1 h0) := by
 refine con_of f #[vR a1, vI 0, vI i1] (plainFor_of_name pn_2) (fun m => rfl) Zf ?_
 intro C H hX0
 refine r_gets H 3 d_j52_4_0 (tw112 hw) S__assertionsDisabled ?_
 refine r_ifneT H 28 d_j52_4_3 ?_
 refine r_iloadN H 29 d_j52_4_28 ?_
 refine r_iconst H 30 1 d_j52_4_29 ?_
 refine r_ishl H 31 0 d_j52_4_30 (by decide) ?_
 refine r_istoreN H 32 #[vR a1, vI 0, vI i1] d_j52_4_31 ?_
 refine r_aloadN H 33 d_j52_4_32 ?_
 refine r_iloadN H 34 d_j52_4_33 ?_
 refine r_iinc H 37 #[vR a1, vI 1, vI i1] 1 d_j52_4_34 ?_
 refine r_iloadN H 38 d_j52_4_37 ?_
 refine r_gets H 41 d_j52_4_38 (tw113 hw) S_HI_BYTE_SHIFT ?_
 obtain ⟨p1, ep1, rp1⟩ : ∃ p : Int32, (i1 >>> ((0 : Int32) &&& 31)) = p ∧ 0 ≤ p.toInt ∧ p.toInt ≤ 65535 := ⟨_, rfl, (by have := r_i1; have h1 := c_ishr i1 (0 : Int32) 0 (by decide); omega)⟩
 refine r_ishr H 42 p1 d_j52_4_41 ep1 ?_
 obtain ⟨p2, ep2, rp2⟩ : ∃ p : Int32, (p1.toInt8.toInt32) = p ∧ -128 ≤ p.toInt ∧ p.toInt ≤ 127 := ⟨_, rfl, (by have h := c_i2b p1; omega)⟩
 refine r_i2b H 43 p2 d_j52_4_42 ep2 ?_
 refine r_bastore H 44 p2 d_j52_4_43 A_a1 g_a1 (nar_byte_id (by have := rp2; omega)) ?_
 intro h3 K3 A3
 change Ar Z h3 a1 c1 .byte [.int p2, .int i3] at A3
 refine r_aloadN H 45 d_j52_4_44 ?_
 refine r_iloadN H 46 d_j52_4_45 ?_
 refine r_iloadN H 47 d_j52_4_46 ?_
 refine r_gets H 50 d_j52_4_47 (tw114 hw) S_LO_BYTE_SHIFT ?_
 obtain ⟨p4, ep4, rp4⟩ : ∃ p : Int32, (i1 >>> ((8 : Int32) &&& 31)) = p ∧ 0 ≤ p.toInt ∧ p.toInt ≤ 255 := ⟨_, rfl, (by have := r_i1; have h1 := c_ishr i1 (8 : Int32) 8 (by decide); omega)⟩
 refine r_ishr H 51 p4 d_j52_4_50 ep4 ?_
 obtain ⟨p5, ep5, rp5⟩ : ∃ p : Int32, (p4.toInt8.toInt32) = p ∧ -128 ≤ p.toInt ∧ p.toInt ≤ 127 := ⟨_, rfl, (by have h := c_i2b p4; omega)⟩
 refine r_i2b H 52 p5 d_j52_4_51 ep5 ?_
 refine r_bastore H 53 p5 d_j52_4_52 A3 g_a1 (nar_byte_id (by have := rp5; omega)) ?_
 intro h6 K6 A6
 have q7 := (E_a1.keep K3)
 change Ar Z h6 a1 c1 .byte [.int p2, .int p5] at A6
 have k8 : Keep h0 h3 [a1] := Keep.trans (Keep.refl h0 [a1]) K3 (allS (Or.inl (List.mem_of_getElem? (i := 0) rfl)) all0)
 have k9 : Keep h0 h6 [a1] := Keep.trans k8 K6 (allS (Or.inl (List.mem_of_getElem? (i := 0) rfl)) all0)
 have q10 := (q7.keep K6)
 subst ep1 ep2 ep4 ep5
 exact r_return H d_j52_4_53 (⟨rfl, k9, A6, q10⟩)
def Q_toBytes_5 (Z : State) (i1 : Int32) (h0 : Heap) (v : Option Value) (h : Heap) : Prop := ∃ (b1 : Addr) (kc1 : ClassId), v = some (.ref b1) ∧ Keep h0 h [] ∧ h0.size ≤ b1 ∧ Ar Z h b1 kc1 .byte [.int (cL8 i1), .int (cH8 i1)] ∧ Exa Z h b1 "[B"
def R_toBytes_5 : Room := { frames := 1, cells := 1, slots := 2, locals := 14 }
theorem rm_toBytes_5 {w : Bool} {Z : State} {a0 : Array Value} (hw : HW a0 Z) (Ts : List String) (i1 : Int32) (h0 : Heap) (f : Nat) (Zf : Z.heap.size ≤ f) (Z0 : f ≤ h0.size) (r_i1 : 0 ≤ i1.toInt ∧ i1.toInt ≤ 65535) (S__assertionsDisabled : G_S__assertionsDisabled Z) (S_HI_BYTE_SHIFT : G_S_HI_BYTE_SHIFT Z) (S_LO_BYTE_SHIFT : G_S_LO_BYTE_SHIFT Z) :
  Con w [] Z (⟨"java/lang/StringUTF16", "toBytes", "(C)[B"⟩ : MethodName) jdk_52_method_24_code 2 (some (.array .byte)) R_toBytes_5 Ts Ts f #[.int i1] h0 (Q_toBytes_5 Z i1 h0) := by
 refine con_of f #[vI i1, .unset] (plainFor_of_name pn_2) (fun m => rfl) Zf ?_
 intro C H hX0
 refine r_iconst H 1 2 d_j52_24_0 ?_
 refine r_newP H 3 "[B" 2 d_j52_24_1 (tw16 hw) ?_
 intro h1 b1 kc1 g1 l1 K1 E1 A1
 change Ar Z h1 b1 kc1 .byte [.int 0, .int 0] at A1
 refine r_astoreN H 4 #[vI i1, vR b1] d_j52_24_3 ?_
 refine r_aloadN H 5 d_j52_24_4 ?_
 refine r_iconst H 6 0 d_j52_24_5 ?_
 refine r_iloadN H 7 d_j52_24_6 ?_
 refine r_static (argsL := [.ref b1, .int 0, .int i1]) (rest := []) (W := 0) H 10 d_j52_24_7 (tw109 hw) (tw110 hw) (tw88 hw) (tw111 hw) (lenOf pd_3 rfl) (rm_putChar_6 hw Ts b1 i1 (0 : Int32) (0 : Int32) kc1 h1 f Zf (nlt Z0 K1.1) A1 (nlt Z0 (Nat.le_of_eq g1.symm)) E1 (by have := r_i1; omega) S__assertionsDisabled S_HI_BYTE_SHIFT S_LO_BYTE_SHIFT) ?_
 rintro _ hh5 ⟨rfl, K2, q3, q4⟩
 refine r_aloadN H 11 d_j52_24_10 ?_
 have k6 : Keep h0 h1 [] := Keep.trans (Keep.refl h0 []) K1 all0
 have k7 : Keep h0 hh5 [] := Keep.trans k6 K2 (allS (Or.inr (nlt nlr (Nat.le_of_eq g1.symm))) all0)
 exact r_areturn H d_j52_24_11 (⟨b1, kc1, rfl, k7, (nlt nlr (Nat.le_of_eq g1.symm)), q3, q4⟩)
def Q_init_7 (Z : State) (a1 : Addr) (a2 : Addr) (h0 : Heap) (v : Option Value) (h : Heap) : Prop := v = none ∧ Keep h0 h [a1] ∧ Exa Z h a1 "java/lang/String" ∧ Fld Z h a1 "java/lang/String" "coder" "B" (.int 1) ∧ Fld Z h a1 "java/lang/String" "value" "[B" (.ref a2)
def R_init_7 : Room := { frames := 1, cells := 0, slots := 0, locals := 12 }
theorem rm_init_7 {w : Bool} {Z : State} {a0 : Array Value} (hw : HW a0 Z) (Ts : List String) (a1 : Addr) (a2 : Addr) (h0 : Heap) (f : Nat) (Zf : Z.heap.size ≤ f) (Z0 : f ≤ h0.size) (E_a1 : Exa Z h0 a1 "java/lang/String") (F_value_a1 : Fld Z h0 a1 "java/lang/String" "value" "[B" .null) (g_a1 : f ≤ a1) (F_coder_a1 : Fld Z h0 a1 "java/lang/String" "coder" "B" (.int 0)) :
  Con w [] Z (⟨"java/lang/String", "<init>", "([BB)V"⟩ : MethodName) jdk_42_method_151_code 3 none R_init_7 Ts Ts f #[.ref a1, .ref a2, .int 1] h0 (Q_init_7 Z a1 a2 h0) := by
 refine con_of f #[vR a1, vR a2, vI 1] (plainFor_of_name pn_0) (fun m => rfl) Zf ?_
 intro C H hX0
 refine r_aloadN H 1 d_j42_151_0 ?_
 refine r_initO (W := 0) H 4 d_j42_151_1 (tw12 hw) (tw13 hw) (tw14 hw) ?_
 refine r_aloadN H 5 d_j42_151_4 ?_
 refine r_aloadN H 6 d_j42_151_5 ?_
 refine r_putf (ty := (.array .byte)) H 9 d_j42_151_6 (tw21 hw) F_value_a1 E_a1 (Or.inr ⟨(tw17 hw), rfl, rfl⟩) (tw3 hw) g_a1 ?_
 intro h1 W1 K1 E1 F1
 refine r_aloadN H 10 d_j42_151_9 ?_
 refine r_iloadN H 11 d_j42_151_10 ?_
 have q2 := (F_coder_a1.other W1 (Or.inr (slot_ne (Or.inr (tw18 hw)) (Or.inr (tw17 hw)) (by decide) (t := .byte) (t' := (.array .byte)) (by decide) (by decide))))
 refine r_putn (v' := (.int 1)) (ty := .byte) H 14 d_j42_151_11 (tw22 hw) q2 E1 (Or.inr ⟨(tw18 hw), rfl, rfl⟩) (tw3 hw) g_a1 ?_
 intro h3 W3 K3 E3 F3
 have k4 : Keep h0 h1 [a1] := Keep.trans (Keep.refl h0 [a1]) K1 (allS (Or.inl (List.mem_of_getElem? (i := 0) rfl)) all0)
 have k5 : Keep h0 h3 [a1] := Keep.trans k4 K3 (allS (Or.inl (List.mem_of_getElem? (i := 0) rfl)) all0)
 have q6 := (F1.other W3 (Or.inr (slot_ne (Or.inr (tw17 hw)) (Or.inr (tw18 hw)) (by decide) (t := (.array .byte)) (t' := .byte) (by decide) (by decide))))
 exact r_return H d_j42_151_14 (⟨rfl, k5, E3, F3, q6⟩)
def Q_toBytes_8 (Z : State) (i1 : Int32) (h0 : Heap) (v : Option Value) (h : Heap) : Prop := ∃ (b1 : Addr) (kc1 : ClassId), v = some (.ref b1) ∧ Keep h0 h [] ∧ h0.size ≤ b1 ∧ Ar Z h b1 kc1 .byte [.int (cB8 i1)] ∧ Exa Z h b1 "[B"
def R_toBytes_8 : Room := { frames := 0, cells := 1, slots := 1, locals := 0 }
theorem rm_toBytes_8 {w : Bool} {Z : State} {a0 : Array Value} (hw : HW a0 Z) (Ts : List String) (i1 : Int32) (h0 : Heap) (f : Nat) (Zf : Z.heap.size ≤ f) (Z0 : f ≤ h0.size) :
  Con w [] Z (⟨"java/lang/StringLatin1", "toBytes", "(C)[B"⟩ : MethodName) jdk_43_method_46_code 1 (some (.array .byte)) R_toBytes_8 Ts Ts f #[.int i1] h0 (Q_toBytes_8 Z i1 h0) := by
 refine con_of f #[vI i1] (plainFor_of_name pn_1) (fun m => rfl) Zf ?_
 intro C H hX0
 refine r_iconst H 1 1 d_j43_46_0 ?_
 refine r_newP H 3 "[B" 1 d_j43_46_1 (tw16 hw) ?_
 intro h1 b1 kc1 g1 l1 K1 E1 A1
 change Ar Z h1 b1 kc1 .byte [.int 0] at A1
 refine r_dup H 4 d_j43_46_3 ?_
 refine r_iconst H 5 0 d_j43_46_4 ?_
 refine r_iloadN H 6 d_j43_46_5 ?_
 obtain ⟨p2, ep2, rp2⟩ : ∃ p : Int32, (i1.toInt8.toInt32) = p ∧ -128 ≤ p.toInt ∧ p.toInt ≤ 127 := ⟨_, rfl, (by have h := c_i2b i1; omega)⟩
 refine r_i2b H 7 p2 d_j43_46_6 ep2 ?_
 refine r_bastore H 8 p2 d_j43_46_7 A1 (nlt Z0 (Nat.le_of_eq g1.symm)) (nar_byte_id (by have := rp2; omega)) ?_
 intro h3 K3 A3
 change Ar Z h3 b1 kc1 .byte [.int p2] at A3
 have k4 : Keep h0 h1 [] := Keep.trans (Keep.refl h0 []) K1 all0
 have k5 : Keep h0 h3 [] := Keep.trans k4 K3 (allS (Or.inr (nlt nlr (Nat.le_of_eq g1.symm))) all0)
 have q6 := (E1.keep K3)
 subst ep2
 exact r_areturn H d_j43_46_8 (⟨b1, kc1, rfl, k5, (nlt nlr (Nat.le_of_eq g1.symm)), A3, q6⟩)
def Q_init_9 (Z : State) (a1 : Addr) (a2 : Addr) (h0 : Heap) (v : Option Value) (h : Heap) : Prop := v = none ∧ Keep h0 h [a1] ∧ Exa Z h a1 "java/lang/String" ∧ Fld Z h a1 "java/lang/String" "coder" "B" (.int 0) ∧ Fld Z h a1 "java/lang/String" "value" "[B" (.ref a2)
def R_init_9 : Room := { frames := 1, cells := 0, slots := 0, locals := 12 }
theorem rm_init_9 {w : Bool} {Z : State} {a0 : Array Value} (hw : HW a0 Z) (Ts : List String) (a1 : Addr) (a2 : Addr) (h0 : Heap) (f : Nat) (Zf : Z.heap.size ≤ f) (Z0 : f ≤ h0.size) (E_a1 : Exa Z h0 a1 "java/lang/String") (F_value_a1 : Fld Z h0 a1 "java/lang/String" "value" "[B" .null) (g_a1 : f ≤ a1) (F_coder_a1 : Fld Z h0 a1 "java/lang/String" "coder" "B" (.int 0)) :
  Con w [] Z (⟨"java/lang/String", "<init>", "([BB)V"⟩ : MethodName) jdk_42_method_151_code 3 none R_init_9 Ts Ts f #[.ref a1, .ref a2, .int 0] h0 (Q_init_9 Z a1 a2 h0) := by
 refine con_of f #[vR a1, vR a2, vI 0] (plainFor_of_name pn_0) (fun m => rfl) Zf ?_
 intro C H hX0
 refine r_aloadN H 1 d_j42_151_0 ?_
 refine r_initO (W := 0) H 4 d_j42_151_1 (tw12 hw) (tw13 hw) (tw14 hw) ?_
 refine r_aloadN H 5 d_j42_151_4 ?_
 refine r_aloadN H 6 d_j42_151_5 ?_
 refine r_putf (ty := (.array .byte)) H 9 d_j42_151_6 (tw21 hw) F_value_a1 E_a1 (Or.inr ⟨(tw17 hw), rfl, rfl⟩) (tw3 hw) g_a1 ?_
 intro h1 W1 K1 E1 F1
 refine r_aloadN H 10 d_j42_151_9 ?_
 refine r_iloadN H 11 d_j42_151_10 ?_
 have q2 := (F_coder_a1.other W1 (Or.inr (slot_ne (Or.inr (tw18 hw)) (Or.inr (tw17 hw)) (by decide) (t := .byte) (t' := (.array .byte)) (by decide) (by decide))))
 refine r_putn (v' := (.int 0)) (ty := .byte) H 14 d_j42_151_11 (tw22 hw) q2 E1 (Or.inr ⟨(tw18 hw), rfl, rfl⟩) (tw3 hw) g_a1 ?_
 intro h3 W3 K3 E3 F3
 have k4 : Keep h0 h1 [a1] := Keep.trans (Keep.refl h0 [a1]) K1 (allS (Or.inl (List.mem_of_getElem? (i := 0) rfl)) all0)
 have k5 : Keep h0 h3 [a1] := Keep.trans k4 K3 (allS (Or.inl (List.mem_of_getElem? (i := 0) rfl)) all0)
 have q6 := (F1.other W3 (Or.inr (slot_ne (Or.inr (tw17 hw)) (Or.inr (tw18 hw)) (by decide) (t := (.array .byte)) (t' := .byte) (by decide) (by decide))))
 exact r_return H d_j42_151_14 (⟨rfl, k5, E3, F3, q6⟩)
def Q_valueOf_3 (Z : State) (i1 : Int32) (h0 : Heap) (v : Option Value) (h : Heap) : Prop := (∃ (b5 : Addr) (b6 : Addr) (kc7 : ClassId), v = some (.ref b5) ∧ ((if (255 : Int32) < i1 then (0 : Int32) else (1 : Int32)) = (0 : Int32)) ∧ Keep h0 h [] ∧ h0.size ≤ b5 ∧ h0.size ≤ b6 ∧ b5 < b6 ∧ Exa Z h b5 "java/lang/String" ∧ Fld Z h b5 "java/lang/String" "coder" "B" (.int 1) ∧ Fld Z h b5 "java/lang/String" "value" "[B" (.ref b6) ∧ Ar Z h b6 kc7 .byte [.int (cL8 i1), .int (cH8 i1)] ∧ Exa Z h b6 "[B") ∨ (∃ (b28 : Addr) (b29 : Addr) (kc30 : ClassId), v = some (.ref b28) ∧ (¬ (if (255 : Int32) < i1 then (0 : Int32) else (1 : Int32)) = (0 : Int32)) ∧ Keep h0 h [] ∧ h0.size ≤ b28 ∧ h0.size ≤ b29 ∧ b28 < b29 ∧ Exa Z h b28 "java/lang/String" ∧ Fld Z h b28 "java/lang/String" "coder" "B" (.int 0) ∧ Fld Z h b28 "java/lang/String" "value" "[B" (.ref b29) ∧ Ar Z h b29 kc30 .byte [.int (cB8 i1)] ∧ Exa Z h b29 "[B")
def R_valueOf_3 : Room := { frames := 2, cells := 2, slots := 6, locals := 29 }
theorem rm_valueOf_3 {w : Bool} {Z : State} {a0 : Array Value} (hw : HW a0 Z) (Ts : List String) (i1 : Int32) (cs : Int32) (h0 : Heap) (f : Nat) (Zf : Z.heap.size ≤ f) (Z0 : f ≤ h0.size) (r_i1 : 0 ≤ i1.toInt ∧ i1.toInt ≤ 65535) (S_cs : G_S_cs Z cs) (S__assertionsDisabled : G_S__assertionsDisabled Z) (S_HI_BYTE_SHIFT : G_S_HI_BYTE_SHIFT Z) (S_LO_BYTE_SHIFT : G_S_LO_BYTE_SHIFT Z) (hcs : ¬ cs = 0) :
  Con w [] Z (⟨"java/lang/String", "valueOf", "(C)Ljava/lang/String;"⟩ : MethodName) jdk_42_method_139_code 1 (some (.object "java/lang/String")) R_valueOf_3 Ts Ts f #[.int i1] h0 (Q_valueOf_3 Z i1 h0) := by
 refine con_of f #[vI i1] (plainFor_of_name pn_0) (fun m => rfl) Zf ?_
 intro C H hX0
 refine r_gets H 3 d_j42_139_0 (tw27 hw) S_cs ?_
 refine r_ifeqF H 6 d_j42_139_3 rfl hcs ?_
 refine r_iloadN H 7 d_j42_139_6 ?_
 refine r_static (argsL := [.int i1]) (rest := []) (W := 0) H 10 d_j42_139_7 (tw28 hw) (tw29 hw) (tw30 hw) (tw31 hw) (lenOf pd_2 rfl) (rm_canEncode_4 hw Ts i1 h0 f Zf Z0 r_i1) ?_
 rintro _ _ ⟨p1, rfl, ep1, rp1, rfl⟩
 refine r_ifeq H 26 13 d_j42_139_10 (fun c3 => ?_) (fun c3 => ?_)
 ·
  refine r_new H 29 d_j42_139_26 (tw32 hw) (tw3 hw) (tw4 hw) ?_
  intro h5 b5 g5 l5 K5 E5 D5
  refine r_dup H 30 d_j42_139_29 ?_
  refine r_iloadN H 31 d_j42_139_30 ?_
  refine r_static (argsL := [.int i1]) (rest := [.ref b5, .ref b5]) (W := 2) H 34 d_j42_139_31 (tw118 hw) (tw119 hw) (tw88 hw) (tw120 hw) (lenOf pd_4 rfl) (rm_toBytes_5 hw Ts i1 h5 f Zf (nlt Z0 K5.1) r_i1 S__assertionsDisabled S_HI_BYTE_SHIFT S_LO_BYTE_SHIFT) ?_
  rintro _ hh12 ⟨b6, kc7, rfl, K8, g9, q10, q11⟩
  refine r_iconst H 35 1 d_j42_139_34 ?_
  have q13 := (E5.keep K8)
  have q14 := ((show Fld Z h5 b5 "java/lang/String" "value" "[B" .null from D5 (Or.inr (tw17 hw)) (ty := (.array .byte)) (by decide)).keep K8 nin0)
  have q15 := ((show Fld Z h5 b5 "java/lang/String" "coder" "B" (.int 0) from D5 (Or.inr (tw18 hw)) (ty := .byte) (by decide)).keep K8 nin0)
  have z16 := Nat.le_trans K5.1 K8.1
  refine r_special (a := b5) (argsL := [.ref b6, .int 1]) (rest := [.ref b5]) (W := 1) H 38 d_j42_139_35 (tw36 hw) (tw37 hw) (tw4 hw) (tw38 hw) (lenOf pd_5 rfl) (rm_init_7 hw Ts b5 b6 hh12 f Zf (nlt Z0 z16) q13 q14 (nlt Z0 (Nat.le_of_eq g5.symm)) q15) ?_
  rintro _ hh21 ⟨rfl, K17, q18, q19, q20⟩
  have k22 : Keep h0 h5 [] := Keep.trans (Keep.refl h0 []) K5 all0
  have k23 : Keep h0 hh12 [] := Keep.trans k22 K8 all0
  have k24 : Keep h0 hh21 [] := Keep.trans k23 K17 (allS (Or.inr (nlt nlr (Nat.le_of_eq g5.symm))) all0)
  have q25 := (q10.keep K17 (ninS (Ne.symm (Nat.ne_of_lt (Nat.lt_of_lt_of_le E5.lt (nlt nlr g9)))) nin0))
  have q26 := (q11.keep K17)
  subst ep1
  exact r_areturn H d_j42_139_38 (Or.inl ⟨b5, b6, kc7, rfl, c3, k24, (nlt nlr (Nat.le_of_eq g5.symm)), (nlt K5.1 g9), (Nat.lt_of_lt_of_le E5.lt (nlt nlr g9)), q18, q19, q20, q25, q26⟩)
 ·
  refine r_new H 16 d_j42_139_13 (tw32 hw) (tw3 hw) (tw4 hw) ?_
  intro h28 b28 g28 l28 K28 E28 D28
  refine r_dup H 17 d_j42_139_16 ?_
  refine r_iloadN H 18 d_j42_139_17 ?_
  refine r_static (argsL := [.int i1]) (rest := [.ref b28, .ref b28]) (W := 2) H 21 d_j42_139_18 (tw33 hw) (tw34 hw) (tw30 hw) (tw35 hw) (lenOf pd_4 rfl) (rm_toBytes_8 hw Ts i1 h28 f Zf (nlt Z0 K28.1)) ?_
  rintro _ hh35 ⟨b29, kc30, rfl, K31, g32, q33, q34⟩
  refine r_iconst H 22 0 d_j42_139_21 ?_
  have q36 := (E28.keep K31)
  have q37 := ((show Fld Z h28 b28 "java/lang/String" "value" "[B" .null from D28 (Or.inr (tw17 hw)) (ty := (.array .byte)) (by decide)).keep K31 nin0)
  have q38 := ((show Fld Z h28 b28 "java/lang/String" "coder" "B" (.int 0) from D28 (Or.inr (tw18 hw)) (ty := .byte) (by decide)).keep K31 nin0)
  have z39 := Nat.le_trans K28.1 K31.1
  refine r_special (a := b28) (argsL := [.ref b29, .int 0]) (rest := [.ref b28]) (W := 1) H 25 d_j42_139_22 (tw36 hw) (tw37 hw) (tw4 hw) (tw38 hw) (lenOf pd_5 rfl) (rm_init_9 hw Ts b28 b29 hh35 f Zf (nlt Z0 z39) q36 q37 (nlt Z0 (Nat.le_of_eq g28.symm)) q38) ?_
  rintro _ hh44 ⟨rfl, K40, q41, q42, q43⟩
  have k45 : Keep h0 h28 [] := Keep.trans (Keep.refl h0 []) K28 all0
  have k46 : Keep h0 hh35 [] := Keep.trans k45 K31 all0
  have k47 : Keep h0 hh44 [] := Keep.trans k46 K40 (allS (Or.inr (nlt nlr (Nat.le_of_eq g28.symm))) all0)
  have q48 := (q33.keep K40 (ninS (Ne.symm (Nat.ne_of_lt (Nat.lt_of_lt_of_le E28.lt (nlt nlr g32)))) nin0))
  have q49 := (q34.keep K40)
  subst ep1
  exact r_areturn H d_j42_139_25 (Or.inr (⟨b28, b29, kc30, rfl, c3, k47, (nlt nlr (Nat.le_of_eq g28.symm)), (nlt K28.1 g32), (Nat.lt_of_lt_of_le E28.lt (nlt nlr g32)), q41, q42, q43, q48, q49⟩))
def Q_isLatin1_13 (Z : State) (h0 : Heap) (v : Option Value) (h : Heap) : Prop := v = some (.int 1) ∧ h0 = h
def R_isLatin1_13 : Room := { frames := 0, cells := 0, slots := 0, locals := 0 }
theorem rm_isLatin1_13 {w : Bool} {Z : State} {a0 : Array Value} (hw : HW a0 Z) (Ts : List String) (a1 : Addr) (cs : Int32) (h0 : Heap) (f : Nat) (Zf : Z.heap.size ≤ f) (Z0 : f ≤ h0.size) (F_coder_a1 : Fld Z h0 a1 "java/lang/String" "coder" "B" (.int 0)) (S_cs : G_S_cs Z cs) (hcs : ¬ cs = 0) :
  Con w [] Z (⟨"java/lang/String", "isLatin1", "()Z"⟩ : MethodName) jdk_42_method_154_code 1 (some .boolean) R_isLatin1_13 Ts Ts f #[.ref a1] h0 (Q_isLatin1_13 Z h0) := by
 refine con_of f #[vR a1] (plainFor_of_name pn_0) (fun m => rfl) Zf ?_
 intro C H hX0
 refine r_gets H 3 d_j42_154_0 (tw27 hw) S_cs ?_
 refine r_ifeqF H 6 d_j42_154_3 rfl hcs ?_
 refine r_aloadN H 7 d_j42_154_6 ?_
 refine r_getf H 10 d_j42_154_7 (tw22 hw) F_coder_a1 ?_
 refine r_ifneF H 13 d_j42_154_10 ?_
 refine r_iconst H 14 1 d_j42_154_13 ?_
 refine r_goto H 18 d_j42_154_14 ?_
 exact r_nreturn (1 : Int32) H d_j42_154_18 (by decide) nlr (fun _ t => t) (⟨rfl, rfl⟩)
def Q_coder_15 (Z : State) (h0 : Heap) (v : Option Value) (h : Heap) : Prop := v = some (.int 0) ∧ h0 = h
def R_coder_15 : Room := { frames := 0, cells := 0, slots := 0, locals := 0 }
theorem rm_coder_15 {w : Bool} {Z : State} {a0 : Array Value} (hw : HW a0 Z) (Ts : List String) (a1 : Addr) (cs : Int32) (h0 : Heap) (f : Nat) (Zf : Z.heap.size ≤ f) (Z0 : f ≤ h0.size) (F_coder_a1 : Fld Z h0 a1 "java/lang/String" "coder" "B" (.int 0)) (S_cs : G_S_cs Z cs) (hcs : ¬ cs = 0) :
  Con w [] Z (⟨"java/lang/String", "coder", "()B"⟩ : MethodName) jdk_42_method_152_code 1 (some .byte) R_coder_15 Ts Ts f #[.ref a1] h0 (Q_coder_15 Z h0) := by
 refine con_of f #[vR a1] (plainFor_of_name pn_0) (fun m => rfl) Zf ?_
 intro C H hX0
 refine r_gets H 3 d_j42_152_0 (tw27 hw) S_cs ?_
 refine r_ifeqF H 6 d_j42_152_3 rfl hcs ?_
 refine r_aloadN H 7 d_j42_152_6 ?_
 refine r_getf H 10 d_j42_152_7 (tw22 hw) F_coder_a1 ?_
 refine r_goto H 14 d_j42_152_10 ?_
 exact r_nreturn (0 : Int32) H d_j42_152_14 (by decide) nlr (fun _ t => t) (⟨rfl, rfl⟩)
def Q_length_14 (Z : State) (h0 : Heap) (v : Option Value) (h : Heap) : Prop := v = some (.int 0) ∧ h0 = h
def R_length_14 : Room := { frames := 1, cells := 0, slots := 0, locals := 13 }
theorem rm_length_14 {w : Bool} {Z : State} {a0 : Array Value} (hw : HW a0 Z) (Ts : List String) (a1 : Addr) (a2 : Addr) (c1 : ClassId) (cs : Int32) (h0 : Heap) (f : Nat) (Zf : Z.heap.size ≤ f) (Z0 : f ≤ h0.size) (F_value_a1 : Fld Z h0 a1 "java/lang/String" "value" "[B" (.ref a2)) (A_a2 : Ar Z h0 a2 c1 .byte []) (E_a1 : Exa Z h0 a1 "java/lang/String") (F_coder_a1 : Fld Z h0 a1 "java/lang/String" "coder" "B" (.int 0)) (S_cs : G_S_cs Z cs) (hcs : ¬ cs = 0) :
  Con w [] Z (⟨"java/lang/String", "length", "()I"⟩ : MethodName) jdk_42_method_54_code 1 (some .int) R_length_14 Ts Ts f #[.ref a1] h0 (Q_length_14 Z h0) := by
 refine con_of f #[vR a1] (plainFor_of_name pn_0) (fun m => rfl) Zf ?_
 intro C H hX0
 refine r_aloadN H 1 d_j42_54_0 ?_
 refine r_getf H 4 d_j42_54_1 (tw21 hw) F_value_a1 ?_
 refine r_alen H 5 0 d_j42_54_4 A_a2 ?_
 refine r_aloadN H 6 d_j42_54_5 ?_
 refine r_virtual (z := (⟨"java/lang/String", "coder", "()B"⟩ : MethodName)) (a := a1) (argsL := []) (rest := [.int 0]) (W := 1) H 9 d_j42_54_6 (tw63 hw) (tw64 hw) (nf_sel (tw66 hw)) (tw66 hw) (tw65 hw) (tw4 hw) (tw67 hw) E_a1 (lenOf pd_8 rfl) (rm_coder_15 hw Ts a1 cs h0 f Zf Z0 F_coder_a1 S_cs hcs) ?_
 rintro _ _ ⟨rfl, rfl⟩
 refine r_ishr H 10 0 d_j42_54_9 (by decide) ?_
 exact r_ireturn H d_j42_54_10 (⟨rfl, rfl⟩)
def Q_canEncode_17 (Z : State) (h0 : Heap) (v : Option Value) (h : Heap) : Prop := v = some (.int 1) ∧ h0 = h
def R_canEncode_17 : Room := { frames := 0, cells := 0, slots := 0, locals := 0 }
theorem rm_canEncode_17 {w : Bool} {Z : State} {a0 : Array Value} (hw : HW a0 Z) (Ts : List String) (h0 : Heap) (f : Nat) (Zf : Z.heap.size ≤ f) (Z0 : f ≤ h0.size) :
  Con w [] Z (⟨"java/lang/StringLatin1", "canEncode", "(I)Z"⟩ : MethodName) jdk_43_method_4_code 1 (some .boolean) R_canEncode_17 Ts Ts f #[.int 10] h0 (Q_canEncode_17 Z h0) := by
 refine con_of f #[vI 10] (plainFor_of_name pn_1) (fun m => rfl) Zf ?_
 intro C H hX0
 refine r_iloadN H 1 d_j43_4_0 ?_
 refine r_ifltF H 4 d_j43_4_1 ?_
 refine r_iloadN H 5 d_j43_4_4 ?_
 refine r_sipush H 8 255 d_j43_4_5 ?_
 refine r_icmpgtF H 11 d_j43_4_8 rfl (by decide) ?_
 refine r_iconst H 12 1 d_j43_4_11 ?_
 refine r_goto H 16 d_j43_4_12 ?_
 exact r_nreturn (1 : Int32) H d_j43_4_16 (by decide) nlr (fun _ t => t) (⟨rfl, rfl⟩)
def Q_max_18 (Z : State) (h0 : Heap) (v : Option Value) (h : Heap) : Prop := v = some (.int 0) ∧ h0 = h
def R_max_18 : Room := { frames := 0, cells := 0, slots := 0, locals := 0 }
theorem rm_max_18 {w : Bool} {Z : State} {a0 : Array Value} (hw : HW a0 Z) (Ts : List String) (h0 : Heap) (f : Nat) (Zf : Z.heap.size ≤ f) (Z0 : f ≤ h0.size) :
  Con w [] Z (⟨"java/lang/Math", "max", "(II)I"⟩ : MethodName) jdk_29_method_65_code 2 (some .int) R_max_18 Ts Ts f #[.int 0, .int 0] h0 (Q_max_18 Z h0) := by
 refine con_of f #[vI 0, vI 0] (Jvm.Free.JP.mathPlain rfl (by decide +kernel)) (fun m => rfl) Zf ?_
 intro C H hX0
 refine r_iloadN H 1 d_j29_65_0 ?_
 refine r_iloadN H 2 d_j29_65_1 ?_
 refine r_icmpltF H 5 d_j29_65_2 ?_
 refine r_iloadN H 6 d_j29_65_5 ?_
 refine r_goto H 10 d_j29_65_6 ?_
 exact r_ireturn H d_j29_65_10 (⟨rfl, rfl⟩)
def Q_min_19 (Z : State) (h0 : Heap) (v : Option Value) (h : Heap) : Prop := v = some (.int 0) ∧ h0 = h
def R_min_19 : Room := { frames := 0, cells := 0, slots := 0, locals := 0 }
theorem rm_min_19 {w : Bool} {Z : State} {a0 : Array Value} (hw : HW a0 Z) (Ts : List String) (h0 : Heap) (f : Nat) (Zf : Z.heap.size ≤ f) (Z0 : f ≤ h0.size) :
  Con w [] Z (⟨"java/lang/Math", "min", "(II)I"⟩ : MethodName) jdk_29_method_69_code 2 (some .int) R_min_19 Ts Ts f #[.int 0, .int 0] h0 (Q_min_19 Z h0) := by
 refine con_of f #[vI 0, vI 0] (Jvm.Free.JP.mathPlain rfl (by decide +kernel)) (fun m => rfl) Zf ?_
 intro C H hX0
 refine r_iloadN H 1 d_j29_69_0 ?_
 refine r_iloadN H 2 d_j29_69_1 ?_
 refine r_icmpgtF H 5 d_j29_69_2 rfl (by decide) ?_
 refine r_iloadN H 6 d_j29_69_5 ?_
 refine r_goto H 10 d_j29_69_6 ?_
 exact r_ireturn H d_j29_69_10 (⟨rfl, rfl⟩)
def Q_indexOf_16 (Z : State) (h0 : Heap) (v : Option Value) (h : Heap) : Prop := v = some (.int (-1)) ∧ h0 = h
def R_indexOf_16 : Room := { frames := 1, cells := 0, slots := 0, locals := 13 }
theorem rm_indexOf_16 {w : Bool} {Z : State} {a0 : Array Value} (hw : HW a0 Z) (Ts : List String) (a1 : Addr) (c1 : ClassId) (h0 : Heap) (f : Nat) (Zf : Z.heap.size ≤ f) (Z0 : f ≤ h0.size) (A_a1 : Ar Z h0 a1 c1 .byte []) :
  Con w [] Z (⟨"java/lang/StringLatin1", "indexOf", "([BIII)I"⟩ : MethodName) jdk_43_method_22_code 4 (some .int) R_indexOf_16 Ts Ts f #[.ref a1, .int 10, .int 0, .int 0] h0 (Q_indexOf_16 Z h0) := by
 refine con_of f #[vR a1, vI 10, vI 0, vI 0] (plainFor_of_name pn_1) (fun m => rfl) Zf ?_
 intro C H hX0
 refine r_iloadN H 1 d_j43_22_0 ?_
 refine r_static (argsL := [.int 10]) (rest := []) (W := 0) H 4 d_j43_22_1 (tw71 hw) (tw72 hw) (tw30 hw) (tw73 hw) (lenOf pd_10 rfl) (rm_canEncode_17 hw Ts h0 f Zf Z0) ?_
 rintro _ _ ⟨rfl, rfl⟩
 refine r_ifneT H 9 d_j43_22_4 ?_
 refine r_iloadN H 10 d_j43_22_9 ?_
 refine r_iconst H 11 0 d_j43_22_10 ?_
 refine r_static (argsL := [.int 0, .int 0]) (rest := []) (W := 0) H 14 d_j43_22_11 (tw74 hw) (tw75 hw) (tw76 hw) (tw77 hw) (lenOf pd_11 rfl) (rm_max_18 hw Ts h0 f Zf Z0) ?_
 rintro _ _ ⟨rfl, rfl⟩
 refine r_istoreN H 15 #[vR a1, vI 10, vI 0, vI 0] d_j43_22_14 ?_
 refine r_iloadN H 16 d_j43_22_15 ?_
 refine r_aloadN H 17 d_j43_22_16 ?_
 refine r_alen H 18 0 d_j43_22_17 A_a1 ?_
 refine r_static (argsL := [.int 0, .int 0]) (rest := []) (W := 0) H 21 d_j43_22_18 (tw78 hw) (tw79 hw) (tw76 hw) (tw80 hw) (lenOf pd_11 rfl) (rm_min_19 hw Ts h0 f Zf Z0) ?_
 rintro _ _ ⟨rfl, rfl⟩
 refine r_istoreN H 22 #[vR a1, vI 10, vI 0, vI 0] d_j43_22_21 ?_
 refine r_iloadN H 23 d_j43_22_22 ?_
 refine r_iloadN H 24 d_j43_22_23 ?_
 refine r_icmpltF H 27 d_j43_22_24 ?_
 refine r_iconst H 28 (-1 : Int32) d_j43_22_27 ?_
 exact r_ireturn H d_j43_22_28 (⟨rfl, rfl⟩)
def Q_indexOf_12 (Z : State) (h0 : Heap) (v : Option Value) (h : Heap) : Prop := v = some (.int (-1)) ∧ h0 = h
def R_indexOf_12 : Room := { frames := 2, cells := 0, slots := 0, locals := 28 }
theorem rm_indexOf_12 {w : Bool} {Z : State} {a0 : Array Value} (hw : HW a0 Z) (Ts : List String) (a1 : Addr) (a2 : Addr) (c1 : ClassId) (cs : Int32) (h0 : Heap) (f : Nat) (Zf : Z.heap.size ≤ f) (Z0 : f ≤ h0.size) (E_a1 : Exa Z h0 a1 "java/lang/String") (F_coder_a1 : Fld Z h0 a1 "java/lang/String" "coder" "B" (.int 0)) (F_value_a1 : Fld Z h0 a1 "java/lang/String" "value" "[B" (.ref a2)) (A_a2 : Ar Z h0 a2 c1 .byte []) (S_cs : G_S_cs Z cs) (hcs : ¬ cs = 0) :
  Con w [] Z (⟨"java/lang/String", "indexOf", "(II)I"⟩ : MethodName) jdk_42_method_80_code 3 (some .int) R_indexOf_12 Ts Ts f #[.ref a1, .int 10, .int 0] h0 (Q_indexOf_12 Z h0) := by
 refine con_of f #[vR a1, vI 10, vI 0] (plainFor_of_name pn_0) (fun m => rfl) Zf ?_
 intro C H hX0
 refine r_aloadN H 1 d_j42_80_0 ?_
 refine r_virtual (z := (⟨"java/lang/String", "isLatin1", "()Z"⟩ : MethodName)) (a := a1) (argsL := []) (rest := []) (W := 0) H 4 d_j42_80_1 (tw53 hw) (tw54 hw) (nf_sel (tw56 hw)) (tw56 hw) (tw55 hw) (tw4 hw) (tw57 hw) E_a1 (lenOf pd_7 rfl) (rm_isLatin1_13 hw Ts a1 cs h0 f Zf Z0 F_coder_a1 S_cs hcs) ?_
 rintro _ _ ⟨rfl, rfl⟩
 refine r_ifeqF H 7 d_j42_80_4 rfl (by decide) ?_
 refine r_aloadN H 8 d_j42_80_7 ?_
 refine r_getf H 11 d_j42_80_8 (tw21 hw) F_value_a1 ?_
 refine r_iloadN H 12 d_j42_80_11 ?_
 refine r_iloadN H 13 d_j42_80_12 ?_
 refine r_aloadN H 14 d_j42_80_13 ?_
 refine r_virtual (z := (⟨"java/lang/String", "length", "()I"⟩ : MethodName)) (a := a1) (argsL := []) (rest := [.int 0, .int 10, .ref a2]) (W := 3) H 17 d_j42_80_14 (tw58 hw) (tw59 hw) (nf_sel (tw61 hw)) (tw61 hw) (tw60 hw) (tw4 hw) (tw62 hw) E_a1 (lenOf pd_9 rfl) (rm_length_14 hw Ts a1 a2 c1 cs h0 f Zf Z0 F_value_a1 A_a2 E_a1 F_coder_a1 S_cs hcs) ?_
 rintro _ _ ⟨rfl, rfl⟩
 refine r_static (argsL := [.ref a2, .int 10, .int 0, .int 0]) (rest := []) (W := 0) H 20 d_j42_80_17 (tw68 hw) (tw69 hw) (tw30 hw) (tw70 hw) (lenOf pd_12 rfl) (rm_indexOf_16 hw Ts a2 c1 h0 f Zf Z0 A_a2) ?_
 rintro _ _ ⟨rfl, rfl⟩
 refine r_goto H 36 d_j42_80_20 ?_
 exact r_ireturn H d_j42_80_36 (⟨rfl, rfl⟩)
def Q_indexOf_11 (Z : State) (h0 : Heap) (v : Option Value) (h : Heap) : Prop := v = some (.int (-1)) ∧ h0 = h
def R_indexOf_11 : Room := { frames := 3, cells := 0, slots := 0, locals := 42 }
theorem rm_indexOf_11 {w : Bool} {Z : State} {a0 : Array Value} (hw : HW a0 Z) (Ts : List String) (a1 : Addr) (a2 : Addr) (c1 : ClassId) (cs : Int32) (h0 : Heap) (f : Nat) (Zf : Z.heap.size ≤ f) (Z0 : f ≤ h0.size) (E_a1 : Exa Z h0 a1 "java/lang/String") (F_coder_a1 : Fld Z h0 a1 "java/lang/String" "coder" "B" (.int 0)) (F_value_a1 : Fld Z h0 a1 "java/lang/String" "value" "[B" (.ref a2)) (A_a2 : Ar Z h0 a2 c1 .byte []) (S_cs : G_S_cs Z cs) (hcs : ¬ cs = 0) :
  Con w [] Z (⟨"java/lang/String", "indexOf", "(I)I"⟩ : MethodName) jdk_42_method_79_code 2 (some .int) R_indexOf_11 Ts Ts f #[.ref a1, .int 10] h0 (Q_indexOf_11 Z h0) := by
 refine con_of f #[vR a1, vI 10] (plainFor_of_name pn_0) (fun m => rfl) Zf ?_
 intro C H hX0
 refine r_aloadN H 1 d_j42_79_0 ?_
 refine r_iloadN H 2 d_j42_79_1 ?_
 refine r_iconst H 3 0 d_j42_79_2 ?_
 refine r_virtual (z := (⟨"java/lang/String", "indexOf", "(II)I"⟩ : MethodName)) (a := a1) (argsL := [.int 10, .int 0]) (rest := []) (W := 0) H 6 d_j42_79_3 (tw48 hw) (tw49 hw) (nf_sel (tw51 hw)) (tw51 hw) (tw50 hw) (tw4 hw) (tw52 hw) E_a1 (lenOf pd_11 rfl) (rm_indexOf_12 hw Ts a1 a2 c1 cs h0 f Zf Z0 E_a1 F_coder_a1 F_value_a1 A_a2 S_cs hcs) ?_
 rintro _ _ ⟨rfl, rfl⟩
 exact r_ireturn H d_j42_79_6 (⟨rfl, rfl⟩)
def Q_canEncode_23 (Z : State) (h0 : Heap) (v : Option Value) (h : Heap) : Prop := v = some (.int 1) ∧ h0 = h
def R_canEncode_23 : Room := { frames := 0, cells := 0, slots := 0, locals := 0 }
theorem rm_canEncode_23 {w : Bool} {Z : State} {a0 : Array Value} (hw : HW a0 Z) (Ts : List String) (h0 : Heap) (f : Nat) (Zf : Z.heap.size ≤ f) (Z0 : f ≤ h0.size) :
  Con w [] Z (⟨"java/lang/StringLatin1", "canEncode", "(I)Z"⟩ : MethodName) jdk_43_method_4_code 1 (some .boolean) R_canEncode_23 Ts Ts f #[.int 13] h0 (Q_canEncode_23 Z h0) := by
 refine con_of f #[vI 13] (plainFor_of_name pn_1) (fun m => rfl) Zf ?_
 intro C H hX0
 refine r_iloadN H 1 d_j43_4_0 ?_
 refine r_ifltF H 4 d_j43_4_1 ?_
 refine r_iloadN H 5 d_j43_4_4 ?_
 refine r_sipush H 8 255 d_j43_4_5 ?_
 refine r_icmpgtF H 11 d_j43_4_8 rfl (by decide) ?_
 refine r_iconst H 12 1 d_j43_4_11 ?_
 refine r_goto H 16 d_j43_4_12 ?_
 exact r_nreturn (1 : Int32) H d_j43_4_16 (by decide) nlr (fun _ t => t) (⟨rfl, rfl⟩)
def Q_indexOf_22 (Z : State) (h0 : Heap) (v : Option Value) (h : Heap) : Prop := v = some (.int (-1)) ∧ h0 = h
def R_indexOf_22 : Room := { frames := 1, cells := 0, slots := 0, locals := 13 }
theorem rm_indexOf_22 {w : Bool} {Z : State} {a0 : Array Value} (hw : HW a0 Z) (Ts : List String) (a1 : Addr) (c1 : ClassId) (h0 : Heap) (f : Nat) (Zf : Z.heap.size ≤ f) (Z0 : f ≤ h0.size) (A_a1 : Ar Z h0 a1 c1 .byte []) :
  Con w [] Z (⟨"java/lang/StringLatin1", "indexOf", "([BIII)I"⟩ : MethodName) jdk_43_method_22_code 4 (some .int) R_indexOf_22 Ts Ts f #[.ref a1, .int 13, .int 0, .int 0] h0 (Q_indexOf_22 Z h0) := by
 refine con_of f #[vR a1, vI 13, vI 0, vI 0] (plainFor_of_name pn_1) (fun m => rfl) Zf ?_
 intro C H hX0
 refine r_iloadN H 1 d_j43_22_0 ?_
 refine r_static (argsL := [.int 13]) (rest := []) (W := 0) H 4 d_j43_22_1 (tw71 hw) (tw72 hw) (tw30 hw) (tw73 hw) (lenOf pd_10 rfl) (rm_canEncode_23 hw Ts h0 f Zf Z0) ?_
 rintro _ _ ⟨rfl, rfl⟩
 refine r_ifneT H 9 d_j43_22_4 ?_
 refine r_iloadN H 10 d_j43_22_9 ?_
 refine r_iconst H 11 0 d_j43_22_10 ?_
 refine r_static (argsL := [.int 0, .int 0]) (rest := []) (W := 0) H 14 d_j43_22_11 (tw74 hw) (tw75 hw) (tw76 hw) (tw77 hw) (lenOf pd_11 rfl) (rm_max_18 hw Ts h0 f Zf Z0) ?_
 rintro _ _ ⟨rfl, rfl⟩
 refine r_istoreN H 15 #[vR a1, vI 13, vI 0, vI 0] d_j43_22_14 ?_
 refine r_iloadN H 16 d_j43_22_15 ?_
 refine r_aloadN H 17 d_j43_22_16 ?_
 refine r_alen H 18 0 d_j43_22_17 A_a1 ?_
 refine r_static (argsL := [.int 0, .int 0]) (rest := []) (W := 0) H 21 d_j43_22_18 (tw78 hw) (tw79 hw) (tw76 hw) (tw80 hw) (lenOf pd_11 rfl) (rm_min_19 hw Ts h0 f Zf Z0) ?_
 rintro _ _ ⟨rfl, rfl⟩
 refine r_istoreN H 22 #[vR a1, vI 13, vI 0, vI 0] d_j43_22_21 ?_
 refine r_iloadN H 23 d_j43_22_22 ?_
 refine r_iloadN H 24 d_j43_22_23 ?_
 refine r_icmpltF H 27 d_j43_22_24 ?_
 refine r_iconst H 28 (-1 : Int32) d_j43_22_27 ?_
 exact r_ireturn H d_j43_22_28 (⟨rfl, rfl⟩)
def Q_indexOf_21 (Z : State) (h0 : Heap) (v : Option Value) (h : Heap) : Prop := v = some (.int (-1)) ∧ h0 = h
def R_indexOf_21 : Room := { frames := 2, cells := 0, slots := 0, locals := 28 }
theorem rm_indexOf_21 {w : Bool} {Z : State} {a0 : Array Value} (hw : HW a0 Z) (Ts : List String) (a1 : Addr) (a2 : Addr) (c1 : ClassId) (cs : Int32) (h0 : Heap) (f : Nat) (Zf : Z.heap.size ≤ f) (Z0 : f ≤ h0.size) (E_a1 : Exa Z h0 a1 "java/lang/String") (F_coder_a1 : Fld Z h0 a1 "java/lang/String" "coder" "B" (.int 0)) (F_value_a1 : Fld Z h0 a1 "java/lang/String" "value" "[B" (.ref a2)) (A_a2 : Ar Z h0 a2 c1 .byte []) (S_cs : G_S_cs Z cs) (hcs : ¬ cs = 0) :
  Con w [] Z (⟨"java/lang/String", "indexOf", "(II)I"⟩ : MethodName) jdk_42_method_80_code 3 (some .int) R_indexOf_21 Ts Ts f #[.ref a1, .int 13, .int 0] h0 (Q_indexOf_21 Z h0) := by
 refine con_of f #[vR a1, vI 13, vI 0] (plainFor_of_name pn_0) (fun m => rfl) Zf ?_
 intro C H hX0
 refine r_aloadN H 1 d_j42_80_0 ?_
 refine r_virtual (z := (⟨"java/lang/String", "isLatin1", "()Z"⟩ : MethodName)) (a := a1) (argsL := []) (rest := []) (W := 0) H 4 d_j42_80_1 (tw53 hw) (tw54 hw) (nf_sel (tw56 hw)) (tw56 hw) (tw55 hw) (tw4 hw) (tw57 hw) E_a1 (lenOf pd_7 rfl) (rm_isLatin1_13 hw Ts a1 cs h0 f Zf Z0 F_coder_a1 S_cs hcs) ?_
 rintro _ _ ⟨rfl, rfl⟩
 refine r_ifeqF H 7 d_j42_80_4 rfl (by decide) ?_
 refine r_aloadN H 8 d_j42_80_7 ?_
 refine r_getf H 11 d_j42_80_8 (tw21 hw) F_value_a1 ?_
 refine r_iloadN H 12 d_j42_80_11 ?_
 refine r_iloadN H 13 d_j42_80_12 ?_
 refine r_aloadN H 14 d_j42_80_13 ?_
 refine r_virtual (z := (⟨"java/lang/String", "length", "()I"⟩ : MethodName)) (a := a1) (argsL := []) (rest := [.int 0, .int 13, .ref a2]) (W := 3) H 17 d_j42_80_14 (tw58 hw) (tw59 hw) (nf_sel (tw61 hw)) (tw61 hw) (tw60 hw) (tw4 hw) (tw62 hw) E_a1 (lenOf pd_9 rfl) (rm_length_14 hw Ts a1 a2 c1 cs h0 f Zf Z0 F_value_a1 A_a2 E_a1 F_coder_a1 S_cs hcs) ?_
 rintro _ _ ⟨rfl, rfl⟩
 refine r_static (argsL := [.ref a2, .int 13, .int 0, .int 0]) (rest := []) (W := 0) H 20 d_j42_80_17 (tw68 hw) (tw69 hw) (tw30 hw) (tw70 hw) (lenOf pd_12 rfl) (rm_indexOf_22 hw Ts a2 c1 h0 f Zf Z0 A_a2) ?_
 rintro _ _ ⟨rfl, rfl⟩
 refine r_goto H 36 d_j42_80_20 ?_
 exact r_ireturn H d_j42_80_36 (⟨rfl, rfl⟩)
def Q_indexOf_20 (Z : State) (h0 : Heap) (v : Option Value) (h : Heap) : Prop := v = some (.int (-1)) ∧ h0 = h
def R_indexOf_20 : Room := { frames := 3, cells := 0, slots := 0, locals := 42 }
theorem rm_indexOf_20 {w : Bool} {Z : State} {a0 : Array Value} (hw : HW a0 Z) (Ts : List String) (a1 : Addr) (a2 : Addr) (c1 : ClassId) (cs : Int32) (h0 : Heap) (f : Nat) (Zf : Z.heap.size ≤ f) (Z0 : f ≤ h0.size) (E_a1 : Exa Z h0 a1 "java/lang/String") (F_coder_a1 : Fld Z h0 a1 "java/lang/String" "coder" "B" (.int 0)) (F_value_a1 : Fld Z h0 a1 "java/lang/String" "value" "[B" (.ref a2)) (A_a2 : Ar Z h0 a2 c1 .byte []) (S_cs : G_S_cs Z cs) (hcs : ¬ cs = 0) :
  Con w [] Z (⟨"java/lang/String", "indexOf", "(I)I"⟩ : MethodName) jdk_42_method_79_code 2 (some .int) R_indexOf_20 Ts Ts f #[.ref a1, .int 13] h0 (Q_indexOf_20 Z h0) := by
 refine con_of f #[vR a1, vI 13] (plainFor_of_name pn_0) (fun m => rfl) Zf ?_
 intro C H hX0
 refine r_aloadN H 1 d_j42_79_0 ?_
 refine r_iloadN H 2 d_j42_79_1 ?_
 refine r_iconst H 3 0 d_j42_79_2 ?_
 refine r_virtual (z := (⟨"java/lang/String", "indexOf", "(II)I"⟩ : MethodName)) (a := a1) (argsL := [.int 13, .int 0]) (rest := []) (W := 0) H 6 d_j42_79_3 (tw48 hw) (tw49 hw) (nf_sel (tw51 hw)) (tw51 hw) (tw50 hw) (tw4 hw) (tw52 hw) E_a1 (lenOf pd_11 rfl) (rm_indexOf_21 hw Ts a1 a2 c1 cs h0 f Zf Z0 E_a1 F_coder_a1 F_value_a1 A_a2 S_cs hcs) ?_
 rintro _ _ ⟨rfl, rfl⟩
 exact r_ireturn H d_j42_79_6 (⟨rfl, rfl⟩)
def Q_require_10 (Z : State) (a2 : Addr) (h0 : Heap) (v : Option Value) (h : Heap) : Prop := v = some (.ref a2) ∧ h0 = h
def R_require_10 : Room := { frames := 4, cells := 0, slots := 0, locals := 55 }
theorem rm_require_10 {w : Bool} {Z : State} {a0 : Array Value} (hw : HW a0 Z) (Ts : List String) (a1 : Addr) (a2 : Addr) (a4 : Addr) (c2 : ClassId) (cs : Int32) (h0 : Heap) (f : Nat) (Zf : Z.heap.size ≤ f) (Z0 : f ≤ h0.size) (E_a2 : Exa Z h0 a2 "java/lang/String") (F_coder_a2 : Fld Z h0 a2 "java/lang/String" "coder" "B" (.int 0)) (F_value_a2 : Fld Z h0 a2 "java/lang/String" "value" "[B" (.ref a4)) (A_a4 : Ar Z h0 a4 c2 .byte []) (S_cs : G_S_cs Z cs) (hcs : ¬ cs = 0) :
  Con w [] Z (⟨"com/example/ferryline/ferryline/model/OneLine", "require", "(Ljava/lang/String;Ljava/lang/String;)Ljava/lang/String;"⟩ : MethodName) prog_70_method_2_code 2 (some (.object "java/lang/String")) R_require_10 Ts Ts f #[.ref a1, .ref a2] h0 (Q_require_10 Z a2 h0) := by
 refine con_of f #[vR a1, vR a2] (plainFor_of_name pn_3) (fun m => rfl) Zf ?_
 intro C H hX0
 refine r_aloadN H 1 d_g70_2_0 ?_
 refine r_bipush H 3 10 d_g70_2_1 ?_
 refine r_virtual (z := (⟨"java/lang/String", "indexOf", "(I)I"⟩ : MethodName)) (a := a2) (argsL := [.int 10]) (rest := []) (W := 0) H 6 d_g70_2_3 (tw43 hw) (tw44 hw) (nf_sel (tw46 hw)) (tw46 hw) (tw45 hw) (tw4 hw) (tw47 hw) E_a2 (lenOf pd_13 rfl) (rm_indexOf_11 hw Ts a2 a4 c2 cs h0 f Zf Z0 E_a2 F_coder_a2 F_value_a2 A_a4 S_cs hcs) ?_
 rintro _ _ ⟨rfl, rfl⟩
 refine r_ifgeF H 9 d_g70_2_6 ?_
 refine r_aloadN H 10 d_g70_2_9 ?_
 refine r_bipush H 12 13 d_g70_2_10 ?_
 refine r_virtual (z := (⟨"java/lang/String", "indexOf", "(I)I"⟩ : MethodName)) (a := a2) (argsL := [.int 13]) (rest := []) (W := 0) H 15 d_g70_2_12 (tw43 hw) (tw44 hw) (nf_sel (tw46 hw)) (tw46 hw) (tw45 hw) (tw4 hw) (tw47 hw) E_a2 (lenOf pd_13 rfl) (rm_indexOf_20 hw Ts a2 a4 c2 cs h0 f Zf Z0 E_a2 F_coder_a2 F_value_a2 A_a4 S_cs hcs) ?_
 rintro _ _ ⟨rfl, rfl⟩
 refine r_ifltT H 38 d_g70_2_15 ?_
 refine r_aloadN H 39 d_g70_2_38 ?_
 exact r_areturn H d_g70_2_39 (⟨rfl, rfl⟩)
def fn_safe_24 (i1 : Int32) : Int32 := (if (i1 &&& (65535 : Int32)) = (10 : Int32) then ((i1 &&& (65535 : Int32)) + (1 : Int32)) else (if (i1 &&& (65535 : Int32)) = (13 : Int32) then ((i1 &&& (65535 : Int32)) + (1 : Int32)) else (i1 &&& (65535 : Int32))))
def Q_safe_24 (Z : State) (i1 : Int32) (h0 : Heap) (v : Option Value) (h : Heap) : Prop := ∃ z : Int32, v = some (.int z) ∧ h0 = h ∧ (fn_safe_24 i1) = z ∧ (0 ≤ z.toInt ∧ z.toInt ≤ 65535) ∧ ¬ z = (10 : Int32) ∧ ¬ z = (13 : Int32)
def R_safe_24 : Room := { frames := 0, cells := 0, slots := 0, locals := 0 }
theorem rm_safe_24 {w : Bool} {Z : State} {a0 : Array Value} (hw : HW a0 Z) (Ts : List String) (i1 : Int32) (h0 : Heap) (f : Nat) (Zf : Z.heap.size ≤ f) (Z0 : f ≤ h0.size) :
  Con w [] Z (⟨"com/example/ferryline/ferryline/model/OneLineRequirePinLaw", "safe", "(I)C"⟩ : MethodName) method_2_code 2 (some .char) R_safe_24 Ts Ts f #[.int i1] h0 (Q_safe_24 Z i1 h0) := by
 refine con_of f #[vI i1, .unset] (plainFor_of_name pn_4) (fun m => rfl) Zf ?_
 intro C H hX0
 refine r_iloadN H 1 d_2_0 ?_
 refine r_ldcI H 3 d_2_1 (tw23 hw) ?_
 obtain ⟨p1, ep1, rp1⟩ : ∃ p : Int32, (i1 &&& (65535 : Int32)) = p ∧ 0 ≤ p.toInt ∧ p.toInt ≤ 65535 := ⟨_, rfl, (by have h := c_and i1 (65535 : Int32) (by decide); have : (65535 : Int32).toInt = 65535 := (by decide); omega)⟩
 refine r_iand H 4 p1 d_2_3 ep1 ?_
 refine r_i2c H 5 p1 d_2_4 (i2c_id (by have := rp1; omega)) ?_
 refine r_istoreN H 6 #[vI i1, vI p1] d_2_5 ?_
 refine r_iloadN H 7 d_2_6 ?_
 refine r_bipush H 9 10 d_2_7 ?_
 refine r_icmpeq H 18 12 d_2_9 (fun c2 => ?_) (fun c2 => ?_)
 ·
  have rr3 : 10 ≤ p1.toInt ∧ p1.toInt ≤ 10 := by have := rp1; have : (10 : Int32).toInt = 10 := (by decide); have hc_ := c2; simp only [Int32.lt_iff_toInt_lt, ← Int32.toInt_inj] at hc_; omega
  refine r_iloadN H 19 d_2_18 ?_
  refine r_iconst H 20 1 d_2_19 ?_
  obtain ⟨p4, ep4, rp4⟩ : ∃ p : Int32, (p1 + (1 : Int32)) = p ∧ 11 ≤ p.toInt ∧ p.toInt ≤ 11 := ⟨_, rfl, (by have := rr3; have : (1 : Int32).toInt = 1 := (by decide); have h1 := c_iadd p1 (1 : Int32); have h2 := rng32 (p1 + (1 : Int32)); omega)⟩
  refine r_iadd H 21 p4 d_2_20 ep4 ?_
  refine r_i2c H 22 p4 d_2_21 (i2c_id (by have := rp4; omega)) ?_
  subst ep1 ep4
  exact r_nreturn ((i1 &&& (65535 : Int32)) + (1 : Int32)) H d_2_22 (nar_char_id (by have := rp4; omega)) nlr (fun _ t => t) (⟨_, rfl, rfl, (by unfold fn_safe_24; rw [if_pos c2]), (by have := rp4; omega), (by have := rp4; have : (10 : Int32).toInt = 10 := (by decide); simp only [← Int32.toInt_inj]; omega), (by have := rp4; have : (13 : Int32).toInt = 13 := (by decide); simp only [← Int32.toInt_inj]; omega)⟩)
 ·
  refine r_iloadN H 13 d_2_12 ?_
  refine r_bipush H 15 13 d_2_13 ?_
  refine r_icmpne H 23 18 d_2_15 (fun c5 => ?_) (fun c5 => ?_)
  ·
   refine r_iloadN H 24 d_2_23 ?_
   subst ep1
   exact r_nreturn (i1 &&& (65535 : Int32)) H d_2_24 (nar_char_id (by have := rp1; omega)) nlr (fun _ t => t) (⟨_, rfl, rfl, (by unfold fn_safe_24; rw [if_neg c2, if_neg c5]), (by have := rp1; omega), c2, c5⟩)
  ·
   have rr6 : 13 ≤ p1.toInt ∧ p1.toInt ≤ 13 := by have := rp1; have : (13 : Int32).toInt = 13 := (by decide); have hc_ := c5; simp only [Int32.lt_iff_toInt_lt, ← Int32.toInt_inj] at hc_; omega
   refine r_iloadN H 19 d_2_18 ?_
   refine r_iconst H 20 1 d_2_19 ?_
   obtain ⟨p7, ep7, rp7⟩ : ∃ p : Int32, (p1 + (1 : Int32)) = p ∧ 14 ≤ p.toInt ∧ p.toInt ≤ 14 := ⟨_, rfl, (by have := rr6; have : (1 : Int32).toInt = 1 := (by decide); have h1 := c_iadd p1 (1 : Int32); have h2 := rng32 (p1 + (1 : Int32)); omega)⟩
   refine r_iadd H 21 p7 d_2_20 ep7 ?_
   refine r_i2c H 22 p7 d_2_21 (i2c_id (by have := rp7; omega)) ?_
   subst ep1 ep7
   exact r_nreturn ((i1 &&& (65535 : Int32)) + (1 : Int32)) H d_2_22 (nar_char_id (by have := rp7; omega)) nlr (fun _ t => t) (⟨_, rfl, rfl, (by unfold fn_safe_24; rw [if_neg c2, if_pos c5]), (by have := rp7; omega), (by have := rp7; have : (10 : Int32).toInt = 10 := (by decide); simp only [← Int32.toInt_inj]; omega), (by have := rp7; have : (13 : Int32).toInt = 13 := (by decide); simp only [← Int32.toInt_inj]; omega)⟩)
def Q_compress_28 (Z : State) (a2 : Addr) (i1 : Int32) (c2 : ClassId) (h0 : Heap) (v : Option Value) (h : Heap) : Prop := (v = some (.int 1) ∧ (¬ (255 : Int32) < i1) ∧ Keep h0 h [a2] ∧ Ar Z h a2 c2 .byte [.int (cB8 i1)] ∧ Exa Z h a2 "[B") ∨ (v = some (.int 0) ∧ ((255 : Int32) < i1) ∧ h0 = h)
def R_compress_28 : Room := { frames := 0, cells := 0, slots := 0, locals := 0 }
theorem rm_compress_28 {w : Bool} {Z : State} {a0 : Array Value} (hw : HW a0 Z) (Ts : List String) (a1 : Addr) (a2 : Addr) (i1 : Int32) (c1 : ClassId) (c2 : ClassId) (h0 : Heap) (f : Nat) (Zf : Z.heap.size ≤ f) (Z0 : f ≤ h0.size) (A_a1 : Ar Z h0 a1 c1 .char [.int i1]) (A_a2 : Ar Z h0 a2 c2 .byte [.int 0]) (g_a2 : f ≤ a2) (E_a2 : Exa Z h0 a2 "[B") (r_i1 : 0 ≤ i1.toInt ∧ i1.toInt ≤ 65535) :
  Con w [] Z (⟨"java/lang/StringUTF16", "compress", "([CI[BII)I"⟩ : MethodName) jdk_52_method_21_code 7 (some .int) R_compress_28 Ts Ts f #[.ref a1, .int 0, .ref a2, .int 0, .int 1] h0 (Q_compress_28 Z a2 i1 c2 h0) := by
 refine con_of f #[vR a1, vI 0, vR a2, vI 0, vI 1, .unset, .unset] (plainFor_of_name pn_2) (fun m => rfl) Zf ?_
 intro C H hX0
 refine r_iconst H 1 0 d_j52_21_0 ?_
 refine r_istore H 3 #[vR a1, vI 0, vR a2, vI 0, vI 1, vI 0, .unset] d_j52_21_1 ?_
 refine r_iload H 5 d_j52_21_3 ?_
 refine r_iload H 7 d_j52_21_5 ?_
 refine r_icmpgeF H 10 d_j52_21_7 ?_
 refine r_aloadN H 11 d_j52_21_10 ?_
 refine r_iloadN H 12 d_j52_21_11 ?_
 refine r_caload H 13 i1 d_j52_21_12 A_a1 ?_
 refine r_istore H 15 #[vR a1, vI 0, vR a2, vI 0, vI 1, vI 0, vI i1] d_j52_21_13 ?_
 refine r_iload H 17 d_j52_21_15 ?_
 refine r_sipush H 20 255 d_j52_21_17 ?_
 refine r_icmple H 26 23 d_j52_21_20 (fun c1 => ?_) (fun c1 => ?_)
 ·
  refine r_aloadN H 27 d_j52_21_26 ?_
  refine r_iloadN H 28 d_j52_21_27 ?_
  refine r_iload H 30 d_j52_21_28 ?_
  obtain ⟨p3, ep3, rp3⟩ : ∃ p : Int32, (i1.toInt8.toInt32) = p ∧ -128 ≤ p.toInt ∧ p.toInt ≤ 127 := ⟨_, rfl, (by have h := c_i2b i1; omega)⟩
  refine r_i2b H 31 p3 d_j52_21_30 ep3 ?_
  refine r_bastore H 32 p3 d_j52_21_31 A_a2 g_a2 (nar_byte_id (by have := rp3; omega)) ?_
  intro h4 K4 A4
  change Ar Z h4 a2 c2 .byte [.int p3] at A4
  refine r_iinc H 35 #[vR a1, vI 1, vR a2, vI 0, vI 1, vI 0, vI i1] 1 d_j52_21_32 ?_
  refine r_iinc H 38 #[vR a1, vI 1, vR a2, vI 1, vI 1, vI 0, vI i1] 1 d_j52_21_35 ?_
  refine r_iinc H 41 #[vR a1, vI 1, vR a2, vI 1, vI 1, vI 1, vI i1] 1 d_j52_21_38 ?_
  refine r_goto H 3 d_j52_21_41 ?_
  refine r_iload H 5 d_j52_21_3 ?_
  refine r_iload H 7 d_j52_21_5 ?_
  refine r_icmpgeT H 44 d_j52_21_7 ?_
  refine r_iload H 46 d_j52_21_44 ?_
  have k5 : Keep h0 h4 [a2] := Keep.trans (Keep.refl h0 [a2]) K4 (allS (Or.inl (List.mem_of_getElem? (i := 0) rfl)) all0)
  have q6 := (E_a2.keep K4)
  subst ep3
  exact r_ireturn H d_j52_21_46 (Or.inl ⟨rfl, c1, k5, A4, q6⟩)
 ·
  refine r_iload H 25 d_j52_21_23 ?_
  exact r_ireturn H d_j52_21_25 (Or.inr (⟨rfl, c1, rfl⟩))
def Q_newBytesLength_31 (Z : State) (h0 : Heap) (v : Option Value) (h : Heap) : Prop := v = some (.int 2) ∧ h0 = h
def R_newBytesLength_31 : Room := { frames := 0, cells := 0, slots := 0, locals := 0 }
theorem rm_newBytesLength_31 {w : Bool} {Z : State} {a0 : Array Value} (hw : HW a0 Z) (Ts : List String) (h0 : Heap) (f : Nat) (Zf : Z.heap.size ≤ f) (Z0 : f ≤ h0.size) :
  Con w [] Z (⟨"java/lang/StringUTF16", "newBytesLength", "(I)I"⟩ : MethodName) jdk_52_method_3_code 1 (some .int) R_newBytesLength_31 Ts Ts f #[.int 1] h0 (Q_newBytesLength_31 Z h0) := by
 refine con_of f #[vI 1] (plainFor_of_name pn_2) (fun m => rfl) Zf ?_
 intro C H hX0
 refine r_iloadN H 1 d_j52_3_0 ?_
 refine r_ifgeT H 12 d_j52_3_1 ?_
 refine r_iloadN H 13 d_j52_3_12 ?_
 refine r_ldcI H 15 d_j52_3_13 (tw108 hw) ?_
 refine r_icmpltT H 55 d_j52_3_15 ?_
 refine r_iloadN H 56 d_j52_3_55 ?_
 refine r_iconst H 57 1 d_j52_3_56 ?_
 refine r_ishl H 58 2 d_j52_3_57 (by decide) ?_
 exact r_ireturn H d_j52_3_58 (⟨rfl, rfl⟩)
def Q_newBytesFor_30 (Z : State) (h0 : Heap) (v : Option Value) (h : Heap) : Prop := ∃ (b2 : Addr) (kc2 : ClassId), v = some (.ref b2) ∧ Keep h0 h [] ∧ h0.size ≤ b2 ∧ Ar Z h b2 kc2 .byte [.int 0, .int 0] ∧ Exa Z h b2 "[B"
def R_newBytesFor_30 : Room := { frames := 1, cells := 1, slots := 2, locals := 12 }
theorem rm_newBytesFor_30 {w : Bool} {Z : State} {a0 : Array Value} (hw : HW a0 Z) (Ts : List String) (h0 : Heap) (f : Nat) (Zf : Z.heap.size ≤ f) (Z0 : f ≤ h0.size) :
  Con w [] Z (⟨"java/lang/StringUTF16", "newBytesFor", "(I)[B"⟩ : MethodName) jdk_52_method_2_code 1 (some (.array .byte)) R_newBytesFor_30 Ts Ts f #[.int 1] h0 (Q_newBytesFor_30 Z h0) := by
 refine con_of f #[vI 1] (plainFor_of_name pn_2) (fun m => rfl) Zf ?_
 intro C H hX0
 refine r_iloadN H 1 d_j52_2_0 ?_
 refine r_static (argsL := [.int 1]) (rest := []) (W := 0) H 4 d_j52_2_1 (tw105 hw) (tw106 hw) (tw88 hw) (tw107 hw) (lenOf pd_13 rfl) (rm_newBytesLength_31 hw Ts h0 f Zf Z0) ?_
 rintro _ _ ⟨rfl, rfl⟩
 refine r_newP H 6 "[B" 2 d_j52_2_4 (tw16 hw) ?_
 intro h2 b2 kc2 g2 l2 K2 E2 A2
 change Ar Z h2 b2 kc2 .byte [.int 0, .int 0] at A2
 have k3 : Keep h0 h2 [] := Keep.trans (Keep.refl h0 []) K2 all0
 exact r_areturn H d_j52_2_6 (⟨b2, kc2, rfl, k3, (nlt nlr (Nat.le_of_eq g2.symm)), A2, E2⟩)
def Q_toBytes_29 (Z : State) (i1 : Int32) (h0 : Heap) (v : Option Value) (h : Heap) : Prop := ∃ (b1 : Addr) (kc2 : ClassId), v = some (.ref b1) ∧ Keep h0 h [] ∧ h0.size ≤ b1 ∧ Ar Z h b1 kc2 .byte [.int (cL8 i1), .int (cH8 i1)] ∧ Exa Z h b1 "[B"
def R_toBytes_29 : Room := { frames := 2, cells := 1, slots := 2, locals := 24 }
theorem rm_toBytes_29 {w : Bool} {Z : State} {a0 : Array Value} (hw : HW a0 Z) (Ts : List String) (a1 : Addr) (i1 : Int32) (c1 : ClassId) (h0 : Heap) (f : Nat) (Zf : Z.heap.size ≤ f) (Z0 : f ≤ h0.size) (A_a1 : Ar Z h0 a1 c1 .char [.int i1]) (r_i1 : 256 ≤ i1.toInt ∧ i1.toInt ≤ 65535) (S__assertionsDisabled : G_S__assertionsDisabled Z) (S_HI_BYTE_SHIFT : G_S_HI_BYTE_SHIFT Z) (S_LO_BYTE_SHIFT : G_S_LO_BYTE_SHIFT Z) :
  Con w [] Z (⟨"java/lang/StringUTF16", "toBytes", "([CII)[B"⟩ : MethodName) jdk_52_method_14_code 5 (some (.array .byte)) R_toBytes_29 Ts Ts f #[.ref a1, .int 0, .int 1] h0 (Q_toBytes_29 Z i1 h0) := by
 refine con_of f #[vR a1, vI 0, vI 1, .unset, .unset] (plainFor_of_name pn_2) (fun m => rfl) Zf ?_
 intro C H hX0
 refine r_iloadN H 1 d_j52_14_0 ?_
 refine r_static (argsL := [.int 1]) (rest := []) (W := 0) H 4 d_j52_14_1 (tw102 hw) (tw103 hw) (tw88 hw) (tw104 hw) (lenOf pd_17 rfl) (rm_newBytesFor_30 hw Ts h0 f Zf Z0) ?_
 rintro _ hh7 ⟨b1, kc2, rfl, K3, g4, q5, q6⟩
 refine r_astoreN H 5 #[vR a1, vI 0, vI 1, vR b1, .unset] d_j52_14_4 ?_
 refine r_iconst H 6 0 d_j52_14_5 ?_
 refine r_istore H 8 #[vR a1, vI 0, vI 1, vR b1, vI 0] d_j52_14_6 ?_
 refine r_iload H 10 d_j52_14_8 ?_
 refine r_iloadN H 11 d_j52_14_10 ?_
 refine r_icmpgeF H 14 d_j52_14_11 ?_
 refine r_aloadN H 15 d_j52_14_14 ?_
 refine r_iload H 17 d_j52_14_15 ?_
 refine r_aloadN H 18 d_j52_14_17 ?_
 refine r_iloadN H 19 d_j52_14_18 ?_
 have q8 := (A_a1.keep K3 nin0)
 refine r_caload H 20 i1 d_j52_14_19 q8 ?_
 refine r_static (argsL := [.ref b1, .int 0, .int i1]) (rest := []) (W := 0) H 23 d_j52_14_20 (tw109 hw) (tw110 hw) (tw88 hw) (tw111 hw) (lenOf pd_3 rfl) (rm_putChar_6 hw Ts b1 i1 (0 : Int32) (0 : Int32) kc2 hh7 f Zf (nlt Z0 K3.1) q5 (nlt Z0 g4) q6 (by have := r_i1; omega) S__assertionsDisabled S_HI_BYTE_SHIFT S_LO_BYTE_SHIFT) ?_
 rintro _ hh12 ⟨rfl, K9, q10, q11⟩
 refine r_iinc H 26 #[vR a1, vI 1, vI 1, vR b1, vI 0] 1 d_j52_14_23 ?_
 refine r_iinc H 29 #[vR a1, vI 1, vI 1, vR b1, vI 1] 1 d_j52_14_26 ?_
 refine r_goto H 8 d_j52_14_29 ?_
 refine r_iload H 10 d_j52_14_8 ?_
 refine r_iloadN H 11 d_j52_14_10 ?_
 refine r_icmpgeT H 32 d_j52_14_11 ?_
 refine r_aloadN H 33 d_j52_14_32 ?_
 have k13 : Keep h0 hh7 [] := Keep.trans (Keep.refl h0 []) K3 all0
 have k14 : Keep h0 hh12 [] := Keep.trans k13 K9 (allS (Or.inr (nlt nlr g4)) all0)
 exact r_areturn H d_j52_14_33 (⟨b1, kc2, rfl, k14, (nlt nlr g4), q10, q11⟩)
def Q_getChar_32 (Z : State) (i1 : Int32) (i2 : Int32) (h0 : Heap) (v : Option Value) (h : Heap) : Prop := ∃ (z : Int32), v = some (.int z) ∧ ((((i1 &&& (255 : Int32)) <<< ((0 : Int32) &&& 31)) ||| ((i2 &&& (255 : Int32)) <<< ((8 : Int32) &&& 31))).toUInt32.toUInt16.toUInt32.toInt32) = z ∧ (0 ≤ z.toInt ∧ z.toInt ≤ 65535) ∧ h0 = h
def R_getChar_32 : Room := { frames := 0, cells := 0, slots := 0, locals := 0 }
theorem rm_getChar_32 {w : Bool} {Z : State} {a0 : Array Value} (hw : HW a0 Z) (Ts : List String) (a1 : Addr) (i1 : Int32) (i2 : Int32) (c1 : ClassId) (h0 : Heap) (f : Nat) (Zf : Z.heap.size ≤ f) (Z0 : f ≤ h0.size) (A_a1 : Ar Z h0 a1 c1 .byte [.int i1, .int i2]) (S__assertionsDisabled : G_S__assertionsDisabled Z) (S_HI_BYTE_SHIFT : G_S_HI_BYTE_SHIFT Z) (S_LO_BYTE_SHIFT : G_S_LO_BYTE_SHIFT Z) :
  Con w [] Z (⟨"java/lang/StringUTF16", "getChar", "([BI)C"⟩ : MethodName) jdk_52_method_5_code 2 (some .char) R_getChar_32 Ts Ts f #[.ref a1, .int 0] h0 (Q_getChar_32 Z i1 i2 h0) := by
 refine con_of f #[vR a1, vI 0] (plainFor_of_name pn_2) (fun m => rfl) Zf ?_
 intro C H hX0
 refine r_gets H 3 d_j52_5_0 (tw112 hw) S__assertionsDisabled ?_
 refine r_ifneT H 28 d_j52_5_3 ?_
 refine r_iloadN H 29 d_j52_5_28 ?_
 refine r_iconst H 30 1 d_j52_5_29 ?_
 refine r_ishl H 31 0 d_j52_5_30 (by decide) ?_
 refine r_istoreN H 32 #[vR a1, vI 0] d_j52_5_31 ?_
 refine r_aloadN H 33 d_j52_5_32 ?_
 refine r_iloadN H 34 d_j52_5_33 ?_
 refine r_iinc H 37 #[vR a1, vI 1] 1 d_j52_5_34 ?_
 refine r_baload H 38 i1 d_j52_5_37 A_a1 ?_
 refine r_sipush H 41 255 d_j52_5_38 ?_
 obtain ⟨p1, ep1, rp1⟩ : ∃ p : Int32, (i1 &&& (255 : Int32)) = p ∧ 0 ≤ p.toInt ∧ p.toInt ≤ 255 := ⟨_, rfl, (by have h := c_and i1 (255 : Int32) (by decide); have : (255 : Int32).toInt = 255 := (by decide); omega)⟩
 refine r_iand H 42 p1 d_j52_5_41 ep1 ?_
 refine r_gets H 45 d_j52_5_42 (tw113 hw) S_HI_BYTE_SHIFT ?_
 refine r_ishl H 46 (p1 <<< ((0 : Int32) &&& 31)) d_j52_5_45 rfl ?_
 refine r_aloadN H 47 d_j52_5_46 ?_
 refine r_iloadN H 48 d_j52_5_47 ?_
 refine r_baload H 49 i2 d_j52_5_48 A_a1 ?_
 refine r_sipush H 52 255 d_j52_5_49 ?_
 obtain ⟨p2, ep2, rp2⟩ : ∃ p : Int32, (i2 &&& (255 : Int32)) = p ∧ 0 ≤ p.toInt ∧ p.toInt ≤ 255 := ⟨_, rfl, (by have h := c_and i2 (255 : Int32) (by decide); have : (255 : Int32).toInt = 255 := (by decide); omega)⟩
 refine r_iand H 53 p2 d_j52_5_52 ep2 ?_
 refine r_gets H 56 d_j52_5_53 (tw114 hw) S_LO_BYTE_SHIFT ?_
 refine r_ishl H 57 (p2 <<< ((8 : Int32) &&& 31)) d_j52_5_56 rfl ?_
 refine r_ior H 58 ((p1 <<< ((0 : Int32) &&& 31)) ||| (p2 <<< ((8 : Int32) &&& 31))) d_j52_5_57 ?_
 obtain ⟨p3, ep3, rp3⟩ : ∃ p : Int32, (((p1 <<< ((0 : Int32) &&& 31)) ||| (p2 <<< ((8 : Int32) &&& 31))).toUInt32.toUInt16.toUInt32.toInt32) = p ∧ 0 ≤ p.toInt ∧ p.toInt ≤ 65535 := ⟨_, rfl, (by have h := c_i2c ((p1 <<< ((0 : Int32) &&& 31)) ||| (p2 <<< ((8 : Int32) &&& 31))); omega)⟩
 refine r_i2c H 59 p3 d_j52_5_58 ep3 ?_
 subst ep1 ep2 ep3
 exact r_nreturn ((((i1 &&& (255 : Int32)) <<< ((0 : Int32) &&& 31)) ||| ((i2 &&& (255 : Int32)) <<< ((8 : Int32) &&& 31))).toUInt32.toUInt16.toUInt32.toInt32) H d_j52_5_59 (nar_char_id (by have := rp3; omega)) nlr (fun _ t => t) (⟨_, rfl, rfl, (by have := rp3; omega), rfl⟩)
def Q_compress_27 (Z : State) (i1 : Int32) (h0 : Heap) (v : Option Value) (h : Heap) : Prop := (∃ (b1 : Addr) (kc1 : ClassId), v = some (.ref b1) ∧ (¬ (255 : Int32) < i1) ∧ Keep h0 h [] ∧ h0.size ≤ b1 ∧ Ar Z h b1 kc1 .byte [.int (cB8 i1)] ∧ Exa Z h b1 "[B") ∨ (∃ (b14 : Addr) (kc15 : ClassId), v = some (.ref b14) ∧ ((255 : Int32) < i1) ∧ Keep h0 h [] ∧ h0.size ≤ b14 ∧ Ar Z h b14 kc15 .byte [.int (cL8 i1), .int (cH8 i1)] ∧ Exa Z h b14 "[B")
def R_compress_27 : Room := { frames := 3, cells := 2, slots := 3, locals := 40 }
theorem rm_compress_27 {w : Bool} {Z : State} {a0 : Array Value} (hw : HW a0 Z) (Ts : List String) (a1 : Addr) (i1 : Int32) (c1 : ClassId) (h0 : Heap) (f : Nat) (Zf : Z.heap.size ≤ f) (Z0 : f ≤ h0.size) (A_a1 : Ar Z h0 a1 c1 .char [.int i1]) (r_i1 : 0 ≤ i1.toInt ∧ i1.toInt ≤ 65535) (S__assertionsDisabled : G_S__assertionsDisabled Z) (S_HI_BYTE_SHIFT : G_S_HI_BYTE_SHIFT Z) (S_LO_BYTE_SHIFT : G_S_LO_BYTE_SHIFT Z) :
  Con w [] Z (⟨"java/lang/StringUTF16", "compress", "([CII)[B"⟩ : MethodName) jdk_52_method_16_code 6 (some (.array .byte)) R_compress_27 Ts Ts f #[.ref a1, .int 0, .int 1] h0 (Q_compress_27 Z i1 h0) := by
 refine con_of f #[vR a1, vI 0, vI 1, .unset, .unset, .unset] (plainFor_of_name pn_2) (fun m => rfl) Zf ?_
 intro C H hX0
 refine r_iloadN H 1 d_j52_16_0 ?_
 refine r_newP H 3 "[B" 1 d_j52_16_1 (tw16 hw) ?_
 intro h1 b1 kc1 g1 l1 K1 E1 A1
 change Ar Z h1 b1 kc1 .byte [.int 0] at A1
 refine r_astoreN H 4 #[vR a1, vI 0, vI 1, vR b1, .unset, .unset] d_j52_16_3 ?_
 refine r_aloadN H 5 d_j52_16_4 ?_
 refine r_iloadN H 6 d_j52_16_5 ?_
 refine r_aloadN H 7 d_j52_16_6 ?_
 refine r_iconst H 8 0 d_j52_16_7 ?_
 refine r_iloadN H 9 d_j52_16_8 ?_
 have q2 := (A_a1.keep K1 nin0)
 refine r_static (argsL := [.ref a1, .int 0, .ref b1, .int 0, .int 1]) (rest := []) (W := 0) H 12 d_j52_16_9 (tw90 hw) (tw91 hw) (tw88 hw) (tw92 hw) (lenOf pd_16 rfl) (rm_compress_28 hw Ts a1 b1 i1 c1 kc1 h1 f Zf (nlt Z0 K1.1) q2 A1 (nlt Z0 (Nat.le_of_eq g1.symm)) E1 r_i1) ?_
 rintro _ hh9 (⟨rfl, c4, K3, q5, q6⟩ | ⟨rfl, c8, rfl⟩)
 ·
  refine r_istore H 14 #[vR a1, vI 0, vI 1, vR b1, vI 1, .unset] d_j52_16_12 ?_
  refine r_iload H 16 d_j52_16_14 ?_
  refine r_iloadN H 17 d_j52_16_16 ?_
  refine r_icmpeqT H 57 d_j52_16_17 (by decide) (by decide) (by decide) ?_
  refine r_aloadN H 58 d_j52_16_57 ?_
  have k11 : Keep h0 h1 [] := Keep.trans (Keep.refl h0 []) K1 all0
  have k12 : Keep h0 hh9 [] := Keep.trans k11 K3 (allS (Or.inr (nlt nlr (Nat.le_of_eq g1.symm))) all0)
  exact r_areturn H d_j52_16_58 (Or.inl ⟨b1, kc1, rfl, c4, k12, (nlt nlr (Nat.le_of_eq g1.symm)), q5, q6⟩)
 ·
  have rr13 : 256 ≤ i1.toInt ∧ i1.toInt ≤ 65535 := by have := r_i1; have : (255 : Int32).toInt = 255 := (by decide); have hc_ := c8; simp only [Int32.lt_iff_toInt_lt, ← Int32.toInt_inj] at hc_; omega
  refine r_istore H 14 #[vR a1, vI 0, vI 1, vR b1, vI 0, .unset] d_j52_16_12 ?_
  refine r_iload H 16 d_j52_16_14 ?_
  refine r_iloadN H 17 d_j52_16_16 ?_
  refine r_icmpeqF H 20 d_j52_16_17 rfl (by decide) ?_
  refine r_aloadN H 21 d_j52_16_20 ?_
  refine r_iloadN H 22 d_j52_16_21 ?_
  refine r_iloadN H 23 d_j52_16_22 ?_
  refine r_static (argsL := [.ref a1, .int 0, .int 1]) (rest := []) (W := 0) H 26 d_j52_16_23 (tw99 hw) (tw100 hw) (tw88 hw) (tw101 hw) (lenOf pd_18 rfl) (rm_toBytes_29 hw Ts a1 i1 c1 h1 f Zf (nlt Z0 K1.1) q2 rr13 S__assertionsDisabled S_HI_BYTE_SHIFT S_LO_BYTE_SHIFT) ?_
  rintro _ hh20 ⟨b14, kc15, rfl, K16, g17, q18, q19⟩
  refine r_astore H 28 #[vR a1, vI 0, vI 1, vR b1, vI 0, vR b14] d_j52_16_26 ?_
  refine r_aload H 30 d_j52_16_28 ?_
  refine r_iload H 32 d_j52_16_30 ?_
  have z21 := Nat.le_trans K1.1 K16.1
  refine r_static (argsL := [.ref b14, .int 0]) (rest := []) (W := 0) H 35 d_j52_16_32 (tw115 hw) (tw116 hw) (tw88 hw) (tw117 hw) (lenOf pd_19 rfl) (rm_getChar_32 hw Ts b14 (cL8 i1) (cH8 i1) kc15 hh20 f Zf (nlt Z0 z21) q18 S__assertionsDisabled S_HI_BYTE_SHIFT S_LO_BYTE_SHIFT) ?_
  rintro _ _ ⟨p22, rfl, ep22, rp22, rfl⟩
  have hzp22 : i1 = p22 := by rw [← ep22]; exact (own_u16 i1 (by have := rr13; omega)).symm
  subst hzp22
  refine r_sipush H 38 255 d_j52_16_35 ?_
  refine r_icmpgtT H 54 d_j52_16_38 (by decide) (by decide) (by have := rr13; have : (255 : Int32).toInt = 255 := (by decide); simp only [Int32.lt_iff_toInt_lt, ← Int32.toInt_inj]; omega) ?_
  refine r_aload H 56 d_j52_16_54 ?_
  have k24 : Keep h0 h1 [] := Keep.trans (Keep.refl h0 []) K1 all0
  have k25 : Keep h0 hh20 [] := Keep.trans k24 K16 all0
  exact r_areturn H d_j52_16_56 (Or.inr (⟨b14, kc15, rfl, c8, k25, (nlt K1.1 g17), q18, q19⟩))
def Q_coderFromArrayLen_33 (Z : State) (h0 : Heap) (v : Option Value) (h : Heap) : Prop := v = some (.int 0) ∧ h0 = h
def R_coderFromArrayLen_33 : Room := { frames := 0, cells := 0, slots := 0, locals := 0 }
theorem rm_coderFromArrayLen_33 {w : Bool} {Z : State} {a0 : Array Value} (hw : HW a0 Z) (Ts : List String) (a1 : Addr) (i1 : Int32) (c1 : ClassId) (h0 : Heap) (f : Nat) (Zf : Z.heap.size ≤ f) (Z0 : f ≤ h0.size) (A_a1 : Ar Z h0 a1 c1 .byte [.int (cB8 i1)]) :
  Con w [] Z (⟨"java/lang/StringUTF16", "coderFromArrayLen", "([BI)B"⟩ : MethodName) jdk_52_method_15_code 2 (some .byte) R_coderFromArrayLen_33 Ts Ts f #[.ref a1, .int 1] h0 (Q_coderFromArrayLen_33 Z h0) := by
 refine con_of f #[vR a1, vI 1] (plainFor_of_name pn_2) (fun m => rfl) Zf ?_
 intro C H hX0
 refine r_iloadN H 1 d_j52_15_0 ?_
 refine r_aloadN H 2 d_j52_15_1 ?_
 refine r_alen H 3 1 d_j52_15_2 A_a1 ?_
 refine r_isub H 4 0 d_j52_15_3 ?_
 refine r_bipush H 6 31 d_j52_15_4 ?_
 refine r_iushr H 7 0 d_j52_15_6 ?_
 refine r_i2b H 8 0 d_j52_15_7 (by decide) ?_
 exact r_nreturn (0 : Int32) H d_j52_15_8 (by decide) nlr (fun _ t => t) (⟨rfl, rfl⟩)
def Q_coderFromArrayLen_34 (Z : State) (h0 : Heap) (v : Option Value) (h : Heap) : Prop := v = some (.int 1) ∧ h0 = h
def R_coderFromArrayLen_34 : Room := { frames := 0, cells := 0, slots := 0, locals := 0 }
theorem rm_coderFromArrayLen_34 {w : Bool} {Z : State} {a0 : Array Value} (hw : HW a0 Z) (Ts : List String) (a1 : Addr) (i1 : Int32) (c1 : ClassId) (h0 : Heap) (f : Nat) (Zf : Z.heap.size ≤ f) (Z0 : f ≤ h0.size) (A_a1 : Ar Z h0 a1 c1 .byte [.int (cL8 i1), .int (cH8 i1)]) :
  Con w [] Z (⟨"java/lang/StringUTF16", "coderFromArrayLen", "([BI)B"⟩ : MethodName) jdk_52_method_15_code 2 (some .byte) R_coderFromArrayLen_34 Ts Ts f #[.ref a1, .int 1] h0 (Q_coderFromArrayLen_34 Z h0) := by
 refine con_of f #[vR a1, vI 1] (plainFor_of_name pn_2) (fun m => rfl) Zf ?_
 intro C H hX0
 refine r_iloadN H 1 d_j52_15_0 ?_
 refine r_aloadN H 2 d_j52_15_1 ?_
 refine r_alen H 3 2 d_j52_15_2 A_a1 ?_
 refine r_isub H 4 (-1 : Int32) d_j52_15_3 ?_
 refine r_bipush H 6 31 d_j52_15_4 ?_
 refine r_iushr H 7 1 d_j52_15_6 ?_
 refine r_i2b H 8 1 d_j52_15_7 (by decide) ?_
 exact r_nreturn (1 : Int32) H d_j52_15_8 (by decide) nlr (fun _ t => t) (⟨rfl, rfl⟩)
def Q_init_26 (Z : State) (a1 : Addr) (i1 : Int32) (h0 : Heap) (v : Option Value) (h : Heap) : Prop := (∃ (b1 : Addr) (kc2 : ClassId), v = none ∧ (¬ (255 : Int32) < i1) ∧ Keep h0 h [a1] ∧ h0.size ≤ b1 ∧ Exa Z h a1 "java/lang/String" ∧ Fld Z h a1 "java/lang/String" "coder" "B" (.int 0) ∧ Fld Z h a1 "java/lang/String" "value" "[B" (.ref b1) ∧ Ar Z h b1 kc2 .byte [.int (cB8 i1)] ∧ Exa Z h b1 "[B") ∨ (∃ (b8 : Addr) (kc9 : ClassId), v = none ∧ ((255 : Int32) < i1) ∧ Keep h0 h [a1] ∧ h0.size ≤ b8 ∧ Exa Z h a1 "java/lang/String" ∧ Fld Z h a1 "java/lang/String" "coder" "B" (.int 1) ∧ Fld Z h a1 "java/lang/String" "value" "[B" (.ref b8) ∧ Ar Z h b8 kc9 .byte [.int (cL8 i1), .int (cH8 i1)] ∧ Exa Z h b8 "[B")
def R_init_26 : Room := { frames := 4, cells := 2, slots := 3, locals := 57 }
theorem rm_init_26 {w : Bool} {Z : State} {a0 : Array Value} (hw : HW a0 Z) (Ts : List String) (a1 : Addr) (a2 : Addr) (i1 : Int32) (c1 : ClassId) (cs : Int32) (h0 : Heap) (f : Nat) (Zf : Z.heap.size ≤ f) (Z0 : f ≤ h0.size) (A_a2 : Ar Z h0 a2 c1 .char [.int i1]) (E_a1 : Exa Z h0 a1 "java/lang/String") (F_coder_a1 : Fld Z h0 a1 "java/lang/String" "coder" "B" (.int 0)) (g_a1 : f ≤ a1) (F_value_a1 : Fld Z h0 a1 "java/lang/String" "value" "[B" .null) (r_i1 : 0 ≤ i1.toInt ∧ i1.toInt ≤ 65535) (S_cs : G_S_cs Z cs) (S__assertionsDisabled : G_S__assertionsDisabled Z) (S_HI_BYTE_SHIFT : G_S_HI_BYTE_SHIFT Z) (S_LO_BYTE_SHIFT : G_S_LO_BYTE_SHIFT Z) (hcs : ¬ cs = 0) :
  Con w [] Z (⟨"java/lang/String", "<init>", "([CIILjava/lang/Void;)V"⟩ : MethodName) jdk_42_method_149_code 6 none R_init_26 Ts Ts f #[.ref a1, .ref a2, .int 0, .int 1, .null] h0 (Q_init_26 Z a1 i1 h0) := by
 refine con_of f #[vR a1, vR a2, vI 0, vI 1, .val .null, .unset] (plainFor_of_name pn_0) (fun m => rfl) Zf ?_
 intro C H hX0
 refine r_aloadN H 1 d_j42_149_0 ?_
 refine r_initO (W := 0) H 4 d_j42_149_1 (tw12 hw) (tw13 hw) (tw14 hw) ?_
 refine r_iloadN H 5 d_j42_149_4 ?_
 refine r_ifneT H 27 d_j42_149_5 ?_
 refine r_gets H 30 d_j42_149_27 (tw27 hw) S_cs ?_
 refine r_ifeqF H 33 d_j42_149_30 rfl hcs ?_
 refine r_aloadN H 34 d_j42_149_33 ?_
 refine r_iloadN H 35 d_j42_149_34 ?_
 refine r_iloadN H 36 d_j42_149_35 ?_
 refine r_static (argsL := [.ref a2, .int 0, .int 1]) (rest := []) (W := 0) H 39 d_j42_149_36 (tw86 hw) (tw87 hw) (tw88 hw) (tw89 hw) (lenOf pd_18 rfl) (rm_compress_27 hw Ts a2 i1 c1 h0 f Zf Z0 A_a2 r_i1 S__assertionsDisabled S_HI_BYTE_SHIFT S_LO_BYTE_SHIFT) ?_
 rintro _ hh15 (⟨b1, kc2, rfl, c4, K3, g5, q6, q7⟩ | ⟨b8, kc9, rfl, c11, K10, g12, q13, q14⟩)
 ·
  refine r_astore H 41 #[vR a1, vR a2, vI 0, vI 1, .val .null, vR b1] d_j42_149_39 ?_
  refine r_aloadN H 42 d_j42_149_41 ?_
  refine r_aload H 44 d_j42_149_42 ?_
  refine r_iloadN H 45 d_j42_149_44 ?_
  refine r_static (argsL := [.ref b1, .int 1]) (rest := [.ref a1]) (W := 1) H 48 d_j42_149_45 (tw93 hw) (tw94 hw) (tw88 hw) (tw95 hw) (lenOf pd_20 rfl) (rm_coderFromArrayLen_33 hw Ts b1 i1 kc2 hh15 f Zf (nlt Z0 K3.1) q6) ?_
  rintro _ _ ⟨rfl, rfl⟩
  have q18 := (E_a1.keep K3)
  have q19 := (F_coder_a1.keep K3 nin0)
  refine r_putn (v' := (.int 0)) (ty := .byte) H 51 d_j42_149_48 (tw22 hw) q19 q18 (Or.inr ⟨(tw18 hw), rfl, rfl⟩) (tw3 hw) g_a1 ?_
  intro h20 W20 K20 E20 F20
  refine r_aloadN H 52 d_j42_149_51 ?_
  refine r_aload H 54 d_j42_149_52 ?_
  have q21 := ((F_value_a1.keep K3 nin0).other W20 (Or.inr (slot_ne (Or.inr (tw17 hw)) (Or.inr (tw18 hw)) (by decide) (t := (.array .byte)) (t' := .byte) (by decide) (by decide))))
  refine r_putf (ty := (.array .byte)) H 57 d_j42_149_54 (tw21 hw) q21 E20 (Or.inr ⟨(tw17 hw), rfl, rfl⟩) (tw3 hw) g_a1 ?_
  intro h22 W22 K22 E22 F22
  have k23 : Keep h0 hh15 [a1] := Keep.trans (Keep.refl h0 [a1]) K3 all0
  have k24 : Keep h0 h20 [a1] := Keep.trans k23 K20 (allS (Or.inl (List.mem_of_getElem? (i := 0) rfl)) all0)
  have k25 : Keep h0 h22 [a1] := Keep.trans k24 K22 (allS (Or.inl (List.mem_of_getElem? (i := 0) rfl)) all0)
  have q26 := (F20.other W22 (Or.inr (slot_ne (Or.inr (tw18 hw)) (Or.inr (tw17 hw)) (by decide) (t := .byte) (t' := (.array .byte)) (by decide) (by decide))))
  have q27 := ((q6.keep K20 (ninS (Ne.symm (Nat.ne_of_lt (Nat.lt_of_lt_of_le E_a1.lt (nlt nlr g5)))) nin0)).keep K22 (ninS (Ne.symm (Nat.ne_of_lt (Nat.lt_of_lt_of_le E_a1.lt (nlt nlr g5)))) nin0))
  have q28 := ((q7.keep K20).keep K22)
  exact r_return H d_j42_149_57 (Or.inl ⟨b1, kc2, rfl, c4, k25, (nlt nlr g5), E22, q26, F22, q27, q28⟩)
 ·
  refine r_astore H 41 #[vR a1, vR a2, vI 0, vI 1, .val .null, vR b8] d_j42_149_39 ?_
  refine r_aloadN H 42 d_j42_149_41 ?_
  refine r_aload H 44 d_j42_149_42 ?_
  refine r_iloadN H 45 d_j42_149_44 ?_
  refine r_static (argsL := [.ref b8, .int 1]) (rest := [.ref a1]) (W := 1) H 48 d_j42_149_45 (tw93 hw) (tw94 hw) (tw88 hw) (tw95 hw) (lenOf pd_20 rfl) (rm_coderFromArrayLen_34 hw Ts b8 i1 kc9 hh15 f Zf (nlt Z0 K10.1) q13) ?_
  rintro _ _ ⟨rfl, rfl⟩
  have q31 := (E_a1.keep K10)
  have q32 := (F_coder_a1.keep K10 nin0)
  refine r_putn (v' := (.int 1)) (ty := .byte) H 51 d_j42_149_48 (tw22 hw) q32 q31 (Or.inr ⟨(tw18 hw), rfl, rfl⟩) (tw3 hw) g_a1 ?_
  intro h33 W33 K33 E33 F33
  refine r_aloadN H 52 d_j42_149_51 ?_
  refine r_aload H 54 d_j42_149_52 ?_
  have q34 := ((F_value_a1.keep K10 nin0).other W33 (Or.inr (slot_ne (Or.inr (tw17 hw)) (Or.inr (tw18 hw)) (by decide) (t := (.array .byte)) (t' := .byte) (by decide) (by decide))))
  refine r_putf (ty := (.array .byte)) H 57 d_j42_149_54 (tw21 hw) q34 E33 (Or.inr ⟨(tw17 hw), rfl, rfl⟩) (tw3 hw) g_a1 ?_
  intro h35 W35 K35 E35 F35
  have k36 : Keep h0 hh15 [a1] := Keep.trans (Keep.refl h0 [a1]) K10 all0
  have k37 : Keep h0 h33 [a1] := Keep.trans k36 K33 (allS (Or.inl (List.mem_of_getElem? (i := 0) rfl)) all0)
  have k38 : Keep h0 h35 [a1] := Keep.trans k37 K35 (allS (Or.inl (List.mem_of_getElem? (i := 0) rfl)) all0)
  have q39 := (F33.other W35 (Or.inr (slot_ne (Or.inr (tw18 hw)) (Or.inr (tw17 hw)) (by decide) (t := .byte) (t' := (.array .byte)) (by decide) (by decide))))
  have q40 := ((q13.keep K33 (ninS (Ne.symm (Nat.ne_of_lt (Nat.lt_of_lt_of_le E_a1.lt (nlt nlr g12)))) nin0)).keep K35 (ninS (Ne.symm (Nat.ne_of_lt (Nat.lt_of_lt_of_le E_a1.lt (nlt nlr g12)))) nin0))
  have q41 := ((q14.keep K33).keep K35)
  exact r_return H d_j42_149_57 (Or.inr (⟨b8, kc9, rfl, c11, k38, (nlt nlr g12), E35, q39, F35, q40, q41⟩))
def Q_init_25 (Z : State) (a1 : Addr) (i1 : Int32) (h0 : Heap) (v : Option Value) (h : Heap) : Prop := (∃ (b1 : Addr) (kc2 : ClassId), v = none ∧ (¬ (255 : Int32) < i1) ∧ Keep h0 h [a1] ∧ h0.size ≤ b1 ∧ Exa Z h a1 "java/lang/String" ∧ Fld Z h a1 "java/lang/String" "coder" "B" (.int 0) ∧ Fld Z h a1 "java/lang/String" "value" "[B" (.ref b1) ∧ Ar Z h b1 kc2 .byte [.int (cB8 i1)] ∧ Exa Z h b1 "[B") ∨ (∃ (b11 : Addr) (kc12 : ClassId), v = none ∧ ((255 : Int32) < i1) ∧ Keep h0 h [a1] ∧ h0.size ≤ b11 ∧ Exa Z h a1 "java/lang/String" ∧ Fld Z h a1 "java/lang/String" "coder" "B" (.int 1) ∧ Fld Z h a1 "java/lang/String" "value" "[B" (.ref b11) ∧ Ar Z h b11 kc12 .byte [.int (cL8 i1), .int (cH8 i1)] ∧ Exa Z h b11 "[B")
def R_init_25 : Room := { frames := 5, cells := 2, slots := 3, locals := 74 }
theorem rm_init_25 {w : Bool} {Z : State} {a0 : Array Value} (hw : HW a0 Z) (Ts : List String) (a1 : Addr) (a2 : Addr) (i1 : Int32) (c1 : ClassId) (cs : Int32) (h0 : Heap) (f : Nat) (Zf : Z.heap.size ≤ f) (Z0 : f ≤ h0.size) (A_a2 : Ar Z h0 a2 c1 .char [.int i1]) (g_a1 : f ≤ a1) (E_a1 : Exa Z h0 a1 "java/lang/String") (F_coder_a1 : Fld Z h0 a1 "java/lang/String" "coder" "B" (.int 0)) (F_value_a1 : Fld Z h0 a1 "java/lang/String" "value" "[B" .null) (r_i1 : 0 ≤ i1.toInt ∧ i1.toInt ≤ 65535) (S_cs : G_S_cs Z cs) (S__assertionsDisabled : G_S__assertionsDisabled Z) (S_HI_BYTE_SHIFT : G_S_HI_BYTE_SHIFT Z) (S_LO_BYTE_SHIFT : G_S_LO_BYTE_SHIFT Z) (hcs : ¬ cs = 0) :
  Con w [] Z (⟨"java/lang/String", "<init>", "([C)V"⟩ : MethodName) jdk_42_method_3_code 2 none R_init_25 Ts Ts f #[.ref a1, .ref a2] h0 (Q_init_25 Z a1 i1 h0) := by
 refine con_of f #[vR a1, vR a2] (plainFor_of_name pn_0) (fun m => rfl) Zf ?_
 intro C H hX0
 refine r_aloadN H 1 d_j42_3_0 ?_
 refine r_aloadN H 2 d_j42_3_1 ?_
 refine r_iconst H 3 0 d_j42_3_2 ?_
 refine r_aloadN H 4 d_j42_3_3 ?_
 refine r_alen H 5 1 d_j42_3_4 A_a2 ?_
 refine r_null H 6 d_j42_3_5 ?_
 refine r_special (a := a1) (argsL := [.ref a2, .int 0, .int 1, .null]) (rest := []) (W := 0) H 9 d_j42_3_6 (tw8 hw) (tw9 hw) (tw4 hw) (tw11 hw) (lenOf pd_0 rfl) (rm_init_26 hw Ts a1 a2 i1 c1 cs h0 f Zf Z0 A_a2 E_a1 F_coder_a1 g_a1 F_value_a1 r_i1 S_cs S__assertionsDisabled S_HI_BYTE_SHIFT S_LO_BYTE_SHIFT hcs) ?_
 rintro _ hh21 (⟨b1, kc2, rfl, c4, K3, g5, q6, q7, q8, q9, q10⟩ | ⟨b11, kc12, rfl, c14, K13, g15, q16, q17, q18, q19, q20⟩)
 ·
  have k23 : Keep h0 hh21 [a1] := Keep.trans (Keep.refl h0 [a1]) K3 (allS (Or.inl (List.mem_of_getElem? (i := 0) rfl)) all0)
  exact r_return H d_j42_3_9 (Or.inl ⟨b1, kc2, rfl, c4, k23, (nlt nlr g5), q6, q7, q8, q9, q10⟩)
 ·
  have k25 : Keep h0 hh21 [a1] := Keep.trans (Keep.refl h0 [a1]) K13 (allS (Or.inl (List.mem_of_getElem? (i := 0) rfl)) all0)
  exact r_return H d_j42_3_9 (Or.inr (⟨b11, kc12, rfl, c14, k25, (nlt nlr g15), q16, q17, q18, q19, q20⟩))
def Q_length_38 (Z : State) (h0 : Heap) (v : Option Value) (h : Heap) : Prop := v = some (.int 1) ∧ h0 = h
def R_length_38 : Room := { frames := 1, cells := 0, slots := 0, locals := 13 }
theorem rm_length_38 {w : Bool} {Z : State} {a0 : Array Value} (hw : HW a0 Z) (Ts : List String) (a1 : Addr) (a2 : Addr) (i1 : Int32) (c1 : ClassId) (cs : Int32) (h0 : Heap) (f : Nat) (Zf : Z.heap.size ≤ f) (Z0 : f ≤ h0.size) (F_value_a1 : Fld Z h0 a1 "java/lang/String" "value" "[B" (.ref a2)) (A_a2 : Ar Z h0 a2 c1 .byte [.int i1]) (E_a1 : Exa Z h0 a1 "java/lang/String") (F_coder_a1 : Fld Z h0 a1 "java/lang/String" "coder" "B" (.int 0)) (S_cs : G_S_cs Z cs) (hcs : ¬ cs = 0) :
  Con w [] Z (⟨"java/lang/String", "length", "()I"⟩ : MethodName) jdk_42_method_54_code 1 (some .int) R_length_38 Ts Ts f #[.ref a1] h0 (Q_length_38 Z h0) := by
 refine con_of f #[vR a1] (plainFor_of_name pn_0) (fun m => rfl) Zf ?_
 intro C H hX0
 refine r_aloadN H 1 d_j42_54_0 ?_
 refine r_getf H 4 d_j42_54_1 (tw21 hw) F_value_a1 ?_
 refine r_alen H 5 1 d_j42_54_4 A_a2 ?_
 refine r_aloadN H 6 d_j42_54_5 ?_
 refine r_virtual (z := (⟨"java/lang/String", "coder", "()B"⟩ : MethodName)) (a := a1) (argsL := []) (rest := [.int 1]) (W := 1) H 9 d_j42_54_6 (tw63 hw) (tw64 hw) (nf_sel (tw66 hw)) (tw66 hw) (tw65 hw) (tw4 hw) (tw67 hw) E_a1 (lenOf pd_8 rfl) (rm_coder_15 hw Ts a1 cs h0 f Zf Z0 F_coder_a1 S_cs hcs) ?_
 rintro _ _ ⟨rfl, rfl⟩
 refine r_ishr H 10 1 d_j42_54_9 (by decide) ?_
 exact r_ireturn H d_j42_54_10 (⟨rfl, rfl⟩)
def Q_min_40 (Z : State) (h0 : Heap) (v : Option Value) (h : Heap) : Prop := v = some (.int 1) ∧ h0 = h
def R_min_40 : Room := { frames := 0, cells := 0, slots := 0, locals := 0 }
theorem rm_min_40 {w : Bool} {Z : State} {a0 : Array Value} (hw : HW a0 Z) (Ts : List String) (h0 : Heap) (f : Nat) (Zf : Z.heap.size ≤ f) (Z0 : f ≤ h0.size) :
  Con w [] Z (⟨"java/lang/Math", "min", "(II)I"⟩ : MethodName) jdk_29_method_69_code 2 (some .int) R_min_40 Ts Ts f #[.int 1, .int 1] h0 (Q_min_40 Z h0) := by
 refine con_of f #[vI 1, vI 1] (Jvm.Free.JP.mathPlain rfl (by decide +kernel)) (fun m => rfl) Zf ?_
 intro C H hX0
 refine r_iloadN H 1 d_j29_69_0 ?_
 refine r_iloadN H 2 d_j29_69_1 ?_
 refine r_icmpgtF H 5 d_j29_69_2 rfl (by decide) ?_
 refine r_iloadN H 6 d_j29_69_5 ?_
 refine r_goto H 10 d_j29_69_6 ?_
 exact r_ireturn H d_j29_69_10 (⟨rfl, rfl⟩)
def Q_indexOfChar_41 (Z : State) (h0 : Heap) (v : Option Value) (h : Heap) : Prop := v = some (.int (-1)) ∧ h0 = h
def R_indexOfChar_41 : Room := { frames := 0, cells := 0, slots := 0, locals := 0 }
theorem rm_indexOfChar_41 {w : Bool} {Z : State} {a0 : Array Value} (hw : HW a0 Z) (Ts : List String) (a1 : Addr) (i1 : Int32) (c1 : ClassId) (h0 : Heap) (f : Nat) (Zf : Z.heap.size ≤ f) (Z0 : f ≤ h0.size) (A_a1 : Ar Z h0 a1 c1 .byte [.int (cB8 i1)]) (r_i1 : 0 ≤ i1.toInt ∧ i1.toInt ≤ 255) (x_i1_10 : ¬ i1 = (10 : Int32)) :
  Con w [] Z (⟨"java/lang/StringLatin1", "indexOfChar", "([BIII)I"⟩ : MethodName) jdk_43_method_23_code 6 (some .int) R_indexOfChar_41 Ts Ts f #[.ref a1, .int 10, .int 0, .int 1] h0 (Q_indexOfChar_41 Z h0) := by
 refine con_of f #[vR a1, vI 10, vI 0, vI 1, .unset, .unset] (plainFor_of_name pn_1) (fun m => rfl) Zf ?_
 intro C H hX0
 refine r_iloadN H 1 d_j43_23_0 ?_
 refine r_i2b H 2 10 d_j43_23_1 (by decide) ?_
 refine r_istore H 4 #[vR a1, vI 10, vI 0, vI 1, vI 10, .unset] d_j43_23_2 ?_
 refine r_iloadN H 5 d_j43_23_4 ?_
 refine r_istore H 7 #[vR a1, vI 10, vI 0, vI 1, vI 10, vI 0] d_j43_23_5 ?_
 refine r_iload H 9 d_j43_23_7 ?_
 refine r_iloadN H 10 d_j43_23_9 ?_
 refine r_icmpgeF H 13 d_j43_23_10 ?_
 refine r_aloadN H 14 d_j43_23_13 ?_
 refine r_iload H 16 d_j43_23_14 ?_
 refine r_baload H 17 (cB8 i1) d_j43_23_16 A_a1 ?_
 refine r_iload H 19 d_j43_23_17 ?_
 refine r_icmpneT H 25 d_j43_23_19 (by decide) (by decide) (i2b_ne (by have := r_i1; omega) (by decide) x_i1_10) ?_
 refine r_iinc H 28 #[vR a1, vI 10, vI 0, vI 1, vI 10, vI 1] 1 d_j43_23_25 ?_
 refine r_goto H 7 d_j43_23_28 ?_
 refine r_iload H 9 d_j43_23_7 ?_
 refine r_iloadN H 10 d_j43_23_9 ?_
 refine r_icmpgeT H 31 d_j43_23_10 ?_
 refine r_iconst H 32 (-1 : Int32) d_j43_23_31 ?_
 exact r_ireturn H d_j43_23_32 (⟨rfl, rfl⟩)
def Q_indexOf_39 (Z : State) (h0 : Heap) (v : Option Value) (h : Heap) : Prop := v = some (.int (-1)) ∧ h0 = h
def R_indexOf_39 : Room := { frames := 1, cells := 0, slots := 0, locals := 17 }
theorem rm_indexOf_39 {w : Bool} {Z : State} {a0 : Array Value} (hw : HW a0 Z) (Ts : List String) (a1 : Addr) (i1 : Int32) (c1 : ClassId) (h0 : Heap) (f : Nat) (Zf : Z.heap.size ≤ f) (Z0 : f ≤ h0.size) (A_a1 : Ar Z h0 a1 c1 .byte [.int (cB8 i1)]) (r_i1 : 0 ≤ i1.toInt ∧ i1.toInt ≤ 255) (x_i1_10 : ¬ i1 = (10 : Int32)) :
  Con w [] Z (⟨"java/lang/StringLatin1", "indexOf", "([BIII)I"⟩ : MethodName) jdk_43_method_22_code 4 (some .int) R_indexOf_39 Ts Ts f #[.ref a1, .int 10, .int 0, .int 1] h0 (Q_indexOf_39 Z h0) := by
 refine con_of f #[vR a1, vI 10, vI 0, vI 1] (plainFor_of_name pn_1) (fun m => rfl) Zf ?_
 intro C H hX0
 refine r_iloadN H 1 d_j43_22_0 ?_
 refine r_static (argsL := [.int 10]) (rest := []) (W := 0) H 4 d_j43_22_1 (tw71 hw) (tw72 hw) (tw30 hw) (tw73 hw) (lenOf pd_10 rfl) (rm_canEncode_17 hw Ts h0 f Zf Z0) ?_
 rintro _ _ ⟨rfl, rfl⟩
 refine r_ifneT H 9 d_j43_22_4 ?_
 refine r_iloadN H 10 d_j43_22_9 ?_
 refine r_iconst H 11 0 d_j43_22_10 ?_
 refine r_static (argsL := [.int 0, .int 0]) (rest := []) (W := 0) H 14 d_j43_22_11 (tw74 hw) (tw75 hw) (tw76 hw) (tw77 hw) (lenOf pd_11 rfl) (rm_max_18 hw Ts h0 f Zf Z0) ?_
 rintro _ _ ⟨rfl, rfl⟩
 refine r_istoreN H 15 #[vR a1, vI 10, vI 0, vI 1] d_j43_22_14 ?_
 refine r_iloadN H 16 d_j43_22_15 ?_
 refine r_aloadN H 17 d_j43_22_16 ?_
 refine r_alen H 18 1 d_j43_22_17 A_a1 ?_
 refine r_static (argsL := [.int 1, .int 1]) (rest := []) (W := 0) H 21 d_j43_22_18 (tw78 hw) (tw79 hw) (tw76 hw) (tw80 hw) (lenOf pd_11 rfl) (rm_min_40 hw Ts h0 f Zf Z0) ?_
 rintro _ _ ⟨rfl, rfl⟩
 refine r_istoreN H 22 #[vR a1, vI 10, vI 0, vI 1] d_j43_22_21 ?_
 refine r_iloadN H 23 d_j43_22_22 ?_
 refine r_iloadN H 24 d_j43_22_23 ?_
 refine r_icmpltT H 29 d_j43_22_24 ?_
 refine r_aloadN H 30 d_j43_22_29 ?_
 refine r_iloadN H 31 d_j43_22_30 ?_
 refine r_iloadN H 32 d_j43_22_31 ?_
 refine r_iloadN H 33 d_j43_22_32 ?_
 refine r_static (argsL := [.ref a1, .int 10, .int 0, .int 1]) (rest := []) (W := 0) H 36 d_j43_22_33 (tw96 hw) (tw97 hw) (tw30 hw) (tw98 hw) (lenOf pd_12 rfl) (rm_indexOfChar_41 hw Ts a1 i1 c1 h0 f Zf Z0 A_a1 r_i1 x_i1_10) ?_
 rintro _ _ ⟨rfl, rfl⟩
 exact r_ireturn H d_j43_22_36 (⟨rfl, rfl⟩)
def Q_indexOf_37 (Z : State) (h0 : Heap) (v : Option Value) (h : Heap) : Prop := v = some (.int (-1)) ∧ h0 = h
def R_indexOf_37 : Room := { frames := 2, cells := 0, slots := 0, locals := 32 }
theorem rm_indexOf_37 {w : Bool} {Z : State} {a0 : Array Value} (hw : HW a0 Z) (Ts : List String) (a1 : Addr) (a2 : Addr) (i1 : Int32) (c1 : ClassId) (cs : Int32) (h0 : Heap) (f : Nat) (Zf : Z.heap.size ≤ f) (Z0 : f ≤ h0.size) (E_a1 : Exa Z h0 a1 "java/lang/String") (F_coder_a1 : Fld Z h0 a1 "java/lang/String" "coder" "B" (.int 0)) (F_value_a1 : Fld Z h0 a1 "java/lang/String" "value" "[B" (.ref a2)) (A_a2 : Ar Z h0 a2 c1 .byte [.int (cB8 i1)]) (r_i1 : 0 ≤ i1.toInt ∧ i1.toInt ≤ 255) (x_i1_10 : ¬ i1 = (10 : Int32)) (S_cs : G_S_cs Z cs) (hcs : ¬ cs = 0) :
  Con w [] Z (⟨"java/lang/String", "indexOf", "(II)I"⟩ : MethodName) jdk_42_method_80_code 3 (some .int) R_indexOf_37 Ts Ts f #[.ref a1, .int 10, .int 0] h0 (Q_indexOf_37 Z h0) := by
 refine con_of f #[vR a1, vI 10, vI 0] (plainFor_of_name pn_0) (fun m => rfl) Zf ?_
 intro C H hX0
 refine r_aloadN H 1 d_j42_80_0 ?_
 refine r_virtual (z := (⟨"java/lang/String", "isLatin1", "()Z"⟩ : MethodName)) (a := a1) (argsL := []) (rest := []) (W := 0) H 4 d_j42_80_1 (tw53 hw) (tw54 hw) (nf_sel (tw56 hw)) (tw56 hw) (tw55 hw) (tw4 hw) (tw57 hw) E_a1 (lenOf pd_7 rfl) (rm_isLatin1_13 hw Ts a1 cs h0 f Zf Z0 F_coder_a1 S_cs hcs) ?_
 rintro _ _ ⟨rfl, rfl⟩
 refine r_ifeqF H 7 d_j42_80_4 rfl (by decide) ?_
 refine r_aloadN H 8 d_j42_80_7 ?_
 refine r_getf H 11 d_j42_80_8 (tw21 hw) F_value_a1 ?_
 refine r_iloadN H 12 d_j42_80_11 ?_
 refine r_iloadN H 13 d_j42_80_12 ?_
 refine r_aloadN H 14 d_j42_80_13 ?_
 refine r_virtual (z := (⟨"java/lang/String", "length", "()I"⟩ : MethodName)) (a := a1) (argsL := []) (rest := [.int 0, .int 10, .ref a2]) (W := 3) H 17 d_j42_80_14 (tw58 hw) (tw59 hw) (nf_sel (tw61 hw)) (tw61 hw) (tw60 hw) (tw4 hw) (tw62 hw) E_a1 (lenOf pd_9 rfl) (rm_length_38 hw Ts a1 a2 (cB8 i1) c1 cs h0 f Zf Z0 F_value_a1 A_a2 E_a1 F_coder_a1 S_cs hcs) ?_
 rintro _ _ ⟨rfl, rfl⟩
 refine r_static (argsL := [.ref a2, .int 10, .int 0, .int 1]) (rest := []) (W := 0) H 20 d_j42_80_17 (tw68 hw) (tw69 hw) (tw30 hw) (tw70 hw) (lenOf pd_12 rfl) (rm_indexOf_39 hw Ts a2 i1 c1 h0 f Zf Z0 A_a2 r_i1 x_i1_10) ?_
 rintro _ _ ⟨rfl, rfl⟩
 refine r_goto H 36 d_j42_80_20 ?_
 exact r_ireturn H d_j42_80_36 (⟨rfl, rfl⟩)
def Q_indexOf_36 (Z : State) (h0 : Heap) (v : Option Value) (h : Heap) : Prop := v = some (.int (-1)) ∧ h0 = h
def R_indexOf_36 : Room := { frames := 3, cells := 0, slots := 0, locals := 46 }
theorem rm_indexOf_36 {w : Bool} {Z : State} {a0 : Array Value} (hw : HW a0 Z) (Ts : List String) (a1 : Addr) (a2 : Addr) (i1 : Int32) (c1 : ClassId) (cs : Int32) (h0 : Heap) (f : Nat) (Zf : Z.heap.size ≤ f) (Z0 : f ≤ h0.size) (E_a1 : Exa Z h0 a1 "java/lang/String") (F_coder_a1 : Fld Z h0 a1 "java/lang/String" "coder" "B" (.int 0)) (F_value_a1 : Fld Z h0 a1 "java/lang/String" "value" "[B" (.ref a2)) (A_a2 : Ar Z h0 a2 c1 .byte [.int (cB8 i1)]) (r_i1 : 0 ≤ i1.toInt ∧ i1.toInt ≤ 255) (x_i1_10 : ¬ i1 = (10 : Int32)) (S_cs : G_S_cs Z cs) (hcs : ¬ cs = 0) :
  Con w [] Z (⟨"java/lang/String", "indexOf", "(I)I"⟩ : MethodName) jdk_42_method_79_code 2 (some .int) R_indexOf_36 Ts Ts f #[.ref a1, .int 10] h0 (Q_indexOf_36 Z h0) := by
 refine con_of f #[vR a1, vI 10] (plainFor_of_name pn_0) (fun m => rfl) Zf ?_
 intro C H hX0
 refine r_aloadN H 1 d_j42_79_0 ?_
 refine r_iloadN H 2 d_j42_79_1 ?_
 refine r_iconst H 3 0 d_j42_79_2 ?_
 refine r_virtual (z := (⟨"java/lang/String", "indexOf", "(II)I"⟩ : MethodName)) (a := a1) (argsL := [.int 10, .int 0]) (rest := []) (W := 0) H 6 d_j42_79_3 (tw48 hw) (tw49 hw) (nf_sel (tw51 hw)) (tw51 hw) (tw50 hw) (tw4 hw) (tw52 hw) E_a1 (lenOf pd_11 rfl) (rm_indexOf_37 hw Ts a1 a2 i1 c1 cs h0 f Zf Z0 E_a1 F_coder_a1 F_value_a1 A_a2 r_i1 x_i1_10 S_cs hcs) ?_
 rintro _ _ ⟨rfl, rfl⟩
 exact r_ireturn H d_j42_79_6 (⟨rfl, rfl⟩)
def Q_indexOfChar_45 (Z : State) (h0 : Heap) (v : Option Value) (h : Heap) : Prop := v = some (.int (-1)) ∧ h0 = h
def R_indexOfChar_45 : Room := { frames := 0, cells := 0, slots := 0, locals := 0 }
theorem rm_indexOfChar_45 {w : Bool} {Z : State} {a0 : Array Value} (hw : HW a0 Z) (Ts : List String) (a1 : Addr) (i1 : Int32) (c1 : ClassId) (h0 : Heap) (f : Nat) (Zf : Z.heap.size ≤ f) (Z0 : f ≤ h0.size) (A_a1 : Ar Z h0 a1 c1 .byte [.int (cB8 i1)]) (r_i1 : 0 ≤ i1.toInt ∧ i1.toInt ≤ 255) (x_i1_13 : ¬ i1 = (13 : Int32)) :
  Con w [] Z (⟨"java/lang/StringLatin1", "indexOfChar", "([BIII)I"⟩ : MethodName) jdk_43_method_23_code 6 (some .int) R_indexOfChar_45 Ts Ts f #[.ref a1, .int 13, .int 0, .int 1] h0 (Q_indexOfChar_45 Z h0) := by
 refine con_of f #[vR a1, vI 13, vI 0, vI 1, .unset, .unset] (plainFor_of_name pn_1) (fun m => rfl) Zf ?_
 intro C H hX0
 refine r_iloadN H 1 d_j43_23_0 ?_
 refine r_i2b H 2 13 d_j43_23_1 (by decide) ?_
 refine r_istore H 4 #[vR a1, vI 13, vI 0, vI 1, vI 13, .unset] d_j43_23_2 ?_
 refine r_iloadN H 5 d_j43_23_4 ?_
 refine r_istore H 7 #[vR a1, vI 13, vI 0, vI 1, vI 13, vI 0] d_j43_23_5 ?_
 refine r_iload H 9 d_j43_23_7 ?_
 refine r_iloadN H 10 d_j43_23_9 ?_
 refine r_icmpgeF H 13 d_j43_23_10 ?_
 refine r_aloadN H 14 d_j43_23_13 ?_
 refine r_iload H 16 d_j43_23_14 ?_
 refine r_baload H 17 (cB8 i1) d_j43_23_16 A_a1 ?_
 refine r_iload H 19 d_j43_23_17 ?_
 refine r_icmpneT H 25 d_j43_23_19 (by decide) (by decide) (i2b_ne (by have := r_i1; omega) (by decide) x_i1_13) ?_
 refine r_iinc H 28 #[vR a1, vI 13, vI 0, vI 1, vI 13, vI 1] 1 d_j43_23_25 ?_
 refine r_goto H 7 d_j43_23_28 ?_
 refine r_iload H 9 d_j43_23_7 ?_
 refine r_iloadN H 10 d_j43_23_9 ?_
 refine r_icmpgeT H 31 d_j43_23_10 ?_
 refine r_iconst H 32 (-1 : Int32) d_j43_23_31 ?_
 exact r_ireturn H d_j43_23_32 (⟨rfl, rfl⟩)
def Q_indexOf_44 (Z : State) (h0 : Heap) (v : Option Value) (h : Heap) : Prop := v = some (.int (-1)) ∧ h0 = h
def R_indexOf_44 : Room := { frames := 1, cells := 0, slots := 0, locals := 17 }
theorem rm_indexOf_44 {w : Bool} {Z : State} {a0 : Array Value} (hw : HW a0 Z) (Ts : List String) (a1 : Addr) (i1 : Int32) (c1 : ClassId) (h0 : Heap) (f : Nat) (Zf : Z.heap.size ≤ f) (Z0 : f ≤ h0.size) (A_a1 : Ar Z h0 a1 c1 .byte [.int (cB8 i1)]) (r_i1 : 0 ≤ i1.toInt ∧ i1.toInt ≤ 255) (x_i1_13 : ¬ i1 = (13 : Int32)) :
  Con w [] Z (⟨"java/lang/StringLatin1", "indexOf", "([BIII)I"⟩ : MethodName) jdk_43_method_22_code 4 (some .int) R_indexOf_44 Ts Ts f #[.ref a1, .int 13, .int 0, .int 1] h0 (Q_indexOf_44 Z h0) := by
 refine con_of f #[vR a1, vI 13, vI 0, vI 1] (plainFor_of_name pn_1) (fun m => rfl) Zf ?_
 intro C H hX0
 refine r_iloadN H 1 d_j43_22_0 ?_
 refine r_static (argsL := [.int 13]) (rest := []) (W := 0) H 4 d_j43_22_1 (tw71 hw) (tw72 hw) (tw30 hw) (tw73 hw) (lenOf pd_10 rfl) (rm_canEncode_23 hw Ts h0 f Zf Z0) ?_
 rintro _ _ ⟨rfl, rfl⟩
 refine r_ifneT H 9 d_j43_22_4 ?_
 refine r_iloadN H 10 d_j43_22_9 ?_
 refine r_iconst H 11 0 d_j43_22_10 ?_
 refine r_static (argsL := [.int 0, .int 0]) (rest := []) (W := 0) H 14 d_j43_22_11 (tw74 hw) (tw75 hw) (tw76 hw) (tw77 hw) (lenOf pd_11 rfl) (rm_max_18 hw Ts h0 f Zf Z0) ?_
 rintro _ _ ⟨rfl, rfl⟩
 refine r_istoreN H 15 #[vR a1, vI 13, vI 0, vI 1] d_j43_22_14 ?_
 refine r_iloadN H 16 d_j43_22_15 ?_
 refine r_aloadN H 17 d_j43_22_16 ?_
 refine r_alen H 18 1 d_j43_22_17 A_a1 ?_
 refine r_static (argsL := [.int 1, .int 1]) (rest := []) (W := 0) H 21 d_j43_22_18 (tw78 hw) (tw79 hw) (tw76 hw) (tw80 hw) (lenOf pd_11 rfl) (rm_min_40 hw Ts h0 f Zf Z0) ?_
 rintro _ _ ⟨rfl, rfl⟩
 refine r_istoreN H 22 #[vR a1, vI 13, vI 0, vI 1] d_j43_22_21 ?_
 refine r_iloadN H 23 d_j43_22_22 ?_
 refine r_iloadN H 24 d_j43_22_23 ?_
 refine r_icmpltT H 29 d_j43_22_24 ?_
 refine r_aloadN H 30 d_j43_22_29 ?_
 refine r_iloadN H 31 d_j43_22_30 ?_
 refine r_iloadN H 32 d_j43_22_31 ?_
 refine r_iloadN H 33 d_j43_22_32 ?_
 refine r_static (argsL := [.ref a1, .int 13, .int 0, .int 1]) (rest := []) (W := 0) H 36 d_j43_22_33 (tw96 hw) (tw97 hw) (tw30 hw) (tw98 hw) (lenOf pd_12 rfl) (rm_indexOfChar_45 hw Ts a1 i1 c1 h0 f Zf Z0 A_a1 r_i1 x_i1_13) ?_
 rintro _ _ ⟨rfl, rfl⟩
 exact r_ireturn H d_j43_22_36 (⟨rfl, rfl⟩)
def Q_indexOf_43 (Z : State) (h0 : Heap) (v : Option Value) (h : Heap) : Prop := v = some (.int (-1)) ∧ h0 = h
def R_indexOf_43 : Room := { frames := 2, cells := 0, slots := 0, locals := 32 }
theorem rm_indexOf_43 {w : Bool} {Z : State} {a0 : Array Value} (hw : HW a0 Z) (Ts : List String) (a1 : Addr) (a2 : Addr) (i1 : Int32) (c1 : ClassId) (cs : Int32) (h0 : Heap) (f : Nat) (Zf : Z.heap.size ≤ f) (Z0 : f ≤ h0.size) (E_a1 : Exa Z h0 a1 "java/lang/String") (F_coder_a1 : Fld Z h0 a1 "java/lang/String" "coder" "B" (.int 0)) (F_value_a1 : Fld Z h0 a1 "java/lang/String" "value" "[B" (.ref a2)) (A_a2 : Ar Z h0 a2 c1 .byte [.int (cB8 i1)]) (r_i1 : 0 ≤ i1.toInt ∧ i1.toInt ≤ 255) (x_i1_13 : ¬ i1 = (13 : Int32)) (S_cs : G_S_cs Z cs) (hcs : ¬ cs = 0) :
  Con w [] Z (⟨"java/lang/String", "indexOf", "(II)I"⟩ : MethodName) jdk_42_method_80_code 3 (some .int) R_indexOf_43 Ts Ts f #[.ref a1, .int 13, .int 0] h0 (Q_indexOf_43 Z h0) := by
 refine con_of f #[vR a1, vI 13, vI 0] (plainFor_of_name pn_0) (fun m => rfl) Zf ?_
 intro C H hX0
 refine r_aloadN H 1 d_j42_80_0 ?_
 refine r_virtual (z := (⟨"java/lang/String", "isLatin1", "()Z"⟩ : MethodName)) (a := a1) (argsL := []) (rest := []) (W := 0) H 4 d_j42_80_1 (tw53 hw) (tw54 hw) (nf_sel (tw56 hw)) (tw56 hw) (tw55 hw) (tw4 hw) (tw57 hw) E_a1 (lenOf pd_7 rfl) (rm_isLatin1_13 hw Ts a1 cs h0 f Zf Z0 F_coder_a1 S_cs hcs) ?_
 rintro _ _ ⟨rfl, rfl⟩
 refine r_ifeqF H 7 d_j42_80_4 rfl (by decide) ?_
 refine r_aloadN H 8 d_j42_80_7 ?_
 refine r_getf H 11 d_j42_80_8 (tw21 hw) F_value_a1 ?_
 refine r_iloadN H 12 d_j42_80_11 ?_
 refine r_iloadN H 13 d_j42_80_12 ?_
 refine r_aloadN H 14 d_j42_80_13 ?_
 refine r_virtual (z := (⟨"java/lang/String", "length", "()I"⟩ : MethodName)) (a := a1) (argsL := []) (rest := [.int 0, .int 13, .ref a2]) (W := 3) H 17 d_j42_80_14 (tw58 hw) (tw59 hw) (nf_sel (tw61 hw)) (tw61 hw) (tw60 hw) (tw4 hw) (tw62 hw) E_a1 (lenOf pd_9 rfl) (rm_length_38 hw Ts a1 a2 (cB8 i1) c1 cs h0 f Zf Z0 F_value_a1 A_a2 E_a1 F_coder_a1 S_cs hcs) ?_
 rintro _ _ ⟨rfl, rfl⟩
 refine r_static (argsL := [.ref a2, .int 13, .int 0, .int 1]) (rest := []) (W := 0) H 20 d_j42_80_17 (tw68 hw) (tw69 hw) (tw30 hw) (tw70 hw) (lenOf pd_12 rfl) (rm_indexOf_44 hw Ts a2 i1 c1 h0 f Zf Z0 A_a2 r_i1 x_i1_13) ?_
 rintro _ _ ⟨rfl, rfl⟩
 refine r_goto H 36 d_j42_80_20 ?_
 exact r_ireturn H d_j42_80_36 (⟨rfl, rfl⟩)
def Q_indexOf_42 (Z : State) (h0 : Heap) (v : Option Value) (h : Heap) : Prop := v = some (.int (-1)) ∧ h0 = h
def R_indexOf_42 : Room := { frames := 3, cells := 0, slots := 0, locals := 46 }
theorem rm_indexOf_42 {w : Bool} {Z : State} {a0 : Array Value} (hw : HW a0 Z) (Ts : List String) (a1 : Addr) (a2 : Addr) (i1 : Int32) (c1 : ClassId) (cs : Int32) (h0 : Heap) (f : Nat) (Zf : Z.heap.size ≤ f) (Z0 : f ≤ h0.size) (E_a1 : Exa Z h0 a1 "java/lang/String") (F_coder_a1 : Fld Z h0 a1 "java/lang/String" "coder" "B" (.int 0)) (F_value_a1 : Fld Z h0 a1 "java/lang/String" "value" "[B" (.ref a2)) (A_a2 : Ar Z h0 a2 c1 .byte [.int (cB8 i1)]) (r_i1 : 0 ≤ i1.toInt ∧ i1.toInt ≤ 255) (x_i1_13 : ¬ i1 = (13 : Int32)) (S_cs : G_S_cs Z cs) (hcs : ¬ cs = 0) :
  Con w [] Z (⟨"java/lang/String", "indexOf", "(I)I"⟩ : MethodName) jdk_42_method_79_code 2 (some .int) R_indexOf_42 Ts Ts f #[.ref a1, .int 13] h0 (Q_indexOf_42 Z h0) := by
 refine con_of f #[vR a1, vI 13] (plainFor_of_name pn_0) (fun m => rfl) Zf ?_
 intro C H hX0
 refine r_aloadN H 1 d_j42_79_0 ?_
 refine r_iloadN H 2 d_j42_79_1 ?_
 refine r_iconst H 3 0 d_j42_79_2 ?_
 refine r_virtual (z := (⟨"java/lang/String", "indexOf", "(II)I"⟩ : MethodName)) (a := a1) (argsL := [.int 13, .int 0]) (rest := []) (W := 0) H 6 d_j42_79_3 (tw48 hw) (tw49 hw) (nf_sel (tw51 hw)) (tw51 hw) (tw50 hw) (tw4 hw) (tw52 hw) E_a1 (lenOf pd_11 rfl) (rm_indexOf_43 hw Ts a1 a2 i1 c1 cs h0 f Zf Z0 E_a1 F_coder_a1 F_value_a1 A_a2 r_i1 x_i1_13 S_cs hcs) ?_
 rintro _ _ ⟨rfl, rfl⟩
 exact r_ireturn H d_j42_79_6 (⟨rfl, rfl⟩)
def Q_require_35 (Z : State) (a2 : Addr) (h0 : Heap) (v : Option Value) (h : Heap) : Prop := v = some (.ref a2) ∧ h0 = h
def R_require_35 : Room := { frames := 4, cells := 0, slots := 0, locals := 59 }
theorem rm_require_35 {w : Bool} {Z : State} {a0 : Array Value} (hw : HW a0 Z) (Ts : List String) (a1 : Addr) (a2 : Addr) (a4 : Addr) (i3 : Int32) (c2 : ClassId) (cs : Int32) (h0 : Heap) (f : Nat) (Zf : Z.heap.size ≤ f) (Z0 : f ≤ h0.size) (E_a2 : Exa Z h0 a2 "java/lang/String") (F_coder_a2 : Fld Z h0 a2 "java/lang/String" "coder" "B" (.int 0)) (F_value_a2 : Fld Z h0 a2 "java/lang/String" "value" "[B" (.ref a4)) (A_a4 : Ar Z h0 a4 c2 .byte [.int (cB8 i3)]) (r_i3 : 0 ≤ i3.toInt ∧ i3.toInt ≤ 255) (x_i3_10 : ¬ i3 = (10 : Int32)) (x_i3_13 : ¬ i3 = (13 : Int32)) (S_cs : G_S_cs Z cs) (hcs : ¬ cs = 0) :
  Con w [] Z (⟨"com/example/ferryline/ferryline/model/OneLine", "require", "(Ljava/lang/String;Ljava/lang/String;)Ljava/lang/String;"⟩ : MethodName) prog_70_method_2_code 2 (some (.object "java/lang/String")) R_require_35 Ts Ts f #[.ref a1, .ref a2] h0 (Q_require_35 Z a2 h0) := by
 refine con_of f #[vR a1, vR a2] (plainFor_of_name pn_3) (fun m => rfl) Zf ?_
 intro C H hX0
 refine r_aloadN H 1 d_g70_2_0 ?_
 refine r_bipush H 3 10 d_g70_2_1 ?_
 refine r_virtual (z := (⟨"java/lang/String", "indexOf", "(I)I"⟩ : MethodName)) (a := a2) (argsL := [.int 10]) (rest := []) (W := 0) H 6 d_g70_2_3 (tw43 hw) (tw44 hw) (nf_sel (tw46 hw)) (tw46 hw) (tw45 hw) (tw4 hw) (tw47 hw) E_a2 (lenOf pd_13 rfl) (rm_indexOf_36 hw Ts a2 a4 i3 c2 cs h0 f Zf Z0 E_a2 F_coder_a2 F_value_a2 A_a4 r_i3 x_i3_10 S_cs hcs) ?_
 rintro _ _ ⟨rfl, rfl⟩
 refine r_ifgeF H 9 d_g70_2_6 ?_
 refine r_aloadN H 10 d_g70_2_9 ?_
 refine r_bipush H 12 13 d_g70_2_10 ?_
 refine r_virtual (z := (⟨"java/lang/String", "indexOf", "(I)I"⟩ : MethodName)) (a := a2) (argsL := [.int 13]) (rest := []) (W := 0) H 15 d_g70_2_12 (tw43 hw) (tw44 hw) (nf_sel (tw46 hw)) (tw46 hw) (tw45 hw) (tw4 hw) (tw47 hw) E_a2 (lenOf pd_13 rfl) (rm_indexOf_42 hw Ts a2 a4 i3 c2 cs h0 f Zf Z0 E_a2 F_coder_a2 F_value_a2 A_a4 r_i3 x_i3_13 S_cs hcs) ?_
 rintro _ _ ⟨rfl, rfl⟩
 refine r_ifltT H 38 d_g70_2_15 ?_
 refine r_aloadN H 39 d_g70_2_38 ?_
 exact r_areturn H d_g70_2_39 (⟨rfl, rfl⟩)
def Q_isLatin1_49 (Z : State) (h0 : Heap) (v : Option Value) (h : Heap) : Prop := v = some (.int 0) ∧ h0 = h
def R_isLatin1_49 : Room := { frames := 0, cells := 0, slots := 0, locals := 0 }
theorem rm_isLatin1_49 {w : Bool} {Z : State} {a0 : Array Value} (hw : HW a0 Z) (Ts : List String) (a1 : Addr) (cs : Int32) (h0 : Heap) (f : Nat) (Zf : Z.heap.size ≤ f) (Z0 : f ≤ h0.size) (F_coder_a1 : Fld Z h0 a1 "java/lang/String" "coder" "B" (.int 1)) (S_cs : G_S_cs Z cs) (hcs : ¬ cs = 0) :
  Con w [] Z (⟨"java/lang/String", "isLatin1", "()Z"⟩ : MethodName) jdk_42_method_154_code 1 (some .boolean) R_isLatin1_49 Ts Ts f #[.ref a1] h0 (Q_isLatin1_49 Z h0) := by
 refine con_of f #[vR a1] (plainFor_of_name pn_0) (fun m => rfl) Zf ?_
 intro C H hX0
 refine r_gets H 3 d_j42_154_0 (tw27 hw) S_cs ?_
 refine r_ifeqF H 6 d_j42_154_3 rfl hcs ?_
 refine r_aloadN H 7 d_j42_154_6 ?_
 refine r_getf H 10 d_j42_154_7 (tw22 hw) F_coder_a1 ?_
 refine r_ifneT H 17 d_j42_154_10 ?_
 refine r_iconst H 18 0 d_j42_154_17 ?_
 exact r_nreturn (0 : Int32) H d_j42_154_18 (by decide) nlr (fun _ t => t) (⟨rfl, rfl⟩)
def Q_coder_51 (Z : State) (h0 : Heap) (v : Option Value) (h : Heap) : Prop := v = some (.int 1) ∧ h0 = h
def R_coder_51 : Room := { frames := 0, cells := 0, slots := 0, locals := 0 }
theorem rm_coder_51 {w : Bool} {Z : State} {a0 : Array Value} (hw : HW a0 Z) (Ts : List String) (a1 : Addr) (cs : Int32) (h0 : Heap) (f : Nat) (Zf : Z.heap.size ≤ f) (Z0 : f ≤ h0.size) (F_coder_a1 : Fld Z h0 a1 "java/lang/String" "coder" "B" (.int 1)) (S_cs : G_S_cs Z cs) (hcs : ¬ cs = 0) :
  Con w [] Z (⟨"java/lang/String", "coder", "()B"⟩ : MethodName) jdk_42_method_152_code 1 (some .byte) R_coder_51 Ts Ts f #[.ref a1] h0 (Q_coder_51 Z h0) := by
 refine con_of f #[vR a1] (plainFor_of_name pn_0) (fun m => rfl) Zf ?_
 intro C H hX0
 refine r_gets H 3 d_j42_152_0 (tw27 hw) S_cs ?_
 refine r_ifeqF H 6 d_j42_152_3 rfl hcs ?_
 refine r_aloadN H 7 d_j42_152_6 ?_
 refine r_getf H 10 d_j42_152_7 (tw22 hw) F_coder_a1 ?_
 refine r_goto H 14 d_j42_152_10 ?_
 exact r_nreturn (1 : Int32) H d_j42_152_14 (by decide) nlr (fun _ t => t) (⟨rfl, rfl⟩)
def Q_length_50 (Z : State) (h0 : Heap) (v : Option Value) (h : Heap) : Prop := v = some (.int 1) ∧ h0 = h
def R_length_50 : Room := { frames := 1, cells := 0, slots := 0, locals := 13 }
theorem rm_length_50 {w : Bool} {Z : State} {a0 : Array Value} (hw : HW a0 Z) (Ts : List String) (a1 : Addr) (a2 : Addr) (i1 : Int32) (i2 : Int32) (c1 : ClassId) (cs : Int32) (h0 : Heap) (f : Nat) (Zf : Z.heap.size ≤ f) (Z0 : f ≤ h0.size) (F_value_a1 : Fld Z h0 a1 "java/lang/String" "value" "[B" (.ref a2)) (A_a2 : Ar Z h0 a2 c1 .byte [.int i1, .int i2]) (E_a1 : Exa Z h0 a1 "java/lang/String") (F_coder_a1 : Fld Z h0 a1 "java/lang/String" "coder" "B" (.int 1)) (S_cs : G_S_cs Z cs) (hcs : ¬ cs = 0) :
  Con w [] Z (⟨"java/lang/String", "length", "()I"⟩ : MethodName) jdk_42_method_54_code 1 (some .int) R_length_50 Ts Ts f #[.ref a1] h0 (Q_length_50 Z h0) := by
 refine con_of f #[vR a1] (plainFor_of_name pn_0) (fun m => rfl) Zf ?_
 intro C H hX0
 refine r_aloadN H 1 d_j42_54_0 ?_
 refine r_getf H 4 d_j42_54_1 (tw21 hw) F_value_a1 ?_
 refine r_alen H 5 2 d_j42_54_4 A_a2 ?_
 refine r_aloadN H 6 d_j42_54_5 ?_
 refine r_virtual (z := (⟨"java/lang/String", "coder", "()B"⟩ : MethodName)) (a := a1) (argsL := []) (rest := [.int 2]) (W := 1) H 9 d_j42_54_6 (tw63 hw) (tw64 hw) (nf_sel (tw66 hw)) (tw66 hw) (tw65 hw) (tw4 hw) (tw67 hw) E_a1 (lenOf pd_8 rfl) (rm_coder_51 hw Ts a1 cs h0 f Zf Z0 F_coder_a1 S_cs hcs) ?_
 rintro _ _ ⟨rfl, rfl⟩
 refine r_ishr H 10 1 d_j42_54_9 (by decide) ?_
 exact r_ireturn H d_j42_54_10 (⟨rfl, rfl⟩)
def Q_length_55 (Z : State) (h0 : Heap) (v : Option Value) (h : Heap) : Prop := v = some (.int 1) ∧ h0 = h
def R_length_55 : Room := { frames := 0, cells := 0, slots := 0, locals := 0 }
theorem rm_length_55 {w : Bool} {Z : State} {a0 : Array Value} (hw : HW a0 Z) (Ts : List String) (a1 : Addr) (i1 : Int32) (i2 : Int32) (c1 : ClassId) (h0 : Heap) (f : Nat) (Zf : Z.heap.size ≤ f) (Z0 : f ≤ h0.size) (A_a1 : Ar Z h0 a1 c1 .byte [.int i1, .int i2]) :
  Con w [] Z (⟨"java/lang/StringUTF16", "length", "([B)I"⟩ : MethodName) jdk_52_method_6_code 1 (some .int) R_length_55 Ts Ts f #[.ref a1] h0 (Q_length_55 Z h0) := by
 refine con_of f #[vR a1] (plainFor_of_name pn_2) (fun m => rfl) Zf ?_
 intro C H hX0
 refine r_aloadN H 1 d_j52_6_0 ?_
 refine r_alen H 2 2 d_j52_6_1 A_a1 ?_
 refine r_iconst H 3 1 d_j52_6_2 ?_
 refine r_ishr H 4 1 d_j52_6_3 (by decide) ?_
 exact r_ireturn H d_j52_6_4 (⟨rfl, rfl⟩)
def Q_checkFromToIndex_57 (Z : State) (h0 : Heap) (v : Option Value) (h : Heap) : Prop := v = some (.int 0) ∧ h0 = h
def R_checkFromToIndex_57 : Room := { frames := 0, cells := 0, slots := 0, locals := 0 }
theorem rm_checkFromToIndex_57 {w : Bool} {Z : State} {a0 : Array Value} (hw : HW a0 Z) (Ts : List String) (sio : Value) (h0 : Heap) (f : Nat) (Zf : Z.heap.size ≤ f) (Z0 : f ≤ h0.size) (hsio : G_hsio Z sio) :
  Con w [] Z (⟨"jdk/internal/util/Preconditions", "checkFromToIndex", "(IIILjava/util/function/BiFunction;)I"⟩ : MethodName) jdk_41_method_12_code 4 (some .int) R_checkFromToIndex_57 Ts Ts f #[.int 0, .int 1, .int 1, sio] h0 (Q_checkFromToIndex_57 Z h0) := by
 refine con_of f #[vI 0, vI 1, vI 1, .val sio] (plainFor_of_name pn_5) (fun m => by rcases hsio with hh | ⟨_, hh⟩ <;> subst hh <;> rfl) Zf ?_
 intro C H hX0
 refine r_iloadN H 1 d_j41_12_0 ?_
 refine r_ifltF H 4 d_j41_12_1 ?_
 refine r_iloadN H 5 d_j41_12_4 ?_
 refine r_iloadN H 6 d_j41_12_5 ?_
 refine r_icmpgtF H 9 d_j41_12_6 rfl (by decide) ?_
 refine r_iloadN H 10 d_j41_12_9 ?_
 refine r_iloadN H 11 d_j41_12_10 ?_
 refine r_icmpleT H 22 d_j41_12_11 (by decide) (by decide) (by decide) ?_
 refine r_iloadN H 23 d_j41_12_22 ?_
 exact r_ireturn H d_j41_12_23 (⟨rfl, rfl⟩)
def Q_checkBoundsBeginEnd_56 (Z : State) (h0 : Heap) (v : Option Value) (h : Heap) : Prop := v = none ∧ h0 = h
def R_checkBoundsBeginEnd_56 : Room := { frames := 1, cells := 0, slots := 0, locals := 15 }
theorem rm_checkBoundsBeginEnd_56 {w : Bool} {Z : State} {a0 : Array Value} (hw : HW a0 Z) (Ts : List String) (sio : Value) (h0 : Heap) (f : Nat) (Zf : Z.heap.size ≤ f) (Z0 : f ≤ h0.size) (S_sio : G_S_sio Z sio) (hsio : G_hsio Z sio) :
  Con w [] Z (⟨"java/lang/String", "checkBoundsBeginEnd", "(III)V"⟩ : MethodName) jdk_42_method_158_code 3 none R_checkBoundsBeginEnd_56 Ts Ts f #[.int 0, .int 1, .int 1] h0 (Q_checkBoundsBeginEnd_56 Z h0) := by
 refine con_of f #[vI 0, vI 1, vI 1] (plainFor_of_name pn_0) (fun m => rfl) Zf ?_
 intro C H hX0
 refine r_iloadN H 1 d_j42_158_0 ?_
 refine r_iloadN H 2 d_j42_158_1 ?_
 refine r_iloadN H 3 d_j42_158_2 ?_
 refine r_gets H 6 d_j42_158_3 (tw139 hw) S_sio ?_
 refine r_static (argsL := [.int 0, .int 1, .int 1, sio]) (rest := []) (W := 0) H 9 d_j42_158_6 (tw141 hw) (tw142 hw) (tw140 hw) (tw143 hw) (lenOf pd_22 rfl) (rm_checkFromToIndex_57 hw Ts sio h0 f Zf Z0 hsio) ?_
 rintro _ _ ⟨rfl, rfl⟩
 refine r_pop H 10 d_j42_158_9 ?_
 exact r_return H d_j42_158_10 (⟨rfl, rfl⟩)
def Q_checkBoundsBeginEnd_54 (Z : State) (h0 : Heap) (v : Option Value) (h : Heap) : Prop := v = none ∧ h0 = h
def R_checkBoundsBeginEnd_54 : Room := { frames := 2, cells := 0, slots := 0, locals := 29 }
theorem rm_checkBoundsBeginEnd_54 {w : Bool} {Z : State} {a0 : Array Value} (hw : HW a0 Z) (Ts : List String) (a1 : Addr) (i1 : Int32) (c1 : ClassId) (sio : Value) (h0 : Heap) (f : Nat) (Zf : Z.heap.size ≤ f) (Z0 : f ≤ h0.size) (A_a1 : Ar Z h0 a1 c1 .byte [.int (cL8 i1), .int (cH8 i1)]) (S_sio : G_S_sio Z sio) (hsio : G_hsio Z sio) :
  Con w [] Z (⟨"java/lang/StringUTF16", "checkBoundsBeginEnd", "(II[B)V"⟩ : MethodName) jdk_52_method_93_code 3 none R_checkBoundsBeginEnd_54 Ts Ts f #[.int 0, .int 1, .ref a1] h0 (Q_checkBoundsBeginEnd_54 Z h0) := by
 refine con_of f #[vI 0, vI 1, vR a1] (plainFor_of_name pn_2) (fun m => rfl) Zf ?_
 intro C H hX0
 refine r_iloadN H 1 d_j52_93_0 ?_
 refine r_iloadN H 2 d_j52_93_1 ?_
 refine r_aloadN H 3 d_j52_93_2 ?_
 refine r_static (argsL := [.ref a1]) (rest := [.int 1, .int 0]) (W := 2) H 6 d_j52_93_3 (tw133 hw) (tw134 hw) (tw88 hw) (tw135 hw) (lenOf pd_21 rfl) (rm_length_55 hw Ts a1 (cL8 i1) (cH8 i1) c1 h0 f Zf Z0 A_a1) ?_
 rintro _ _ ⟨rfl, rfl⟩
 refine r_static (argsL := [.int 0, .int 1, .int 1]) (rest := []) (W := 0) H 9 d_j52_93_6 (tw136 hw) (tw137 hw) (tw4 hw) (tw138 hw) (lenOf pd_23 rfl) (rm_checkBoundsBeginEnd_56 hw Ts sio h0 f Zf Z0 S_sio hsio) ?_
 rintro _ _ ⟨rfl, rfl⟩
 exact r_return H d_j52_93_9 (⟨rfl, rfl⟩)
def Q_indexOfCharUnsafe_58 (Z : State) (h0 : Heap) (v : Option Value) (h : Heap) : Prop := v = some (.int (-1)) ∧ h0 = h
def R_indexOfCharUnsafe_58 : Room := { frames := 1, cells := 0, slots := 0, locals := 13 }
theorem rm_indexOfCharUnsafe_58 {w : Bool} {Z : State} {a0 : Array Value} (hw : HW a0 Z) (Ts : List String) (a1 : Addr) (i1 : Int32) (c1 : ClassId) (h0 : Heap) (f : Nat) (Zf : Z.heap.size ≤ f) (Z0 : f ≤ h0.size) (A_a1 : Ar Z h0 a1 c1 .byte [.int (cL8 i1), .int (cH8 i1)]) (r_i1 : 256 ≤ i1.toInt ∧ i1.toInt ≤ 65535) (x_i1_10 : ¬ i1 = (10 : Int32)) (S__assertionsDisabled : G_S__assertionsDisabled Z) (S_HI_BYTE_SHIFT : G_S_HI_BYTE_SHIFT Z) (S_LO_BYTE_SHIFT : G_S_LO_BYTE_SHIFT Z) :
  Con w [] Z (⟨"java/lang/StringUTF16", "indexOfCharUnsafe", "([BIII)I"⟩ : MethodName) jdk_52_method_48_code 5 (some .int) R_indexOfCharUnsafe_58 Ts Ts f #[.ref a1, .int 10, .int 0, .int 1] h0 (Q_indexOfCharUnsafe_58 Z h0) := by
 refine con_of f #[vR a1, vI 10, vI 0, vI 1, .unset] (plainFor_of_name pn_2) (fun m => rfl) Zf ?_
 intro C H hX0
 refine r_iloadN H 1 d_j52_48_0 ?_
 refine r_istore H 3 #[vR a1, vI 10, vI 0, vI 1, vI 0] d_j52_48_1 ?_
 refine r_iload H 5 d_j52_48_3 ?_
 refine r_iloadN H 6 d_j52_48_5 ?_
 refine r_icmpgeF H 9 d_j52_48_6 ?_
 refine r_aloadN H 10 d_j52_48_9 ?_
 refine r_iload H 12 d_j52_48_10 ?_
 refine r_static (argsL := [.ref a1, .int 0]) (rest := []) (W := 0) H 15 d_j52_48_12 (tw115 hw) (tw116 hw) (tw88 hw) (tw117 hw) (lenOf pd_19 rfl) (rm_getChar_32 hw Ts a1 (cL8 i1) (cH8 i1) c1 h0 f Zf Z0 A_a1 S__assertionsDisabled S_HI_BYTE_SHIFT S_LO_BYTE_SHIFT) ?_
 rintro _ _ ⟨p1, rfl, ep1, rp1, rfl⟩
 have hzp1 : i1 = p1 := by rw [← ep1]; exact (own_u16 i1 (by have := r_i1; omega)).symm
 subst hzp1
 refine r_iloadN H 16 d_j52_48_15 ?_
 refine r_icmpneT H 22 d_j52_48_16 (by decide) (by decide) x_i1_10 ?_
 refine r_iinc H 25 #[vR a1, vI 10, vI 0, vI 1, vI 1] 1 d_j52_48_22 ?_
 refine r_goto H 3 d_j52_48_25 ?_
 refine r_iload H 5 d_j52_48_3 ?_
 refine r_iloadN H 6 d_j52_48_5 ?_
 refine r_icmpgeT H 28 d_j52_48_6 ?_
 refine r_iconst H 29 (-1 : Int32) d_j52_48_28 ?_
 exact r_ireturn H d_j52_48_29 (⟨rfl, rfl⟩)
def Q_indexOfChar_53 (Z : State) (h0 : Heap) (v : Option Value) (h : Heap) : Prop := v = some (.int (-1)) ∧ h0 = h
def R_indexOfChar_53 : Room := { frames := 3, cells := 0, slots := 0, locals := 43 }
theorem rm_indexOfChar_53 {w : Bool} {Z : State} {a0 : Array Value} (hw : HW a0 Z) (Ts : List String) (a1 : Addr) (i1 : Int32) (c1 : ClassId) (sio : Value) (h0 : Heap) (f : Nat) (Zf : Z.heap.size ≤ f) (Z0 : f ≤ h0.size) (A_a1 : Ar Z h0 a1 c1 .byte [.int (cL8 i1), .int (cH8 i1)]) (r_i1 : 256 ≤ i1.toInt ∧ i1.toInt ≤ 65535) (x_i1_10 : ¬ i1 = (10 : Int32)) (S_sio : G_S_sio Z sio) (hsio : G_hsio Z sio) (S__assertionsDisabled : G_S__assertionsDisabled Z) (S_HI_BYTE_SHIFT : G_S_HI_BYTE_SHIFT Z) (S_LO_BYTE_SHIFT : G_S_LO_BYTE_SHIFT Z) :
  Con w [] Z (⟨"java/lang/StringUTF16", "indexOfChar", "([BIII)I"⟩ : MethodName) jdk_52_method_47_code 4 (some .int) R_indexOfChar_53 Ts Ts f #[.ref a1, .int 10, .int 0, .int 1] h0 (Q_indexOfChar_53 Z h0) := by
 refine con_of f #[vR a1, vI 10, vI 0, vI 1] (plainFor_of_name pn_2) (fun m => rfl) Zf ?_
 intro C H hX0
 refine r_iloadN H 1 d_j52_47_0 ?_
 refine r_iloadN H 2 d_j52_47_1 ?_
 refine r_aloadN H 3 d_j52_47_2 ?_
 refine r_static (argsL := [.int 0, .int 1, .ref a1]) (rest := []) (W := 0) H 6 d_j52_47_3 (tw130 hw) (tw131 hw) (tw88 hw) (tw132 hw) (lenOf pd_24 rfl) (rm_checkBoundsBeginEnd_54 hw Ts a1 i1 c1 sio h0 f Zf Z0 A_a1 S_sio hsio) ?_
 rintro _ _ ⟨rfl, rfl⟩
 refine r_aloadN H 7 d_j52_47_6 ?_
 refine r_iloadN H 8 d_j52_47_7 ?_
 refine r_iloadN H 9 d_j52_47_8 ?_
 refine r_iloadN H 10 d_j52_47_9 ?_
 refine r_static (argsL := [.ref a1, .int 10, .int 0, .int 1]) (rest := []) (W := 0) H 13 d_j52_47_10 (tw144 hw) (tw145 hw) (tw88 hw) (tw146 hw) (lenOf pd_12 rfl) (rm_indexOfCharUnsafe_58 hw Ts a1 i1 c1 h0 f Zf Z0 A_a1 r_i1 x_i1_10 S__assertionsDisabled S_HI_BYTE_SHIFT S_LO_BYTE_SHIFT) ?_
 rintro _ _ ⟨rfl, rfl⟩
 exact r_ireturn H d_j52_47_13 (⟨rfl, rfl⟩)
def Q_indexOf_52 (Z : State) (h0 : Heap) (v : Option Value) (h : Heap) : Prop := v = some (.int (-1)) ∧ h0 = h
def R_indexOf_52 : Room := { frames := 4, cells := 0, slots := 0, locals := 58 }
theorem rm_indexOf_52 {w : Bool} {Z : State} {a0 : Array Value} (hw : HW a0 Z) (Ts : List String) (a1 : Addr) (i1 : Int32) (c1 : ClassId) (sio : Value) (h0 : Heap) (f : Nat) (Zf : Z.heap.size ≤ f) (Z0 : f ≤ h0.size) (A_a1 : Ar Z h0 a1 c1 .byte [.int (cL8 i1), .int (cH8 i1)]) (r_i1 : 256 ≤ i1.toInt ∧ i1.toInt ≤ 65535) (x_i1_10 : ¬ i1 = (10 : Int32)) (S_sio : G_S_sio Z sio) (hsio : G_hsio Z sio) (S__assertionsDisabled : G_S__assertionsDisabled Z) (S_HI_BYTE_SHIFT : G_S_HI_BYTE_SHIFT Z) (S_LO_BYTE_SHIFT : G_S_LO_BYTE_SHIFT Z) :
  Con w [] Z (⟨"java/lang/StringUTF16", "indexOf", "([BIII)I"⟩ : MethodName) jdk_52_method_40_code 4 (some .int) R_indexOf_52 Ts Ts f #[.ref a1, .int 10, .int 0, .int 1] h0 (Q_indexOf_52 Z h0) := by
 refine con_of f #[vR a1, vI 10, vI 0, vI 1] (plainFor_of_name pn_2) (fun m => rfl) Zf ?_
 intro C H hX0
 refine r_iloadN H 1 d_j52_40_0 ?_
 refine r_iconst H 2 0 d_j52_40_1 ?_
 refine r_static (argsL := [.int 0, .int 0]) (rest := []) (W := 0) H 5 d_j52_40_2 (tw124 hw) (tw75 hw) (tw76 hw) (tw77 hw) (lenOf pd_11 rfl) (rm_max_18 hw Ts h0 f Zf Z0) ?_
 rintro _ _ ⟨rfl, rfl⟩
 refine r_istoreN H 6 #[vR a1, vI 10, vI 0, vI 1] d_j52_40_5 ?_
 refine r_iloadN H 7 d_j52_40_6 ?_
 refine r_aloadN H 8 d_j52_40_7 ?_
 refine r_alen H 9 2 d_j52_40_8 A_a1 ?_
 refine r_iconst H 10 1 d_j52_40_9 ?_
 refine r_ishr H 11 1 d_j52_40_10 (by decide) ?_
 refine r_static (argsL := [.int 1, .int 1]) (rest := []) (W := 0) H 14 d_j52_40_11 (tw125 hw) (tw79 hw) (tw76 hw) (tw80 hw) (lenOf pd_11 rfl) (rm_min_40 hw Ts h0 f Zf Z0) ?_
 rintro _ _ ⟨rfl, rfl⟩
 refine r_istoreN H 15 #[vR a1, vI 10, vI 0, vI 1] d_j52_40_14 ?_
 refine r_iloadN H 16 d_j52_40_15 ?_
 refine r_iloadN H 17 d_j52_40_16 ?_
 refine r_icmpltT H 22 d_j52_40_17 ?_
 refine r_iloadN H 23 d_j52_40_22 ?_
 refine r_ldcI H 25 d_j52_40_23 (tw126 hw) ?_
 refine r_icmpgeF H 28 d_j52_40_25 ?_
 refine r_aloadN H 29 d_j52_40_28 ?_
 refine r_iloadN H 30 d_j52_40_29 ?_
 refine r_iloadN H 31 d_j52_40_30 ?_
 refine r_iloadN H 32 d_j52_40_31 ?_
 refine r_static (argsL := [.ref a1, .int 10, .int 0, .int 1]) (rest := []) (W := 0) H 35 d_j52_40_32 (tw127 hw) (tw128 hw) (tw88 hw) (tw129 hw) (lenOf pd_12 rfl) (rm_indexOfChar_53 hw Ts a1 i1 c1 sio h0 f Zf Z0 A_a1 r_i1 x_i1_10 S_sio hsio S__assertionsDisabled S_HI_BYTE_SHIFT S_LO_BYTE_SHIFT) ?_
 rintro _ _ ⟨rfl, rfl⟩
 exact r_ireturn H d_j52_40_35 (⟨rfl, rfl⟩)
def Q_indexOf_48 (Z : State) (h0 : Heap) (v : Option Value) (h : Heap) : Prop := v = some (.int (-1)) ∧ h0 = h
def R_indexOf_48 : Room := { frames := 5, cells := 0, slots := 0, locals := 73 }
theorem rm_indexOf_48 {w : Bool} {Z : State} {a0 : Array Value} (hw : HW a0 Z) (Ts : List String) (a1 : Addr) (a2 : Addr) (i1 : Int32) (c1 : ClassId) (cs : Int32) (sio : Value) (h0 : Heap) (f : Nat) (Zf : Z.heap.size ≤ f) (Z0 : f ≤ h0.size) (E_a1 : Exa Z h0 a1 "java/lang/String") (F_coder_a1 : Fld Z h0 a1 "java/lang/String" "coder" "B" (.int 1)) (F_value_a1 : Fld Z h0 a1 "java/lang/String" "value" "[B" (.ref a2)) (A_a2 : Ar Z h0 a2 c1 .byte [.int (cL8 i1), .int (cH8 i1)]) (r_i1 : 256 ≤ i1.toInt ∧ i1.toInt ≤ 65535) (x_i1_10 : ¬ i1 = (10 : Int32)) (S_cs : G_S_cs Z cs) (S_sio : G_S_sio Z sio) (hsio : G_hsio Z sio) (S__assertionsDisabled : G_S__assertionsDisabled Z) (S_HI_BYTE_SHIFT : G_S_HI_BYTE_SHIFT Z) (S_LO_BYTE_SHIFT : G_S_LO_BYTE_SHIFT Z) (hcs : ¬ cs = 0) :
  Con w [] Z (⟨"java/lang/String", "indexOf", "(II)I"⟩ : MethodName) jdk_42_method_80_code 3 (some .int) R_indexOf_48 Ts Ts f #[.ref a1, .int 10, .int 0] h0 (Q_indexOf_48 Z h0) := by
 refine con_of f #[vR a1, vI 10, vI 0] (plainFor_of_name pn_0) (fun m => rfl) Zf ?_
 intro C H hX0
 refine r_aloadN H 1 d_j42_80_0 ?_
 refine r_virtual (z := (⟨"java/lang/String", "isLatin1", "()Z"⟩ : MethodName)) (a := a1) (argsL := []) (rest := []) (W := 0) H 4 d_j42_80_1 (tw53 hw) (tw54 hw) (nf_sel (tw56 hw)) (tw56 hw) (tw55 hw) (tw4 hw) (tw57 hw) E_a1 (lenOf pd_7 rfl) (rm_isLatin1_49 hw Ts a1 cs h0 f Zf Z0 F_coder_a1 S_cs hcs) ?_
 rintro _ _ ⟨rfl, rfl⟩
 refine r_ifeqT H 23 d_j42_80_4 (by decide) (by decide) (by decide) ?_
 refine r_aloadN H 24 d_j42_80_23 ?_
 refine r_getf H 27 d_j42_80_24 (tw21 hw) F_value_a1 ?_
 refine r_iloadN H 28 d_j42_80_27 ?_
 refine r_iloadN H 29 d_j42_80_28 ?_
 refine r_aloadN H 30 d_j42_80_29 ?_
 refine r_virtual (z := (⟨"java/lang/String", "length", "()I"⟩ : MethodName)) (a := a1) (argsL := []) (rest := [.int 0, .int 10, .ref a2]) (W := 3) H 33 d_j42_80_30 (tw58 hw) (tw59 hw) (nf_sel (tw61 hw)) (tw61 hw) (tw60 hw) (tw4 hw) (tw62 hw) E_a1 (lenOf pd_9 rfl) (rm_length_50 hw Ts a1 a2 (cL8 i1) (cH8 i1) c1 cs h0 f Zf Z0 F_value_a1 A_a2 E_a1 F_coder_a1 S_cs hcs) ?_
 rintro _ _ ⟨rfl, rfl⟩
 refine r_static (argsL := [.ref a2, .int 10, .int 0, .int 1]) (rest := []) (W := 0) H 36 d_j42_80_33 (tw121 hw) (tw122 hw) (tw88 hw) (tw123 hw) (lenOf pd_12 rfl) (rm_indexOf_52 hw Ts a2 i1 c1 sio h0 f Zf Z0 A_a2 r_i1 x_i1_10 S_sio hsio S__assertionsDisabled S_HI_BYTE_SHIFT S_LO_BYTE_SHIFT) ?_
 rintro _ _ ⟨rfl, rfl⟩
 exact r_ireturn H d_j42_80_36 (⟨rfl, rfl⟩)
def Q_indexOf_47 (Z : State) (h0 : Heap) (v : Option Value) (h : Heap) : Prop := v = some (.int (-1)) ∧ h0 = h
def R_indexOf_47 : Room := { frames := 6, cells := 0, slots := 0, locals := 87 }
theorem rm_indexOf_47 {w : Bool} {Z : State} {a0 : Array Value} (hw : HW a0 Z) (Ts : List String) (a1 : Addr) (a2 : Addr) (i1 : Int32) (c1 : ClassId) (cs : Int32) (sio : Value) (h0 : Heap) (f : Nat) (Zf : Z.heap.size ≤ f) (Z0 : f ≤ h0.size) (E_a1 : Exa Z h0 a1 "java/lang/String") (F_coder_a1 : Fld Z h0 a1 "java/lang/String" "coder" "B" (.int 1)) (F_value_a1 : Fld Z h0 a1 "java/lang/String" "value" "[B" (.ref a2)) (A_a2 : Ar Z h0 a2 c1 .byte [.int (cL8 i1), .int (cH8 i1)]) (r_i1 : 256 ≤ i1.toInt ∧ i1.toInt ≤ 65535) (x_i1_10 : ¬ i1 = (10 : Int32)) (S_cs : G_S_cs Z cs) (S_sio : G_S_sio Z sio) (hsio : G_hsio Z sio) (S__assertionsDisabled : G_S__assertionsDisabled Z) (S_HI_BYTE_SHIFT : G_S_HI_BYTE_SHIFT Z) (S_LO_BYTE_SHIFT : G_S_LO_BYTE_SHIFT Z) (hcs : ¬ cs = 0) :
  Con w [] Z (⟨"java/lang/String", "indexOf", "(I)I"⟩ : MethodName) jdk_42_method_79_code 2 (some .int) R_indexOf_47 Ts Ts f #[.ref a1, .int 10] h0 (Q_indexOf_47 Z h0) := by
 refine con_of f #[vR a1, vI 10] (plainFor_of_name pn_0) (fun m => rfl) Zf ?_
 intro C H hX0
 refine r_aloadN H 1 d_j42_79_0 ?_
 refine r_iloadN H 2 d_j42_79_1 ?_
 refine r_iconst H 3 0 d_j42_79_2 ?_
 refine r_virtual (z := (⟨"java/lang/String", "indexOf", "(II)I"⟩ : MethodName)) (a := a1) (argsL := [.int 10, .int 0]) (rest := []) (W := 0) H 6 d_j42_79_3 (tw48 hw) (tw49 hw) (nf_sel (tw51 hw)) (tw51 hw) (tw50 hw) (tw4 hw) (tw52 hw) E_a1 (lenOf pd_11 rfl) (rm_indexOf_48 hw Ts a1 a2 i1 c1 cs sio h0 f Zf Z0 E_a1 F_coder_a1 F_value_a1 A_a2 r_i1 x_i1_10 S_cs S_sio hsio S__assertionsDisabled S_HI_BYTE_SHIFT S_LO_BYTE_SHIFT hcs) ?_
 rintro _ _ ⟨rfl, rfl⟩
 exact r_ireturn H d_j42_79_6 (⟨rfl, rfl⟩)
def Q_indexOfCharUnsafe_63 (Z : State) (h0 : Heap) (v : Option Value) (h : Heap) : Prop := v = some (.int (-1)) ∧ h0 = h
def R_indexOfCharUnsafe_63 : Room := { frames := 1, cells := 0, slots := 0, locals := 13 }
theorem rm_indexOfCharUnsafe_63 {w : Bool} {Z : State} {a0 : Array Value} (hw : HW a0 Z) (Ts : List String) (a1 : Addr) (i1 : Int32) (c1 : ClassId) (h0 : Heap) (f : Nat) (Zf : Z.heap.size ≤ f) (Z0 : f ≤ h0.size) (A_a1 : Ar Z h0 a1 c1 .byte [.int (cL8 i1), .int (cH8 i1)]) (r_i1 : 256 ≤ i1.toInt ∧ i1.toInt ≤ 65535) (x_i1_13 : ¬ i1 = (13 : Int32)) (S__assertionsDisabled : G_S__assertionsDisabled Z) (S_HI_BYTE_SHIFT : G_S_HI_BYTE_SHIFT Z) (S_LO_BYTE_SHIFT : G_S_LO_BYTE_SHIFT Z) :
  Con w [] Z (⟨"java/lang/StringUTF16", "indexOfCharUnsafe", "([BIII)I"⟩ : MethodName) jdk_52_method_48_code 5 (some .int) R_indexOfCharUnsafe_63 Ts Ts f #[.ref a1, .int 13, .int 0, .int 1] h0 (Q_indexOfCharUnsafe_63 Z h0) := by
 refine con_of f #[vR a1, vI 13, vI 0, vI 1, .unset] (plainFor_of_name pn_2) (fun m => rfl) Zf ?_
 intro C H hX0
 refine r_iloadN H 1 d_j52_48_0 ?_
 refine r_istore H 3 #[vR a1, vI 13, vI 0, vI 1, vI 0] d_j52_48_1 ?_
 refine r_iload H 5 d_j52_48_3 ?_
 refine r_iloadN H 6 d_j52_48_5 ?_
 refine r_icmpgeF H 9 d_j52_48_6 ?_
 refine r_aloadN H 10 d_j52_48_9 ?_
 refine r_iload H 12 d_j52_48_10 ?_
 refine r_static (argsL := [.ref a1, .int 0]) (rest := []) (W := 0) H 15 d_j52_48_12 (tw115 hw) (tw116 hw) (tw88 hw) (tw117 hw) (lenOf pd_19 rfl) (rm_getChar_32 hw Ts a1 (cL8 i1) (cH8 i1) c1 h0 f Zf Z0 A_a1 S__assertionsDisabled S_HI_BYTE_SHIFT S_LO_BYTE_SHIFT) ?_
 rintro _ _ ⟨p1, rfl, ep1, rp1, rfl⟩
 have hzp1 : i1 = p1 := by rw [← ep1]; exact (own_u16 i1 (by have := r_i1; omega)).symm
 subst hzp1
 refine r_iloadN H 16 d_j52_48_15 ?_
 refine r_icmpneT H 22 d_j52_48_16 (by decide) (by decide) x_i1_13 ?_
 refine r_iinc H 25 #[vR a1, vI 13, vI 0, vI 1, vI 1] 1 d_j52_48_22 ?_
 refine r_goto H 3 d_j52_48_25 ?_
 refine r_iload H 5 d_j52_48_3 ?_
 refine r_iloadN H 6 d_j52_48_5 ?_
 refine r_icmpgeT H 28 d_j52_48_6 ?_
 refine r_iconst H 29 (-1 : Int32) d_j52_48_28 ?_
 exact r_ireturn H d_j52_48_29 (⟨rfl, rfl⟩)
def Q_indexOfChar_62 (Z : State) (h0 : Heap) (v : Option Value) (h : Heap) : Prop := v = some (.int (-1)) ∧ h0 = h
def R_indexOfChar_62 : Room := { frames := 3, cells := 0, slots := 0, locals := 43 }
theorem rm_indexOfChar_62 {w : Bool} {Z : State} {a0 : Array Value} (hw : HW a0 Z) (Ts : List String) (a1 : Addr) (i1 : Int32) (c1 : ClassId) (sio : Value) (h0 : Heap) (f : Nat) (Zf : Z.heap.size ≤ f) (Z0 : f ≤ h0.size) (A_a1 : Ar Z h0 a1 c1 .byte [.int (cL8 i1), .int (cH8 i1)]) (r_i1 : 256 ≤ i1.toInt ∧ i1.toInt ≤ 65535) (x_i1_13 : ¬ i1 = (13 : Int32)) (S_sio : G_S_sio Z sio) (hsio : G_hsio Z sio) (S__assertionsDisabled : G_S__assertionsDisabled Z) (S_HI_BYTE_SHIFT : G_S_HI_BYTE_SHIFT Z) (S_LO_BYTE_SHIFT : G_S_LO_BYTE_SHIFT Z) :
  Con w [] Z (⟨"java/lang/StringUTF16", "indexOfChar", "([BIII)I"⟩ : MethodName) jdk_52_method_47_code 4 (some .int) R_indexOfChar_62 Ts Ts f #[.ref a1, .int 13, .int 0, .int 1] h0 (Q_indexOfChar_62 Z h0) := by
 refine con_of f #[vR a1, vI 13, vI 0, vI 1] (plainFor_of_name pn_2) (fun m => rfl) Zf ?_
 intro C H hX0
 refine r_iloadN H 1 d_j52_47_0 ?_
 refine r_iloadN H 2 d_j52_47_1 ?_
 refine r_aloadN H 3 d_j52_47_2 ?_
 refine r_static (argsL := [.int 0, .int 1, .ref a1]) (rest := []) (W := 0) H 6 d_j52_47_3 (tw130 hw) (tw131 hw) (tw88 hw) (tw132 hw) (lenOf pd_24 rfl) (rm_checkBoundsBeginEnd_54 hw Ts a1 i1 c1 sio h0 f Zf Z0 A_a1 S_sio hsio) ?_
 rintro _ _ ⟨rfl, rfl⟩
 refine r_aloadN H 7 d_j52_47_6 ?_
 refine r_iloadN H 8 d_j52_47_7 ?_
 refine r_iloadN H 9 d_j52_47_8 ?_
 refine r_iloadN H 10 d_j52_47_9 ?_
 refine r_static (argsL := [.ref a1, .int 13, .int 0, .int 1]) (rest := []) (W := 0) H 13 d_j52_47_10 (tw144 hw) (tw145 hw) (tw88 hw) (tw146 hw) (lenOf pd_12 rfl) (rm_indexOfCharUnsafe_63 hw Ts a1 i1 c1 h0 f Zf Z0 A_a1 r_i1 x_i1_13 S__assertionsDisabled S_HI_BYTE_SHIFT S_LO_BYTE_SHIFT) ?_
 rintro _ _ ⟨rfl, rfl⟩
 exact r_ireturn H d_j52_47_13 (⟨rfl, rfl⟩)
def Q_indexOf_61 (Z : State) (h0 : Heap) (v : Option Value) (h : Heap) : Prop := v = some (.int (-1)) ∧ h0 = h
def R_indexOf_61 : Room := { frames := 4, cells := 0, slots := 0, locals := 58 }
theorem rm_indexOf_61 {w : Bool} {Z : State} {a0 : Array Value} (hw : HW a0 Z) (Ts : List String) (a1 : Addr) (i1 : Int32) (c1 : ClassId) (sio : Value) (h0 : Heap) (f : Nat) (Zf : Z.heap.size ≤ f) (Z0 : f ≤ h0.size) (A_a1 : Ar Z h0 a1 c1 .byte [.int (cL8 i1), .int (cH8 i1)]) (r_i1 : 256 ≤ i1.toInt ∧ i1.toInt ≤ 65535) (x_i1_13 : ¬ i1 = (13 : Int32)) (S_sio : G_S_sio Z sio) (hsio : G_hsio Z sio) (S__assertionsDisabled : G_S__assertionsDisabled Z) (S_HI_BYTE_SHIFT : G_S_HI_BYTE_SHIFT Z) (S_LO_BYTE_SHIFT : G_S_LO_BYTE_SHIFT Z) :
  Con w [] Z (⟨"java/lang/StringUTF16", "indexOf", "([BIII)I"⟩ : MethodName) jdk_52_method_40_code 4 (some .int) R_indexOf_61 Ts Ts f #[.ref a1, .int 13, .int 0, .int 1] h0 (Q_indexOf_61 Z h0) := by
 refine con_of f #[vR a1, vI 13, vI 0, vI 1] (plainFor_of_name pn_2) (fun m => rfl) Zf ?_
 intro C H hX0
 refine r_iloadN H 1 d_j52_40_0 ?_
 refine r_iconst H 2 0 d_j52_40_1 ?_
 refine r_static (argsL := [.int 0, .int 0]) (rest := []) (W := 0) H 5 d_j52_40_2 (tw124 hw) (tw75 hw) (tw76 hw) (tw77 hw) (lenOf pd_11 rfl) (rm_max_18 hw Ts h0 f Zf Z0) ?_
 rintro _ _ ⟨rfl, rfl⟩
 refine r_istoreN H 6 #[vR a1, vI 13, vI 0, vI 1] d_j52_40_5 ?_
 refine r_iloadN H 7 d_j52_40_6 ?_
 refine r_aloadN H 8 d_j52_40_7 ?_
 refine r_alen H 9 2 d_j52_40_8 A_a1 ?_
 refine r_iconst H 10 1 d_j52_40_9 ?_
 refine r_ishr H 11 1 d_j52_40_10 (by decide) ?_
 refine r_static (argsL := [.int 1, .int 1]) (rest := []) (W := 0) H 14 d_j52_40_11 (tw125 hw) (tw79 hw) (tw76 hw) (tw80 hw) (lenOf pd_11 rfl) (rm_min_40 hw Ts h0 f Zf Z0) ?_
 rintro _ _ ⟨rfl, rfl⟩
 refine r_istoreN H 15 #[vR a1, vI 13, vI 0, vI 1] d_j52_40_14 ?_
 refine r_iloadN H 16 d_j52_40_15 ?_
 refine r_iloadN H 17 d_j52_40_16 ?_
 refine r_icmpltT H 22 d_j52_40_17 ?_
 refine r_iloadN H 23 d_j52_40_22 ?_
 refine r_ldcI H 25 d_j52_40_23 (tw126 hw) ?_
 refine r_icmpgeF H 28 d_j52_40_25 ?_
 refine r_aloadN H 29 d_j52_40_28 ?_
 refine r_iloadN H 30 d_j52_40_29 ?_
 refine r_iloadN H 31 d_j52_40_30 ?_
 refine r_iloadN H 32 d_j52_40_31 ?_
 refine r_static (argsL := [.ref a1, .int 13, .int 0, .int 1]) (rest := []) (W := 0) H 35 d_j52_40_32 (tw127 hw) (tw128 hw) (tw88 hw) (tw129 hw) (lenOf pd_12 rfl) (rm_indexOfChar_62 hw Ts a1 i1 c1 sio h0 f Zf Z0 A_a1 r_i1 x_i1_13 S_sio hsio S__assertionsDisabled S_HI_BYTE_SHIFT S_LO_BYTE_SHIFT) ?_
 rintro _ _ ⟨rfl, rfl⟩
 exact r_ireturn H d_j52_40_35 (⟨rfl, rfl⟩)
def Q_indexOf_60 (Z : State) (h0 : Heap) (v : Option Value) (h : Heap) : Prop := v = some (.int (-1)) ∧ h0 = h
def R_indexOf_60 : Room := { frames := 5, cells := 0, slots := 0, locals := 73 }
theorem rm_indexOf_60 {w : Bool} {Z : State} {a0 : Array Value} (hw : HW a0 Z) (Ts : List String) (a1 : Addr) (a2 : Addr) (i1 : Int32) (c1 : ClassId) (cs : Int32) (sio : Value) (h0 : Heap) (f : Nat) (Zf : Z.heap.size ≤ f) (Z0 : f ≤ h0.size) (E_a1 : Exa Z h0 a1 "java/lang/String") (F_coder_a1 : Fld Z h0 a1 "java/lang/String" "coder" "B" (.int 1)) (F_value_a1 : Fld Z h0 a1 "java/lang/String" "value" "[B" (.ref a2)) (A_a2 : Ar Z h0 a2 c1 .byte [.int (cL8 i1), .int (cH8 i1)]) (r_i1 : 256 ≤ i1.toInt ∧ i1.toInt ≤ 65535) (x_i1_13 : ¬ i1 = (13 : Int32)) (S_cs : G_S_cs Z cs) (S_sio : G_S_sio Z sio) (hsio : G_hsio Z sio) (S__assertionsDisabled : G_S__assertionsDisabled Z) (S_HI_BYTE_SHIFT : G_S_HI_BYTE_SHIFT Z) (S_LO_BYTE_SHIFT : G_S_LO_BYTE_SHIFT Z) (hcs : ¬ cs = 0) :
  Con w [] Z (⟨"java/lang/String", "indexOf", "(II)I"⟩ : MethodName) jdk_42_method_80_code 3 (some .int) R_indexOf_60 Ts Ts f #[.ref a1, .int 13, .int 0] h0 (Q_indexOf_60 Z h0) := by
 refine con_of f #[vR a1, vI 13, vI 0] (plainFor_of_name pn_0) (fun m => rfl) Zf ?_
 intro C H hX0
 refine r_aloadN H 1 d_j42_80_0 ?_
 refine r_virtual (z := (⟨"java/lang/String", "isLatin1", "()Z"⟩ : MethodName)) (a := a1) (argsL := []) (rest := []) (W := 0) H 4 d_j42_80_1 (tw53 hw) (tw54 hw) (nf_sel (tw56 hw)) (tw56 hw) (tw55 hw) (tw4 hw) (tw57 hw) E_a1 (lenOf pd_7 rfl) (rm_isLatin1_49 hw Ts a1 cs h0 f Zf Z0 F_coder_a1 S_cs hcs) ?_
 rintro _ _ ⟨rfl, rfl⟩
 refine r_ifeqT H 23 d_j42_80_4 (by decide) (by decide) (by decide) ?_
 refine r_aloadN H 24 d_j42_80_23 ?_
 refine r_getf H 27 d_j42_80_24 (tw21 hw) F_value_a1 ?_
 refine r_iloadN H 28 d_j42_80_27 ?_
 refine r_iloadN H 29 d_j42_80_28 ?_
 refine r_aloadN H 30 d_j42_80_29 ?_
 refine r_virtual (z := (⟨"java/lang/String", "length", "()I"⟩ : MethodName)) (a := a1) (argsL := []) (rest := [.int 0, .int 13, .ref a2]) (W := 3) H 33 d_j42_80_30 (tw58 hw) (tw59 hw) (nf_sel (tw61 hw)) (tw61 hw) (tw60 hw) (tw4 hw) (tw62 hw) E_a1 (lenOf pd_9 rfl) (rm_length_50 hw Ts a1 a2 (cL8 i1) (cH8 i1) c1 cs h0 f Zf Z0 F_value_a1 A_a2 E_a1 F_coder_a1 S_cs hcs) ?_
 rintro _ _ ⟨rfl, rfl⟩
 refine r_static (argsL := [.ref a2, .int 13, .int 0, .int 1]) (rest := []) (W := 0) H 36 d_j42_80_33 (tw121 hw) (tw122 hw) (tw88 hw) (tw123 hw) (lenOf pd_12 rfl) (rm_indexOf_61 hw Ts a2 i1 c1 sio h0 f Zf Z0 A_a2 r_i1 x_i1_13 S_sio hsio S__assertionsDisabled S_HI_BYTE_SHIFT S_LO_BYTE_SHIFT) ?_
 rintro _ _ ⟨rfl, rfl⟩
 exact r_ireturn H d_j42_80_36 (⟨rfl, rfl⟩)
def Q_indexOf_59 (Z : State) (h0 : Heap) (v : Option Value) (h : Heap) : Prop := v = some (.int (-1)) ∧ h0 = h
def R_indexOf_59 : Room := { frames := 6, cells := 0, slots := 0, locals := 87 }
theorem rm_indexOf_59 {w : Bool} {Z : State} {a0 : Array Value} (hw : HW a0 Z) (Ts : List String) (a1 : Addr) (a2 : Addr) (i1 : Int32) (c1 : ClassId) (cs : Int32) (sio : Value) (h0 : Heap) (f : Nat) (Zf : Z.heap.size ≤ f) (Z0 : f ≤ h0.size) (E_a1 : Exa Z h0 a1 "java/lang/String") (F_coder_a1 : Fld Z h0 a1 "java/lang/String" "coder" "B" (.int 1)) (F_value_a1 : Fld Z h0 a1 "java/lang/String" "value" "[B" (.ref a2)) (A_a2 : Ar Z h0 a2 c1 .byte [.int (cL8 i1), .int (cH8 i1)]) (r_i1 : 256 ≤ i1.toInt ∧ i1.toInt ≤ 65535) (x_i1_13 : ¬ i1 = (13 : Int32)) (S_cs : G_S_cs Z cs) (S_sio : G_S_sio Z sio) (hsio : G_hsio Z sio) (S__assertionsDisabled : G_S__assertionsDisabled Z) (S_HI_BYTE_SHIFT : G_S_HI_BYTE_SHIFT Z) (S_LO_BYTE_SHIFT : G_S_LO_BYTE_SHIFT Z) (hcs : ¬ cs = 0) :
  Con w [] Z (⟨"java/lang/String", "indexOf", "(I)I"⟩ : MethodName) jdk_42_method_79_code 2 (some .int) R_indexOf_59 Ts Ts f #[.ref a1, .int 13] h0 (Q_indexOf_59 Z h0) := by
 refine con_of f #[vR a1, vI 13] (plainFor_of_name pn_0) (fun m => rfl) Zf ?_
 intro C H hX0
 refine r_aloadN H 1 d_j42_79_0 ?_
 refine r_iloadN H 2 d_j42_79_1 ?_
 refine r_iconst H 3 0 d_j42_79_2 ?_
 refine r_virtual (z := (⟨"java/lang/String", "indexOf", "(II)I"⟩ : MethodName)) (a := a1) (argsL := [.int 13, .int 0]) (rest := []) (W := 0) H 6 d_j42_79_3 (tw48 hw) (tw49 hw) (nf_sel (tw51 hw)) (tw51 hw) (tw50 hw) (tw4 hw) (tw52 hw) E_a1 (lenOf pd_11 rfl) (rm_indexOf_60 hw Ts a1 a2 i1 c1 cs sio h0 f Zf Z0 E_a1 F_coder_a1 F_value_a1 A_a2 r_i1 x_i1_13 S_cs S_sio hsio S__assertionsDisabled S_HI_BYTE_SHIFT S_LO_BYTE_SHIFT hcs) ?_
 rintro _ _ ⟨rfl, rfl⟩
 exact r_ireturn H d_j42_79_6 (⟨rfl, rfl⟩)
def Q_require_46 (Z : State) (a2 : Addr) (h0 : Heap) (v : Option Value) (h : Heap) : Prop := v = some (.ref a2) ∧ h0 = h
def R_require_46 : Room := { frames := 7, cells := 0, slots := 0, locals := 100 }
theorem rm_require_46 {w : Bool} {Z : State} {a0 : Array Value} (hw : HW a0 Z) (Ts : List String) (a1 : Addr) (a2 : Addr) (a4 : Addr) (i3 : Int32) (c2 : ClassId) (cs : Int32) (sio : Value) (h0 : Heap) (f : Nat) (Zf : Z.heap.size ≤ f) (Z0 : f ≤ h0.size) (E_a2 : Exa Z h0 a2 "java/lang/String") (F_coder_a2 : Fld Z h0 a2 "java/lang/String" "coder" "B" (.int 1)) (F_value_a2 : Fld Z h0 a2 "java/lang/String" "value" "[B" (.ref a4)) (A_a4 : Ar Z h0 a4 c2 .byte [.int (cL8 i3), .int (cH8 i3)]) (r_i3 : 256 ≤ i3.toInt ∧ i3.toInt ≤ 65535) (x_i3_10 : ¬ i3 = (10 : Int32)) (x_i3_13 : ¬ i3 = (13 : Int32)) (S_cs : G_S_cs Z cs) (S_sio : G_S_sio Z sio) (hsio : G_hsio Z sio) (S__assertionsDisabled : G_S__assertionsDisabled Z) (S_HI_BYTE_SHIFT : G_S_HI_BYTE_SHIFT Z) (S_LO_BYTE_SHIFT : G_S_LO_BYTE_SHIFT Z) (hcs : ¬ cs = 0) :
  Con w [] Z (⟨"com/example/ferryline/ferryline/model/OneLine", "require", "(Ljava/lang/String;Ljava/lang/String;)Ljava/lang/String;"⟩ : MethodName) prog_70_method_2_code 2 (some (.object "java/lang/String")) R_require_46 Ts Ts f #[.ref a1, .ref a2] h0 (Q_require_46 Z a2 h0) := by
 refine con_of f #[vR a1, vR a2] (plainFor_of_name pn_3) (fun m => rfl) Zf ?_
 intro C H hX0
 refine r_aloadN H 1 d_g70_2_0 ?_
 refine r_bipush H 3 10 d_g70_2_1 ?_
 refine r_virtual (z := (⟨"java/lang/String", "indexOf", "(I)I"⟩ : MethodName)) (a := a2) (argsL := [.int 10]) (rest := []) (W := 0) H 6 d_g70_2_3 (tw43 hw) (tw44 hw) (nf_sel (tw46 hw)) (tw46 hw) (tw45 hw) (tw4 hw) (tw47 hw) E_a2 (lenOf pd_13 rfl) (rm_indexOf_47 hw Ts a2 a4 i3 c2 cs sio h0 f Zf Z0 E_a2 F_coder_a2 F_value_a2 A_a4 r_i3 x_i3_10 S_cs S_sio hsio S__assertionsDisabled S_HI_BYTE_SHIFT S_LO_BYTE_SHIFT hcs) ?_
 rintro _ _ ⟨rfl, rfl⟩
 refine r_ifgeF H 9 d_g70_2_6 ?_
 refine r_aloadN H 10 d_g70_2_9 ?_
 refine r_bipush H 12 13 d_g70_2_10 ?_
 refine r_virtual (z := (⟨"java/lang/String", "indexOf", "(I)I"⟩ : MethodName)) (a := a2) (argsL := [.int 13]) (rest := []) (W := 0) H 15 d_g70_2_12 (tw43 hw) (tw44 hw) (nf_sel (tw46 hw)) (tw46 hw) (tw45 hw) (tw4 hw) (tw47 hw) E_a2 (lenOf pd_13 rfl) (rm_indexOf_59 hw Ts a2 a4 i3 c2 cs sio h0 f Zf Z0 E_a2 F_coder_a2 F_value_a2 A_a4 r_i3 x_i3_13 S_cs S_sio hsio S__assertionsDisabled S_HI_BYTE_SHIFT S_LO_BYTE_SHIFT hcs) ?_
 rintro _ _ ⟨rfl, rfl⟩
 refine r_ifltT H 38 d_g70_2_15 ?_
 refine r_aloadN H 39 d_g70_2_38 ?_
 exact r_areturn H d_g70_2_39 (⟨rfl, rfl⟩)
def Q_compress_67 (Z : State) (a2 : Addr) (i1 : Int32) (i2 : Int32) (c2 : ClassId) (h0 : Heap) (v : Option Value) (h : Heap) : Prop := (v = some (.int 2) ∧ (¬ (255 : Int32) < i1) ∧ (¬ (255 : Int32) < i2) ∧ Keep h0 h [a2] ∧ Ar Z h a2 c2 .byte [.int (cB8 i1), .int (cB8 i2)] ∧ Exa Z h a2 "[B") ∨ (v = some (.int 1) ∧ (¬ (255 : Int32) < i1) ∧ ((255 : Int32) < i2) ∧ Keep h0 h [a2] ∧ Ar Z h a2 c2 .byte [.int (cB8 i1), .int 0] ∧ Exa Z h a2 "[B") ∨ (v = some (.int 0) ∧ ((255 : Int32) < i1) ∧ h0 = h)
def R_compress_67 : Room := { frames := 0, cells := 0, slots := 0, locals := 0 }
theorem rm_compress_67 {w : Bool} {Z : State} {a0 : Array Value} (hw : HW a0 Z) (Ts : List String) (a1 : Addr) (a2 : Addr) (i1 : Int32) (i2 : Int32) (c1 : ClassId) (c2 : ClassId) (h0 : Heap) (f : Nat) (Zf : Z.heap.size ≤ f) (Z0 : f ≤ h0.size) (A_a1 : Ar Z h0 a1 c1 .char [.int i1, .int i2]) (A_a2 : Ar Z h0 a2 c2 .byte [.int 0, .int 0]) (g_a2 : f ≤ a2) (E_a2 : Exa Z h0 a2 "[B") (E_a1 : Exa Z h0 a1 "[C") (r_i1 : 0 ≤ i1.toInt ∧ i1.toInt ≤ 65535) (r_i2 : 0 ≤ i2.toInt ∧ i2.toInt ≤ 65535) :
  Con w [] Z (⟨"java/lang/StringUTF16", "compress", "([CI[BII)I"⟩ : MethodName) jdk_52_method_21_code 7 (some .int) R_compress_67 Ts Ts f #[.ref a1, .int 0, .ref a2, .int 0, .int 2] h0 (Q_compress_67 Z a2 i1 i2 c2 h0) := by
 refine con_of f #[vR a1, vI 0, vR a2, vI 0, vI 2, .unset, .unset] (plainFor_of_name pn_2) (fun m => rfl) Zf ?_
 intro C H hX0
 refine r_iconst H 1 0 d_j52_21_0 ?_
 refine r_istore H 3 #[vR a1, vI 0, vR a2, vI 0, vI 2, vI 0, .unset] d_j52_21_1 ?_
 refine r_iload H 5 d_j52_21_3 ?_
 refine r_iload H 7 d_j52_21_5 ?_
 refine r_icmpgeF H 10 d_j52_21_7 ?_
 refine r_aloadN H 11 d_j52_21_10 ?_
 refine r_iloadN H 12 d_j52_21_11 ?_
 refine r_caload H 13 i1 d_j52_21_12 A_a1 ?_
 refine r_istore H 15 #[vR a1, vI 0, vR a2, vI 0, vI 2, vI 0, vI i1] d_j52_21_13 ?_
 refine r_iload H 17 d_j52_21_15 ?_
 refine r_sipush H 20 255 d_j52_21_17 ?_
 refine r_icmple H 26 23 d_j52_21_20 (fun c1 => ?_) (fun c1 => ?_)
 ·
  refine r_aloadN H 27 d_j52_21_26 ?_
  refine r_iloadN H 28 d_j52_21_27 ?_
  refine r_iload H 30 d_j52_21_28 ?_
  obtain ⟨p3, ep3, rp3⟩ : ∃ p : Int32, (i1.toInt8.toInt32) = p ∧ -128 ≤ p.toInt ∧ p.toInt ≤ 127 := ⟨_, rfl, (by have h := c_i2b i1; omega)⟩
  refine r_i2b H 31 p3 d_j52_21_30 ep3 ?_
  refine r_bastore H 32 p3 d_j52_21_31 A_a2 g_a2 (nar_byte_id (by have := rp3; omega)) ?_
  intro h4 K4 A4
  change Ar Z h4 a2 c2 .byte [.int p3, .int 0] at A4
  refine r_iinc H 35 #[vR a1, vI 1, vR a2, vI 0, vI 2, vI 0, vI i1] 1 d_j52_21_32 ?_
  refine r_iinc H 38 #[vR a1, vI 1, vR a2, vI 1, vI 2, vI 0, vI i1] 1 d_j52_21_35 ?_
  refine r_iinc H 41 #[vR a1, vI 1, vR a2, vI 1, vI 2, vI 1, vI i1] 1 d_j52_21_38 ?_
  refine r_goto H 3 d_j52_21_41 ?_
  refine r_iload H 5 d_j52_21_3 ?_
  refine r_iload H 7 d_j52_21_5 ?_
  refine r_icmpgeF H 10 d_j52_21_7 ?_
  refine r_aloadN H 11 d_j52_21_10 ?_
  refine r_iloadN H 12 d_j52_21_11 ?_
  have q5 := (E_a1.keep K4)
  have q6 := (E_a2.keep K4)
  have q7 := (A_a1.keep K4 (ninS (ne_exa q5 q6 (by decide)) nin0))
  refine r_caload H 13 i2 d_j52_21_12 q7 ?_
  refine r_istore H 15 #[vR a1, vI 1, vR a2, vI 1, vI 2, vI 1, vI i2] d_j52_21_13 ?_
  refine r_iload H 17 d_j52_21_15 ?_
  refine r_sipush H 20 255 d_j52_21_17 ?_
  refine r_icmple H 26 23 d_j52_21_20 (fun c8 => ?_) (fun c8 => ?_)
  ·
   refine r_aloadN H 27 d_j52_21_26 ?_
   refine r_iloadN H 28 d_j52_21_27 ?_
   refine r_iload H 30 d_j52_21_28 ?_
   obtain ⟨p10, ep10, rp10⟩ : ∃ p : Int32, (i2.toInt8.toInt32) = p ∧ -128 ≤ p.toInt ∧ p.toInt ≤ 127 := ⟨_, rfl, (by have h := c_i2b i2; omega)⟩
   refine r_i2b H 31 p10 d_j52_21_30 ep10 ?_
   refine r_bastore H 32 p10 d_j52_21_31 A4 g_a2 (nar_byte_id (by have := rp10; omega)) ?_
   intro h11 K11 A11
   change Ar Z h11 a2 c2 .byte [.int p3, .int p10] at A11
   refine r_iinc H 35 #[vR a1, vI 2, vR a2, vI 1, vI 2, vI 1, vI i2] 2 d_j52_21_32 ?_
   refine r_iinc H 38 #[vR a1, vI 2, vR a2, vI 2, vI 2, vI 1, vI i2] 2 d_j52_21_35 ?_
   refine r_iinc H 41 #[vR a1, vI 2, vR a2, vI 2, vI 2, vI 2, vI i2] 2 d_j52_21_38 ?_
   refine r_goto H 3 d_j52_21_41 ?_
   refine r_iload H 5 d_j52_21_3 ?_
   refine r_iload H 7 d_j52_21_5 ?_
   refine r_icmpgeT H 44 d_j52_21_7 ?_
   refine r_iload H 46 d_j52_21_44 ?_
   have k12 : Keep h0 h4 [a2] := Keep.trans (Keep.refl h0 [a2]) K4 (allS (Or.inl (List.mem_of_getElem? (i := 0) rfl)) all0)
   have k13 : Keep h0 h11 [a2] := Keep.trans k12 K11 (allS (Or.inl (List.mem_of_getElem? (i := 0) rfl)) all0)
   have q14 := (q6.keep K11)
   subst ep3 ep10
   exact r_ireturn H d_j52_21_46 (Or.inl ⟨rfl, c1, c8, k13, A11, q14⟩)
  ·
   refine r_iload H 25 d_j52_21_23 ?_
   have k16 : Keep h0 h4 [a2] := Keep.trans (Keep.refl h0 [a2]) K4 (allS (Or.inl (List.mem_of_getElem? (i := 0) rfl)) all0)
   subst ep3
   exact r_ireturn H d_j52_21_25 (Or.inr (Or.inl ⟨rfl, c1, c8, k16, A4, q6⟩))
 ·
  refine r_iload H 25 d_j52_21_23 ?_
  exact r_ireturn H d_j52_21_25 (Or.inr (Or.inr (⟨rfl, c1, rfl⟩)))
def Q_newBytesLength_70 (Z : State) (h0 : Heap) (v : Option Value) (h : Heap) : Prop := v = some (.int 4) ∧ h0 = h
def R_newBytesLength_70 : Room := { frames := 0, cells := 0, slots := 0, locals := 0 }
theorem rm_newBytesLength_70 {w : Bool} {Z : State} {a0 : Array Value} (hw : HW a0 Z) (Ts : List String) (h0 : Heap) (f : Nat) (Zf : Z.heap.size ≤ f) (Z0 : f ≤ h0.size) :
  Con w [] Z (⟨"java/lang/StringUTF16", "newBytesLength", "(I)I"⟩ : MethodName) jdk_52_method_3_code 1 (some .int) R_newBytesLength_70 Ts Ts f #[.int 2] h0 (Q_newBytesLength_70 Z h0) := by
 refine con_of f #[vI 2] (plainFor_of_name pn_2) (fun m => rfl) Zf ?_
 intro C H hX0
 refine r_iloadN H 1 d_j52_3_0 ?_
 refine r_ifgeT H 12 d_j52_3_1 ?_
 refine r_iloadN H 13 d_j52_3_12 ?_
 refine r_ldcI H 15 d_j52_3_13 (tw108 hw) ?_
 refine r_icmpltT H 55 d_j52_3_15 ?_
 refine r_iloadN H 56 d_j52_3_55 ?_
 refine r_iconst H 57 1 d_j52_3_56 ?_
 refine r_ishl H 58 4 d_j52_3_57 (by decide) ?_
 exact r_ireturn H d_j52_3_58 (⟨rfl, rfl⟩)
def Q_newBytesFor_69 (Z : State) (h0 : Heap) (v : Option Value) (h : Heap) : Prop := ∃ (b2 : Addr) (kc2 : ClassId), v = some (.ref b2) ∧ Keep h0 h [] ∧ h0.size ≤ b2 ∧ Ar Z h b2 kc2 .byte [.int 0, .int 0, .int 0, .int 0] ∧ Exa Z h b2 "[B"
def R_newBytesFor_69 : Room := { frames := 1, cells := 1, slots := 4, locals := 12 }
theorem rm_newBytesFor_69 {w : Bool} {Z : State} {a0 : Array Value} (hw : HW a0 Z) (Ts : List String) (h0 : Heap) (f : Nat) (Zf : Z.heap.size ≤ f) (Z0 : f ≤ h0.size) :
  Con w [] Z (⟨"java/lang/StringUTF16", "newBytesFor", "(I)[B"⟩ : MethodName) jdk_52_method_2_code 1 (some (.array .byte)) R_newBytesFor_69 Ts Ts f #[.int 2] h0 (Q_newBytesFor_69 Z h0) := by
 refine con_of f #[vI 2] (plainFor_of_name pn_2) (fun m => rfl) Zf ?_
 intro C H hX0
 refine r_iloadN H 1 d_j52_2_0 ?_
 refine r_static (argsL := [.int 2]) (rest := []) (W := 0) H 4 d_j52_2_1 (tw105 hw) (tw106 hw) (tw88 hw) (tw107 hw) (lenOf pd_13 rfl) (rm_newBytesLength_70 hw Ts h0 f Zf Z0) ?_
 rintro _ _ ⟨rfl, rfl⟩
 refine r_newP H 6 "[B" 4 d_j52_2_4 (tw16 hw) ?_
 intro h2 b2 kc2 g2 l2 K2 E2 A2
 change Ar Z h2 b2 kc2 .byte [.int 0, .int 0, .int 0, .int 0] at A2
 have k3 : Keep h0 h2 [] := Keep.trans (Keep.refl h0 []) K2 all0
 exact r_areturn H d_j52_2_6 (⟨b2, kc2, rfl, k3, (nlt nlr (Nat.le_of_eq g2.symm)), A2, E2⟩)
def Q_putChar_71 (Z : State) (a1 : Addr) (i1 : Int32) (i4 : Int32) (i5 : Int32) (c1 : ClassId) (h0 : Heap) (v : Option Value) (h : Heap) : Prop := v = none ∧ Keep h0 h [a1] ∧ Ar Z h a1 c1 .byte [.int (cL8 i1), .int (cH8 i1), .int i4, .int i5] ∧ Exa Z h a1 "[B"
def R_putChar_71 : Room := { frames := 0, cells := 0, slots := 0, locals := 0 }
theorem rm_putChar_71 {w : Bool} {Z : State} {a0 : Array Value} (hw : HW a0 Z) (Ts : List String) (a1 : Addr) (i1 : Int32) (i2 : Int32) (i3 : Int32) (i4 : Int32) (i5 : Int32) (c1 : ClassId) (h0 : Heap) (f : Nat) (Zf : Z.heap.size ≤ f) (Z0 : f ≤ h0.size) (A_a1 : Ar Z h0 a1 c1 .byte [.int i2, .int i3, .int i4, .int i5]) (g_a1 : f ≤ a1) (E_a1 : Exa Z h0 a1 "[B") (r_i1 : 0 ≤ i1.toInt ∧ i1.toInt ≤ 65535) (S__assertionsDisabled : G_S__assertionsDisabled Z) (S_HI_BYTE_SHIFT : G_S_HI_BYTE_SHIFT Z) (S_LO_BYTE_SHIFT : G_S_LO_BYTE_SHIFT Z) :
  Con w [] Z (⟨"java/lang/StringUTF16", "putChar", "([BII)V"⟩ : MethodName) jdk_52_method_4_code 3 none R_putChar_71 Ts Ts f #[.ref a1, .int 0, .int i1] h0 (Q_putChar_71 Z a1 i1 i4 i5 c1 h0) := by
 refine con_of f #[vR a1, vI 0, vI i1] (plainFor_of_name pn_2) (fun m => rfl) Zf ?_
 intro C H hX0
 refine r_gets H 3 d_j52_4_0 (tw112 hw) S__assertionsDisabled ?_
 refine r_ifneT H 28 d_j52_4_3 ?_
 refine r_iloadN H 29 d_j52_4_28 ?_
 refine r_iconst H 30 1 d_j52_4_29 ?_
 refine r_ishl H 31 0 d_j52_4_30 (by decide) ?_
 refine r_istoreN H 32 #[vR a1, vI 0, vI i1] d_j52_4_31 ?_
 refine r_aloadN H 33 d_j52_4_32 ?_
 refine r_iloadN H 34 d_j52_4_33 ?_
 refine r_iinc H 37 #[vR a1, vI 1, vI i1] 1 d_j52_4_34 ?_
 refine r_iloadN H 38 d_j52_4_37 ?_
 refine r_gets H 41 d_j52_4_38 (tw113 hw) S_HI_BYTE_SHIFT ?_
 obtain ⟨p1, ep1, rp1⟩ : ∃ p : Int32, (i1 >>> ((0 : Int32) &&& 31)) = p ∧ 0 ≤ p.toInt ∧ p.toInt ≤ 65535 := ⟨_, rfl, (by have := r_i1; have h1 := c_ishr i1 (0 : Int32) 0 (by decide); omega)⟩
 refine r_ishr H 42 p1 d_j52_4_41 ep1 ?_
 obtain ⟨p2, ep2, rp2⟩ : ∃ p : Int32, (p1.toInt8.toInt32) = p ∧ -128 ≤ p.toInt ∧ p.toInt ≤ 127 := ⟨_, rfl, (by have h := c_i2b p1; omega)⟩
 refine r_i2b H 43 p2 d_j52_4_42 ep2 ?_
 refine r_bastore H 44 p2 d_j52_4_43 A_a1 g_a1 (nar_byte_id (by have := rp2; omega)) ?_
 intro h3 K3 A3
 change Ar Z h3 a1 c1 .byte [.int p2, .int i3, .int i4, .int i5] at A3
 refine r_aloadN H 45 d_j52_4_44 ?_
 refine r_iloadN H 46 d_j52_4_45 ?_
 refine r_iloadN H 47 d_j52_4_46 ?_
 refine r_gets H 50 d_j52_4_47 (tw114 hw) S_LO_BYTE_SHIFT ?_
 obtain ⟨p4, ep4, rp4⟩ : ∃ p : Int32, (i1 >>> ((8 : Int32) &&& 31)) = p ∧ 0 ≤ p.toInt ∧ p.toInt ≤ 255 := ⟨_, rfl, (by have := r_i1; have h1 := c_ishr i1 (8 : Int32) 8 (by decide); omega)⟩
 refine r_ishr H 51 p4 d_j52_4_50 ep4 ?_
 obtain ⟨p5, ep5, rp5⟩ : ∃ p : Int32, (p4.toInt8.toInt32) = p ∧ -128 ≤ p.toInt ∧ p.toInt ≤ 127 := ⟨_, rfl, (by have h := c_i2b p4; omega)⟩
 refine r_i2b H 52 p5 d_j52_4_51 ep5 ?_
 refine r_bastore H 53 p5 d_j52_4_52 A3 g_a1 (nar_byte_id (by have := rp5; omega)) ?_
 intro h6 K6 A6
 have q7 := (E_a1.keep K3)
 change Ar Z h6 a1 c1 .byte [.int p2, .int p5, .int i4, .int i5] at A6
 have k8 : Keep h0 h3 [a1] := Keep.trans (Keep.refl h0 [a1]) K3 (allS (Or.inl (List.mem_of_getElem? (i := 0) rfl)) all0)
 have k9 : Keep h0 h6 [a1] := Keep.trans k8 K6 (allS (Or.inl (List.mem_of_getElem? (i := 0) rfl)) all0)
 have q10 := (q7.keep K6)
 subst ep1 ep2 ep4 ep5
 exact r_return H d_j52_4_53 (⟨rfl, k9, A6, q10⟩)
def Q_putChar_72 (Z : State) (a1 : Addr) (i1 : Int32) (i2 : Int32) (i3 : Int32) (c1 : ClassId) (h0 : Heap) (v : Option Value) (h : Heap) : Prop := v = none ∧ Keep h0 h [a1] ∧ Ar Z h a1 c1 .byte [.int i2, .int i3, .int (cL8 i1), .int (cH8 i1)] ∧ Exa Z h a1 "[B"
def R_putChar_72 : Room := { frames := 0, cells := 0, slots := 0, locals := 0 }
theorem rm_putChar_72 {w : Bool} {Z : State} {a0 : Array Value} (hw : HW a0 Z) (Ts : List String) (a1 : Addr) (i1 : Int32) (i2 : Int32) (i3 : Int32) (i4 : Int32) (i5 : Int32) (c1 : ClassId) (h0 : Heap) (f : Nat) (Zf : Z.heap.size ≤ f) (Z0 : f ≤ h0.size) (A_a1 : Ar Z h0 a1 c1 .byte [.int i2, .int i3, .int i4, .int i5]) (g_a1 : f ≤ a1) (E_a1 : Exa Z h0 a1 "[B") (r_i1 : 0 ≤ i1.toInt ∧ i1.toInt ≤ 65535) (S__assertionsDisabled : G_S__assertionsDisabled Z) (S_HI_BYTE_SHIFT : G_S_HI_BYTE_SHIFT Z) (S_LO_BYTE_SHIFT : G_S_LO_BYTE_SHIFT Z) :
  Con w [] Z (⟨"java/lang/StringUTF16", "putChar", "([BII)V"⟩ : MethodName) jdk_52_method_4_code 3 none R_putChar_72 Ts Ts f #[.ref a1, .int 1, .int i1] h0 (Q_putChar_72 Z a1 i1 i2 i3 c1 h0) := by
 refine con_of f #[vR a1, vI 1, vI i1] (plainFor_of_name pn_2) (fun m => rfl) Zf ?_
 intro C H hX0
 refine r_gets H 3 d_j52_4_0 (tw112 hw) S__assertionsDisabled ?_
 refine r_ifneT H 28 d_j52_4_3 ?_
 refine r_iloadN H 29 d_j52_4_28 ?_
 refine r_iconst H 30 1 d_j52_4_29 ?_
 refine r_ishl H 31 2 d_j52_4_30 (by decide) ?_
 refine r_istoreN H 32 #[vR a1, vI 2, vI i1] d_j52_4_31 ?_
 refine r_aloadN H 33 d_j52_4_32 ?_
 refine r_iloadN H 34 d_j52_4_33 ?_
 refine r_iinc H 37 #[vR a1, vI 3, vI i1] 3 d_j52_4_34 ?_
 refine r_iloadN H 38 d_j52_4_37 ?_
 refine r_gets H 41 d_j52_4_38 (tw113 hw) S_HI_BYTE_SHIFT ?_
 obtain ⟨p1, ep1, rp1⟩ : ∃ p : Int32, (i1 >>> ((0 : Int32) &&& 31)) = p ∧ 0 ≤ p.toInt ∧ p.toInt ≤ 65535 := ⟨_, rfl, (by have := r_i1; have h1 := c_ishr i1 (0 : Int32) 0 (by decide); omega)⟩
 refine r_ishr H 42 p1 d_j52_4_41 ep1 ?_
 obtain ⟨p2, ep2, rp2⟩ : ∃ p : Int32, (p1.toInt8.toInt32) = p ∧ -128 ≤ p.toInt ∧ p.toInt ≤ 127 := ⟨_, rfl, (by have h := c_i2b p1; omega)⟩
 refine r_i2b H 43 p2 d_j52_4_42 ep2 ?_
 refine r_bastore H 44 p2 d_j52_4_43 A_a1 g_a1 (nar_byte_id (by have := rp2; omega)) ?_
 intro h3 K3 A3
 change Ar Z h3 a1 c1 .byte [.int i2, .int i3, .int p2, .int i5] at A3
 refine r_aloadN H 45 d_j52_4_44 ?_
 refine r_iloadN H 46 d_j52_4_45 ?_
 refine r_iloadN H 47 d_j52_4_46 ?_
 refine r_gets H 50 d_j52_4_47 (tw114 hw) S_LO_BYTE_SHIFT ?_
 obtain ⟨p4, ep4, rp4⟩ : ∃ p : Int32, (i1 >>> ((8 : Int32) &&& 31)) = p ∧ 0 ≤ p.toInt ∧ p.toInt ≤ 255 := ⟨_, rfl, (by have := r_i1; have h1 := c_ishr i1 (8 : Int32) 8 (by decide); omega)⟩
 refine r_ishr H 51 p4 d_j52_4_50 ep4 ?_
 obtain ⟨p5, ep5, rp5⟩ : ∃ p : Int32, (p4.toInt8.toInt32) = p ∧ -128 ≤ p.toInt ∧ p.toInt ≤ 127 := ⟨_, rfl, (by have h := c_i2b p4; omega)⟩
 refine r_i2b H 52 p5 d_j52_4_51 ep5 ?_
 refine r_bastore H 53 p5 d_j52_4_52 A3 g_a1 (nar_byte_id (by have := rp5; omega)) ?_
 intro h6 K6 A6
 have q7 := (E_a1.keep K3)
 change Ar Z h6 a1 c1 .byte [.int i2, .int i3, .int p2, .int p5] at A6
 have k8 : Keep h0 h3 [a1] := Keep.trans (Keep.refl h0 [a1]) K3 (allS (Or.inl (List.mem_of_getElem? (i := 0) rfl)) all0)
 have k9 : Keep h0 h6 [a1] := Keep.trans k8 K6 (allS (Or.inl (List.mem_of_getElem? (i := 0) rfl)) all0)
 have q10 := (q7.keep K6)
 subst ep1 ep2 ep4 ep5
 exact r_return H d_j52_4_53 (⟨rfl, k9, A6, q10⟩)
def Q_toBytes_68 (Z : State) (i1 : Int32) (i2 : Int32) (h0 : Heap) (v : Option Value) (h : Heap) : Prop := ∃ (b1 : Addr) (kc2 : ClassId), v = some (.ref b1) ∧ Keep h0 h [] ∧ h0.size ≤ b1 ∧ Ar Z h b1 kc2 .byte [.int (cL8 i1), .int (cH8 i1), .int (cL8 i2), .int (cH8 i2)] ∧ Exa Z h b1 "[B"
def R_toBytes_68 : Room := { frames := 2, cells := 1, slots := 4, locals := 24 }
theorem rm_toBytes_68 {w : Bool} {Z : State} {a0 : Array Value} (hw : HW a0 Z) (Ts : List String) (a1 : Addr) (i1 : Int32) (i2 : Int32) (c1 : ClassId) (h0 : Heap) (f : Nat) (Zf : Z.heap.size ≤ f) (Z0 : f ≤ h0.size) (A_a1 : Ar Z h0 a1 c1 .char [.int i1, .int i2]) (r_i1 : 0 ≤ i1.toInt ∧ i1.toInt ≤ 255) (r_i2 : 256 ≤ i2.toInt ∧ i2.toInt ≤ 65535) (S__assertionsDisabled : G_S__assertionsDisabled Z) (S_HI_BYTE_SHIFT : G_S_HI_BYTE_SHIFT Z) (S_LO_BYTE_SHIFT : G_S_LO_BYTE_SHIFT Z) :
  Con w [] Z (⟨"java/lang/StringUTF16", "toBytes", "([CII)[B"⟩ : MethodName) jdk_52_method_14_code 5 (some (.array .byte)) R_toBytes_68 Ts Ts f #[.ref a1, .int 0, .int 2] h0 (Q_toBytes_68 Z i1 i2 h0) := by
 refine con_of f #[vR a1, vI 0, vI 2, .unset, .unset] (plainFor_of_name pn_2) (fun m => rfl) Zf ?_
 intro C H hX0
 refine r_iloadN H 1 d_j52_14_0 ?_
 refine r_static (argsL := [.int 2]) (rest := []) (W := 0) H 4 d_j52_14_1 (tw102 hw) (tw103 hw) (tw88 hw) (tw104 hw) (lenOf pd_17 rfl) (rm_newBytesFor_69 hw Ts h0 f Zf Z0) ?_
 rintro _ hh7 ⟨b1, kc2, rfl, K3, g4, q5, q6⟩
 refine r_astoreN H 5 #[vR a1, vI 0, vI 2, vR b1, .unset] d_j52_14_4 ?_
 refine r_iconst H 6 0 d_j52_14_5 ?_
 refine r_istore H 8 #[vR a1, vI 0, vI 2, vR b1, vI 0] d_j52_14_6 ?_
 refine r_iload H 10 d_j52_14_8 ?_
 refine r_iloadN H 11 d_j52_14_10 ?_
 refine r_icmpgeF H 14 d_j52_14_11 ?_
 refine r_aloadN H 15 d_j52_14_14 ?_
 refine r_iload H 17 d_j52_14_15 ?_
 refine r_aloadN H 18 d_j52_14_17 ?_
 refine r_iloadN H 19 d_j52_14_18 ?_
 have q8 := (A_a1.keep K3 nin0)
 refine r_caload H 20 i1 d_j52_14_19 q8 ?_
 refine r_static (argsL := [.ref b1, .int 0, .int i1]) (rest := []) (W := 0) H 23 d_j52_14_20 (tw109 hw) (tw110 hw) (tw88 hw) (tw111 hw) (lenOf pd_3 rfl) (rm_putChar_71 hw Ts b1 i1 (0 : Int32) (0 : Int32) (0 : Int32) (0 : Int32) kc2 hh7 f Zf (nlt Z0 K3.1) q5 (nlt Z0 g4) q6 (by have := r_i1; omega) S__assertionsDisabled S_HI_BYTE_SHIFT S_LO_BYTE_SHIFT) ?_
 rintro _ hh12 ⟨rfl, K9, q10, q11⟩
 refine r_iinc H 26 #[vR a1, vI 1, vI 2, vR b1, vI 0] 1 d_j52_14_23 ?_
 refine r_iinc H 29 #[vR a1, vI 1, vI 2, vR b1, vI 1] 1 d_j52_14_26 ?_
 refine r_goto H 8 d_j52_14_29 ?_
 refine r_iload H 10 d_j52_14_8 ?_
 refine r_iloadN H 11 d_j52_14_10 ?_
 refine r_icmpgeF H 14 d_j52_14_11 ?_
 refine r_aloadN H 15 d_j52_14_14 ?_
 refine r_iload H 17 d_j52_14_15 ?_
 refine r_aloadN H 18 d_j52_14_17 ?_
 refine r_iloadN H 19 d_j52_14_18 ?_
 have q13 := (q8.keep K9 (ninS (Nat.ne_of_lt (Nat.lt_of_lt_of_le A_a1.lt (nlt nlr g4))) nin0))
 refine r_caload H 20 i2 d_j52_14_19 q13 ?_
 have z14 := Nat.le_trans K3.1 K9.1
 refine r_static (argsL := [.ref b1, .int 1, .int i2]) (rest := []) (W := 0) H 23 d_j52_14_20 (tw109 hw) (tw110 hw) (tw88 hw) (tw111 hw) (lenOf pd_3 rfl) (rm_putChar_72 hw Ts b1 i2 (cL8 i1) (cH8 i1) (0 : Int32) (0 : Int32) kc2 hh12 f Zf (nlt Z0 z14) q10 (nlt Z0 g4) q11 (by have := r_i2; omega) S__assertionsDisabled S_HI_BYTE_SHIFT S_LO_BYTE_SHIFT) ?_
 rintro _ hh18 ⟨rfl, K15, q16, q17⟩
 refine r_iinc H 26 #[vR a1, vI 2, vI 2, vR b1, vI 1] 2 d_j52_14_23 ?_
 refine r_iinc H 29 #[vR a1, vI 2, vI 2, vR b1, vI 2] 2 d_j52_14_26 ?_
 refine r_goto H 8 d_j52_14_29 ?_
 refine r_iload H 10 d_j52_14_8 ?_
 refine r_iloadN H 11 d_j52_14_10 ?_
 refine r_icmpgeT H 32 d_j52_14_11 ?_
 refine r_aloadN H 33 d_j52_14_32 ?_
 have k19 : Keep h0 hh7 [] := Keep.trans (Keep.refl h0 []) K3 all0
 have k20 : Keep h0 hh12 [] := Keep.trans k19 K9 (allS (Or.inr (nlt nlr g4)) all0)
 have k21 : Keep h0 hh18 [] := Keep.trans k20 K15 (allS (Or.inr (nlt nlr g4)) all0)
 exact r_areturn H d_j52_14_33 (⟨b1, kc2, rfl, k21, (nlt nlr g4), q16, q17⟩)
def Q_getChar_73 (Z : State) (i3 : Int32) (i4 : Int32) (h0 : Heap) (v : Option Value) (h : Heap) : Prop := ∃ (z : Int32), v = some (.int z) ∧ ((((i3 &&& (255 : Int32)) <<< ((0 : Int32) &&& 31)) ||| ((i4 &&& (255 : Int32)) <<< ((8 : Int32) &&& 31))).toUInt32.toUInt16.toUInt32.toInt32) = z ∧ (0 ≤ z.toInt ∧ z.toInt ≤ 65535) ∧ h0 = h
def R_getChar_73 : Room := { frames := 0, cells := 0, slots := 0, locals := 0 }
theorem rm_getChar_73 {w : Bool} {Z : State} {a0 : Array Value} (hw : HW a0 Z) (Ts : List String) (a1 : Addr) (i1 : Int32) (i2 : Int32) (i3 : Int32) (i4 : Int32) (c1 : ClassId) (h0 : Heap) (f : Nat) (Zf : Z.heap.size ≤ f) (Z0 : f ≤ h0.size) (A_a1 : Ar Z h0 a1 c1 .byte [.int i1, .int i2, .int i3, .int i4]) (S__assertionsDisabled : G_S__assertionsDisabled Z) (S_HI_BYTE_SHIFT : G_S_HI_BYTE_SHIFT Z) (S_LO_BYTE_SHIFT : G_S_LO_BYTE_SHIFT Z) :
  Con w [] Z (⟨"java/lang/StringUTF16", "getChar", "([BI)C"⟩ : MethodName) jdk_52_method_5_code 2 (some .char) R_getChar_73 Ts Ts f #[.ref a1, .int 1] h0 (Q_getChar_73 Z i3 i4 h0) := by
 refine con_of f #[vR a1, vI 1] (plainFor_of_name pn_2) (fun m => rfl) Zf ?_
 intro C H hX0
 refine r_gets H 3 d_j52_5_0 (tw112 hw) S__assertionsDisabled ?_
 refine r_ifneT H 28 d_j52_5_3 ?_
 refine r_iloadN H 29 d_j52_5_28 ?_
 refine r_iconst H 30 1 d_j52_5_29 ?_
 refine r_ishl H 31 2 d_j52_5_30 (by decide) ?_
 refine r_istoreN H 32 #[vR a1, vI 2] d_j52_5_31 ?_
 refine r_aloadN H 33 d_j52_5_32 ?_
 refine r_iloadN H 34 d_j52_5_33 ?_
 refine r_iinc H 37 #[vR a1, vI 3] 3 d_j52_5_34 ?_
 refine r_baload H 38 i3 d_j52_5_37 A_a1 ?_
 refine r_sipush H 41 255 d_j52_5_38 ?_
 obtain ⟨p1, ep1, rp1⟩ : ∃ p : Int32, (i3 &&& (255 : Int32)) = p ∧ 0 ≤ p.toInt ∧ p.toInt ≤ 255 := ⟨_, rfl, (by have h := c_and i3 (255 : Int32) (by decide); have : (255 : Int32).toInt = 255 := (by decide); omega)⟩
 refine r_iand H 42 p1 d_j52_5_41 ep1 ?_
 refine r_gets H 45 d_j52_5_42 (tw113 hw) S_HI_BYTE_SHIFT ?_
 refine r_ishl H 46 (p1 <<< ((0 : Int32) &&& 31)) d_j52_5_45 rfl ?_
 refine r_aloadN H 47 d_j52_5_46 ?_
 refine r_iloadN H 48 d_j52_5_47 ?_
 refine r_baload H 49 i4 d_j52_5_48 A_a1 ?_
 refine r_sipush H 52 255 d_j52_5_49 ?_
 obtain ⟨p2, ep2, rp2⟩ : ∃ p : Int32, (i4 &&& (255 : Int32)) = p ∧ 0 ≤ p.toInt ∧ p.toInt ≤ 255 := ⟨_, rfl, (by have h := c_and i4 (255 : Int32) (by decide); have : (255 : Int32).toInt = 255 := (by decide); omega)⟩
 refine r_iand H 53 p2 d_j52_5_52 ep2 ?_
 refine r_gets H 56 d_j52_5_53 (tw114 hw) S_LO_BYTE_SHIFT ?_
 refine r_ishl H 57 (p2 <<< ((8 : Int32) &&& 31)) d_j52_5_56 rfl ?_
 refine r_ior H 58 ((p1 <<< ((0 : Int32) &&& 31)) ||| (p2 <<< ((8 : Int32) &&& 31))) d_j52_5_57 ?_
 obtain ⟨p3, ep3, rp3⟩ : ∃ p : Int32, (((p1 <<< ((0 : Int32) &&& 31)) ||| (p2 <<< ((8 : Int32) &&& 31))).toUInt32.toUInt16.toUInt32.toInt32) = p ∧ 0 ≤ p.toInt ∧ p.toInt ≤ 65535 := ⟨_, rfl, (by have h := c_i2c ((p1 <<< ((0 : Int32) &&& 31)) ||| (p2 <<< ((8 : Int32) &&& 31))); omega)⟩
 refine r_i2c H 59 p3 d_j52_5_58 ep3 ?_
 subst ep1 ep2 ep3
 exact r_nreturn ((((i3 &&& (255 : Int32)) <<< ((0 : Int32) &&& 31)) ||| ((i4 &&& (255 : Int32)) <<< ((8 : Int32) &&& 31))).toUInt32.toUInt16.toUInt32.toInt32) H d_j52_5_59 (nar_char_id (by have := rp3; omega)) nlr (fun _ t => t) (⟨_, rfl, rfl, (by have := rp3; omega), rfl⟩)
def Q_toBytes_74 (Z : State) (i1 : Int32) (i2 : Int32) (h0 : Heap) (v : Option Value) (h : Heap) : Prop := ∃ (b1 : Addr) (kc2 : ClassId), v = some (.ref b1) ∧ Keep h0 h [] ∧ h0.size ≤ b1 ∧ Ar Z h b1 kc2 .byte [.int (cL8 i1), .int (cH8 i1), .int (cL8 i2), .int (cH8 i2)] ∧ Exa Z h b1 "[B"
def R_toBytes_74 : Room := { frames := 2, cells := 1, slots := 4, locals := 24 }
theorem rm_toBytes_74 {w : Bool} {Z : State} {a0 : Array Value} (hw : HW a0 Z) (Ts : List String) (a1 : Addr) (i1 : Int32) (i2 : Int32) (c1 : ClassId) (h0 : Heap) (f : Nat) (Zf : Z.heap.size ≤ f) (Z0 : f ≤ h0.size) (A_a1 : Ar Z h0 a1 c1 .char [.int i1, .int i2]) (r_i1 : 256 ≤ i1.toInt ∧ i1.toInt ≤ 65535) (r_i2 : 0 ≤ i2.toInt ∧ i2.toInt ≤ 65535) (S__assertionsDisabled : G_S__assertionsDisabled Z) (S_HI_BYTE_SHIFT : G_S_HI_BYTE_SHIFT Z) (S_LO_BYTE_SHIFT : G_S_LO_BYTE_SHIFT Z) :
  Con w [] Z (⟨"java/lang/StringUTF16", "toBytes", "([CII)[B"⟩ : MethodName) jdk_52_method_14_code 5 (some (.array .byte)) R_toBytes_74 Ts Ts f #[.ref a1, .int 0, .int 2] h0 (Q_toBytes_74 Z i1 i2 h0) := by
 refine con_of f #[vR a1, vI 0, vI 2, .unset, .unset] (plainFor_of_name pn_2) (fun m => rfl) Zf ?_
 intro C H hX0
 refine r_iloadN H 1 d_j52_14_0 ?_
 refine r_static (argsL := [.int 2]) (rest := []) (W := 0) H 4 d_j52_14_1 (tw102 hw) (tw103 hw) (tw88 hw) (tw104 hw) (lenOf pd_17 rfl) (rm_newBytesFor_69 hw Ts h0 f Zf Z0) ?_
 rintro _ hh7 ⟨b1, kc2, rfl, K3, g4, q5, q6⟩
 refine r_astoreN H 5 #[vR a1, vI 0, vI 2, vR b1, .unset] d_j52_14_4 ?_
 refine r_iconst H 6 0 d_j52_14_5 ?_
 refine r_istore H 8 #[vR a1, vI 0, vI 2, vR b1, vI 0] d_j52_14_6 ?_
 refine r_iload H 10 d_j52_14_8 ?_
 refine r_iloadN H 11 d_j52_14_10 ?_
 refine r_icmpgeF H 14 d_j52_14_11 ?_
 refine r_aloadN H 15 d_j52_14_14 ?_
 refine r_iload H 17 d_j52_14_15 ?_
 refine r_aloadN H 18 d_j52_14_17 ?_
 refine r_iloadN H 19 d_j52_14_18 ?_
 have q8 := (A_a1.keep K3 nin0)
 refine r_caload H 20 i1 d_j52_14_19 q8 ?_
 refine r_static (argsL := [.ref b1, .int 0, .int i1]) (rest := []) (W := 0) H 23 d_j52_14_20 (tw109 hw) (tw110 hw) (tw88 hw) (tw111 hw) (lenOf pd_3 rfl) (rm_putChar_71 hw Ts b1 i1 (0 : Int32) (0 : Int32) (0 : Int32) (0 : Int32) kc2 hh7 f Zf (nlt Z0 K3.1) q5 (nlt Z0 g4) q6 (by have := r_i1; omega) S__assertionsDisabled S_HI_BYTE_SHIFT S_LO_BYTE_SHIFT) ?_
 rintro _ hh12 ⟨rfl, K9, q10, q11⟩
 refine r_iinc H 26 #[vR a1, vI 1, vI 2, vR b1, vI 0] 1 d_j52_14_23 ?_
 refine r_iinc H 29 #[vR a1, vI 1, vI 2, vR b1, vI 1] 1 d_j52_14_26 ?_
 refine r_goto H 8 d_j52_14_29 ?_
 refine r_iload H 10 d_j52_14_8 ?_
 refine r_iloadN H 11 d_j52_14_10 ?_
 refine r_icmpgeF H 14 d_j52_14_11 ?_
 refine r_aloadN H 15 d_j52_14_14 ?_
 refine r_iload H 17 d_j52_14_15 ?_
 refine r_aloadN H 18 d_j52_14_17 ?_
 refine r_iloadN H 19 d_j52_14_18 ?_
 have q13 := (q8.keep K9 (ninS (Nat.ne_of_lt (Nat.lt_of_lt_of_le A_a1.lt (nlt nlr g4))) nin0))
 refine r_caload H 20 i2 d_j52_14_19 q13 ?_
 have z14 := Nat.le_trans K3.1 K9.1
 refine r_static (argsL := [.ref b1, .int 1, .int i2]) (rest := []) (W := 0) H 23 d_j52_14_20 (tw109 hw) (tw110 hw) (tw88 hw) (tw111 hw) (lenOf pd_3 rfl) (rm_putChar_72 hw Ts b1 i2 (cL8 i1) (cH8 i1) (0 : Int32) (0 : Int32) kc2 hh12 f Zf (nlt Z0 z14) q10 (nlt Z0 g4) q11 (by have := r_i2; omega) S__assertionsDisabled S_HI_BYTE_SHIFT S_LO_BYTE_SHIFT) ?_
 rintro _ hh18 ⟨rfl, K15, q16, q17⟩
 refine r_iinc H 26 #[vR a1, vI 2, vI 2, vR b1, vI 1] 2 d_j52_14_23 ?_
 refine r_iinc H 29 #[vR a1, vI 2, vI 2, vR b1, vI 2] 2 d_j52_14_26 ?_
 refine r_goto H 8 d_j52_14_29 ?_
 refine r_iload H 10 d_j52_14_8 ?_
 refine r_iloadN H 11 d_j52_14_10 ?_
 refine r_icmpgeT H 32 d_j52_14_11 ?_
 refine r_aloadN H 33 d_j52_14_32 ?_
 have k19 : Keep h0 hh7 [] := Keep.trans (Keep.refl h0 []) K3 all0
 have k20 : Keep h0 hh12 [] := Keep.trans k19 K9 (allS (Or.inr (nlt nlr g4)) all0)
 have k21 : Keep h0 hh18 [] := Keep.trans k20 K15 (allS (Or.inr (nlt nlr g4)) all0)
 exact r_areturn H d_j52_14_33 (⟨b1, kc2, rfl, k21, (nlt nlr g4), q16, q17⟩)
def Q_getChar_75 (Z : State) (i1 : Int32) (i2 : Int32) (h0 : Heap) (v : Option Value) (h : Heap) : Prop := ∃ (z : Int32), v = some (.int z) ∧ ((((i1 &&& (255 : Int32)) <<< ((0 : Int32) &&& 31)) ||| ((i2 &&& (255 : Int32)) <<< ((8 : Int32) &&& 31))).toUInt32.toUInt16.toUInt32.toInt32) = z ∧ (0 ≤ z.toInt ∧ z.toInt ≤ 65535) ∧ h0 = h
def R_getChar_75 : Room := { frames := 0, cells := 0, slots := 0, locals := 0 }
theorem rm_getChar_75 {w : Bool} {Z : State} {a0 : Array Value} (hw : HW a0 Z) (Ts : List String) (a1 : Addr) (i1 : Int32) (i2 : Int32) (i3 : Int32) (i4 : Int32) (c1 : ClassId) (h0 : Heap) (f : Nat) (Zf : Z.heap.size ≤ f) (Z0 : f ≤ h0.size) (A_a1 : Ar Z h0 a1 c1 .byte [.int i1, .int i2, .int i3, .int i4]) (S__assertionsDisabled : G_S__assertionsDisabled Z) (S_HI_BYTE_SHIFT : G_S_HI_BYTE_SHIFT Z) (S_LO_BYTE_SHIFT : G_S_LO_BYTE_SHIFT Z) :
  Con w [] Z (⟨"java/lang/StringUTF16", "getChar", "([BI)C"⟩ : MethodName) jdk_52_method_5_code 2 (some .char) R_getChar_75 Ts Ts f #[.ref a1, .int 0] h0 (Q_getChar_75 Z i1 i2 h0) := by
 refine con_of f #[vR a1, vI 0] (plainFor_of_name pn_2) (fun m => rfl) Zf ?_
 intro C H hX0
 refine r_gets H 3 d_j52_5_0 (tw112 hw) S__assertionsDisabled ?_
 refine r_ifneT H 28 d_j52_5_3 ?_
 refine r_iloadN H 29 d_j52_5_28 ?_
 refine r_iconst H 30 1 d_j52_5_29 ?_
 refine r_ishl H 31 0 d_j52_5_30 (by decide) ?_
 refine r_istoreN H 32 #[vR a1, vI 0] d_j52_5_31 ?_
 refine r_aloadN H 33 d_j52_5_32 ?_
 refine r_iloadN H 34 d_j52_5_33 ?_
 refine r_iinc H 37 #[vR a1, vI 1] 1 d_j52_5_34 ?_
 refine r_baload H 38 i1 d_j52_5_37 A_a1 ?_
 refine r_sipush H 41 255 d_j52_5_38 ?_
 obtain ⟨p1, ep1, rp1⟩ : ∃ p : Int32, (i1 &&& (255 : Int32)) = p ∧ 0 ≤ p.toInt ∧ p.toInt ≤ 255 := ⟨_, rfl, (by have h := c_and i1 (255 : Int32) (by decide); have : (255 : Int32).toInt = 255 := (by decide); omega)⟩
 refine r_iand H 42 p1 d_j52_5_41 ep1 ?_
 refine r_gets H 45 d_j52_5_42 (tw113 hw) S_HI_BYTE_SHIFT ?_
 refine r_ishl H 46 (p1 <<< ((0 : Int32) &&& 31)) d_j52_5_45 rfl ?_
 refine r_aloadN H 47 d_j52_5_46 ?_
 refine r_iloadN H 48 d_j52_5_47 ?_
 refine r_baload H 49 i2 d_j52_5_48 A_a1 ?_
 refine r_sipush H 52 255 d_j52_5_49 ?_
 obtain ⟨p2, ep2, rp2⟩ : ∃ p : Int32, (i2 &&& (255 : Int32)) = p ∧ 0 ≤ p.toInt ∧ p.toInt ≤ 255 := ⟨_, rfl, (by have h := c_and i2 (255 : Int32) (by decide); have : (255 : Int32).toInt = 255 := (by decide); omega)⟩
 refine r_iand H 53 p2 d_j52_5_52 ep2 ?_
 refine r_gets H 56 d_j52_5_53 (tw114 hw) S_LO_BYTE_SHIFT ?_
 refine r_ishl H 57 (p2 <<< ((8 : Int32) &&& 31)) d_j52_5_56 rfl ?_
 refine r_ior H 58 ((p1 <<< ((0 : Int32) &&& 31)) ||| (p2 <<< ((8 : Int32) &&& 31))) d_j52_5_57 ?_
 obtain ⟨p3, ep3, rp3⟩ : ∃ p : Int32, (((p1 <<< ((0 : Int32) &&& 31)) ||| (p2 <<< ((8 : Int32) &&& 31))).toUInt32.toUInt16.toUInt32.toInt32) = p ∧ 0 ≤ p.toInt ∧ p.toInt ≤ 65535 := ⟨_, rfl, (by have h := c_i2c ((p1 <<< ((0 : Int32) &&& 31)) ||| (p2 <<< ((8 : Int32) &&& 31))); omega)⟩
 refine r_i2c H 59 p3 d_j52_5_58 ep3 ?_
 subst ep1 ep2 ep3
 exact r_nreturn ((((i1 &&& (255 : Int32)) <<< ((0 : Int32) &&& 31)) ||| ((i2 &&& (255 : Int32)) <<< ((8 : Int32) &&& 31))).toUInt32.toUInt16.toUInt32.toInt32) H d_j52_5_59 (nar_char_id (by have := rp3; omega)) nlr (fun _ t => t) (⟨_, rfl, rfl, (by have := rp3; omega), rfl⟩)
def Q_compress_66 (Z : State) (i1 : Int32) (i2 : Int32) (h0 : Heap) (v : Option Value) (h : Heap) : Prop := (∃ (b1 : Addr) (kc1 : ClassId), v = some (.ref b1) ∧ (¬ (255 : Int32) < i1) ∧ (¬ (255 : Int32) < i2) ∧ Keep h0 h [] ∧ h0.size ≤ b1 ∧ Ar Z h b1 kc1 .byte [.int (cB8 i1), .int (cB8 i2)] ∧ Exa Z h b1 "[B") ∨ (∃ (b25 : Addr) (kc26 : ClassId), v = some (.ref b25) ∧ Keep h0 h [] ∧ h0.size ≤ b25 ∧ Ar Z h b25 kc26 .byte [.int (cL8 i1), .int (cH8 i1), .int (cL8 i2), .int (cH8 i2)] ∧ Exa Z h b25 "[B")
def R_compress_66 : Room := { frames := 3, cells := 2, slots := 6, locals := 40 }
theorem rm_compress_66 {w : Bool} {Z : State} {a0 : Array Value} (hw : HW a0 Z) (Ts : List String) (a1 : Addr) (i1 : Int32) (i2 : Int32) (c1 : ClassId) (h0 : Heap) (f : Nat) (Zf : Z.heap.size ≤ f) (Z0 : f ≤ h0.size) (A_a1 : Ar Z h0 a1 c1 .char [.int i1, .int i2]) (E_a1 : Exa Z h0 a1 "[C") (r_i1 : 0 ≤ i1.toInt ∧ i1.toInt ≤ 65535) (r_i2 : 0 ≤ i2.toInt ∧ i2.toInt ≤ 65535) (S__assertionsDisabled : G_S__assertionsDisabled Z) (S_HI_BYTE_SHIFT : G_S_HI_BYTE_SHIFT Z) (S_LO_BYTE_SHIFT : G_S_LO_BYTE_SHIFT Z) :
  Con w [] Z (⟨"java/lang/StringUTF16", "compress", "([CII)[B"⟩ : MethodName) jdk_52_method_16_code 6 (some (.array .byte)) R_compress_66 Ts Ts f #[.ref a1, .int 0, .int 2] h0 (Q_compress_66 Z i1 i2 h0) := by
 refine con_of f #[vR a1, vI 0, vI 2, .unset, .unset, .unset] (plainFor_of_name pn_2) (fun m => rfl) Zf ?_
 intro C H hX0
 refine r_iloadN H 1 d_j52_16_0 ?_
 refine r_newP H 3 "[B" 2 d_j52_16_1 (tw16 hw) ?_
 intro h1 b1 kc1 g1 l1 K1 E1 A1
 change Ar Z h1 b1 kc1 .byte [.int 0, .int 0] at A1
 refine r_astoreN H 4 #[vR a1, vI 0, vI 2, vR b1, .unset, .unset] d_j52_16_3 ?_
 refine r_aloadN H 5 d_j52_16_4 ?_
 refine r_iloadN H 6 d_j52_16_5 ?_
 refine r_aloadN H 7 d_j52_16_6 ?_
 refine r_iconst H 8 0 d_j52_16_7 ?_
 refine r_iloadN H 9 d_j52_16_8 ?_
 have q2 := (A_a1.keep K1 nin0)
 have q3 := (E_a1.keep K1)
 refine r_static (argsL := [.ref a1, .int 0, .ref b1, .int 0, .int 2]) (rest := []) (W := 0) H 12 d_j52_16_9 (tw90 hw) (tw91 hw) (tw88 hw) (tw92 hw) (lenOf pd_16 rfl) (rm_compress_67 hw Ts a1 b1 i1 i2 c1 kc1 h1 f Zf (nlt Z0 K1.1) q2 A1 (nlt Z0 (Nat.le_of_eq g1.symm)) E1 q3 r_i1 r_i2) ?_
 rintro _ hh16 (⟨rfl, c5, c6, K4, q7, q8⟩ | ⟨rfl, c10, c11, K9, q12, q13⟩ | ⟨rfl, c15, rfl⟩)
 ·
  refine r_istore H 14 #[vR a1, vI 0, vI 2, vR b1, vI 2, .unset] d_j52_16_12 ?_
  refine r_iload H 16 d_j52_16_14 ?_
  refine r_iloadN H 17 d_j52_16_16 ?_
  refine r_icmpeqT H 57 d_j52_16_17 (by decide) (by decide) (by decide) ?_
  refine r_aloadN H 58 d_j52_16_57 ?_
  have k19 : Keep h0 h1 [] := Keep.trans (Keep.refl h0 []) K1 all0
  have k20 : Keep h0 hh16 [] := Keep.trans k19 K4 (allS (Or.inr (nlt nlr (Nat.le_of_eq g1.symm))) all0)
  exact r_areturn H d_j52_16_58 (Or.inl ⟨b1, kc1, rfl, c5, c6, k20, (nlt nlr (Nat.le_of_eq g1.symm)), q7, q8⟩)
 ·
  have rr21 : 0 ≤ i1.toInt ∧ i1.toInt ≤ 255 := by have := r_i1; have : (255 : Int32).toInt = 255 := (by decide); have hc_ := c10; simp only [Int32.lt_iff_toInt_lt, ← Int32.toInt_inj] at hc_; omega
  have rr22 : 256 ≤ i2.toInt ∧ i2.toInt ≤ 65535 := by have := r_i2; have : (255 : Int32).toInt = 255 := (by decide); have hc_ := c11; simp only [Int32.lt_iff_toInt_lt, ← Int32.toInt_inj] at hc_; omega
  refine r_istore H 14 #[vR a1, vI 0, vI 2, vR b1, vI 1, .unset] d_j52_16_12 ?_
  refine r_iload H 16 d_j52_16_14 ?_
  refine r_iloadN H 17 d_j52_16_16 ?_
  refine r_icmpeqF H 20 d_j52_16_17 rfl (by decide) ?_
  refine r_aloadN H 21 d_j52_16_20 ?_
  refine r_iloadN H 22 d_j52_16_21 ?_
  refine r_iloadN H 23 d_j52_16_22 ?_
  have q23 := (q2.keep K9 (ninS (Nat.ne_of_lt (Nat.lt_of_lt_of_le A_a1.lt (nlt nlr (Nat.le_of_eq g1.symm)))) nin0))
  have z24 := Nat.le_trans K1.1 K9.1
  refine r_static (argsL := [.ref a1, .int 0, .int 2]) (rest := []) (W := 0) H 26 d_j52_16_23 (tw99 hw) (tw100 hw) (tw88 hw) (tw101 hw) (lenOf pd_18 rfl) (rm_toBytes_68 hw Ts a1 i1 i2 c1 hh16 f Zf (nlt Z0 z24) q23 rr21 rr22 S__assertionsDisabled S_HI_BYTE_SHIFT S_LO_BYTE_SHIFT) ?_
  rintro _ hh31 ⟨b25, kc26, rfl, K27, g28, q29, q30⟩
  refine r_astore H 28 #[vR a1, vI 0, vI 2, vR b1, vI 1, vR b25] d_j52_16_26 ?_
  refine r_aload H 30 d_j52_16_28 ?_
  refine r_iload H 32 d_j52_16_30 ?_
  have z32 := Nat.le_trans z24 K27.1
  refine r_static (argsL := [.ref b25, .int 1]) (rest := []) (W := 0) H 35 d_j52_16_32 (tw115 hw) (tw116 hw) (tw88 hw) (tw117 hw) (lenOf pd_19 rfl) (rm_getChar_73 hw Ts b25 (cL8 i1) (cH8 i1) (cL8 i2) (cH8 i2) kc26 hh31 f Zf (nlt Z0 z32) q29 S__assertionsDisabled S_HI_BYTE_SHIFT S_LO_BYTE_SHIFT) ?_
  rintro _ _ ⟨p33, rfl, ep33, rp33, rfl⟩
  have hzp33 : i2 = p33 := by rw [← ep33]; exact (own_u16 i2 (by have := rr22; omega)).symm
  subst hzp33
  refine r_sipush H 38 255 d_j52_16_35 ?_
  refine r_icmpgtT H 54 d_j52_16_38 (by decide) (by decide) (by have := rr22; have : (255 : Int32).toInt = 255 := (by decide); simp only [Int32.lt_iff_toInt_lt, ← Int32.toInt_inj]; omega) ?_
  refine r_aload H 56 d_j52_16_54 ?_
  have k35 : Keep h0 h1 [] := Keep.trans (Keep.refl h0 []) K1 all0
  have k36 : Keep h0 hh16 [] := Keep.trans k35 K9 (allS (Or.inr (nlt nlr (Nat.le_of_eq g1.symm))) all0)
  have k37 : Keep h0 hh31 [] := Keep.trans k36 K27 all0
  exact r_areturn H d_j52_16_56 (Or.inr (⟨b25, kc26, rfl, k37, (nlt z24 g28), q29, q30⟩))
 ·
  have rr38 : 256 ≤ i1.toInt ∧ i1.toInt ≤ 65535 := by have := r_i1; have : (255 : Int32).toInt = 255 := (by decide); have hc_ := c15; simp only [Int32.lt_iff_toInt_lt, ← Int32.toInt_inj] at hc_; omega
  refine r_istore H 14 #[vR a1, vI 0, vI 2, vR b1, vI 0, .unset] d_j52_16_12 ?_
  refine r_iload H 16 d_j52_16_14 ?_
  refine r_iloadN H 17 d_j52_16_16 ?_
  refine r_icmpeqF H 20 d_j52_16_17 rfl (by decide) ?_
  refine r_aloadN H 21 d_j52_16_20 ?_
  refine r_iloadN H 22 d_j52_16_21 ?_
  refine r_iloadN H 23 d_j52_16_22 ?_
  refine r_static (argsL := [.ref a1, .int 0, .int 2]) (rest := []) (W := 0) H 26 d_j52_16_23 (tw99 hw) (tw100 hw) (tw88 hw) (tw101 hw) (lenOf pd_18 rfl) (rm_toBytes_74 hw Ts a1 i1 i2 c1 h1 f Zf (nlt Z0 K1.1) q2 rr38 r_i2 S__assertionsDisabled S_HI_BYTE_SHIFT S_LO_BYTE_SHIFT) ?_
  rintro _ hh45 ⟨b39, kc40, rfl, K41, g42, q43, q44⟩
  refine r_astore H 28 #[vR a1, vI 0, vI 2, vR b1, vI 0, vR b39] d_j52_16_26 ?_
  refine r_aload H 30 d_j52_16_28 ?_
  refine r_iload H 32 d_j52_16_30 ?_
  have z46 := Nat.le_trans K1.1 K41.1
  refine r_static (argsL := [.ref b39, .int 0]) (rest := []) (W := 0) H 35 d_j52_16_32 (tw115 hw) (tw116 hw) (tw88 hw) (tw117 hw) (lenOf pd_19 rfl) (rm_getChar_75 hw Ts b39 (cL8 i1) (cH8 i1) (cL8 i2) (cH8 i2) kc40 hh45 f Zf (nlt Z0 z46) q43 S__assertionsDisabled S_HI_BYTE_SHIFT S_LO_BYTE_SHIFT) ?_
  rintro _ _ ⟨p47, rfl, ep47, rp47, rfl⟩
  have hzp47 : i1 = p47 := by rw [← ep47]; exact (own_u16 i1 (by have := rr38; omega)).symm
  subst hzp47
  refine r_sipush H 38 255 d_j52_16_35 ?_
  refine r_icmpgtT H 54 d_j52_16_38 (by decide) (by decide) (by have := rr38; have : (255 : Int32).toInt = 255 := (by decide); simp only [Int32.lt_iff_toInt_lt, ← Int32.toInt_inj]; omega) ?_
  refine r_aload H 56 d_j52_16_54 ?_
  have k49 : Keep h0 h1 [] := Keep.trans (Keep.refl h0 []) K1 all0
  have k50 : Keep h0 hh45 [] := Keep.trans k49 K41 all0
  exact r_areturn H d_j52_16_56 (Or.inr (⟨b39, kc40, rfl, k50, (nlt K1.1 g42), q43, q44⟩))
def Q_coderFromArrayLen_76 (Z : State) (h0 : Heap) (v : Option Value) (h : Heap) : Prop := v = some (.int 0) ∧ h0 = h
def R_coderFromArrayLen_76 : Room := { frames := 0, cells := 0, slots := 0, locals := 0 }
theorem rm_coderFromArrayLen_76 {w : Bool} {Z : State} {a0 : Array Value} (hw : HW a0 Z) (Ts : List String) (a1 : Addr) (i1 : Int32) (i2 : Int32) (c1 : ClassId) (h0 : Heap) (f : Nat) (Zf : Z.heap.size ≤ f) (Z0 : f ≤ h0.size) (A_a1 : Ar Z h0 a1 c1 .byte [.int (cB8 i1), .int (cB8 i2)]) :
  Con w [] Z (⟨"java/lang/StringUTF16", "coderFromArrayLen", "([BI)B"⟩ : MethodName) jdk_52_method_15_code 2 (some .byte) R_coderFromArrayLen_76 Ts Ts f #[.ref a1, .int 2] h0 (Q_coderFromArrayLen_76 Z h0) := by
 refine con_of f #[vR a1, vI 2] (plainFor_of_name pn_2) (fun m => rfl) Zf ?_
 intro C H hX0
 refine r_iloadN H 1 d_j52_15_0 ?_
 refine r_aloadN H 2 d_j52_15_1 ?_
 refine r_alen H 3 2 d_j52_15_2 A_a1 ?_
 refine r_isub H 4 0 d_j52_15_3 ?_
 refine r_bipush H 6 31 d_j52_15_4 ?_
 refine r_iushr H 7 0 d_j52_15_6 ?_
 refine r_i2b H 8 0 d_j52_15_7 (by decide) ?_
 exact r_nreturn (0 : Int32) H d_j52_15_8 (by decide) nlr (fun _ t => t) (⟨rfl, rfl⟩)
def Q_coderFromArrayLen_77 (Z : State) (h0 : Heap) (v : Option Value) (h : Heap) : Prop := v = some (.int 1) ∧ h0 = h
def R_coderFromArrayLen_77 : Room := { frames := 0, cells := 0, slots := 0, locals := 0 }
theorem rm_coderFromArrayLen_77 {w : Bool} {Z : State} {a0 : Array Value} (hw : HW a0 Z) (Ts : List String) (a1 : Addr) (i1 : Int32) (i2 : Int32) (c1 : ClassId) (h0 : Heap) (f : Nat) (Zf : Z.heap.size ≤ f) (Z0 : f ≤ h0.size) (A_a1 : Ar Z h0 a1 c1 .byte [.int (cL8 i1), .int (cH8 i1), .int (cL8 i2), .int (cH8 i2)]) :
  Con w [] Z (⟨"java/lang/StringUTF16", "coderFromArrayLen", "([BI)B"⟩ : MethodName) jdk_52_method_15_code 2 (some .byte) R_coderFromArrayLen_77 Ts Ts f #[.ref a1, .int 2] h0 (Q_coderFromArrayLen_77 Z h0) := by
 refine con_of f #[vR a1, vI 2] (plainFor_of_name pn_2) (fun m => rfl) Zf ?_
 intro C H hX0
 refine r_iloadN H 1 d_j52_15_0 ?_
 refine r_aloadN H 2 d_j52_15_1 ?_
 refine r_alen H 3 4 d_j52_15_2 A_a1 ?_
 refine r_isub H 4 (-2 : Int32) d_j52_15_3 ?_
 refine r_bipush H 6 31 d_j52_15_4 ?_
 refine r_iushr H 7 1 d_j52_15_6 ?_
 refine r_i2b H 8 1 d_j52_15_7 (by decide) ?_
 exact r_nreturn (1 : Int32) H d_j52_15_8 (by decide) nlr (fun _ t => t) (⟨rfl, rfl⟩)
def Q_init_65 (Z : State) (a1 : Addr) (i1 : Int32) (i2 : Int32) (h0 : Heap) (v : Option Value) (h : Heap) : Prop := (∃ (b1 : Addr) (kc2 : ClassId), v = none ∧ (¬ (255 : Int32) < i1) ∧ (¬ (255 : Int32) < i2) ∧ Keep h0 h [a1] ∧ h0.size ≤ b1 ∧ Exa Z h a1 "java/lang/String" ∧ Fld Z h a1 "java/lang/String" "coder" "B" (.int 0) ∧ Fld Z h a1 "java/lang/String" "value" "[B" (.ref b1) ∧ Ar Z h b1 kc2 .byte [.int (cB8 i1), .int (cB8 i2)] ∧ Exa Z h b1 "[B") ∨ (∃ (b9 : Addr) (kc10 : ClassId), v = none ∧ Keep h0 h [a1] ∧ h0.size ≤ b9 ∧ Exa Z h a1 "java/lang/String" ∧ Fld Z h a1 "java/lang/String" "coder" "B" (.int 1) ∧ Fld Z h a1 "java/lang/String" "value" "[B" (.ref b9) ∧ Ar Z h b9 kc10 .byte [.int (cL8 i1), .int (cH8 i1), .int (cL8 i2), .int (cH8 i2)] ∧ Exa Z h b9 "[B")
def R_init_65 : Room := { frames := 4, cells := 2, slots := 6, locals := 57 }
theorem rm_init_65 {w : Bool} {Z : State} {a0 : Array Value} (hw : HW a0 Z) (Ts : List String) (a1 : Addr) (a2 : Addr) (i1 : Int32) (i2 : Int32) (c1 : ClassId) (cs : Int32) (h0 : Heap) (f : Nat) (Zf : Z.heap.size ≤ f) (Z0 : f ≤ h0.size) (A_a2 : Ar Z h0 a2 c1 .char [.int i1, .int i2]) (E_a2 : Exa Z h0 a2 "[C") (E_a1 : Exa Z h0 a1 "java/lang/String") (F_coder_a1 : Fld Z h0 a1 "java/lang/String" "coder" "B" (.int 0)) (g_a1 : f ≤ a1) (F_value_a1 : Fld Z h0 a1 "java/lang/String" "value" "[B" .null) (r_i1 : 0 ≤ i1.toInt ∧ i1.toInt ≤ 65535) (r_i2 : 0 ≤ i2.toInt ∧ i2.toInt ≤ 65535) (S_cs : G_S_cs Z cs) (S__assertionsDisabled : G_S__assertionsDisabled Z) (S_HI_BYTE_SHIFT : G_S_HI_BYTE_SHIFT Z) (S_LO_BYTE_SHIFT : G_S_LO_BYTE_SHIFT Z) (hcs : ¬ cs = 0) :
  Con w [] Z (⟨"java/lang/String", "<init>", "([CIILjava/lang/Void;)V"⟩ : MethodName) jdk_42_method_149_code 6 none R_init_65 Ts Ts f #[.ref a1, .ref a2, .int 0, .int 2, .null] h0 (Q_init_65 Z a1 i1 i2 h0) := by
 refine con_of f #[vR a1, vR a2, vI 0, vI 2, .val .null, .unset] (plainFor_of_name pn_0) (fun m => rfl) Zf ?_
 intro C H hX0
 refine r_aloadN H 1 d_j42_149_0 ?_
 refine r_initO (W := 0) H 4 d_j42_149_1 (tw12 hw) (tw13 hw) (tw14 hw) ?_
 refine r_iloadN H 5 d_j42_149_4 ?_
 refine r_ifneT H 27 d_j42_149_5 ?_
 refine r_gets H 30 d_j42_149_27 (tw27 hw) S_cs ?_
 refine r_ifeqF H 33 d_j42_149_30 rfl hcs ?_
 refine r_aloadN H 34 d_j42_149_33 ?_
 refine r_iloadN H 35 d_j42_149_34 ?_
 refine r_iloadN H 36 d_j42_149_35 ?_
 refine r_static (argsL := [.ref a2, .int 0, .int 2]) (rest := []) (W := 0) H 39 d_j42_149_36 (tw86 hw) (tw87 hw) (tw88 hw) (tw89 hw) (lenOf pd_18 rfl) (rm_compress_66 hw Ts a2 i1 i2 c1 h0 f Zf Z0 A_a2 E_a2 r_i1 r_i2 S__assertionsDisabled S_HI_BYTE_SHIFT S_LO_BYTE_SHIFT) ?_
 rintro _ hh15 (⟨b1, kc2, rfl, c4, c5, K3, g6, q7, q8⟩ | ⟨b9, kc10, rfl, K11, g12, q13, q14⟩)
 ·
  refine r_astore H 41 #[vR a1, vR a2, vI 0, vI 2, .val .null, vR b1] d_j42_149_39 ?_
  refine r_aloadN H 42 d_j42_149_41 ?_
  refine r_aload H 44 d_j42_149_42 ?_
  refine r_iloadN H 45 d_j42_149_44 ?_
  refine r_static (argsL := [.ref b1, .int 2]) (rest := [.ref a1]) (W := 1) H 48 d_j42_149_45 (tw93 hw) (tw94 hw) (tw88 hw) (tw95 hw) (lenOf pd_20 rfl) (rm_coderFromArrayLen_76 hw Ts b1 i1 i2 kc2 hh15 f Zf (nlt Z0 K3.1) q7) ?_
  rintro _ _ ⟨rfl, rfl⟩
  have q19 := (E_a1.keep K3)
  have q20 := (F_coder_a1.keep K3 nin0)
  refine r_putn (v' := (.int 0)) (ty := .byte) H 51 d_j42_149_48 (tw22 hw) q20 q19 (Or.inr ⟨(tw18 hw), rfl, rfl⟩) (tw3 hw) g_a1 ?_
  intro h21 W21 K21 E21 F21
  refine r_aloadN H 52 d_j42_149_51 ?_
  refine r_aload H 54 d_j42_149_52 ?_
  have q22 := ((F_value_a1.keep K3 nin0).other W21 (Or.inr (slot_ne (Or.inr (tw17 hw)) (Or.inr (tw18 hw)) (by decide) (t := (.array .byte)) (t' := .byte) (by decide) (by decide))))
  refine r_putf (ty := (.array .byte)) H 57 d_j42_149_54 (tw21 hw) q22 E21 (Or.inr ⟨(tw17 hw), rfl, rfl⟩) (tw3 hw) g_a1 ?_
  intro h23 W23 K23 E23 F23
  have k24 : Keep h0 hh15 [a1] := Keep.trans (Keep.refl h0 [a1]) K3 all0
  have k25 : Keep h0 h21 [a1] := Keep.trans k24 K21 (allS (Or.inl (List.mem_of_getElem? (i := 0) rfl)) all0)
  have k26 : Keep h0 h23 [a1] := Keep.trans k25 K23 (allS (Or.inl (List.mem_of_getElem? (i := 0) rfl)) all0)
  have q27 := (F21.other W23 (Or.inr (slot_ne (Or.inr (tw18 hw)) (Or.inr (tw17 hw)) (by decide) (t := .byte) (t' := (.array .byte)) (by decide) (by decide))))
  have q28 := ((q7.keep K21 (ninS (Ne.symm (Nat.ne_of_lt (Nat.lt_of_lt_of_le E_a1.lt (nlt nlr g6)))) nin0)).keep K23 (ninS (Ne.symm (Nat.ne_of_lt (Nat.lt_of_lt_of_le E_a1.lt (nlt nlr g6)))) nin0))
  have q29 := ((q8.keep K21).keep K23)
  exact r_return H d_j42_149_57 (Or.inl ⟨b1, kc2, rfl, c4, c5, k26, (nlt nlr g6), E23, q27, F23, q28, q29⟩)
 ·
  refine r_astore H 41 #[vR a1, vR a2, vI 0, vI 2, .val .null, vR b9] d_j42_149_39 ?_
  refine r_aloadN H 42 d_j42_149_41 ?_
  refine r_aload H 44 d_j42_149_42 ?_
  refine r_iloadN H 45 d_j42_149_44 ?_
  refine r_static (argsL := [.ref b9, .int 2]) (rest := [.ref a1]) (W := 1) H 48 d_j42_149_45 (tw93 hw) (tw94 hw) (tw88 hw) (tw95 hw) (lenOf pd_20 rfl) (rm_coderFromArrayLen_77 hw Ts b9 i1 i2 kc10 hh15 f Zf (nlt Z0 K11.1) q13) ?_
  rintro _ _ ⟨rfl, rfl⟩
  have q31 := (E_a1.keep K11)
  have q32 := (F_coder_a1.keep K11 nin0)
  refine r_putn (v' := (.int 1)) (ty := .byte) H 51 d_j42_149_48 (tw22 hw) q32 q31 (Or.inr ⟨(tw18 hw), rfl, rfl⟩) (tw3 hw) g_a1 ?_
  intro h33 W33 K33 E33 F33
  refine r_aloadN H 52 d_j42_149_51 ?_
  refine r_aload H 54 d_j42_149_52 ?_
  have q34 := ((F_value_a1.keep K11 nin0).other W33 (Or.inr (slot_ne (Or.inr (tw17 hw)) (Or.inr (tw18 hw)) (by decide) (t := (.array .byte)) (t' := .byte) (by decide) (by decide))))
  refine r_putf (ty := (.array .byte)) H 57 d_j42_149_54 (tw21 hw) q34 E33 (Or.inr ⟨(tw17 hw), rfl, rfl⟩) (tw3 hw) g_a1 ?_
  intro h35 W35 K35 E35 F35
  have k36 : Keep h0 hh15 [a1] := Keep.trans (Keep.refl h0 [a1]) K11 all0
  have k37 : Keep h0 h33 [a1] := Keep.trans k36 K33 (allS (Or.inl (List.mem_of_getElem? (i := 0) rfl)) all0)
  have k38 : Keep h0 h35 [a1] := Keep.trans k37 K35 (allS (Or.inl (List.mem_of_getElem? (i := 0) rfl)) all0)
  have q39 := (F33.other W35 (Or.inr (slot_ne (Or.inr (tw18 hw)) (Or.inr (tw17 hw)) (by decide) (t := .byte) (t' := (.array .byte)) (by decide) (by decide))))
  have q40 := ((q13.keep K33 (ninS (Ne.symm (Nat.ne_of_lt (Nat.lt_of_lt_of_le E_a1.lt (nlt nlr g12)))) nin0)).keep K35 (ninS (Ne.symm (Nat.ne_of_lt (Nat.lt_of_lt_of_le E_a1.lt (nlt nlr g12)))) nin0))
  have q41 := ((q14.keep K33).keep K35)
  exact r_return H d_j42_149_57 (Or.inr (⟨b9, kc10, rfl, k38, (nlt nlr g12), E35, q39, F35, q40, q41⟩))
def Q_init_64 (Z : State) (a1 : Addr) (i1 : Int32) (i2 : Int32) (h0 : Heap) (v : Option Value) (h : Heap) : Prop := (∃ (b1 : Addr) (kc2 : ClassId), v = none ∧ (¬ (255 : Int32) < i1) ∧ (¬ (255 : Int32) < i2) ∧ Keep h0 h [a1] ∧ h0.size ≤ b1 ∧ Exa Z h a1 "java/lang/String" ∧ Fld Z h a1 "java/lang/String" "coder" "B" (.int 0) ∧ Fld Z h a1 "java/lang/String" "value" "[B" (.ref b1) ∧ Ar Z h b1 kc2 .byte [.int (cB8 i1), .int (cB8 i2)] ∧ Exa Z h b1 "[B") ∨ (∃ (b12 : Addr) (kc13 : ClassId), v = none ∧ Keep h0 h [a1] ∧ h0.size ≤ b12 ∧ Exa Z h a1 "java/lang/String" ∧ Fld Z h a1 "java/lang/String" "coder" "B" (.int 1) ∧ Fld Z h a1 "java/lang/String" "value" "[B" (.ref b12) ∧ Ar Z h b12 kc13 .byte [.int (cL8 i1), .int (cH8 i1), .int (cL8 i2), .int (cH8 i2)] ∧ Exa Z h b12 "[B")
def R_init_64 : Room := { frames := 5, cells := 2, slots := 6, locals := 74 }
theorem rm_init_64 {w : Bool} {Z : State} {a0 : Array Value} (hw : HW a0 Z) (Ts : List String) (a1 : Addr) (a2 : Addr) (i1 : Int32) (i2 : Int32) (c1 : ClassId) (cs : Int32) (h0 : Heap) (f : Nat) (Zf : Z.heap.size ≤ f) (Z0 : f ≤ h0.size) (A_a2 : Ar Z h0 a2 c1 .char [.int i1, .int i2]) (g_a1 : f ≤ a1) (E_a2 : Exa Z h0 a2 "[C") (E_a1 : Exa Z h0 a1 "java/lang/String") (F_coder_a1 : Fld Z h0 a1 "java/lang/String" "coder" "B" (.int 0)) (F_value_a1 : Fld Z h0 a1 "java/lang/String" "value" "[B" .null) (r_i1 : 0 ≤ i1.toInt ∧ i1.toInt ≤ 65535) (r_i2 : 0 ≤ i2.toInt ∧ i2.toInt ≤ 65535) (S_cs : G_S_cs Z cs) (S__assertionsDisabled : G_S__assertionsDisabled Z) (S_HI_BYTE_SHIFT : G_S_HI_BYTE_SHIFT Z) (S_LO_BYTE_SHIFT : G_S_LO_BYTE_SHIFT Z) (hcs : ¬ cs = 0) :
  Con w [] Z (⟨"java/lang/String", "<init>", "([C)V"⟩ : MethodName) jdk_42_method_3_code 2 none R_init_64 Ts Ts f #[.ref a1, .ref a2] h0 (Q_init_64 Z a1 i1 i2 h0) := by
 refine con_of f #[vR a1, vR a2] (plainFor_of_name pn_0) (fun m => rfl) Zf ?_
 intro C H hX0
 refine r_aloadN H 1 d_j42_3_0 ?_
 refine r_aloadN H 2 d_j42_3_1 ?_
 refine r_iconst H 3 0 d_j42_3_2 ?_
 refine r_aloadN H 4 d_j42_3_3 ?_
 refine r_alen H 5 2 d_j42_3_4 A_a2 ?_
 refine r_null H 6 d_j42_3_5 ?_
 refine r_special (a := a1) (argsL := [.ref a2, .int 0, .int 2, .null]) (rest := []) (W := 0) H 9 d_j42_3_6 (tw8 hw) (tw9 hw) (tw4 hw) (tw11 hw) (lenOf pd_0 rfl) (rm_init_65 hw Ts a1 a2 i1 i2 c1 cs h0 f Zf Z0 A_a2 E_a2 E_a1 F_coder_a1 g_a1 F_value_a1 r_i1 r_i2 S_cs S__assertionsDisabled S_HI_BYTE_SHIFT S_LO_BYTE_SHIFT hcs) ?_
 rintro _ hh21 (⟨b1, kc2, rfl, c4, c5, K3, g6, q7, q8, q9, q10, q11⟩ | ⟨b12, kc13, rfl, K14, g15, q16, q17, q18, q19, q20⟩)
 ·
  have k24 : Keep h0 hh21 [a1] := Keep.trans (Keep.refl h0 [a1]) K3 (allS (Or.inl (List.mem_of_getElem? (i := 0) rfl)) all0)
  exact r_return H d_j42_3_9 (Or.inl ⟨b1, kc2, rfl, c4, c5, k24, (nlt nlr g6), q7, q8, q9, q10, q11⟩)
 ·
  have k25 : Keep h0 hh21 [a1] := Keep.trans (Keep.refl h0 [a1]) K14 (allS (Or.inl (List.mem_of_getElem? (i := 0) rfl)) all0)
  exact r_return H d_j42_3_9 (Or.inr (⟨b12, kc13, rfl, k25, (nlt nlr g15), q16, q17, q18, q19, q20⟩))
def Q_length_81 (Z : State) (h0 : Heap) (v : Option Value) (h : Heap) : Prop := v = some (.int 2) ∧ h0 = h
def R_length_81 : Room := { frames := 1, cells := 0, slots := 0, locals := 13 }
theorem rm_length_81 {w : Bool} {Z : State} {a0 : Array Value} (hw : HW a0 Z) (Ts : List String) (a1 : Addr) (a2 : Addr) (i1 : Int32) (i2 : Int32) (c1 : ClassId) (cs : Int32) (h0 : Heap) (f : Nat) (Zf : Z.heap.size ≤ f) (Z0 : f ≤ h0.size) (F_value_a1 : Fld Z h0 a1 "java/lang/String" "value" "[B" (.ref a2)) (A_a2 : Ar Z h0 a2 c1 .byte [.int i1, .int i2]) (E_a1 : Exa Z h0 a1 "java/lang/String") (F_coder_a1 : Fld Z h0 a1 "java/lang/String" "coder" "B" (.int 0)) (S_cs : G_S_cs Z cs) (hcs : ¬ cs = 0) :
  Con w [] Z (⟨"java/lang/String", "length", "()I"⟩ : MethodName) jdk_42_method_54_code 1 (some .int) R_length_81 Ts Ts f #[.ref a1] h0 (Q_length_81 Z h0) := by
 refine con_of f #[vR a1] (plainFor_of_name pn_0) (fun m => rfl) Zf ?_
 intro C H hX0
 refine r_aloadN H 1 d_j42_54_0 ?_
 refine r_getf H 4 d_j42_54_1 (tw21 hw) F_value_a1 ?_
 refine r_alen H 5 2 d_j42_54_4 A_a2 ?_
 refine r_aloadN H 6 d_j42_54_5 ?_
 refine r_virtual (z := (⟨"java/lang/String", "coder", "()B"⟩ : MethodName)) (a := a1) (argsL := []) (rest := [.int 2]) (W := 1) H 9 d_j42_54_6 (tw63 hw) (tw64 hw) (nf_sel (tw66 hw)) (tw66 hw) (tw65 hw) (tw4 hw) (tw67 hw) E_a1 (lenOf pd_8 rfl) (rm_coder_15 hw Ts a1 cs h0 f Zf Z0 F_coder_a1 S_cs hcs) ?_
 rintro _ _ ⟨rfl, rfl⟩
 refine r_ishr H 10 2 d_j42_54_9 (by decide) ?_
 exact r_ireturn H d_j42_54_10 (⟨rfl, rfl⟩)
def Q_min_83 (Z : State) (h0 : Heap) (v : Option Value) (h : Heap) : Prop := v = some (.int 2) ∧ h0 = h
def R_min_83 : Room := { frames := 0, cells := 0, slots := 0, locals := 0 }
theorem rm_min_83 {w : Bool} {Z : State} {a0 : Array Value} (hw : HW a0 Z) (Ts : List String) (h0 : Heap) (f : Nat) (Zf : Z.heap.size ≤ f) (Z0 : f ≤ h0.size) :
  Con w [] Z (⟨"java/lang/Math", "min", "(II)I"⟩ : MethodName) jdk_29_method_69_code 2 (some .int) R_min_83 Ts Ts f #[.int 2, .int 2] h0 (Q_min_83 Z h0) := by
 refine con_of f #[vI 2, vI 2] (Jvm.Free.JP.mathPlain rfl (by decide +kernel)) (fun m => rfl) Zf ?_
 intro C H hX0
 refine r_iloadN H 1 d_j29_69_0 ?_
 refine r_iloadN H 2 d_j29_69_1 ?_
 refine r_icmpgtF H 5 d_j29_69_2 rfl (by decide) ?_
 refine r_iloadN H 6 d_j29_69_5 ?_
 refine r_goto H 10 d_j29_69_6 ?_
 exact r_ireturn H d_j29_69_10 (⟨rfl, rfl⟩)
def Q_indexOfChar_84 (Z : State) (h0 : Heap) (v : Option Value) (h : Heap) : Prop := v = some (.int (-1)) ∧ h0 = h
def R_indexOfChar_84 : Room := { frames := 0, cells := 0, slots := 0, locals := 0 }
theorem rm_indexOfChar_84 {w : Bool} {Z : State} {a0 : Array Value} (hw : HW a0 Z) (Ts : List String) (a1 : Addr) (i1 : Int32) (i2 : Int32) (c1 : ClassId) (h0 : Heap) (f : Nat) (Zf : Z.heap.size ≤ f) (Z0 : f ≤ h0.size) (A_a1 : Ar Z h0 a1 c1 .byte [.int (cB8 i1), .int (cB8 i2)]) (r_i1 : 0 ≤ i1.toInt ∧ i1.toInt ≤ 255) (r_i2 : 0 ≤ i2.toInt ∧ i2.toInt ≤ 255) (x_i1_10 : ¬ i1 = (10 : Int32)) (x_i2_10 : ¬ i2 = (10 : Int32)) :
  Con w [] Z (⟨"java/lang/StringLatin1", "indexOfChar", "([BIII)I"⟩ : MethodName) jdk_43_method_23_code 6 (some .int) R_indexOfChar_84 Ts Ts f #[.ref a1, .int 10, .int 0, .int 2] h0 (Q_indexOfChar_84 Z h0) := by
 refine con_of f #[vR a1, vI 10, vI 0, vI 2, .unset, .unset] (plainFor_of_name pn_1) (fun m => rfl) Zf ?_
 intro C H hX0
 refine r_iloadN H 1 d_j43_23_0 ?_
 refine r_i2b H 2 10 d_j43_23_1 (by decide) ?_
 refine r_istore H 4 #[vR a1, vI 10, vI 0, vI 2, vI 10, .unset] d_j43_23_2 ?_
 refine r_iloadN H 5 d_j43_23_4 ?_
 refine r_istore H 7 #[vR a1, vI 10, vI 0, vI 2, vI 10, vI 0] d_j43_23_5 ?_
 refine r_iload H 9 d_j43_23_7 ?_
 refine r_iloadN H 10 d_j43_23_9 ?_
 refine r_icmpgeF H 13 d_j43_23_10 ?_
 refine r_aloadN H 14 d_j43_23_13 ?_
 refine r_iload H 16 d_j43_23_14 ?_
 refine r_baload H 17 (cB8 i1) d_j43_23_16 A_a1 ?_
 refine r_iload H 19 d_j43_23_17 ?_
 refine r_icmpneT H 25 d_j43_23_19 (by decide) (by decide) (i2b_ne (by have := r_i1; omega) (by decide) x_i1_10) ?_
 refine r_iinc H 28 #[vR a1, vI 10, vI 0, vI 2, vI 10, vI 1] 1 d_j43_23_25 ?_
 refine r_goto H 7 d_j43_23_28 ?_
 refine r_iload H 9 d_j43_23_7 ?_
 refine r_iloadN H 10 d_j43_23_9 ?_
 refine r_icmpgeF H 13 d_j43_23_10 ?_
 refine r_aloadN H 14 d_j43_23_13 ?_
 refine r_iload H 16 d_j43_23_14 ?_
 refine r_baload H 17 (cB8 i2) d_j43_23_16 A_a1 ?_
 refine r_iload H 19 d_j43_23_17 ?_
 refine r_icmpneT H 25 d_j43_23_19 (by decide) (by decide) (i2b_ne (by have := r_i2; omega) (by decide) x_i2_10) ?_
 refine r_iinc H 28 #[vR a1, vI 10, vI 0, vI 2, vI 10, vI 2] 2 d_j43_23_25 ?_
 refine r_goto H 7 d_j43_23_28 ?_
 refine r_iload H 9 d_j43_23_7 ?_
 refine r_iloadN H 10 d_j43_23_9 ?_
 refine r_icmpgeT H 31 d_j43_23_10 ?_
 refine r_iconst H 32 (-1 : Int32) d_j43_23_31 ?_
 exact r_ireturn H d_j43_23_32 (⟨rfl, rfl⟩)
def Q_indexOf_82 (Z : State) (h0 : Heap) (v : Option Value) (h : Heap) : Prop := v = some (.int (-1)) ∧ h0 = h
def R_indexOf_82 : Room := { frames := 1, cells := 0, slots := 0, locals := 17 }
theorem rm_indexOf_82 {w : Bool} {Z : State} {a0 : Array Value} (hw : HW a0 Z) (Ts : List String) (a1 : Addr) (i1 : Int32) (i2 : Int32) (c1 : ClassId) (h0 : Heap) (f : Nat) (Zf : Z.heap.size ≤ f) (Z0 : f ≤ h0.size) (A_a1 : Ar Z h0 a1 c1 .byte [.int (cB8 i1), .int (cB8 i2)]) (r_i1 : 0 ≤ i1.toInt ∧ i1.toInt ≤ 255) (r_i2 : 0 ≤ i2.toInt ∧ i2.toInt ≤ 255) (x_i1_10 : ¬ i1 = (10 : Int32)) (x_i2_10 : ¬ i2 = (10 : Int32)) :
  Con w [] Z (⟨"java/lang/StringLatin1", "indexOf", "([BIII)I"⟩ : MethodName) jdk_43_method_22_code 4 (some .int) R_indexOf_82 Ts Ts f #[.ref a1, .int 10, .int 0, .int 2] h0 (Q_indexOf_82 Z h0) := by
 refine con_of f #[vR a1, vI 10, vI 0, vI 2] (plainFor_of_name pn_1) (fun m => rfl) Zf ?_
 intro C H hX0
 refine r_iloadN H 1 d_j43_22_0 ?_
 refine r_static (argsL := [.int 10]) (rest := []) (W := 0) H 4 d_j43_22_1 (tw71 hw) (tw72 hw) (tw30 hw) (tw73 hw) (lenOf pd_10 rfl) (rm_canEncode_17 hw Ts h0 f Zf Z0) ?_
 rintro _ _ ⟨rfl, rfl⟩
 refine r_ifneT H 9 d_j43_22_4 ?_
 refine r_iloadN H 10 d_j43_22_9 ?_
 refine r_iconst H 11 0 d_j43_22_10 ?_
 refine r_static (argsL := [.int 0, .int 0]) (rest := []) (W := 0) H 14 d_j43_22_11 (tw74 hw) (tw75 hw) (tw76 hw) (tw77 hw) (lenOf pd_11 rfl) (rm_max_18 hw Ts h0 f Zf Z0) ?_
 rintro _ _ ⟨rfl, rfl⟩
 refine r_istoreN H 15 #[vR a1, vI 10, vI 0, vI 2] d_j43_22_14 ?_
 refine r_iloadN H 16 d_j43_22_15 ?_
 refine r_aloadN H 17 d_j43_22_16 ?_
 refine r_alen H 18 2 d_j43_22_17 A_a1 ?_
 refine r_static (argsL := [.int 2, .int 2]) (rest := []) (W := 0) H 21 d_j43_22_18 (tw78 hw) (tw79 hw) (tw76 hw) (tw80 hw) (lenOf pd_11 rfl) (rm_min_83 hw Ts h0 f Zf Z0) ?_
 rintro _ _ ⟨rfl, rfl⟩
 refine r_istoreN H 22 #[vR a1, vI 10, vI 0, vI 2] d_j43_22_21 ?_
 refine r_iloadN H 23 d_j43_22_22 ?_
 refine r_iloadN H 24 d_j43_22_23 ?_
 refine r_icmpltT H 29 d_j43_22_24 ?_
 refine r_aloadN H 30 d_j43_22_29 ?_
 refine r_iloadN H 31 d_j43_22_30 ?_
 refine r_iloadN H 32 d_j43_22_31 ?_
 refine r_iloadN H 33 d_j43_22_32 ?_
 refine r_static (argsL := [.ref a1, .int 10, .int 0, .int 2]) (rest := []) (W := 0) H 36 d_j43_22_33 (tw96 hw) (tw97 hw) (tw30 hw) (tw98 hw) (lenOf pd_12 rfl) (rm_indexOfChar_84 hw Ts a1 i1 i2 c1 h0 f Zf Z0 A_a1 r_i1 r_i2 x_i1_10 x_i2_10) ?_
 rintro _ _ ⟨rfl, rfl⟩
 exact r_ireturn H d_j43_22_36 (⟨rfl, rfl⟩)
def Q_indexOf_80 (Z : State) (h0 : Heap) (v : Option Value) (h : Heap) : Prop := v = some (.int (-1)) ∧ h0 = h
def R_indexOf_80 : Room := { frames := 2, cells := 0, slots := 0, locals := 32 }
theorem rm_indexOf_80 {w : Bool} {Z : State} {a0 : Array Value} (hw : HW a0 Z) (Ts : List String) (a1 : Addr) (a2 : Addr) (i1 : Int32) (i2 : Int32) (c1 : ClassId) (cs : Int32) (h0 : Heap) (f : Nat) (Zf : Z.heap.size ≤ f) (Z0 : f ≤ h0.size) (E_a1 : Exa Z h0 a1 "java/lang/String") (F_coder_a1 : Fld Z h0 a1 "java/lang/String" "coder" "B" (.int 0)) (F_value_a1 : Fld Z h0 a1 "java/lang/String" "value" "[B" (.ref a2)) (A_a2 : Ar Z h0 a2 c1 .byte [.int (cB8 i1), .int (cB8 i2)]) (r_i1 : 0 ≤ i1.toInt ∧ i1.toInt ≤ 255) (r_i2 : 0 ≤ i2.toInt ∧ i2.toInt ≤ 255) (x_i1_10 : ¬ i1 = (10 : Int32)) (x_i2_10 : ¬ i2 = (10 : Int32)) (S_cs : G_S_cs Z cs) (hcs : ¬ cs = 0) :
  Con w [] Z (⟨"java/lang/String", "indexOf", "(II)I"⟩ : MethodName) jdk_42_method_80_code 3 (some .int) R_indexOf_80 Ts Ts f #[.ref a1, .int 10, .int 0] h0 (Q_indexOf_80 Z h0) := by
 refine con_of f #[vR a1, vI 10, vI 0] (plainFor_of_name pn_0) (fun m => rfl) Zf ?_
 intro C H hX0
 refine r_aloadN H 1 d_j42_80_0 ?_
 refine r_virtual (z := (⟨"java/lang/String", "isLatin1", "()Z"⟩ : MethodName)) (a := a1) (argsL := []) (rest := []) (W := 0) H 4 d_j42_80_1 (tw53 hw) (tw54 hw) (nf_sel (tw56 hw)) (tw56 hw) (tw55 hw) (tw4 hw) (tw57 hw) E_a1 (lenOf pd_7 rfl) (rm_isLatin1_13 hw Ts a1 cs h0 f Zf Z0 F_coder_a1 S_cs hcs) ?_
 rintro _ _ ⟨rfl, rfl⟩
 refine r_ifeqF H 7 d_j42_80_4 rfl (by decide) ?_
 refine r_aloadN H 8 d_j42_80_7 ?_
 refine r_getf H 11 d_j42_80_8 (tw21 hw) F_value_a1 ?_
 refine r_iloadN H 12 d_j42_80_11 ?_
 refine r_iloadN H 13 d_j42_80_12 ?_
 refine r_aloadN H 14 d_j42_80_13 ?_
 refine r_virtual (z := (⟨"java/lang/String", "length", "()I"⟩ : MethodName)) (a := a1) (argsL := []) (rest := [.int 0, .int 10, .ref a2]) (W := 3) H 17 d_j42_80_14 (tw58 hw) (tw59 hw) (nf_sel (tw61 hw)) (tw61 hw) (tw60 hw) (tw4 hw) (tw62 hw) E_a1 (lenOf pd_9 rfl) (rm_length_81 hw Ts a1 a2 (cB8 i1) (cB8 i2) c1 cs h0 f Zf Z0 F_value_a1 A_a2 E_a1 F_coder_a1 S_cs hcs) ?_
 rintro _ _ ⟨rfl, rfl⟩
 refine r_static (argsL := [.ref a2, .int 10, .int 0, .int 2]) (rest := []) (W := 0) H 20 d_j42_80_17 (tw68 hw) (tw69 hw) (tw30 hw) (tw70 hw) (lenOf pd_12 rfl) (rm_indexOf_82 hw Ts a2 i1 i2 c1 h0 f Zf Z0 A_a2 r_i1 r_i2 x_i1_10 x_i2_10) ?_
 rintro _ _ ⟨rfl, rfl⟩
 refine r_goto H 36 d_j42_80_20 ?_
 exact r_ireturn H d_j42_80_36 (⟨rfl, rfl⟩)
def Q_indexOf_79 (Z : State) (h0 : Heap) (v : Option Value) (h : Heap) : Prop := v = some (.int (-1)) ∧ h0 = h
def R_indexOf_79 : Room := { frames := 3, cells := 0, slots := 0, locals := 46 }
theorem rm_indexOf_79 {w : Bool} {Z : State} {a0 : Array Value} (hw : HW a0 Z) (Ts : List String) (a1 : Addr) (a2 : Addr) (i1 : Int32) (i2 : Int32) (c1 : ClassId) (cs : Int32) (h0 : Heap) (f : Nat) (Zf : Z.heap.size ≤ f) (Z0 : f ≤ h0.size) (E_a1 : Exa Z h0 a1 "java/lang/String") (F_coder_a1 : Fld Z h0 a1 "java/lang/String" "coder" "B" (.int 0)) (F_value_a1 : Fld Z h0 a1 "java/lang/String" "value" "[B" (.ref a2)) (A_a2 : Ar Z h0 a2 c1 .byte [.int (cB8 i1), .int (cB8 i2)]) (r_i1 : 0 ≤ i1.toInt ∧ i1.toInt ≤ 255) (r_i2 : 0 ≤ i2.toInt ∧ i2.toInt ≤ 255) (x_i1_10 : ¬ i1 = (10 : Int32)) (x_i2_10 : ¬ i2 = (10 : Int32)) (S_cs : G_S_cs Z cs) (hcs : ¬ cs = 0) :
  Con w [] Z (⟨"java/lang/String", "indexOf", "(I)I"⟩ : MethodName) jdk_42_method_79_code 2 (some .int) R_indexOf_79 Ts Ts f #[.ref a1, .int 10] h0 (Q_indexOf_79 Z h0) := by
 refine con_of f #[vR a1, vI 10] (plainFor_of_name pn_0) (fun m => rfl) Zf ?_
 intro C H hX0
 refine r_aloadN H 1 d_j42_79_0 ?_
 refine r_iloadN H 2 d_j42_79_1 ?_
 refine r_iconst H 3 0 d_j42_79_2 ?_
 refine r_virtual (z := (⟨"java/lang/String", "indexOf", "(II)I"⟩ : MethodName)) (a := a1) (argsL := [.int 10, .int 0]) (rest := []) (W := 0) H 6 d_j42_79_3 (tw48 hw) (tw49 hw) (nf_sel (tw51 hw)) (tw51 hw) (tw50 hw) (tw4 hw) (tw52 hw) E_a1 (lenOf pd_11 rfl) (rm_indexOf_80 hw Ts a1 a2 i1 i2 c1 cs h0 f Zf Z0 E_a1 F_coder_a1 F_value_a1 A_a2 r_i1 r_i2 x_i1_10 x_i2_10 S_cs hcs) ?_
 rintro _ _ ⟨rfl, rfl⟩
 exact r_ireturn H d_j42_79_6 (⟨rfl, rfl⟩)
def Q_indexOfChar_88 (Z : State) (h0 : Heap) (v : Option Value) (h : Heap) : Prop := v = some (.int (-1)) ∧ h0 = h
def R_indexOfChar_88 : Room := { frames := 0, cells := 0, slots := 0, locals := 0 }
theorem rm_indexOfChar_88 {w : Bool} {Z : State} {a0 : Array Value} (hw : HW a0 Z) (Ts : List String) (a1 : Addr) (i1 : Int32) (i2 : Int32) (c1 : ClassId) (h0 : Heap) (f : Nat) (Zf : Z.heap.size ≤ f) (Z0 : f ≤ h0.size) (A_a1 : Ar Z h0 a1 c1 .byte [.int (cB8 i1), .int (cB8 i2)]) (r_i1 : 0 ≤ i1.toInt ∧ i1.toInt ≤ 255) (r_i2 : 0 ≤ i2.toInt ∧ i2.toInt ≤ 255) (x_i1_13 : ¬ i1 = (13 : Int32)) (x_i2_13 : ¬ i2 = (13 : Int32)) :
  Con w [] Z (⟨"java/lang/StringLatin1", "indexOfChar", "([BIII)I"⟩ : MethodName) jdk_43_method_23_code 6 (some .int) R_indexOfChar_88 Ts Ts f #[.ref a1, .int 13, .int 0, .int 2] h0 (Q_indexOfChar_88 Z h0) := by
 refine con_of f #[vR a1, vI 13, vI 0, vI 2, .unset, .unset] (plainFor_of_name pn_1) (fun m => rfl) Zf ?_
 intro C H hX0
 refine r_iloadN H 1 d_j43_23_0 ?_
 refine r_i2b H 2 13 d_j43_23_1 (by decide) ?_
 refine r_istore H 4 #[vR a1, vI 13, vI 0, vI 2, vI 13, .unset] d_j43_23_2 ?_
 refine r_iloadN H 5 d_j43_23_4 ?_
 refine r_istore H 7 #[vR a1, vI 13, vI 0, vI 2, vI 13, vI 0] d_j43_23_5 ?_
 refine r_iload H 9 d_j43_23_7 ?_
 refine r_iloadN H 10 d_j43_23_9 ?_
 refine r_icmpgeF H 13 d_j43_23_10 ?_
 refine r_aloadN H 14 d_j43_23_13 ?_
 refine r_iload H 16 d_j43_23_14 ?_
 refine r_baload H 17 (cB8 i1) d_j43_23_16 A_a1 ?_
 refine r_iload H 19 d_j43_23_17 ?_
 refine r_icmpneT H 25 d_j43_23_19 (by decide) (by decide) (i2b_ne (by have := r_i1; omega) (by decide) x_i1_13) ?_
 refine r_iinc H 28 #[vR a1, vI 13, vI 0, vI 2, vI 13, vI 1] 1 d_j43_23_25 ?_
 refine r_goto H 7 d_j43_23_28 ?_
 refine r_iload H 9 d_j43_23_7 ?_
 refine r_iloadN H 10 d_j43_23_9 ?_
 refine r_icmpgeF H 13 d_j43_23_10 ?_
 refine r_aloadN H 14 d_j43_23_13 ?_
 refine r_iload H 16 d_j43_23_14 ?_
 refine r_baload H 17 (cB8 i2) d_j43_23_16 A_a1 ?_
 refine r_iload H 19 d_j43_23_17 ?_
 refine r_icmpneT H 25 d_j43_23_19 (by decide) (by decide) (i2b_ne (by have := r_i2; omega) (by decide) x_i2_13) ?_
 refine r_iinc H 28 #[vR a1, vI 13, vI 0, vI 2, vI 13, vI 2] 2 d_j43_23_25 ?_
 refine r_goto H 7 d_j43_23_28 ?_
 refine r_iload H 9 d_j43_23_7 ?_
 refine r_iloadN H 10 d_j43_23_9 ?_
 refine r_icmpgeT H 31 d_j43_23_10 ?_
 refine r_iconst H 32 (-1 : Int32) d_j43_23_31 ?_
 exact r_ireturn H d_j43_23_32 (⟨rfl, rfl⟩)
def Q_indexOf_87 (Z : State) (h0 : Heap) (v : Option Value) (h : Heap) : Prop := v = some (.int (-1)) ∧ h0 = h
def R_indexOf_87 : Room := { frames := 1, cells := 0, slots := 0, locals := 17 }
theorem rm_indexOf_87 {w : Bool} {Z : State} {a0 : Array Value} (hw : HW a0 Z) (Ts : List String) (a1 : Addr) (i1 : Int32) (i2 : Int32) (c1 : ClassId) (h0 : Heap) (f : Nat) (Zf : Z.heap.size ≤ f) (Z0 : f ≤ h0.size) (A_a1 : Ar Z h0 a1 c1 .byte [.int (cB8 i1), .int (cB8 i2)]) (r_i1 : 0 ≤ i1.toInt ∧ i1.toInt ≤ 255) (r_i2 : 0 ≤ i2.toInt ∧ i2.toInt ≤ 255) (x_i1_13 : ¬ i1 = (13 : Int32)) (x_i2_13 : ¬ i2 = (13 : Int32)) :
  Con w [] Z (⟨"java/lang/StringLatin1", "indexOf", "([BIII)I"⟩ : MethodName) jdk_43_method_22_code 4 (some .int) R_indexOf_87 Ts Ts f #[.ref a1, .int 13, .int 0, .int 2] h0 (Q_indexOf_87 Z h0) := by
 refine con_of f #[vR a1, vI 13, vI 0, vI 2] (plainFor_of_name pn_1) (fun m => rfl) Zf ?_
 intro C H hX0
 refine r_iloadN H 1 d_j43_22_0 ?_
 refine r_static (argsL := [.int 13]) (rest := []) (W := 0) H 4 d_j43_22_1 (tw71 hw) (tw72 hw) (tw30 hw) (tw73 hw) (lenOf pd_10 rfl) (rm_canEncode_23 hw Ts h0 f Zf Z0) ?_
 rintro _ _ ⟨rfl, rfl⟩
 refine r_ifneT H 9 d_j43_22_4 ?_
 refine r_iloadN H 10 d_j43_22_9 ?_
 refine r_iconst H 11 0 d_j43_22_10 ?_
 refine r_static (argsL := [.int 0, .int 0]) (rest := []) (W := 0) H 14 d_j43_22_11 (tw74 hw) (tw75 hw) (tw76 hw) (tw77 hw) (lenOf pd_11 rfl) (rm_max_18 hw Ts h0 f Zf Z0) ?_
 rintro _ _ ⟨rfl, rfl⟩
 refine r_istoreN H 15 #[vR a1, vI 13, vI 0, vI 2] d_j43_22_14 ?_
 refine r_iloadN H 16 d_j43_22_15 ?_
 refine r_aloadN H 17 d_j43_22_16 ?_
 refine r_alen H 18 2 d_j43_22_17 A_a1 ?_
 refine r_static (argsL := [.int 2, .int 2]) (rest := []) (W := 0) H 21 d_j43_22_18 (tw78 hw) (tw79 hw) (tw76 hw) (tw80 hw) (lenOf pd_11 rfl) (rm_min_83 hw Ts h0 f Zf Z0) ?_
 rintro _ _ ⟨rfl, rfl⟩
 refine r_istoreN H 22 #[vR a1, vI 13, vI 0, vI 2] d_j43_22_21 ?_
 refine r_iloadN H 23 d_j43_22_22 ?_
 refine r_iloadN H 24 d_j43_22_23 ?_
 refine r_icmpltT H 29 d_j43_22_24 ?_
 refine r_aloadN H 30 d_j43_22_29 ?_
 refine r_iloadN H 31 d_j43_22_30 ?_
 refine r_iloadN H 32 d_j43_22_31 ?_
 refine r_iloadN H 33 d_j43_22_32 ?_
 refine r_static (argsL := [.ref a1, .int 13, .int 0, .int 2]) (rest := []) (W := 0) H 36 d_j43_22_33 (tw96 hw) (tw97 hw) (tw30 hw) (tw98 hw) (lenOf pd_12 rfl) (rm_indexOfChar_88 hw Ts a1 i1 i2 c1 h0 f Zf Z0 A_a1 r_i1 r_i2 x_i1_13 x_i2_13) ?_
 rintro _ _ ⟨rfl, rfl⟩
 exact r_ireturn H d_j43_22_36 (⟨rfl, rfl⟩)
def Q_indexOf_86 (Z : State) (h0 : Heap) (v : Option Value) (h : Heap) : Prop := v = some (.int (-1)) ∧ h0 = h
def R_indexOf_86 : Room := { frames := 2, cells := 0, slots := 0, locals := 32 }
theorem rm_indexOf_86 {w : Bool} {Z : State} {a0 : Array Value} (hw : HW a0 Z) (Ts : List String) (a1 : Addr) (a2 : Addr) (i1 : Int32) (i2 : Int32) (c1 : ClassId) (cs : Int32) (h0 : Heap) (f : Nat) (Zf : Z.heap.size ≤ f) (Z0 : f ≤ h0.size) (E_a1 : Exa Z h0 a1 "java/lang/String") (F_coder_a1 : Fld Z h0 a1 "java/lang/String" "coder" "B" (.int 0)) (F_value_a1 : Fld Z h0 a1 "java/lang/String" "value" "[B" (.ref a2)) (A_a2 : Ar Z h0 a2 c1 .byte [.int (cB8 i1), .int (cB8 i2)]) (r_i1 : 0 ≤ i1.toInt ∧ i1.toInt ≤ 255) (r_i2 : 0 ≤ i2.toInt ∧ i2.toInt ≤ 255) (x_i1_13 : ¬ i1 = (13 : Int32)) (x_i2_13 : ¬ i2 = (13 : Int32)) (S_cs : G_S_cs Z cs) (hcs : ¬ cs = 0) :
  Con w [] Z (⟨"java/lang/String", "indexOf", "(II)I"⟩ : MethodName) jdk_42_method_80_code 3 (some .int) R_indexOf_86 Ts Ts f #[.ref a1, .int 13, .int 0] h0 (Q_indexOf_86 Z h0) := by
 refine con_of f #[vR a1, vI 13, vI 0] (plainFor_of_name pn_0) (fun m => rfl) Zf ?_
 intro C H hX0
 refine r_aloadN H 1 d_j42_80_0 ?_
 refine r_virtual (z := (⟨"java/lang/String", "isLatin1", "()Z"⟩ : MethodName)) (a := a1) (argsL := []) (rest := []) (W := 0) H 4 d_j42_80_1 (tw53 hw) (tw54 hw) (nf_sel (tw56 hw)) (tw56 hw) (tw55 hw) (tw4 hw) (tw57 hw) E_a1 (lenOf pd_7 rfl) (rm_isLatin1_13 hw Ts a1 cs h0 f Zf Z0 F_coder_a1 S_cs hcs) ?_
 rintro _ _ ⟨rfl, rfl⟩
 refine r_ifeqF H 7 d_j42_80_4 rfl (by decide) ?_
 refine r_aloadN H 8 d_j42_80_7 ?_
 refine r_getf H 11 d_j42_80_8 (tw21 hw) F_value_a1 ?_
 refine r_iloadN H 12 d_j42_80_11 ?_
 refine r_iloadN H 13 d_j42_80_12 ?_
 refine r_aloadN H 14 d_j42_80_13 ?_
 refine r_virtual (z := (⟨"java/lang/String", "length", "()I"⟩ : MethodName)) (a := a1) (argsL := []) (rest := [.int 0, .int 13, .ref a2]) (W := 3) H 17 d_j42_80_14 (tw58 hw) (tw59 hw) (nf_sel (tw61 hw)) (tw61 hw) (tw60 hw) (tw4 hw) (tw62 hw) E_a1 (lenOf pd_9 rfl) (rm_length_81 hw Ts a1 a2 (cB8 i1) (cB8 i2) c1 cs h0 f Zf Z0 F_value_a1 A_a2 E_a1 F_coder_a1 S_cs hcs) ?_
 rintro _ _ ⟨rfl, rfl⟩
 refine r_static (argsL := [.ref a2, .int 13, .int 0, .int 2]) (rest := []) (W := 0) H 20 d_j42_80_17 (tw68 hw) (tw69 hw) (tw30 hw) (tw70 hw) (lenOf pd_12 rfl) (rm_indexOf_87 hw Ts a2 i1 i2 c1 h0 f Zf Z0 A_a2 r_i1 r_i2 x_i1_13 x_i2_13) ?_
 rintro _ _ ⟨rfl, rfl⟩
 refine r_goto H 36 d_j42_80_20 ?_
 exact r_ireturn H d_j42_80_36 (⟨rfl, rfl⟩)
def Q_indexOf_85 (Z : State) (h0 : Heap) (v : Option Value) (h : Heap) : Prop := v = some (.int (-1)) ∧ h0 = h
def R_indexOf_85 : Room := { frames := 3, cells := 0, slots := 0, locals := 46 }
theorem rm_indexOf_85 {w : Bool} {Z : State} {a0 : Array Value} (hw : HW a0 Z) (Ts : List String) (a1 : Addr) (a2 : Addr) (i1 : Int32) (i2 : Int32) (c1 : ClassId) (cs : Int32) (h0 : Heap) (f : Nat) (Zf : Z.heap.size ≤ f) (Z0 : f ≤ h0.size) (E_a1 : Exa Z h0 a1 "java/lang/String") (F_coder_a1 : Fld Z h0 a1 "java/lang/String" "coder" "B" (.int 0)) (F_value_a1 : Fld Z h0 a1 "java/lang/String" "value" "[B" (.ref a2)) (A_a2 : Ar Z h0 a2 c1 .byte [.int (cB8 i1), .int (cB8 i2)]) (r_i1 : 0 ≤ i1.toInt ∧ i1.toInt ≤ 255) (r_i2 : 0 ≤ i2.toInt ∧ i2.toInt ≤ 255) (x_i1_13 : ¬ i1 = (13 : Int32)) (x_i2_13 : ¬ i2 = (13 : Int32)) (S_cs : G_S_cs Z cs) (hcs : ¬ cs = 0) :
  Con w [] Z (⟨"java/lang/String", "indexOf", "(I)I"⟩ : MethodName) jdk_42_method_79_code 2 (some .int) R_indexOf_85 Ts Ts f #[.ref a1, .int 13] h0 (Q_indexOf_85 Z h0) := by
 refine con_of f #[vR a1, vI 13] (plainFor_of_name pn_0) (fun m => rfl) Zf ?_
 intro C H hX0
 refine r_aloadN H 1 d_j42_79_0 ?_
 refine r_iloadN H 2 d_j42_79_1 ?_
 refine r_iconst H 3 0 d_j42_79_2 ?_
 refine r_virtual (z := (⟨"java/lang/String", "indexOf", "(II)I"⟩ : MethodName)) (a := a1) (argsL := [.int 13, .int 0]) (rest := []) (W := 0) H 6 d_j42_79_3 (tw48 hw) (tw49 hw) (nf_sel (tw51 hw)) (tw51 hw) (tw50 hw) (tw4 hw) (tw52 hw) E_a1 (lenOf pd_11 rfl) (rm_indexOf_86 hw Ts a1 a2 i1 i2 c1 cs h0 f Zf Z0 E_a1 F_coder_a1 F_value_a1 A_a2 r_i1 r_i2 x_i1_13 x_i2_13 S_cs hcs) ?_
 rintro _ _ ⟨rfl, rfl⟩
 exact r_ireturn H d_j42_79_6 (⟨rfl, rfl⟩)
def Q_require_78 (Z : State) (a2 : Addr) (h0 : Heap) (v : Option Value) (h : Heap) : Prop := v = some (.ref a2) ∧ h0 = h
def R_require_78 : Room := { frames := 4, cells := 0, slots := 0, locals := 59 }
theorem rm_require_78 {w : Bool} {Z : State} {a0 : Array Value} (hw : HW a0 Z) (Ts : List String) (a1 : Addr) (a2 : Addr) (a4 : Addr) (i3 : Int32) (i4 : Int32) (c2 : ClassId) (cs : Int32) (h0 : Heap) (f : Nat) (Zf : Z.heap.size ≤ f) (Z0 : f ≤ h0.size) (E_a2 : Exa Z h0 a2 "java/lang/String") (F_coder_a2 : Fld Z h0 a2 "java/lang/String" "coder" "B" (.int 0)) (F_value_a2 : Fld Z h0 a2 "java/lang/String" "value" "[B" (.ref a4)) (A_a4 : Ar Z h0 a4 c2 .byte [.int (cB8 i3), .int (cB8 i4)]) (r_i3 : 0 ≤ i3.toInt ∧ i3.toInt ≤ 255) (r_i4 : 0 ≤ i4.toInt ∧ i4.toInt ≤ 255) (x_i3_10 : ¬ i3 = (10 : Int32)) (x_i3_13 : ¬ i3 = (13 : Int32)) (x_i4_10 : ¬ i4 = (10 : Int32)) (x_i4_13 : ¬ i4 = (13 : Int32)) (S_cs : G_S_cs Z cs) (hcs : ¬ cs = 0) :
  Con w [] Z (⟨"com/example/ferryline/ferryline/model/OneLine", "require", "(Ljava/lang/String;Ljava/lang/String;)Ljava/lang/String;"⟩ : MethodName) prog_70_method_2_code 2 (some (.object "java/lang/String")) R_require_78 Ts Ts f #[.ref a1, .ref a2] h0 (Q_require_78 Z a2 h0) := by
 refine con_of f #[vR a1, vR a2] (plainFor_of_name pn_3) (fun m => rfl) Zf ?_
 intro C H hX0
 refine r_aloadN H 1 d_g70_2_0 ?_
 refine r_bipush H 3 10 d_g70_2_1 ?_
 refine r_virtual (z := (⟨"java/lang/String", "indexOf", "(I)I"⟩ : MethodName)) (a := a2) (argsL := [.int 10]) (rest := []) (W := 0) H 6 d_g70_2_3 (tw43 hw) (tw44 hw) (nf_sel (tw46 hw)) (tw46 hw) (tw45 hw) (tw4 hw) (tw47 hw) E_a2 (lenOf pd_13 rfl) (rm_indexOf_79 hw Ts a2 a4 i3 i4 c2 cs h0 f Zf Z0 E_a2 F_coder_a2 F_value_a2 A_a4 r_i3 r_i4 x_i3_10 x_i4_10 S_cs hcs) ?_
 rintro _ _ ⟨rfl, rfl⟩
 refine r_ifgeF H 9 d_g70_2_6 ?_
 refine r_aloadN H 10 d_g70_2_9 ?_
 refine r_bipush H 12 13 d_g70_2_10 ?_
 refine r_virtual (z := (⟨"java/lang/String", "indexOf", "(I)I"⟩ : MethodName)) (a := a2) (argsL := [.int 13]) (rest := []) (W := 0) H 15 d_g70_2_12 (tw43 hw) (tw44 hw) (nf_sel (tw46 hw)) (tw46 hw) (tw45 hw) (tw4 hw) (tw47 hw) E_a2 (lenOf pd_13 rfl) (rm_indexOf_85 hw Ts a2 a4 i3 i4 c2 cs h0 f Zf Z0 E_a2 F_coder_a2 F_value_a2 A_a4 r_i3 r_i4 x_i3_13 x_i4_13 S_cs hcs) ?_
 rintro _ _ ⟨rfl, rfl⟩
 refine r_ifltT H 38 d_g70_2_15 ?_
 refine r_aloadN H 39 d_g70_2_38 ?_
 exact r_areturn H d_g70_2_39 (⟨rfl, rfl⟩)
def Q_length_92 (Z : State) (h0 : Heap) (v : Option Value) (h : Heap) : Prop := v = some (.int 2) ∧ h0 = h
def R_length_92 : Room := { frames := 1, cells := 0, slots := 0, locals := 13 }
theorem rm_length_92 {w : Bool} {Z : State} {a0 : Array Value} (hw : HW a0 Z) (Ts : List String) (a1 : Addr) (a2 : Addr) (i1 : Int32) (i2 : Int32) (i3 : Int32) (i4 : Int32) (c1 : ClassId) (cs : Int32) (h0 : Heap) (f : Nat) (Zf : Z.heap.size ≤ f) (Z0 : f ≤ h0.size) (F_value_a1 : Fld Z h0 a1 "java/lang/String" "value" "[B" (.ref a2)) (A_a2 : Ar Z h0 a2 c1 .byte [.int i1, .int i2, .int i3, .int i4]) (E_a1 : Exa Z h0 a1 "java/lang/String") (F_coder_a1 : Fld Z h0 a1 "java/lang/String" "coder" "B" (.int 1)) (S_cs : G_S_cs Z cs) (hcs : ¬ cs = 0) :
  Con w [] Z (⟨"java/lang/String", "length", "()I"⟩ : MethodName) jdk_42_method_54_code 1 (some .int) R_length_92 Ts Ts f #[.ref a1] h0 (Q_length_92 Z h0) := by
 refine con_of f #[vR a1] (plainFor_of_name pn_0) (fun m => rfl) Zf ?_
 intro C H hX0
 refine r_aloadN H 1 d_j42_54_0 ?_
 refine r_getf H 4 d_j42_54_1 (tw21 hw) F_value_a1 ?_
 refine r_alen H 5 4 d_j42_54_4 A_a2 ?_
 refine r_aloadN H 6 d_j42_54_5 ?_
 refine r_virtual (z := (⟨"java/lang/String", "coder", "()B"⟩ : MethodName)) (a := a1) (argsL := []) (rest := [.int 4]) (W := 1) H 9 d_j42_54_6 (tw63 hw) (tw64 hw) (nf_sel (tw66 hw)) (tw66 hw) (tw65 hw) (tw4 hw) (tw67 hw) E_a1 (lenOf pd_8 rfl) (rm_coder_51 hw Ts a1 cs h0 f Zf Z0 F_coder_a1 S_cs hcs) ?_
 rintro _ _ ⟨rfl, rfl⟩
 refine r_ishr H 10 2 d_j42_54_9 (by decide) ?_
 exact r_ireturn H d_j42_54_10 (⟨rfl, rfl⟩)
def Q_length_96 (Z : State) (h0 : Heap) (v : Option Value) (h : Heap) : Prop := v = some (.int 2) ∧ h0 = h
def R_length_96 : Room := { frames := 0, cells := 0, slots := 0, locals := 0 }
theorem rm_length_96 {w : Bool} {Z : State} {a0 : Array Value} (hw : HW a0 Z) (Ts : List String) (a1 : Addr) (i1 : Int32) (i2 : Int32) (i3 : Int32) (i4 : Int32) (c1 : ClassId) (h0 : Heap) (f : Nat) (Zf : Z.heap.size ≤ f) (Z0 : f ≤ h0.size) (A_a1 : Ar Z h0 a1 c1 .byte [.int i1, .int i2, .int i3, .int i4]) :
  Con w [] Z (⟨"java/lang/StringUTF16", "length", "([B)I"⟩ : MethodName) jdk_52_method_6_code 1 (some .int) R_length_96 Ts Ts f #[.ref a1] h0 (Q_length_96 Z h0) := by
 refine con_of f #[vR a1] (plainFor_of_name pn_2) (fun m => rfl) Zf ?_
 intro C H hX0
 refine r_aloadN H 1 d_j52_6_0 ?_
 refine r_alen H 2 4 d_j52_6_1 A_a1 ?_
 refine r_iconst H 3 1 d_j52_6_2 ?_
 refine r_ishr H 4 2 d_j52_6_3 (by decide) ?_
 exact r_ireturn H d_j52_6_4 (⟨rfl, rfl⟩)
def Q_checkFromToIndex_98 (Z : State) (h0 : Heap) (v : Option Value) (h : Heap) : Prop := v = some (.int 0) ∧ h0 = h
def R_checkFromToIndex_98 : Room := { frames := 0, cells := 0, slots := 0, locals := 0 }
theorem rm_checkFromToIndex_98 {w : Bool} {Z : State} {a0 : Array Value} (hw : HW a0 Z) (Ts : List String) (sio : Value) (h0 : Heap) (f : Nat) (Zf : Z.heap.size ≤ f) (Z0 : f ≤ h0.size) (hsio : G_hsio Z sio) :
  Con w [] Z (⟨"jdk/internal/util/Preconditions", "checkFromToIndex", "(IIILjava/util/function/BiFunction;)I"⟩ : MethodName) jdk_41_method_12_code 4 (some .int) R_checkFromToIndex_98 Ts Ts f #[.int 0, .int 2, .int 2, sio] h0 (Q_checkFromToIndex_98 Z h0) := by
 refine con_of f #[vI 0, vI 2, vI 2, .val sio] (plainFor_of_name pn_5) (fun m => by rcases hsio with hh | ⟨_, hh⟩ <;> subst hh <;> rfl) Zf ?_
 intro C H hX0
 refine r_iloadN H 1 d_j41_12_0 ?_
 refine r_ifltF H 4 d_j41_12_1 ?_
 refine r_iloadN H 5 d_j41_12_4 ?_
 refine r_iloadN H 6 d_j41_12_5 ?_
 refine r_icmpgtF H 9 d_j41_12_6 rfl (by decide) ?_
 refine r_iloadN H 10 d_j41_12_9 ?_
 refine r_iloadN H 11 d_j41_12_10 ?_
 refine r_icmpleT H 22 d_j41_12_11 (by decide) (by decide) (by decide) ?_
 refine r_iloadN H 23 d_j41_12_22 ?_
 exact r_ireturn H d_j41_12_23 (⟨rfl, rfl⟩)
def Q_checkBoundsBeginEnd_97 (Z : State) (h0 : Heap) (v : Option Value) (h : Heap) : Prop := v = none ∧ h0 = h
def R_checkBoundsBeginEnd_97 : Room := { frames := 1, cells := 0, slots := 0, locals := 15 }
theorem rm_checkBoundsBeginEnd_97 {w : Bool} {Z : State} {a0 : Array Value} (hw : HW a0 Z) (Ts : List String) (sio : Value) (h0 : Heap) (f : Nat) (Zf : Z.heap.size ≤ f) (Z0 : f ≤ h0.size) (S_sio : G_S_sio Z sio) (hsio : G_hsio Z sio) :
  Con w [] Z (⟨"java/lang/String", "checkBoundsBeginEnd", "(III)V"⟩ : MethodName) jdk_42_method_158_code 3 none R_checkBoundsBeginEnd_97 Ts Ts f #[.int 0, .int 2, .int 2] h0 (Q_checkBoundsBeginEnd_97 Z h0) := by
 refine con_of f #[vI 0, vI 2, vI 2] (plainFor_of_name pn_0) (fun m => rfl) Zf ?_
 intro C H hX0
 refine r_iloadN H 1 d_j42_158_0 ?_
 refine r_iloadN H 2 d_j42_158_1 ?_
 refine r_iloadN H 3 d_j42_158_2 ?_
 refine r_gets H 6 d_j42_158_3 (tw139 hw) S_sio ?_
 refine r_static (argsL := [.int 0, .int 2, .int 2, sio]) (rest := []) (W := 0) H 9 d_j42_158_6 (tw141 hw) (tw142 hw) (tw140 hw) (tw143 hw) (lenOf pd_22 rfl) (rm_checkFromToIndex_98 hw Ts sio h0 f Zf Z0 hsio) ?_
 rintro _ _ ⟨rfl, rfl⟩
 refine r_pop H 10 d_j42_158_9 ?_
 exact r_return H d_j42_158_10 (⟨rfl, rfl⟩)
def Q_checkBoundsBeginEnd_95 (Z : State) (h0 : Heap) (v : Option Value) (h : Heap) : Prop := v = none ∧ h0 = h
def R_checkBoundsBeginEnd_95 : Room := { frames := 2, cells := 0, slots := 0, locals := 29 }
theorem rm_checkBoundsBeginEnd_95 {w : Bool} {Z : State} {a0 : Array Value} (hw : HW a0 Z) (Ts : List String) (a1 : Addr) (i1 : Int32) (i2 : Int32) (c1 : ClassId) (sio : Value) (h0 : Heap) (f : Nat) (Zf : Z.heap.size ≤ f) (Z0 : f ≤ h0.size) (A_a1 : Ar Z h0 a1 c1 .byte [.int (cL8 i1), .int (cH8 i1), .int (cL8 i2), .int (cH8 i2)]) (S_sio : G_S_sio Z sio) (hsio : G_hsio Z sio) :
  Con w [] Z (⟨"java/lang/StringUTF16", "checkBoundsBeginEnd", "(II[B)V"⟩ : MethodName) jdk_52_method_93_code 3 none R_checkBoundsBeginEnd_95 Ts Ts f #[.int 0, .int 2, .ref a1] h0 (Q_checkBoundsBeginEnd_95 Z h0) := by
 refine con_of f #[vI 0, vI 2, vR a1] (plainFor_of_name pn_2) (fun m => rfl) Zf ?_
 intro C H hX0
 refine r_iloadN H 1 d_j52_93_0 ?_
 refine r_iloadN H 2 d_j52_93_1 ?_
 refine r_aloadN H 3 d_j52_93_2 ?_
 refine r_static (argsL := [.ref a1]) (rest := [.int 2, .int 0]) (W := 2) H 6 d_j52_93_3 (tw133 hw) (tw134 hw) (tw88 hw) (tw135 hw) (lenOf pd_21 rfl) (rm_length_96 hw Ts a1 (cL8 i1) (cH8 i1) (cL8 i2) (cH8 i2) c1 h0 f Zf Z0 A_a1) ?_
 rintro _ _ ⟨rfl, rfl⟩
 refine r_static (argsL := [.int 0, .int 2, .int 2]) (rest := []) (W := 0) H 9 d_j52_93_6 (tw136 hw) (tw137 hw) (tw4 hw) (tw138 hw) (lenOf pd_23 rfl) (rm_checkBoundsBeginEnd_97 hw Ts sio h0 f Zf Z0 S_sio hsio) ?_
 rintro _ _ ⟨rfl, rfl⟩
 exact r_return H d_j52_93_9 (⟨rfl, rfl⟩)
def Q_indexOfCharUnsafe_99 (Z : State) (h0 : Heap) (v : Option Value) (h : Heap) : Prop := v = some (.int (-1)) ∧ h0 = h
def R_indexOfCharUnsafe_99 : Room := { frames := 1, cells := 0, slots := 0, locals := 13 }
theorem rm_indexOfCharUnsafe_99 {w : Bool} {Z : State} {a0 : Array Value} (hw : HW a0 Z) (Ts : List String) (a1 : Addr) (i1 : Int32) (i2 : Int32) (c1 : ClassId) (h0 : Heap) (f : Nat) (Zf : Z.heap.size ≤ f) (Z0 : f ≤ h0.size) (A_a1 : Ar Z h0 a1 c1 .byte [.int (cL8 i1), .int (cH8 i1), .int (cL8 i2), .int (cH8 i2)]) (r_i1 : 0 ≤ i1.toInt ∧ i1.toInt ≤ 65535) (r_i2 : 0 ≤ i2.toInt ∧ i2.toInt ≤ 65535) (x_i1_10 : ¬ i1 = (10 : Int32)) (x_i2_10 : ¬ i2 = (10 : Int32)) (S__assertionsDisabled : G_S__assertionsDisabled Z) (S_HI_BYTE_SHIFT : G_S_HI_BYTE_SHIFT Z) (S_LO_BYTE_SHIFT : G_S_LO_BYTE_SHIFT Z) :
  Con w [] Z (⟨"java/lang/StringUTF16", "indexOfCharUnsafe", "([BIII)I"⟩ : MethodName) jdk_52_method_48_code 5 (some .int) R_indexOfCharUnsafe_99 Ts Ts f #[.ref a1, .int 10, .int 0, .int 2] h0 (Q_indexOfCharUnsafe_99 Z h0) := by
 refine con_of f #[vR a1, vI 10, vI 0, vI 2, .unset] (plainFor_of_name pn_2) (fun m => rfl) Zf ?_
 intro C H hX0
 refine r_iloadN H 1 d_j52_48_0 ?_
 refine r_istore H 3 #[vR a1, vI 10, vI 0, vI 2, vI 0] d_j52_48_1 ?_
 refine r_iload H 5 d_j52_48_3 ?_
 refine r_iloadN H 6 d_j52_48_5 ?_
 refine r_icmpgeF H 9 d_j52_48_6 ?_
 refine r_aloadN H 10 d_j52_48_9 ?_
 refine r_iload H 12 d_j52_48_10 ?_
 refine r_static (argsL := [.ref a1, .int 0]) (rest := []) (W := 0) H 15 d_j52_48_12 (tw115 hw) (tw116 hw) (tw88 hw) (tw117 hw) (lenOf pd_19 rfl) (rm_getChar_75 hw Ts a1 (cL8 i1) (cH8 i1) (cL8 i2) (cH8 i2) c1 h0 f Zf Z0 A_a1 S__assertionsDisabled S_HI_BYTE_SHIFT S_LO_BYTE_SHIFT) ?_
 rintro _ _ ⟨p1, rfl, ep1, rp1, rfl⟩
 have hzp1 : i1 = p1 := by rw [← ep1]; exact (own_u16 i1 (by have := r_i1; omega)).symm
 subst hzp1
 refine r_iloadN H 16 d_j52_48_15 ?_
 refine r_icmpneT H 22 d_j52_48_16 (by decide) (by decide) x_i1_10 ?_
 refine r_iinc H 25 #[vR a1, vI 10, vI 0, vI 2, vI 1] 1 d_j52_48_22 ?_
 refine r_goto H 3 d_j52_48_25 ?_
 refine r_iload H 5 d_j52_48_3 ?_
 refine r_iloadN H 6 d_j52_48_5 ?_
 refine r_icmpgeF H 9 d_j52_48_6 ?_
 refine r_aloadN H 10 d_j52_48_9 ?_
 refine r_iload H 12 d_j52_48_10 ?_
 refine r_static (argsL := [.ref a1, .int 1]) (rest := []) (W := 0) H 15 d_j52_48_12 (tw115 hw) (tw116 hw) (tw88 hw) (tw117 hw) (lenOf pd_19 rfl) (rm_getChar_73 hw Ts a1 (cL8 i1) (cH8 i1) (cL8 i2) (cH8 i2) c1 h0 f Zf Z0 A_a1 S__assertionsDisabled S_HI_BYTE_SHIFT S_LO_BYTE_SHIFT) ?_
 rintro _ _ ⟨p3, rfl, ep3, rp3, rfl⟩
 have hzp3 : i2 = p3 := by rw [← ep3]; exact (own_u16 i2 (by have := r_i2; omega)).symm
 subst hzp3
 refine r_iloadN H 16 d_j52_48_15 ?_
 refine r_icmpneT H 22 d_j52_48_16 (by decide) (by decide) x_i2_10 ?_
 refine r_iinc H 25 #[vR a1, vI 10, vI 0, vI 2, vI 2] 2 d_j52_48_22 ?_
 refine r_goto H 3 d_j52_48_25 ?_
 refine r_iload H 5 d_j52_48_3 ?_
 refine r_iloadN H 6 d_j52_48_5 ?_
 refine r_icmpgeT H 28 d_j52_48_6 ?_
 refine r_iconst H 29 (-1 : Int32) d_j52_48_28 ?_
 exact r_ireturn H d_j52_48_29 (⟨rfl, rfl⟩)
def Q_indexOfChar_94 (Z : State) (h0 : Heap) (v : Option Value) (h : Heap) : Prop := v = some (.int (-1)) ∧ h0 = h
def R_indexOfChar_94 : Room := { frames := 3, cells := 0, slots := 0, locals := 43 }
theorem rm_indexOfChar_94 {w : Bool} {Z : State} {a0 : Array Value} (hw : HW a0 Z) (Ts : List String) (a1 : Addr) (i1 : Int32) (i2 : Int32) (c1 : ClassId) (sio : Value) (h0 : Heap) (f : Nat) (Zf : Z.heap.size ≤ f) (Z0 : f ≤ h0.size) (A_a1 : Ar Z h0 a1 c1 .byte [.int (cL8 i1), .int (cH8 i1), .int (cL8 i2), .int (cH8 i2)]) (r_i1 : 0 ≤ i1.toInt ∧ i1.toInt ≤ 65535) (r_i2 : 0 ≤ i2.toInt ∧ i2.toInt ≤ 65535) (x_i1_10 : ¬ i1 = (10 : Int32)) (x_i2_10 : ¬ i2 = (10 : Int32)) (S_sio : G_S_sio Z sio) (hsio : G_hsio Z sio) (S__assertionsDisabled : G_S__assertionsDisabled Z) (S_HI_BYTE_SHIFT : G_S_HI_BYTE_SHIFT Z) (S_LO_BYTE_SHIFT : G_S_LO_BYTE_SHIFT Z) :
  Con w [] Z (⟨"java/lang/StringUTF16", "indexOfChar", "([BIII)I"⟩ : MethodName) jdk_52_method_47_code 4 (some .int) R_indexOfChar_94 Ts Ts f #[.ref a1, .int 10, .int 0, .int 2] h0 (Q_indexOfChar_94 Z h0) := by
 refine con_of f #[vR a1, vI 10, vI 0, vI 2] (plainFor_of_name pn_2) (fun m => rfl) Zf ?_
 intro C H hX0
 refine r_iloadN H 1 d_j52_47_0 ?_
 refine r_iloadN H 2 d_j52_47_1 ?_
 refine r_aloadN H 3 d_j52_47_2 ?_
 refine r_static (argsL := [.int 0, .int 2, .ref a1]) (rest := []) (W := 0) H 6 d_j52_47_3 (tw130 hw) (tw131 hw) (tw88 hw) (tw132 hw) (lenOf pd_24 rfl) (rm_checkBoundsBeginEnd_95 hw Ts a1 i1 i2 c1 sio h0 f Zf Z0 A_a1 S_sio hsio) ?_
 rintro _ _ ⟨rfl, rfl⟩
 refine r_aloadN H 7 d_j52_47_6 ?_
 refine r_iloadN H 8 d_j52_47_7 ?_
 refine r_iloadN H 9 d_j52_47_8 ?_
 refine r_iloadN H 10 d_j52_47_9 ?_
 refine r_static (argsL := [.ref a1, .int 10, .int 0, .int 2]) (rest := []) (W := 0) H 13 d_j52_47_10 (tw144 hw) (tw145 hw) (tw88 hw) (tw146 hw) (lenOf pd_12 rfl) (rm_indexOfCharUnsafe_99 hw Ts a1 i1 i2 c1 h0 f Zf Z0 A_a1 r_i1 r_i2 x_i1_10 x_i2_10 S__assertionsDisabled S_HI_BYTE_SHIFT S_LO_BYTE_SHIFT) ?_
 rintro _ _ ⟨rfl, rfl⟩
 exact r_ireturn H d_j52_47_13 (⟨rfl, rfl⟩)
def Q_indexOf_93 (Z : State) (h0 : Heap) (v : Option Value) (h : Heap) : Prop := v = some (.int (-1)) ∧ h0 = h
def R_indexOf_93 : Room := { frames := 4, cells := 0, slots := 0, locals := 58 }
theorem rm_indexOf_93 {w : Bool} {Z : State} {a0 : Array Value} (hw : HW a0 Z) (Ts : List String) (a1 : Addr) (i1 : Int32) (i2 : Int32) (c1 : ClassId) (sio : Value) (h0 : Heap) (f : Nat) (Zf : Z.heap.size ≤ f) (Z0 : f ≤ h0.size) (A_a1 : Ar Z h0 a1 c1 .byte [.int (cL8 i1), .int (cH8 i1), .int (cL8 i2), .int (cH8 i2)]) (r_i1 : 0 ≤ i1.toInt ∧ i1.toInt ≤ 65535) (r_i2 : 0 ≤ i2.toInt ∧ i2.toInt ≤ 65535) (x_i1_10 : ¬ i1 = (10 : Int32)) (x_i2_10 : ¬ i2 = (10 : Int32)) (S_sio : G_S_sio Z sio) (hsio : G_hsio Z sio) (S__assertionsDisabled : G_S__assertionsDisabled Z) (S_HI_BYTE_SHIFT : G_S_HI_BYTE_SHIFT Z) (S_LO_BYTE_SHIFT : G_S_LO_BYTE_SHIFT Z) :
  Con w [] Z (⟨"java/lang/StringUTF16", "indexOf", "([BIII)I"⟩ : MethodName) jdk_52_method_40_code 4 (some .int) R_indexOf_93 Ts Ts f #[.ref a1, .int 10, .int 0, .int 2] h0 (Q_indexOf_93 Z h0) := by
 refine con_of f #[vR a1, vI 10, vI 0, vI 2] (plainFor_of_name pn_2) (fun m => rfl) Zf ?_
 intro C H hX0
 refine r_iloadN H 1 d_j52_40_0 ?_
 refine r_iconst H 2 0 d_j52_40_1 ?_
 refine r_static (argsL := [.int 0, .int 0]) (rest := []) (W := 0) H 5 d_j52_40_2 (tw124 hw) (tw75 hw) (tw76 hw) (tw77 hw) (lenOf pd_11 rfl) (rm_max_18 hw Ts h0 f Zf Z0) ?_
 rintro _ _ ⟨rfl, rfl⟩
 refine r_istoreN H 6 #[vR a1, vI 10, vI 0, vI 2] d_j52_40_5 ?_
 refine r_iloadN H 7 d_j52_40_6 ?_
 refine r_aloadN H 8 d_j52_40_7 ?_
 refine r_alen H 9 4 d_j52_40_8 A_a1 ?_
 refine r_iconst H 10 1 d_j52_40_9 ?_
 refine r_ishr H 11 2 d_j52_40_10 (by decide) ?_
 refine r_static (argsL := [.int 2, .int 2]) (rest := []) (W := 0) H 14 d_j52_40_11 (tw125 hw) (tw79 hw) (tw76 hw) (tw80 hw) (lenOf pd_11 rfl) (rm_min_83 hw Ts h0 f Zf Z0) ?_
 rintro _ _ ⟨rfl, rfl⟩
 refine r_istoreN H 15 #[vR a1, vI 10, vI 0, vI 2] d_j52_40_14 ?_
 refine r_iloadN H 16 d_j52_40_15 ?_
 refine r_iloadN H 17 d_j52_40_16 ?_
 refine r_icmpltT H 22 d_j52_40_17 ?_
 refine r_iloadN H 23 d_j52_40_22 ?_
 refine r_ldcI H 25 d_j52_40_23 (tw126 hw) ?_
 refine r_icmpgeF H 28 d_j52_40_25 ?_
 refine r_aloadN H 29 d_j52_40_28 ?_
 refine r_iloadN H 30 d_j52_40_29 ?_
 refine r_iloadN H 31 d_j52_40_30 ?_
 refine r_iloadN H 32 d_j52_40_31 ?_
 refine r_static (argsL := [.ref a1, .int 10, .int 0, .int 2]) (rest := []) (W := 0) H 35 d_j52_40_32 (tw127 hw) (tw128 hw) (tw88 hw) (tw129 hw) (lenOf pd_12 rfl) (rm_indexOfChar_94 hw Ts a1 i1 i2 c1 sio h0 f Zf Z0 A_a1 r_i1 r_i2 x_i1_10 x_i2_10 S_sio hsio S__assertionsDisabled S_HI_BYTE_SHIFT S_LO_BYTE_SHIFT) ?_
 rintro _ _ ⟨rfl, rfl⟩
 exact r_ireturn H d_j52_40_35 (⟨rfl, rfl⟩)
def Q_indexOf_91 (Z : State) (h0 : Heap) (v : Option Value) (h : Heap) : Prop := v = some (.int (-1)) ∧ h0 = h
def R_indexOf_91 : Room := { frames := 5, cells := 0, slots := 0, locals := 73 }
theorem rm_indexOf_91 {w : Bool} {Z : State} {a0 : Array Value} (hw : HW a0 Z) (Ts : List String) (a1 : Addr) (a2 : Addr) (i1 : Int32) (i2 : Int32) (c1 : ClassId) (cs : Int32) (sio : Value) (h0 : Heap) (f : Nat) (Zf : Z.heap.size ≤ f) (Z0 : f ≤ h0.size) (E_a1 : Exa Z h0 a1 "java/lang/String") (F_coder_a1 : Fld Z h0 a1 "java/lang/String" "coder" "B" (.int 1)) (F_value_a1 : Fld Z h0 a1 "java/lang/String" "value" "[B" (.ref a2)) (A_a2 : Ar Z h0 a2 c1 .byte [.int (cL8 i1), .int (cH8 i1), .int (cL8 i2), .int (cH8 i2)]) (r_i1 : 0 ≤ i1.toInt ∧ i1.toInt ≤ 65535) (r_i2 : 0 ≤ i2.toInt ∧ i2.toInt ≤ 65535) (x_i1_10 : ¬ i1 = (10 : Int32)) (x_i2_10 : ¬ i2 = (10 : Int32)) (S_cs : G_S_cs Z cs) (S_sio : G_S_sio Z sio) (hsio : G_hsio Z sio) (S__assertionsDisabled : G_S__assertionsDisabled Z) (S_HI_BYTE_SHIFT : G_S_HI_BYTE_SHIFT Z) (S_LO_BYTE_SHIFT : G_S_LO_BYTE_SHIFT Z) (hcs : ¬ cs = 0) :
  Con w [] Z (⟨"java/lang/String", "indexOf", "(II)I"⟩ : MethodName) jdk_42_method_80_code 3 (some .int) R_indexOf_91 Ts Ts f #[.ref a1, .int 10, .int 0] h0 (Q_indexOf_91 Z h0) := by
 refine con_of f #[vR a1, vI 10, vI 0] (plainFor_of_name pn_0) (fun m => rfl) Zf ?_
 intro C H hX0
 refine r_aloadN H 1 d_j42_80_0 ?_
 refine r_virtual (z := (⟨"java/lang/String", "isLatin1", "()Z"⟩ : MethodName)) (a := a1) (argsL := []) (rest := []) (W := 0) H 4 d_j42_80_1 (tw53 hw) (tw54 hw) (nf_sel (tw56 hw)) (tw56 hw) (tw55 hw) (tw4 hw) (tw57 hw) E_a1 (lenOf pd_7 rfl) (rm_isLatin1_49 hw Ts a1 cs h0 f Zf Z0 F_coder_a1 S_cs hcs) ?_
 rintro _ _ ⟨rfl, rfl⟩
 refine r_ifeqT H 23 d_j42_80_4 (by decide) (by decide) (by decide) ?_
 refine r_aloadN H 24 d_j42_80_23 ?_
 refine r_getf H 27 d_j42_80_24 (tw21 hw) F_value_a1 ?_
 refine r_iloadN H 28 d_j42_80_27 ?_
 refine r_iloadN H 29 d_j42_80_28 ?_
 refine r_aloadN H 30 d_j42_80_29 ?_
 refine r_virtual (z := (⟨"java/lang/String", "length", "()I"⟩ : MethodName)) (a := a1) (argsL := []) (rest := [.int 0, .int 10, .ref a2]) (W := 3) H 33 d_j42_80_30 (tw58 hw) (tw59 hw) (nf_sel (tw61 hw)) (tw61 hw) (tw60 hw) (tw4 hw) (tw62 hw) E_a1 (lenOf pd_9 rfl) (rm_length_92 hw Ts a1 a2 (cL8 i1) (cH8 i1) (cL8 i2) (cH8 i2) c1 cs h0 f Zf Z0 F_value_a1 A_a2 E_a1 F_coder_a1 S_cs hcs) ?_
 rintro _ _ ⟨rfl, rfl⟩
 refine r_static (argsL := [.ref a2, .int 10, .int 0, .int 2]) (rest := []) (W := 0) H 36 d_j42_80_33 (tw121 hw) (tw122 hw) (tw88 hw) (tw123 hw) (lenOf pd_12 rfl) (rm_indexOf_93 hw Ts a2 i1 i2 c1 sio h0 f Zf Z0 A_a2 r_i1 r_i2 x_i1_10 x_i2_10 S_sio hsio S__assertionsDisabled S_HI_BYTE_SHIFT S_LO_BYTE_SHIFT) ?_
 rintro _ _ ⟨rfl, rfl⟩
 exact r_ireturn H d_j42_80_36 (⟨rfl, rfl⟩)
def Q_indexOf_90 (Z : State) (h0 : Heap) (v : Option Value) (h : Heap) : Prop := v = some (.int (-1)) ∧ h0 = h
def R_indexOf_90 : Room := { frames := 6, cells := 0, slots := 0, locals := 87 }
theorem rm_indexOf_90 {w : Bool} {Z : State} {a0 : Array Value} (hw : HW a0 Z) (Ts : List String) (a1 : Addr) (a2 : Addr) (i1 : Int32) (i2 : Int32) (c1 : ClassId) (cs : Int32) (sio : Value) (h0 : Heap) (f : Nat) (Zf : Z.heap.size ≤ f) (Z0 : f ≤ h0.size) (E_a1 : Exa Z h0 a1 "java/lang/String") (F_coder_a1 : Fld Z h0 a1 "java/lang/String" "coder" "B" (.int 1)) (F_value_a1 : Fld Z h0 a1 "java/lang/String" "value" "[B" (.ref a2)) (A_a2 : Ar Z h0 a2 c1 .byte [.int (cL8 i1), .int (cH8 i1), .int (cL8 i2), .int (cH8 i2)]) (r_i1 : 0 ≤ i1.toInt ∧ i1.toInt ≤ 65535) (r_i2 : 0 ≤ i2.toInt ∧ i2.toInt ≤ 65535) (x_i1_10 : ¬ i1 = (10 : Int32)) (x_i2_10 : ¬ i2 = (10 : Int32)) (S_cs : G_S_cs Z cs) (S_sio : G_S_sio Z sio) (hsio : G_hsio Z sio) (S__assertionsDisabled : G_S__assertionsDisabled Z) (S_HI_BYTE_SHIFT : G_S_HI_BYTE_SHIFT Z) (S_LO_BYTE_SHIFT : G_S_LO_BYTE_SHIFT Z) (hcs : ¬ cs = 0) :
  Con w [] Z (⟨"java/lang/String", "indexOf", "(I)I"⟩ : MethodName) jdk_42_method_79_code 2 (some .int) R_indexOf_90 Ts Ts f #[.ref a1, .int 10] h0 (Q_indexOf_90 Z h0) := by
 refine con_of f #[vR a1, vI 10] (plainFor_of_name pn_0) (fun m => rfl) Zf ?_
 intro C H hX0
 refine r_aloadN H 1 d_j42_79_0 ?_
 refine r_iloadN H 2 d_j42_79_1 ?_
 refine r_iconst H 3 0 d_j42_79_2 ?_
 refine r_virtual (z := (⟨"java/lang/String", "indexOf", "(II)I"⟩ : MethodName)) (a := a1) (argsL := [.int 10, .int 0]) (rest := []) (W := 0) H 6 d_j42_79_3 (tw48 hw) (tw49 hw) (nf_sel (tw51 hw)) (tw51 hw) (tw50 hw) (tw4 hw) (tw52 hw) E_a1 (lenOf pd_11 rfl) (rm_indexOf_91 hw Ts a1 a2 i1 i2 c1 cs sio h0 f Zf Z0 E_a1 F_coder_a1 F_value_a1 A_a2 r_i1 r_i2 x_i1_10 x_i2_10 S_cs S_sio hsio S__assertionsDisabled S_HI_BYTE_SHIFT S_LO_BYTE_SHIFT hcs) ?_
 rintro _ _ ⟨rfl, rfl⟩
 exact r_ireturn H d_j42_79_6 (⟨rfl, rfl⟩)
def Q_indexOfCharUnsafe_104 (Z : State) (h0 : Heap) (v : Option Value) (h : Heap) : Prop := v = some (.int (-1)) ∧ h0 = h
def R_indexOfCharUnsafe_104 : Room := { frames := 1, cells := 0, slots := 0, locals := 13 }
theorem rm_indexOfCharUnsafe_104 {w : Bool} {Z : State} {a0 : Array Value} (hw : HW a0 Z) (Ts : List String) (a1 : Addr) (i1 : Int32) (i2 : Int32) (c1 : ClassId) (h0 : Heap) (f : Nat) (Zf : Z.heap.size ≤ f) (Z0 : f ≤ h0.size) (A_a1 : Ar Z h0 a1 c1 .byte [.int (cL8 i1), .int (cH8 i1), .int (cL8 i2), .int (cH8 i2)]) (r_i1 : 0 ≤ i1.toInt ∧ i1.toInt ≤ 65535) (r_i2 : 0 ≤ i2.toInt ∧ i2.toInt ≤ 65535) (x_i1_13 : ¬ i1 = (13 : Int32)) (x_i2_13 : ¬ i2 = (13 : Int32)) (S__assertionsDisabled : G_S__assertionsDisabled Z) (S_HI_BYTE_SHIFT : G_S_HI_BYTE_SHIFT Z) (S_LO_BYTE_SHIFT : G_S_LO_BYTE_SHIFT Z) :
  Con w [] Z (⟨"java/lang/StringUTF16", "indexOfCharUnsafe", "([BIII)I"⟩ : MethodName) jdk_52_method_48_code 5 (some .int) R_indexOfCharUnsafe_104 Ts Ts f #[.ref a1, .int 13, .int 0, .int 2] h0 (Q_indexOfCharUnsafe_104 Z h0) := by
 refine con_of f #[vR a1, vI 13, vI 0, vI 2, .unset] (plainFor_of_name pn_2) (fun m => rfl) Zf ?_
 intro C H hX0
 refine r_iloadN H 1 d_j52_48_0 ?_
 refine r_istore H 3 #[vR a1, vI 13, vI 0, vI 2, vI 0] d_j52_48_1 ?_
 refine r_iload H 5 d_j52_48_3 ?_
 refine r_iloadN H 6 d_j52_48_5 ?_
 refine r_icmpgeF H 9 d_j52_48_6 ?_
 refine r_aloadN H 10 d_j52_48_9 ?_
 refine r_iload H 12 d_j52_48_10 ?_
 refine r_static (argsL := [.ref a1, .int 0]) (rest := []) (W := 0) H 15 d_j52_48_12 (tw115 hw) (tw116 hw) (tw88 hw) (tw117 hw) (lenOf pd_19 rfl) (rm_getChar_75 hw Ts a1 (cL8 i1) (cH8 i1) (cL8 i2) (cH8 i2) c1 h0 f Zf Z0 A_a1 S__assertionsDisabled S_HI_BYTE_SHIFT S_LO_BYTE_SHIFT) ?_
 rintro _ _ ⟨p1, rfl, ep1, rp1, rfl⟩
 have hzp1 : i1 = p1 := by rw [← ep1]; exact (own_u16 i1 (by have := r_i1; omega)).symm
 subst hzp1
 refine r_iloadN H 16 d_j52_48_15 ?_
 refine r_icmpneT H 22 d_j52_48_16 (by decide) (by decide) x_i1_13 ?_
 refine r_iinc H 25 #[vR a1, vI 13, vI 0, vI 2, vI 1] 1 d_j52_48_22 ?_
 refine r_goto H 3 d_j52_48_25 ?_
 refine r_iload H 5 d_j52_48_3 ?_
 refine r_iloadN H 6 d_j52_48_5 ?_
 refine r_icmpgeF H 9 d_j52_48_6 ?_
 refine r_aloadN H 10 d_j52_48_9 ?_
 refine r_iload H 12 d_j52_48_10 ?_
 refine r_static (argsL := [.ref a1, .int 1]) (rest := []) (W := 0) H 15 d_j52_48_12 (tw115 hw) (tw116 hw) (tw88 hw) (tw117 hw) (lenOf pd_19 rfl) (rm_getChar_73 hw Ts a1 (cL8 i1) (cH8 i1) (cL8 i2) (cH8 i2) c1 h0 f Zf Z0 A_a1 S__assertionsDisabled S_HI_BYTE_SHIFT S_LO_BYTE_SHIFT) ?_
 rintro _ _ ⟨p3, rfl, ep3, rp3, rfl⟩
 have hzp3 : i2 = p3 := by rw [← ep3]; exact (own_u16 i2 (by have := r_i2; omega)).symm
 subst hzp3
 refine r_iloadN H 16 d_j52_48_15 ?_
 refine r_icmpneT H 22 d_j52_48_16 (by decide) (by decide) x_i2_13 ?_
 refine r_iinc H 25 #[vR a1, vI 13, vI 0, vI 2, vI 2] 2 d_j52_48_22 ?_
 refine r_goto H 3 d_j52_48_25 ?_
 refine r_iload H 5 d_j52_48_3 ?_
 refine r_iloadN H 6 d_j52_48_5 ?_
 refine r_icmpgeT H 28 d_j52_48_6 ?_
 refine r_iconst H 29 (-1 : Int32) d_j52_48_28 ?_
 exact r_ireturn H d_j52_48_29 (⟨rfl, rfl⟩)
def Q_indexOfChar_103 (Z : State) (h0 : Heap) (v : Option Value) (h : Heap) : Prop := v = some (.int (-1)) ∧ h0 = h
def R_indexOfChar_103 : Room := { frames := 3, cells := 0, slots := 0, locals := 43 }
theorem rm_indexOfChar_103 {w : Bool} {Z : State} {a0 : Array Value} (hw : HW a0 Z) (Ts : List String) (a1 : Addr) (i1 : Int32) (i2 : Int32) (c1 : ClassId) (sio : Value) (h0 : Heap) (f : Nat) (Zf : Z.heap.size ≤ f) (Z0 : f ≤ h0.size) (A_a1 : Ar Z h0 a1 c1 .byte [.int (cL8 i1), .int (cH8 i1), .int (cL8 i2), .int (cH8 i2)]) (r_i1 : 0 ≤ i1.toInt ∧ i1.toInt ≤ 65535) (r_i2 : 0 ≤ i2.toInt ∧ i2.toInt ≤ 65535) (x_i1_13 : ¬ i1 = (13 : Int32)) (x_i2_13 : ¬ i2 = (13 : Int32)) (S_sio : G_S_sio Z sio) (hsio : G_hsio Z sio) (S__assertionsDisabled : G_S__assertionsDisabled Z) (S_HI_BYTE_SHIFT : G_S_HI_BYTE_SHIFT Z) (S_LO_BYTE_SHIFT : G_S_LO_BYTE_SHIFT Z) :
  Con w [] Z (⟨"java/lang/StringUTF16", "indexOfChar", "([BIII)I"⟩ : MethodName) jdk_52_method_47_code 4 (some .int) R_indexOfChar_103 Ts Ts f #[.ref a1, .int 13, .int 0, .int 2] h0 (Q_indexOfChar_103 Z h0) := by
 refine con_of f #[vR a1, vI 13, vI 0, vI 2] (plainFor_of_name pn_2) (fun m => rfl) Zf ?_
 intro C H hX0
 refine r_iloadN H 1 d_j52_47_0 ?_
 refine r_iloadN H 2 d_j52_47_1 ?_
 refine r_aloadN H 3 d_j52_47_2 ?_
 refine r_static (argsL := [.int 0, .int 2, .ref a1]) (rest := []) (W := 0) H 6 d_j52_47_3 (tw130 hw) (tw131 hw) (tw88 hw) (tw132 hw) (lenOf pd_24 rfl) (rm_checkBoundsBeginEnd_95 hw Ts a1 i1 i2 c1 sio h0 f Zf Z0 A_a1 S_sio hsio) ?_
 rintro _ _ ⟨rfl, rfl⟩
 refine r_aloadN H 7 d_j52_47_6 ?_
 refine r_iloadN H 8 d_j52_47_7 ?_
 refine r_iloadN H 9 d_j52_47_8 ?_
 refine r_iloadN H 10 d_j52_47_9 ?_
 refine r_static (argsL := [.ref a1, .int 13, .int 0, .int 2]) (rest := []) (W := 0) H 13 d_j52_47_10 (tw144 hw) (tw145 hw) (tw88 hw) (tw146 hw) (lenOf pd_12 rfl) (rm_indexOfCharUnsafe_104 hw Ts a1 i1 i2 c1 h0 f Zf Z0 A_a1 r_i1 r_i2 x_i1_13 x_i2_13 S__assertionsDisabled S_HI_BYTE_SHIFT S_LO_BYTE_SHIFT) ?_
 rintro _ _ ⟨rfl, rfl⟩
 exact r_ireturn H d_j52_47_13 (⟨rfl, rfl⟩)
def Q_indexOf_102 (Z : State) (h0 : Heap) (v : Option Value) (h : Heap) : Prop := v = some (.int (-1)) ∧ h0 = h
def R_indexOf_102 : Room := { frames := 4, cells := 0, slots := 0, locals := 58 }
theorem rm_indexOf_102 {w : Bool} {Z : State} {a0 : Array Value} (hw : HW a0 Z) (Ts : List String) (a1 : Addr) (i1 : Int32) (i2 : Int32) (c1 : ClassId) (sio : Value) (h0 : Heap) (f : Nat) (Zf : Z.heap.size ≤ f) (Z0 : f ≤ h0.size) (A_a1 : Ar Z h0 a1 c1 .byte [.int (cL8 i1), .int (cH8 i1), .int (cL8 i2), .int (cH8 i2)]) (r_i1 : 0 ≤ i1.toInt ∧ i1.toInt ≤ 65535) (r_i2 : 0 ≤ i2.toInt ∧ i2.toInt ≤ 65535) (x_i1_13 : ¬ i1 = (13 : Int32)) (x_i2_13 : ¬ i2 = (13 : Int32)) (S_sio : G_S_sio Z sio) (hsio : G_hsio Z sio) (S__assertionsDisabled : G_S__assertionsDisabled Z) (S_HI_BYTE_SHIFT : G_S_HI_BYTE_SHIFT Z) (S_LO_BYTE_SHIFT : G_S_LO_BYTE_SHIFT Z) :
  Con w [] Z (⟨"java/lang/StringUTF16", "indexOf", "([BIII)I"⟩ : MethodName) jdk_52_method_40_code 4 (some .int) R_indexOf_102 Ts Ts f #[.ref a1, .int 13, .int 0, .int 2] h0 (Q_indexOf_102 Z h0) := by
 refine con_of f #[vR a1, vI 13, vI 0, vI 2] (plainFor_of_name pn_2) (fun m => rfl) Zf ?_
 intro C H hX0
 refine r_iloadN H 1 d_j52_40_0 ?_
 refine r_iconst H 2 0 d_j52_40_1 ?_
 refine r_static (argsL := [.int 0, .int 0]) (rest := []) (W := 0) H 5 d_j52_40_2 (tw124 hw) (tw75 hw) (tw76 hw) (tw77 hw) (lenOf pd_11 rfl) (rm_max_18 hw Ts h0 f Zf Z0) ?_
 rintro _ _ ⟨rfl, rfl⟩
 refine r_istoreN H 6 #[vR a1, vI 13, vI 0, vI 2] d_j52_40_5 ?_
 refine r_iloadN H 7 d_j52_40_6 ?_
 refine r_aloadN H 8 d_j52_40_7 ?_
 refine r_alen H 9 4 d_j52_40_8 A_a1 ?_
 refine r_iconst H 10 1 d_j52_40_9 ?_
 refine r_ishr H 11 2 d_j52_40_10 (by decide) ?_
 refine r_static (argsL := [.int 2, .int 2]) (rest := []) (W := 0) H 14 d_j52_40_11 (tw125 hw) (tw79 hw) (tw76 hw) (tw80 hw) (lenOf pd_11 rfl) (rm_min_83 hw Ts h0 f Zf Z0) ?_
 rintro _ _ ⟨rfl, rfl⟩
 refine r_istoreN H 15 #[vR a1, vI 13, vI 0, vI 2] d_j52_40_14 ?_
 refine r_iloadN H 16 d_j52_40_15 ?_
 refine r_iloadN H 17 d_j52_40_16 ?_
 refine r_icmpltT H 22 d_j52_40_17 ?_
 refine r_iloadN H 23 d_j52_40_22 ?_
 refine r_ldcI H 25 d_j52_40_23 (tw126 hw) ?_
 refine r_icmpgeF H 28 d_j52_40_25 ?_
 refine r_aloadN H 29 d_j52_40_28 ?_
 refine r_iloadN H 30 d_j52_40_29 ?_
 refine r_iloadN H 31 d_j52_40_30 ?_
 refine r_iloadN H 32 d_j52_40_31 ?_
 refine r_static (argsL := [.ref a1, .int 13, .int 0, .int 2]) (rest := []) (W := 0) H 35 d_j52_40_32 (tw127 hw) (tw128 hw) (tw88 hw) (tw129 hw) (lenOf pd_12 rfl) (rm_indexOfChar_103 hw Ts a1 i1 i2 c1 sio h0 f Zf Z0 A_a1 r_i1 r_i2 x_i1_13 x_i2_13 S_sio hsio S__assertionsDisabled S_HI_BYTE_SHIFT S_LO_BYTE_SHIFT) ?_
 rintro _ _ ⟨rfl, rfl⟩
 exact r_ireturn H d_j52_40_35 (⟨rfl, rfl⟩)
def Q_indexOf_101 (Z : State) (h0 : Heap) (v : Option Value) (h : Heap) : Prop := v = some (.int (-1)) ∧ h0 = h
def R_indexOf_101 : Room := { frames := 5, cells := 0, slots := 0, locals := 73 }
theorem rm_indexOf_101 {w : Bool} {Z : State} {a0 : Array Value} (hw : HW a0 Z) (Ts : List String) (a1 : Addr) (a2 : Addr) (i1 : Int32) (i2 : Int32) (c1 : ClassId) (cs : Int32) (sio : Value) (h0 : Heap) (f : Nat) (Zf : Z.heap.size ≤ f) (Z0 : f ≤ h0.size) (E_a1 : Exa Z h0 a1 "java/lang/String") (F_coder_a1 : Fld Z h0 a1 "java/lang/String" "coder" "B" (.int 1)) (F_value_a1 : Fld Z h0 a1 "java/lang/String" "value" "[B" (.ref a2)) (A_a2 : Ar Z h0 a2 c1 .byte [.int (cL8 i1), .int (cH8 i1), .int (cL8 i2), .int (cH8 i2)]) (r_i1 : 0 ≤ i1.toInt ∧ i1.toInt ≤ 65535) (r_i2 : 0 ≤ i2.toInt ∧ i2.toInt ≤ 65535) (x_i1_13 : ¬ i1 = (13 : Int32)) (x_i2_13 : ¬ i2 = (13 : Int32)) (S_cs : G_S_cs Z cs) (S_sio : G_S_sio Z sio) (hsio : G_hsio Z sio) (S__assertionsDisabled : G_S__assertionsDisabled Z) (S_HI_BYTE_SHIFT : G_S_HI_BYTE_SHIFT Z) (S_LO_BYTE_SHIFT : G_S_LO_BYTE_SHIFT Z) (hcs : ¬ cs = 0) :
  Con w [] Z (⟨"java/lang/String", "indexOf", "(II)I"⟩ : MethodName) jdk_42_method_80_code 3 (some .int) R_indexOf_101 Ts Ts f #[.ref a1, .int 13, .int 0] h0 (Q_indexOf_101 Z h0) := by
 refine con_of f #[vR a1, vI 13, vI 0] (plainFor_of_name pn_0) (fun m => rfl) Zf ?_
 intro C H hX0
 refine r_aloadN H 1 d_j42_80_0 ?_
 refine r_virtual (z := (⟨"java/lang/String", "isLatin1", "()Z"⟩ : MethodName)) (a := a1) (argsL := []) (rest := []) (W := 0) H 4 d_j42_80_1 (tw53 hw) (tw54 hw) (nf_sel (tw56 hw)) (tw56 hw) (tw55 hw) (tw4 hw) (tw57 hw) E_a1 (lenOf pd_7 rfl) (rm_isLatin1_49 hw Ts a1 cs h0 f Zf Z0 F_coder_a1 S_cs hcs) ?_
 rintro _ _ ⟨rfl, rfl⟩
 refine r_ifeqT H 23 d_j42_80_4 (by decide) (by decide) (by decide) ?_
 refine r_aloadN H 24 d_j42_80_23 ?_
 refine r_getf H 27 d_j42_80_24 (tw21 hw) F_value_a1 ?_
 refine r_iloadN H 28 d_j42_80_27 ?_
 refine r_iloadN H 29 d_j42_80_28 ?_
 refine r_aloadN H 30 d_j42_80_29 ?_
 refine r_virtual (z := (⟨"java/lang/String", "length", "()I"⟩ : MethodName)) (a := a1) (argsL := []) (rest := [.int 0, .int 13, .ref a2]) (W := 3) H 33 d_j42_80_30 (tw58 hw) (tw59 hw) (nf_sel (tw61 hw)) (tw61 hw) (tw60 hw) (tw4 hw) (tw62 hw) E_a1 (lenOf pd_9 rfl) (rm_length_92 hw Ts a1 a2 (cL8 i1) (cH8 i1) (cL8 i2) (cH8 i2) c1 cs h0 f Zf Z0 F_value_a1 A_a2 E_a1 F_coder_a1 S_cs hcs) ?_
 rintro _ _ ⟨rfl, rfl⟩
 refine r_static (argsL := [.ref a2, .int 13, .int 0, .int 2]) (rest := []) (W := 0) H 36 d_j42_80_33 (tw121 hw) (tw122 hw) (tw88 hw) (tw123 hw) (lenOf pd_12 rfl) (rm_indexOf_102 hw Ts a2 i1 i2 c1 sio h0 f Zf Z0 A_a2 r_i1 r_i2 x_i1_13 x_i2_13 S_sio hsio S__assertionsDisabled S_HI_BYTE_SHIFT S_LO_BYTE_SHIFT) ?_
 rintro _ _ ⟨rfl, rfl⟩
 exact r_ireturn H d_j42_80_36 (⟨rfl, rfl⟩)
def Q_indexOf_100 (Z : State) (h0 : Heap) (v : Option Value) (h : Heap) : Prop := v = some (.int (-1)) ∧ h0 = h
def R_indexOf_100 : Room := { frames := 6, cells := 0, slots := 0, locals := 87 }
theorem rm_indexOf_100 {w : Bool} {Z : State} {a0 : Array Value} (hw : HW a0 Z) (Ts : List String) (a1 : Addr) (a2 : Addr) (i1 : Int32) (i2 : Int32) (c1 : ClassId) (cs : Int32) (sio : Value) (h0 : Heap) (f : Nat) (Zf : Z.heap.size ≤ f) (Z0 : f ≤ h0.size) (E_a1 : Exa Z h0 a1 "java/lang/String") (F_coder_a1 : Fld Z h0 a1 "java/lang/String" "coder" "B" (.int 1)) (F_value_a1 : Fld Z h0 a1 "java/lang/String" "value" "[B" (.ref a2)) (A_a2 : Ar Z h0 a2 c1 .byte [.int (cL8 i1), .int (cH8 i1), .int (cL8 i2), .int (cH8 i2)]) (r_i1 : 0 ≤ i1.toInt ∧ i1.toInt ≤ 65535) (r_i2 : 0 ≤ i2.toInt ∧ i2.toInt ≤ 65535) (x_i1_13 : ¬ i1 = (13 : Int32)) (x_i2_13 : ¬ i2 = (13 : Int32)) (S_cs : G_S_cs Z cs) (S_sio : G_S_sio Z sio) (hsio : G_hsio Z sio) (S__assertionsDisabled : G_S__assertionsDisabled Z) (S_HI_BYTE_SHIFT : G_S_HI_BYTE_SHIFT Z) (S_LO_BYTE_SHIFT : G_S_LO_BYTE_SHIFT Z) (hcs : ¬ cs = 0) :
  Con w [] Z (⟨"java/lang/String", "indexOf", "(I)I"⟩ : MethodName) jdk_42_method_79_code 2 (some .int) R_indexOf_100 Ts Ts f #[.ref a1, .int 13] h0 (Q_indexOf_100 Z h0) := by
 refine con_of f #[vR a1, vI 13] (plainFor_of_name pn_0) (fun m => rfl) Zf ?_
 intro C H hX0
 refine r_aloadN H 1 d_j42_79_0 ?_
 refine r_iloadN H 2 d_j42_79_1 ?_
 refine r_iconst H 3 0 d_j42_79_2 ?_
 refine r_virtual (z := (⟨"java/lang/String", "indexOf", "(II)I"⟩ : MethodName)) (a := a1) (argsL := [.int 13, .int 0]) (rest := []) (W := 0) H 6 d_j42_79_3 (tw48 hw) (tw49 hw) (nf_sel (tw51 hw)) (tw51 hw) (tw50 hw) (tw4 hw) (tw52 hw) E_a1 (lenOf pd_11 rfl) (rm_indexOf_101 hw Ts a1 a2 i1 i2 c1 cs sio h0 f Zf Z0 E_a1 F_coder_a1 F_value_a1 A_a2 r_i1 r_i2 x_i1_13 x_i2_13 S_cs S_sio hsio S__assertionsDisabled S_HI_BYTE_SHIFT S_LO_BYTE_SHIFT hcs) ?_
 rintro _ _ ⟨rfl, rfl⟩
 exact r_ireturn H d_j42_79_6 (⟨rfl, rfl⟩)
def Q_require_89 (Z : State) (a2 : Addr) (h0 : Heap) (v : Option Value) (h : Heap) : Prop := v = some (.ref a2) ∧ h0 = h
def R_require_89 : Room := { frames := 7, cells := 0, slots := 0, locals := 100 }
theorem rm_require_89 {w : Bool} {Z : State} {a0 : Array Value} (hw : HW a0 Z) (Ts : List String) (a1 : Addr) (a2 : Addr) (a4 : Addr) (i3 : Int32) (i4 : Int32) (c2 : ClassId) (cs : Int32) (sio : Value) (h0 : Heap) (f : Nat) (Zf : Z.heap.size ≤ f) (Z0 : f ≤ h0.size) (E_a2 : Exa Z h0 a2 "java/lang/String") (F_coder_a2 : Fld Z h0 a2 "java/lang/String" "coder" "B" (.int 1)) (F_value_a2 : Fld Z h0 a2 "java/lang/String" "value" "[B" (.ref a4)) (A_a4 : Ar Z h0 a4 c2 .byte [.int (cL8 i3), .int (cH8 i3), .int (cL8 i4), .int (cH8 i4)]) (r_i3 : 0 ≤ i3.toInt ∧ i3.toInt ≤ 65535) (r_i4 : 0 ≤ i4.toInt ∧ i4.toInt ≤ 65535) (x_i3_10 : ¬ i3 = (10 : Int32)) (x_i3_13 : ¬ i3 = (13 : Int32)) (x_i4_10 : ¬ i4 = (10 : Int32)) (x_i4_13 : ¬ i4 = (13 : Int32)) (S_cs : G_S_cs Z cs) (S_sio : G_S_sio Z sio) (hsio : G_hsio Z sio) (S__assertionsDisabled : G_S__assertionsDisabled Z) (S_HI_BYTE_SHIFT : G_S_HI_BYTE_SHIFT Z) (S_LO_BYTE_SHIFT : G_S_LO_BYTE_SHIFT Z) (hcs : ¬ cs = 0) :
  Con w [] Z (⟨"com/example/ferryline/ferryline/model/OneLine", "require", "(Ljava/lang/String;Ljava/lang/String;)Ljava/lang/String;"⟩ : MethodName) prog_70_method_2_code 2 (some (.object "java/lang/String")) R_require_89 Ts Ts f #[.ref a1, .ref a2] h0 (Q_require_89 Z a2 h0) := by
 refine con_of f #[vR a1, vR a2] (plainFor_of_name pn_3) (fun m => rfl) Zf ?_
 intro C H hX0
 refine r_aloadN H 1 d_g70_2_0 ?_
 refine r_bipush H 3 10 d_g70_2_1 ?_
 refine r_virtual (z := (⟨"java/lang/String", "indexOf", "(I)I"⟩ : MethodName)) (a := a2) (argsL := [.int 10]) (rest := []) (W := 0) H 6 d_g70_2_3 (tw43 hw) (tw44 hw) (nf_sel (tw46 hw)) (tw46 hw) (tw45 hw) (tw4 hw) (tw47 hw) E_a2 (lenOf pd_13 rfl) (rm_indexOf_90 hw Ts a2 a4 i3 i4 c2 cs sio h0 f Zf Z0 E_a2 F_coder_a2 F_value_a2 A_a4 r_i3 r_i4 x_i3_10 x_i4_10 S_cs S_sio hsio S__assertionsDisabled S_HI_BYTE_SHIFT S_LO_BYTE_SHIFT hcs) ?_
 rintro _ _ ⟨rfl, rfl⟩
 refine r_ifgeF H 9 d_g70_2_6 ?_
 refine r_aloadN H 10 d_g70_2_9 ?_
 refine r_bipush H 12 13 d_g70_2_10 ?_
 refine r_virtual (z := (⟨"java/lang/String", "indexOf", "(I)I"⟩ : MethodName)) (a := a2) (argsL := [.int 13]) (rest := []) (W := 0) H 15 d_g70_2_12 (tw43 hw) (tw44 hw) (nf_sel (tw46 hw)) (tw46 hw) (tw45 hw) (tw4 hw) (tw47 hw) E_a2 (lenOf pd_13 rfl) (rm_indexOf_100 hw Ts a2 a4 i3 i4 c2 cs sio h0 f Zf Z0 E_a2 F_coder_a2 F_value_a2 A_a4 r_i3 r_i4 x_i3_13 x_i4_13 S_cs S_sio hsio S__assertionsDisabled S_HI_BYTE_SHIFT S_LO_BYTE_SHIFT hcs) ?_
 rintro _ _ ⟨rfl, rfl⟩
 refine r_ifltT H 38 d_g70_2_15 ?_
 refine r_aloadN H 39 d_g70_2_38 ?_
 exact r_areturn H d_g70_2_39 (⟨rfl, rfl⟩)
def Q_compress_108 (Z : State) (a2 : Addr) (i1 : Int32) (i2 : Int32) (i3 : Int32) (c2 : ClassId) (h0 : Heap) (v : Option Value) (h : Heap) : Prop := (v = some (.int 3) ∧ (¬ (255 : Int32) < i1) ∧ (¬ (255 : Int32) < i2) ∧ (¬ (255 : Int32) < i3) ∧ Keep h0 h [a2] ∧ Ar Z h a2 c2 .byte [.int (cB8 i1), .int (cB8 i2), .int (cB8 i3)] ∧ Exa Z h a2 "[B") ∨ (v = some (.int 2) ∧ (¬ (255 : Int32) < i1) ∧ (¬ (255 : Int32) < i2) ∧ ((255 : Int32) < i3) ∧ Keep h0 h [a2] ∧ Ar Z h a2 c2 .byte [.int (cB8 i1), .int (cB8 i2), .int 0] ∧ Exa Z h a2 "[B") ∨ (v = some (.int 1) ∧ (¬ (255 : Int32) < i1) ∧ ((255 : Int32) < i2) ∧ Keep h0 h [a2] ∧ Ar Z h a2 c2 .byte [.int (cB8 i1), .int 0, .int 0] ∧ Exa Z h a2 "[B") ∨ (v = some (.int 0) ∧ ((255 : Int32) < i1) ∧ h0 = h)
def R_compress_108 : Room := { frames := 0, cells := 0, slots := 0, locals := 0 }
theorem rm_compress_108 {w : Bool} {Z : State} {a0 : Array Value} (hw : HW a0 Z) (Ts : List String) (a1 : Addr) (a2 : Addr) (i1 : Int32) (i2 : Int32) (i3 : Int32) (c1 : ClassId) (c2 : ClassId) (h0 : Heap) (f : Nat) (Zf : Z.heap.size ≤ f) (Z0 : f ≤ h0.size) (A_a1 : Ar Z h0 a1 c1 .char [.int i1, .int i2, .int i3]) (A_a2 : Ar Z h0 a2 c2 .byte [.int 0, .int 0, .int 0]) (g_a2 : f ≤ a2) (E_a2 : Exa Z h0 a2 "[B") (E_a1 : Exa Z h0 a1 "[C") (r_i1 : 0 ≤ i1.toInt ∧ i1.toInt ≤ 65535) (r_i2 : 0 ≤ i2.toInt ∧ i2.toInt ≤ 65535) (r_i3 : 0 ≤ i3.toInt ∧ i3.toInt ≤ 65535) :
  Con w [] Z (⟨"java/lang/StringUTF16", "compress", "([CI[BII)I"⟩ : MethodName) jdk_52_method_21_code 7 (some .int) R_compress_108 Ts Ts f #[.ref a1, .int 0, .ref a2, .int 0, .int 3] h0 (Q_compress_108 Z a2 i1 i2 i3 c2 h0) := by
 refine con_of f #[vR a1, vI 0, vR a2, vI 0, vI 3, .unset, .unset] (plainFor_of_name pn_2) (fun m => rfl) Zf ?_
 intro C H hX0
 refine r_iconst H 1 0 d_j52_21_0 ?_
 refine r_istore H 3 #[vR a1, vI 0, vR a2, vI 0, vI 3, vI 0, .unset] d_j52_21_1 ?_
 refine r_iload H 5 d_j52_21_3 ?_
 refine r_iload H 7 d_j52_21_5 ?_
 refine r_icmpgeF H 10 d_j52_21_7 ?_
 refine r_aloadN H 11 d_j52_21_10 ?_
 refine r_iloadN H 12 d_j52_21_11 ?_
 refine r_caload H 13 i1 d_j52_21_12 A_a1 ?_
 refine r_istore H 15 #[vR a1, vI 0, vR a2, vI 0, vI 3, vI 0, vI i1] d_j52_21_13 ?_
 refine r_iload H 17 d_j52_21_15 ?_
 refine r_sipush H 20 255 d_j52_21_17 ?_
 refine r_icmple H 26 23 d_j52_21_20 (fun c1 => ?_) (fun c1 => ?_)
 ·
  refine r_aloadN H 27 d_j52_21_26 ?_
  refine r_iloadN H 28 d_j52_21_27 ?_
  refine r_iload H 30 d_j52_21_28 ?_
  obtain ⟨p3, ep3, rp3⟩ : ∃ p : Int32, (i1.toInt8.toInt32) = p ∧ -128 ≤ p.toInt ∧ p.toInt ≤ 127 := ⟨_, rfl, (by have h := c_i2b i1; omega)⟩
  refine r_i2b H 31 p3 d_j52_21_30 ep3 ?_
  refine r_bastore H 32 p3 d_j52_21_31 A_a2 g_a2 (nar_byte_id (by have := rp3; omega)) ?_
  intro h4 K4 A4
  change Ar Z h4 a2 c2 .byte [.int p3, .int 0, .int 0] at A4
  refine r_iinc H 35 #[vR a1, vI 1, vR a2, vI 0, vI 3, vI 0, vI i1] 1 d_j52_21_32 ?_
  refine r_iinc H 38 #[vR a1, vI 1, vR a2, vI 1, vI 3, vI 0, vI i1] 1 d_j52_21_35 ?_
  refine r_iinc H 41 #[vR a1, vI 1, vR a2, vI 1, vI 3, vI 1, vI i1] 1 d_j52_21_38 ?_
  refine r_goto H 3 d_j52_21_41 ?_
  refine r_iload H 5 d_j52_21_3 ?_
  refine r_iload H 7 d_j52_21_5 ?_
  refine r_icmpgeF H 10 d_j52_21_7 ?_
  refine r_aloadN H 11 d_j52_21_10 ?_
  refine r_iloadN H 12 d_j52_21_11 ?_
  have q5 := (E_a1.keep K4)
  have q6 := (E_a2.keep K4)
  have q7 := (A_a1.keep K4 (ninS (ne_exa q5 q6 (by decide)) nin0))
  refine r_caload H 13 i2 d_j52_21_12 q7 ?_
  refine r_istore H 15 #[vR a1, vI 1, vR a2, vI 1, vI 3, vI 1, vI i2] d_j52_21_13 ?_
  refine r_iload H 17 d_j52_21_15 ?_
  refine r_sipush H 20 255 d_j52_21_17 ?_
  refine r_icmple H 26 23 d_j52_21_20 (fun c8 => ?_) (fun c8 => ?_)
  ·
   refine r_aloadN H 27 d_j52_21_26 ?_
   refine r_iloadN H 28 d_j52_21_27 ?_
   refine r_iload H 30 d_j52_21_28 ?_
   obtain ⟨p10, ep10, rp10⟩ : ∃ p : Int32, (i2.toInt8.toInt32) = p ∧ -128 ≤ p.toInt ∧ p.toInt ≤ 127 := ⟨_, rfl, (by have h := c_i2b i2; omega)⟩
   refine r_i2b H 31 p10 d_j52_21_30 ep10 ?_
   refine r_bastore H 32 p10 d_j52_21_31 A4 g_a2 (nar_byte_id (by have := rp10; omega)) ?_
   intro h11 K11 A11
   change Ar Z h11 a2 c2 .byte [.int p3, .int p10, .int 0] at A11
   refine r_iinc H 35 #[vR a1, vI 2, vR a2, vI 1, vI 3, vI 1, vI i2] 2 d_j52_21_32 ?_
   refine r_iinc H 38 #[vR a1, vI 2, vR a2, vI 2, vI 3, vI 1, vI i2] 2 d_j52_21_35 ?_
   refine r_iinc H 41 #[vR a1, vI 2, vR a2, vI 2, vI 3, vI 2, vI i2] 2 d_j52_21_38 ?_
   refine r_goto H 3 d_j52_21_41 ?_
   refine r_iload H 5 d_j52_21_3 ?_
   refine r_iload H 7 d_j52_21_5 ?_
   refine r_icmpgeF H 10 d_j52_21_7 ?_
   refine r_aloadN H 11 d_j52_21_10 ?_
   refine r_iloadN H 12 d_j52_21_11 ?_
   have q12 := (q5.keep K11)
   have q13 := (q6.keep K11)
   have q14 := (q7.keep K11 (ninS (ne_exa q12 q13 (by decide)) nin0))
   refine r_caload H 13 i3 d_j52_21_12 q14 ?_
   refine r_istore H 15 #[vR a1, vI 2, vR a2, vI 2, vI 3, vI 2, vI i3] d_j52_21_13 ?_
   refine r_iload H 17 d_j52_21_15 ?_
   refine r_sipush H 20 255 d_j52_21_17 ?_
   refine r_icmple H 26 23 d_j52_21_20 (fun c15 => ?_) (fun c15 => ?_)
   ·
    refine r_aloadN H 27 d_j52_21_26 ?_
    refine r_iloadN H 28 d_j52_21_27 ?_
    refine r_iload H 30 d_j52_21_28 ?_
    obtain ⟨p17, ep17, rp17⟩ : ∃ p : Int32, (i3.toInt8.toInt32) = p ∧ -128 ≤ p.toInt ∧ p.toInt ≤ 127 := ⟨_, rfl, (by have h := c_i2b i3; omega)⟩
    refine r_i2b H 31 p17 d_j52_21_30 ep17 ?_
    refine r_bastore H 32 p17 d_j52_21_31 A11 g_a2 (nar_byte_id (by have := rp17; omega)) ?_
    intro h18 K18 A18
    change Ar Z h18 a2 c2 .byte [.int p3, .int p10, .int p17] at A18
    refine r_iinc H 35 #[vR a1, vI 3, vR a2, vI 2, vI 3, vI 2, vI i3] 3 d_j52_21_32 ?_
    refine r_iinc H 38 #[vR a1, vI 3, vR a2, vI 3, vI 3, vI 2, vI i3] 3 d_j52_21_35 ?_
    refine r_iinc H 41 #[vR a1, vI 3, vR a2, vI 3, vI 3, vI 3, vI i3] 3 d_j52_21_38 ?_
    refine r_goto H 3 d_j52_21_41 ?_
    refine r_iload H 5 d_j52_21_3 ?_
    refine r_iload H 7 d_j52_21_5 ?_
    refine r_icmpgeT H 44 d_j52_21_7 ?_
    refine r_iload H 46 d_j52_21_44 ?_
    have k19 : Keep h0 h4 [a2] := Keep.trans (Keep.refl h0 [a2]) K4 (allS (Or.inl (List.mem_of_getElem? (i := 0) rfl)) all0)
    have k20 : Keep h0 h11 [a2] := Keep.trans k19 K11 (allS (Or.inl (List.mem_of_getElem? (i := 0) rfl)) all0)
    have k21 : Keep h0 h18 [a2] := Keep.trans k20 K18 (allS (Or.inl (List.mem_of_getElem? (i := 0) rfl)) all0)
    have q22 := (q13.keep K18)
    subst ep3 ep10 ep17
    exact r_ireturn H d_j52_21_46 (Or.inl ⟨rfl, c1, c8, c15, k21, A18, q22⟩)
   ·
    refine r_iload H 25 d_j52_21_23 ?_
    have k24 : Keep h0 h4 [a2] := Keep.trans (Keep.refl h0 [a2]) K4 (allS (Or.inl (List.mem_of_getElem? (i := 0) rfl)) all0)
    have k25 : Keep h0 h11 [a2] := Keep.trans k24 K11 (allS (Or.inl (List.mem_of_getElem? (i := 0) rfl)) all0)
    subst ep3 ep10
    exact r_ireturn H d_j52_21_25 (Or.inr (Or.inl ⟨rfl, c1, c8, c15, k25, A11, q13⟩))
  ·
   refine r_iload H 25 d_j52_21_23 ?_
   have k27 : Keep h0 h4 [a2] := Keep.trans (Keep.refl h0 [a2]) K4 (allS (Or.inl (List.mem_of_getElem? (i := 0) rfl)) all0)
   subst ep3
   exact r_ireturn H d_j52_21_25 (Or.inr (Or.inr (Or.inl ⟨rfl, c1, c8, k27, A4, q6⟩)))
 ·
  refine r_iload H 25 d_j52_21_23 ?_
  exact r_ireturn H d_j52_21_25 (Or.inr (Or.inr (Or.inr (⟨rfl, c1, rfl⟩))))
def Q_newBytesLength_111 (Z : State) (h0 : Heap) (v : Option Value) (h : Heap) : Prop := v = some (.int 6) ∧ h0 = h
def R_newBytesLength_111 : Room := { frames := 0, cells := 0, slots := 0, locals := 0 }
theorem rm_newBytesLength_111 {w : Bool} {Z : State} {a0 : Array Value} (hw : HW a0 Z) (Ts : List String) (h0 : Heap) (f : Nat) (Zf : Z.heap.size ≤ f) (Z0 : f ≤ h0.size) :
  Con w [] Z (⟨"java/lang/StringUTF16", "newBytesLength", "(I)I"⟩ : MethodName) jdk_52_method_3_code 1 (some .int) R_newBytesLength_111 Ts Ts f #[.int 3] h0 (Q_newBytesLength_111 Z h0) := by
 refine con_of f #[vI 3] (plainFor_of_name pn_2) (fun m => rfl) Zf ?_
 intro C H hX0
 refine r_iloadN H 1 d_j52_3_0 ?_
 refine r_ifgeT H 12 d_j52_3_1 ?_
 refine r_iloadN H 13 d_j52_3_12 ?_
 refine r_ldcI H 15 d_j52_3_13 (tw108 hw) ?_
 refine r_icmpltT H 55 d_j52_3_15 ?_
 refine r_iloadN H 56 d_j52_3_55 ?_
 refine r_iconst H 57 1 d_j52_3_56 ?_
 refine r_ishl H 58 6 d_j52_3_57 (by decide) ?_
 exact r_ireturn H d_j52_3_58 (⟨rfl, rfl⟩)
def Q_newBytesFor_110 (Z : State) (h0 : Heap) (v : Option Value) (h : Heap) : Prop := ∃ (b2 : Addr) (kc2 : ClassId), v = some (.ref b2) ∧ Keep h0 h [] ∧ h0.size ≤ b2 ∧ Ar Z h b2 kc2 .byte [.int 0, .int 0, .int 0, .int 0, .int 0, .int 0] ∧ Exa Z h b2 "[B"
def R_newBytesFor_110 : Room := { frames := 1, cells := 1, slots := 6, locals := 12 }
theorem rm_newBytesFor_110 {w : Bool} {Z : State} {a0 : Array Value} (hw : HW a0 Z) (Ts : List String) (h0 : Heap) (f : Nat) (Zf : Z.heap.size ≤ f) (Z0 : f ≤ h0.size) :
  Con w [] Z (⟨"java/lang/StringUTF16", "newBytesFor", "(I)[B"⟩ : MethodName) jdk_52_method_2_code 1 (some (.array .byte)) R_newBytesFor_110 Ts Ts f #[.int 3] h0 (Q_newBytesFor_110 Z h0) := by
 refine con_of f #[vI 3] (plainFor_of_name pn_2) (fun m => rfl) Zf ?_
 intro C H hX0
 refine r_iloadN H 1 d_j52_2_0 ?_
 refine r_static (argsL := [.int 3]) (rest := []) (W := 0) H 4 d_j52_2_1 (tw105 hw) (tw106 hw) (tw88 hw) (tw107 hw) (lenOf pd_13 rfl) (rm_newBytesLength_111 hw Ts h0 f Zf Z0) ?_
 rintro _ _ ⟨rfl, rfl⟩
 refine r_newP H 6 "[B" 6 d_j52_2_4 (tw16 hw) ?_
 intro h2 b2 kc2 g2 l2 K2 E2 A2
 change Ar Z h2 b2 kc2 .byte [.int 0, .int 0, .int 0, .int 0, .int 0, .int 0] at A2
 have k3 : Keep h0 h2 [] := Keep.trans (Keep.refl h0 []) K2 all0
 exact r_areturn H d_j52_2_6 (⟨b2, kc2, rfl, k3, (nlt nlr (Nat.le_of_eq g2.symm)), A2, E2⟩)
def Q_putChar_112 (Z : State) (a1 : Addr) (i1 : Int32) (i4 : Int32) (i5 : Int32) (i6 : Int32) (i7 : Int32) (c1 : ClassId) (h0 : Heap) (v : Option Value) (h : Heap) : Prop := v = none ∧ Keep h0 h [a1] ∧ Ar Z h a1 c1 .byte [.int (cL8 i1), .int (cH8 i1), .int i4, .int i5, .int i6, .int i7] ∧ Exa Z h a1 "[B"
def R_putChar_112 : Room := { frames := 0, cells := 0, slots := 0, locals := 0 }
theorem rm_putChar_112 {w : Bool} {Z : State} {a0 : Array Value} (hw : HW a0 Z) (Ts : List String) (a1 : Addr) (i1 : Int32) (i2 : Int32) (i3 : Int32) (i4 : Int32) (i5 : Int32) (i6 : Int32) (i7 : Int32) (c1 : ClassId) (h0 : Heap) (f : Nat) (Zf : Z.heap.size ≤ f) (Z0 : f ≤ h0.size) (A_a1 : Ar Z h0 a1 c1 .byte [.int i2, .int i3, .int i4, .int i5, .int i6, .int i7]) (g_a1 : f ≤ a1) (E_a1 : Exa Z h0 a1 "[B") (r_i1 : 0 ≤ i1.toInt ∧ i1.toInt ≤ 65535) (S__assertionsDisabled : G_S__assertionsDisabled Z) (S_HI_BYTE_SHIFT : G_S_HI_BYTE_SHIFT Z) (S_LO_BYTE_SHIFT : G_S_LO_BYTE_SHIFT Z) :
  Con w [] Z (⟨"java/lang/StringUTF16", "putChar", "([BII)V"⟩ : MethodName) jdk_52_method_4_code 3 none R_putChar_112 Ts Ts f #[.ref a1, .int 0, .int i1] h0 (Q_putChar_112 Z a1 i1 i4 i5 i6 i7 c1 h0) := by
 refine con_of f #[vR a1, vI 0, vI i1] (plainFor_of_name pn_2) (fun m => rfl) Zf ?_
 intro C H hX0
 refine r_gets H 3 d_j52_4_0 (tw112 hw) S__assertionsDisabled ?_
 refine r_ifneT H 28 d_j52_4_3 ?_
 refine r_iloadN H 29 d_j52_4_28 ?_
 refine r_iconst H 30 1 d_j52_4_29 ?_
 refine r_ishl H 31 0 d_j52_4_30 (by decide) ?_
 refine r_istoreN H 32 #[vR a1, vI 0, vI i1] d_j52_4_31 ?_
 refine r_aloadN H 33 d_j52_4_32 ?_
 refine r_iloadN H 34 d_j52_4_33 ?_
 refine r_iinc H 37 #[vR a1, vI 1, vI i1] 1 d_j52_4_34 ?_
 refine r_iloadN H 38 d_j52_4_37 ?_
 refine r_gets H 41 d_j52_4_38 (tw113 hw) S_HI_BYTE_SHIFT ?_
 obtain ⟨p1, ep1, rp1⟩ : ∃ p : Int32, (i1 >>> ((0 : Int32) &&& 31)) = p ∧ 0 ≤ p.toInt ∧ p.toInt ≤ 65535 := ⟨_, rfl, (by have := r_i1; have h1 := c_ishr i1 (0 : Int32) 0 (by decide); omega)⟩
 refine r_ishr H 42 p1 d_j52_4_41 ep1 ?_
 obtain ⟨p2, ep2, rp2⟩ : ∃ p : Int32, (p1.toInt8.toInt32) = p ∧ -128 ≤ p.toInt ∧ p.toInt ≤ 127 := ⟨_, rfl, (by have h := c_i2b p1; omega)⟩
 refine r_i2b H 43 p2 d_j52_4_42 ep2 ?_
 refine r_bastore H 44 p2 d_j52_4_43 A_a1 g_a1 (nar_byte_id (by have := rp2; omega)) ?_
 intro h3 K3 A3
 change Ar Z h3 a1 c1 .byte [.int p2, .int i3, .int i4, .int i5, .int i6, .int i7] at A3
 refine r_aloadN H 45 d_j52_4_44 ?_
 refine r_iloadN H 46 d_j52_4_45 ?_
 refine r_iloadN H 47 d_j52_4_46 ?_
 refine r_gets H 50 d_j52_4_47 (tw114 hw) S_LO_BYTE_SHIFT ?_
 obtain ⟨p4, ep4, rp4⟩ : ∃ p : Int32, (i1 >>> ((8 : Int32) &&& 31)) = p ∧ 0 ≤ p.toInt ∧ p.toInt ≤ 255 := ⟨_, rfl, (by have := r_i1; have h1 := c_ishr i1 (8 : Int32) 8 (by decide); omega)⟩
 refine r_ishr H 51 p4 d_j52_4_50 ep4 ?_
 obtain ⟨p5, ep5, rp5⟩ : ∃ p : Int32, (p4.toInt8.toInt32) = p ∧ -128 ≤ p.toInt ∧ p.toInt ≤ 127 := ⟨_, rfl, (by have h := c_i2b p4; omega)⟩
 refine r_i2b H 52 p5 d_j52_4_51 ep5 ?_
 refine r_bastore H 53 p5 d_j52_4_52 A3 g_a1 (nar_byte_id (by have := rp5; omega)) ?_
 intro h6 K6 A6
 have q7 := (E_a1.keep K3)
 change Ar Z h6 a1 c1 .byte [.int p2, .int p5, .int i4, .int i5, .int i6, .int i7] at A6
 have k8 : Keep h0 h3 [a1] := Keep.trans (Keep.refl h0 [a1]) K3 (allS (Or.inl (List.mem_of_getElem? (i := 0) rfl)) all0)
 have k9 : Keep h0 h6 [a1] := Keep.trans k8 K6 (allS (Or.inl (List.mem_of_getElem? (i := 0) rfl)) all0)
 have q10 := (q7.keep K6)
 subst ep1 ep2 ep4 ep5
 exact r_return H d_j52_4_53 (⟨rfl, k9, A6, q10⟩)
def Q_putChar_113 (Z : State) (a1 : Addr) (i1 : Int32) (i2 : Int32) (i3 : Int32) (i6 : Int32) (i7 : Int32) (c1 : ClassId) (h0 : Heap) (v : Option Value) (h : Heap) : Prop := v = none ∧ Keep h0 h [a1] ∧ Ar Z h a1 c1 .byte [.int i2, .int i3, .int (cL8 i1), .int (cH8 i1), .int i6, .int i7] ∧ Exa Z h a1 "[B"
def R_putChar_113 : Room := { frames := 0, cells := 0, slots := 0, locals := 0 }
theorem rm_putChar_113 {w : Bool} {Z : State} {a0 : Array Value} (hw : HW a0 Z) (Ts : List String) (a1 : Addr) (i1 : Int32) (i2 : Int32) (i3 : Int32) (i4 : Int32) (i5 : Int32) (i6 : Int32) (i7 : Int32) (c1 : ClassId) (h0 : Heap) (f : Nat) (Zf : Z.heap.size ≤ f) (Z0 : f ≤ h0.size) (A_a1 : Ar Z h0 a1 c1 .byte [.int i2, .int i3, .int i4, .int i5, .int i6, .int i7]) (g_a1 : f ≤ a1) (E_a1 : Exa Z h0 a1 "[B") (r_i1 : 0 ≤ i1.toInt ∧ i1.toInt ≤ 65535) (S__assertionsDisabled : G_S__assertionsDisabled Z) (S_HI_BYTE_SHIFT : G_S_HI_BYTE_SHIFT Z) (S_LO_BYTE_SHIFT : G_S_LO_BYTE_SHIFT Z) :
  Con w [] Z (⟨"java/lang/StringUTF16", "putChar", "([BII)V"⟩ : MethodName) jdk_52_method_4_code 3 none R_putChar_113 Ts Ts f #[.ref a1, .int 1, .int i1] h0 (Q_putChar_113 Z a1 i1 i2 i3 i6 i7 c1 h0) := by
 refine con_of f #[vR a1, vI 1, vI i1] (plainFor_of_name pn_2) (fun m => rfl) Zf ?_
 intro C H hX0
 refine r_gets H 3 d_j52_4_0 (tw112 hw) S__assertionsDisabled ?_
 refine r_ifneT H 28 d_j52_4_3 ?_
 refine r_iloadN H 29 d_j52_4_28 ?_
 refine r_iconst H 30 1 d_j52_4_29 ?_
 refine r_ishl H 31 2 d_j52_4_30 (by decide) ?_
 refine r_istoreN H 32 #[vR a1, vI 2, vI i1] d_j52_4_31 ?_
 refine r_aloadN H 33 d_j52_4_32 ?_
 refine r_iloadN H 34 d_j52_4_33 ?_
 refine r_iinc H 37 #[vR a1, vI 3, vI i1] 3 d_j52_4_34 ?_
 refine r_iloadN H 38 d_j52_4_37 ?_
 refine r_gets H 41 d_j52_4_38 (tw113 hw) S_HI_BYTE_SHIFT ?_
 obtain ⟨p1, ep1, rp1⟩ : ∃ p : Int32, (i1 >>> ((0 : Int32) &&& 31)) = p ∧ 0 ≤ p.toInt ∧ p.toInt ≤ 65535 := ⟨_, rfl, (by have := r_i1; have h1 := c_ishr i1 (0 : Int32) 0 (by decide); omega)⟩
 refine r_ishr H 42 p1 d_j52_4_41 ep1 ?_
 obtain ⟨p2, ep2, rp2⟩ : ∃ p : Int32, (p1.toInt8.toInt32) = p ∧ -128 ≤ p.toInt ∧ p.toInt ≤ 127 := ⟨_, rfl, (by have h := c_i2b p1; omega)⟩
 refine r_i2b H 43 p2 d_j52_4_42 ep2 ?_
 refine r_bastore H 44 p2 d_j52_4_43 A_a1 g_a1 (nar_byte_id (by have := rp2; omega)) ?_
 intro h3 K3 A3
 change Ar Z h3 a1 c1 .byte [.int i2, .int i3, .int p2, .int i5, .int i6, .int i7] at A3
 refine r_aloadN H 45 d_j52_4_44 ?_
 refine r_iloadN H 46 d_j52_4_45 ?_
 refine r_iloadN H 47 d_j52_4_46 ?_
 refine r_gets H 50 d_j52_4_47 (tw114 hw) S_LO_BYTE_SHIFT ?_
 obtain ⟨p4, ep4, rp4⟩ : ∃ p : Int32, (i1 >>> ((8 : Int32) &&& 31)) = p ∧ 0 ≤ p.toInt ∧ p.toInt ≤ 255 := ⟨_, rfl, (by have := r_i1; have h1 := c_ishr i1 (8 : Int32) 8 (by decide); omega)⟩
 refine r_ishr H 51 p4 d_j52_4_50 ep4 ?_
 obtain ⟨p5, ep5, rp5⟩ : ∃ p : Int32, (p4.toInt8.toInt32) = p ∧ -128 ≤ p.toInt ∧ p.toInt ≤ 127 := ⟨_, rfl, (by have h := c_i2b p4; omega)⟩
 refine r_i2b H 52 p5 d_j52_4_51 ep5 ?_
 refine r_bastore H 53 p5 d_j52_4_52 A3 g_a1 (nar_byte_id (by have := rp5; omega)) ?_
 intro h6 K6 A6
 have q7 := (E_a1.keep K3)
 change Ar Z h6 a1 c1 .byte [.int i2, .int i3, .int p2, .int p5, .int i6, .int i7] at A6
 have k8 : Keep h0 h3 [a1] := Keep.trans (Keep.refl h0 [a1]) K3 (allS (Or.inl (List.mem_of_getElem? (i := 0) rfl)) all0)
 have k9 : Keep h0 h6 [a1] := Keep.trans k8 K6 (allS (Or.inl (List.mem_of_getElem? (i := 0) rfl)) all0)
 have q10 := (q7.keep K6)
 subst ep1 ep2 ep4 ep5
 exact r_return H d_j52_4_53 (⟨rfl, k9, A6, q10⟩)
def Q_putChar_114 (Z : State) (a1 : Addr) (i1 : Int32) (i2 : Int32) (i3 : Int32) (i4 : Int32) (i5 : Int32) (c1 : ClassId) (h0 : Heap) (v : Option Value) (h : Heap) : Prop := v = none ∧ Keep h0 h [a1] ∧ Ar Z h a1 c1 .byte [.int i2, .int i3, .int i4, .int i5, .int (cL8 i1), .int (cH8 i1)] ∧ Exa Z h a1 "[B"
def R_putChar_114 : Room := { frames := 0, cells := 0, slots := 0, locals := 0 }
theorem rm_putChar_114 {w : Bool} {Z : State} {a0 : Array Value} (hw : HW a0 Z) (Ts : List String) (a1 : Addr) (i1 : Int32) (i2 : Int32) (i3 : Int32) (i4 : Int32) (i5 : Int32) (i6 : Int32) (i7 : Int32) (c1 : ClassId) (h0 : Heap) (f : Nat) (Zf : Z.heap.size ≤ f) (Z0 : f ≤ h0.size) (A_a1 : Ar Z h0 a1 c1 .byte [.int i2, .int i3, .int i4, .int i5, .int i6, .int i7]) (g_a1 : f ≤ a1) (E_a1 : Exa Z h0 a1 "[B") (r_i1 : 0 ≤ i1.toInt ∧ i1.toInt ≤ 65535) (S__assertionsDisabled : G_S__assertionsDisabled Z) (S_HI_BYTE_SHIFT : G_S_HI_BYTE_SHIFT Z) (S_LO_BYTE_SHIFT : G_S_LO_BYTE_SHIFT Z) :
  Con w [] Z (⟨"java/lang/StringUTF16", "putChar", "([BII)V"⟩ : MethodName) jdk_52_method_4_code 3 none R_putChar_114 Ts Ts f #[.ref a1, .int 2, .int i1] h0 (Q_putChar_114 Z a1 i1 i2 i3 i4 i5 c1 h0) := by
 refine con_of f #[vR a1, vI 2, vI i1] (plainFor_of_name pn_2) (fun m => rfl) Zf ?_
 intro C H hX0
 refine r_gets H 3 d_j52_4_0 (tw112 hw) S__assertionsDisabled ?_
 refine r_ifneT H 28 d_j52_4_3 ?_
 refine r_iloadN H 29 d_j52_4_28 ?_
 refine r_iconst H 30 1 d_j52_4_29 ?_
 refine r_ishl H 31 4 d_j52_4_30 (by decide) ?_
 refine r_istoreN H 32 #[vR a1, vI 4, vI i1] d_j52_4_31 ?_
 refine r_aloadN H 33 d_j52_4_32 ?_
 refine r_iloadN H 34 d_j52_4_33 ?_
 refine r_iinc H 37 #[vR a1, vI 5, vI i1] 5 d_j52_4_34 ?_
 refine r_iloadN H 38 d_j52_4_37 ?_
 refine r_gets H 41 d_j52_4_38 (tw113 hw) S_HI_BYTE_SHIFT ?_
 obtain ⟨p1, ep1, rp1⟩ : ∃ p : Int32, (i1 >>> ((0 : Int32) &&& 31)) = p ∧ 0 ≤ p.toInt ∧ p.toInt ≤ 65535 := ⟨_, rfl, (by have := r_i1; have h1 := c_ishr i1 (0 : Int32) 0 (by decide); omega)⟩
 refine r_ishr H 42 p1 d_j52_4_41 ep1 ?_
 obtain ⟨p2, ep2, rp2⟩ : ∃ p : Int32, (p1.toInt8.toInt32) = p ∧ -128 ≤ p.toInt ∧ p.toInt ≤ 127 := ⟨_, rfl, (by have h := c_i2b p1; omega)⟩
 refine r_i2b H 43 p2 d_j52_4_42 ep2 ?_
 refine r_bastore H 44 p2 d_j52_4_43 A_a1 g_a1 (nar_byte_id (by have := rp2; omega)) ?_
 intro h3 K3 A3
 change Ar Z h3 a1 c1 .byte [.int i2, .int i3, .int i4, .int i5, .int p2, .int i7] at A3
 refine r_aloadN H 45 d_j52_4_44 ?_
 refine r_iloadN H 46 d_j52_4_45 ?_
 refine r_iloadN H 47 d_j52_4_46 ?_
 refine r_gets H 50 d_j52_4_47 (tw114 hw) S_LO_BYTE_SHIFT ?_
 obtain ⟨p4, ep4, rp4⟩ : ∃ p : Int32, (i1 >>> ((8 : Int32) &&& 31)) = p ∧ 0 ≤ p.toInt ∧ p.toInt ≤ 255 := ⟨_, rfl, (by have := r_i1; have h1 := c_ishr i1 (8 : Int32) 8 (by decide); omega)⟩
 refine r_ishr H 51 p4 d_j52_4_50 ep4 ?_
 obtain ⟨p5, ep5, rp5⟩ : ∃ p : Int32, (p4.toInt8.toInt32) = p ∧ -128 ≤ p.toInt ∧ p.toInt ≤ 127 := ⟨_, rfl, (by have h := c_i2b p4; omega)⟩
 refine r_i2b H 52 p5 d_j52_4_51 ep5 ?_
 refine r_bastore H 53 p5 d_j52_4_52 A3 g_a1 (nar_byte_id (by have := rp5; omega)) ?_
 intro h6 K6 A6
 have q7 := (E_a1.keep K3)
 change Ar Z h6 a1 c1 .byte [.int i2, .int i3, .int i4, .int i5, .int p2, .int p5] at A6
 have k8 : Keep h0 h3 [a1] := Keep.trans (Keep.refl h0 [a1]) K3 (allS (Or.inl (List.mem_of_getElem? (i := 0) rfl)) all0)
 have k9 : Keep h0 h6 [a1] := Keep.trans k8 K6 (allS (Or.inl (List.mem_of_getElem? (i := 0) rfl)) all0)
 have q10 := (q7.keep K6)
 subst ep1 ep2 ep4 ep5
 exact r_return H d_j52_4_53 (⟨rfl, k9, A6, q10⟩)
def Q_toBytes_109 (Z : State) (i1 : Int32) (i2 : Int32) (i3 : Int32) (h0 : Heap) (v : Option Value) (h : Heap) : Prop := ∃ (b1 : Addr) (kc2 : ClassId), v = some (.ref b1) ∧ Keep h0 h [] ∧ h0.size ≤ b1 ∧ Ar Z h b1 kc2 .byte [.int (cL8 i1), .int (cH8 i1), .int (cL8 i2), .int (cH8 i2), .int (cL8 i3), .int (cH8 i3)] ∧ Exa Z h b1 "[B"
def R_toBytes_109 : Room := { frames := 2, cells := 1, slots := 6, locals := 24 }
theorem rm_toBytes_109 {w : Bool} {Z : State} {a0 : Array Value} (hw : HW a0 Z) (Ts : List String) (a1 : Addr) (i1 : Int32) (i2 : Int32) (i3 : Int32) (c1 : ClassId) (h0 : Heap) (f : Nat) (Zf : Z.heap.size ≤ f) (Z0 : f ≤ h0.size) (A_a1 : Ar Z h0 a1 c1 .char [.int i1, .int i2, .int i3]) (r_i1 : 0 ≤ i1.toInt ∧ i1.toInt ≤ 255) (r_i2 : 0 ≤ i2.toInt ∧ i2.toInt ≤ 255) (r_i3 : 256 ≤ i3.toInt ∧ i3.toInt ≤ 65535) (S__assertionsDisabled : G_S__assertionsDisabled Z) (S_HI_BYTE_SHIFT : G_S_HI_BYTE_SHIFT Z) (S_LO_BYTE_SHIFT : G_S_LO_BYTE_SHIFT Z) :
  Con w [] Z (⟨"java/lang/StringUTF16", "toBytes", "([CII)[B"⟩ : MethodName) jdk_52_method_14_code 5 (some (.array .byte)) R_toBytes_109 Ts Ts f #[.ref a1, .int 0, .int 3] h0 (Q_toBytes_109 Z i1 i2 i3 h0) := by
 refine con_of f #[vR a1, vI 0, vI 3, .unset, .unset] (plainFor_of_name pn_2) (fun m => rfl) Zf ?_
 intro C H hX0
 refine r_iloadN H 1 d_j52_14_0 ?_
 refine r_static (argsL := [.int 3]) (rest := []) (W := 0) H 4 d_j52_14_1 (tw102 hw) (tw103 hw) (tw88 hw) (tw104 hw) (lenOf pd_17 rfl) (rm_newBytesFor_110 hw Ts h0 f Zf Z0) ?_
 rintro _ hh7 ⟨b1, kc2, rfl, K3, g4, q5, q6⟩
 refine r_astoreN H 5 #[vR a1, vI 0, vI 3, vR b1, .unset] d_j52_14_4 ?_
 refine r_iconst H 6 0 d_j52_14_5 ?_
 refine r_istore H 8 #[vR a1, vI 0, vI 3, vR b1, vI 0] d_j52_14_6 ?_
 refine r_iload H 10 d_j52_14_8 ?_
 refine r_iloadN H 11 d_j52_14_10 ?_
 refine r_icmpgeF H 14 d_j52_14_11 ?_
 refine r_aloadN H 15 d_j52_14_14 ?_
 refine r_iload H 17 d_j52_14_15 ?_
 refine r_aloadN H 18 d_j52_14_17 ?_
 refine r_iloadN H 19 d_j52_14_18 ?_
 have q8 := (A_a1.keep K3 nin0)
 refine r_caload H 20 i1 d_j52_14_19 q8 ?_
 refine r_static (argsL := [.ref b1, .int 0, .int i1]) (rest := []) (W := 0) H 23 d_j52_14_20 (tw109 hw) (tw110 hw) (tw88 hw) (tw111 hw) (lenOf pd_3 rfl) (rm_putChar_112 hw Ts b1 i1 (0 : Int32) (0 : Int32) (0 : Int32) (0 : Int32) (0 : Int32) (0 : Int32) kc2 hh7 f Zf (nlt Z0 K3.1) q5 (nlt Z0 g4) q6 (by have := r_i1; omega) S__assertionsDisabled S_HI_BYTE_SHIFT S_LO_BYTE_SHIFT) ?_
 rintro _ hh12 ⟨rfl, K9, q10, q11⟩
 refine r_iinc H 26 #[vR a1, vI 1, vI 3, vR b1, vI 0] 1 d_j52_14_23 ?_
 refine r_iinc H 29 #[vR a1, vI 1, vI 3, vR b1, vI 1] 1 d_j52_14_26 ?_
 refine r_goto H 8 d_j52_14_29 ?_
 refine r_iload H 10 d_j52_14_8 ?_
 refine r_iloadN H 11 d_j52_14_10 ?_
 refine r_icmpgeF H 14 d_j52_14_11 ?_
 refine r_aloadN H 15 d_j52_14_14 ?_
 refine r_iload H 17 d_j52_14_15 ?_
 refine r_aloadN H 18 d_j52_14_17 ?_
 refine r_iloadN H 19 d_j52_14_18 ?_
 have q13 := (q8.keep K9 (ninS (Nat.ne_of_lt (Nat.lt_of_lt_of_le A_a1.lt (nlt nlr g4))) nin0))
 refine r_caload H 20 i2 d_j52_14_19 q13 ?_
 have z14 := Nat.le_trans K3.1 K9.1
 refine r_static (argsL := [.ref b1, .int 1, .int i2]) (rest := []) (W := 0) H 23 d_j52_14_20 (tw109 hw) (tw110 hw) (tw88 hw) (tw111 hw) (lenOf pd_3 rfl) (rm_putChar_113 hw Ts b1 i2 (cL8 i1) (cH8 i1) (0 : Int32) (0 : Int32) (0 : Int32) (0 : Int32) kc2 hh12 f Zf (nlt Z0 z14) q10 (nlt Z0 g4) q11 (by have := r_i2; omega) S__assertionsDisabled S_HI_BYTE_SHIFT S_LO_BYTE_SHIFT) ?_
 rintro _ hh18 ⟨rfl, K15, q16, q17⟩
 refine r_iinc H 26 #[vR a1, vI 2, vI 3, vR b1, vI 1] 2 d_j52_14_23 ?_
 refine r_iinc H 29 #[vR a1, vI 2, vI 3, vR b1, vI 2] 2 d_j52_14_26 ?_
 refine r_goto H 8 d_j52_14_29 ?_
 refine r_iload H 10 d_j52_14_8 ?_
 refine r_iloadN H 11 d_j52_14_10 ?_
 refine r_icmpgeF H 14 d_j52_14_11 ?_
 refine r_aloadN H 15 d_j52_14_14 ?_
 refine r_iload H 17 d_j52_14_15 ?_
 refine r_aloadN H 18 d_j52_14_17 ?_
 refine r_iloadN H 19 d_j52_14_18 ?_
 have q19 := (q13.keep K15 (ninS (Nat.ne_of_lt (Nat.lt_of_lt_of_le A_a1.lt (nlt nlr g4))) nin0))
 refine r_caload H 20 i3 d_j52_14_19 q19 ?_
 have z20 := Nat.le_trans z14 K15.1
 refine r_static (argsL := [.ref b1, .int 2, .int i3]) (rest := []) (W := 0) H 23 d_j52_14_20 (tw109 hw) (tw110 hw) (tw88 hw) (tw111 hw) (lenOf pd_3 rfl) (rm_putChar_114 hw Ts b1 i3 (cL8 i1) (cH8 i1) (cL8 i2) (cH8 i2) (0 : Int32) (0 : Int32) kc2 hh18 f Zf (nlt Z0 z20) q16 (nlt Z0 g4) q17 (by have := r_i3; omega) S__assertionsDisabled S_HI_BYTE_SHIFT S_LO_BYTE_SHIFT) ?_
 rintro _ hh24 ⟨rfl, K21, q22, q23⟩
 refine r_iinc H 26 #[vR a1, vI 3, vI 3, vR b1, vI 2] 3 d_j52_14_23 ?_
 refine r_iinc H 29 #[vR a1, vI 3, vI 3, vR b1, vI 3] 3 d_j52_14_26 ?_
 refine r_goto H 8 d_j52_14_29 ?_
 refine r_iload H 10 d_j52_14_8 ?_
 refine r_iloadN H 11 d_j52_14_10 ?_
 refine r_icmpgeT H 32 d_j52_14_11 ?_
 refine r_aloadN H 33 d_j52_14_32 ?_
 have k25 : Keep h0 hh7 [] := Keep.trans (Keep.refl h0 []) K3 all0
 have k26 : Keep h0 hh12 [] := Keep.trans k25 K9 (allS (Or.inr (nlt nlr g4)) all0)
 have k27 : Keep h0 hh18 [] := Keep.trans k26 K15 (allS (Or.inr (nlt nlr g4)) all0)
 have k28 : Keep h0 hh24 [] := Keep.trans k27 K21 (allS (Or.inr (nlt nlr g4)) all0)
 exact r_areturn H d_j52_14_33 (⟨b1, kc2, rfl, k28, (nlt nlr g4), q22, q23⟩)
def Q_getChar_115 (Z : State) (i5 : Int32) (i6 : Int32) (h0 : Heap) (v : Option Value) (h : Heap) : Prop := ∃ (z : Int32), v = some (.int z) ∧ ((((i5 &&& (255 : Int32)) <<< ((0 : Int32) &&& 31)) ||| ((i6 &&& (255 : Int32)) <<< ((8 : Int32) &&& 31))).toUInt32.toUInt16.toUInt32.toInt32) = z ∧ (0 ≤ z.toInt ∧ z.toInt ≤ 65535) ∧ h0 = h
def R_getChar_115 : Room := { frames := 0, cells := 0, slots := 0, locals := 0 }
theorem rm_getChar_115 {w : Bool} {Z : State} {a0 : Array Value} (hw : HW a0 Z) (Ts : List String) (a1 : Addr) (i1 : Int32) (i2 : Int32) (i3 : Int32) (i4 : Int32) (i5 : Int32) (i6 : Int32) (c1 : ClassId) (h0 : Heap) (f : Nat) (Zf : Z.heap.size ≤ f) (Z0 : f ≤ h0.size) (A_a1 : Ar Z h0 a1 c1 .byte [.int i1, .int i2, .int i3, .int i4, .int i5, .int i6]) (S__assertionsDisabled : G_S__assertionsDisabled Z) (S_HI_BYTE_SHIFT : G_S_HI_BYTE_SHIFT Z) (S_LO_BYTE_SHIFT : G_S_LO_BYTE_SHIFT Z) :
  Con w [] Z (⟨"java/lang/StringUTF16", "getChar", "([BI)C"⟩ : MethodName) jdk_52_method_5_code 2 (some .char) R_getChar_115 Ts Ts f #[.ref a1, .int 2] h0 (Q_getChar_115 Z i5 i6 h0) := by
 refine con_of f #[vR a1, vI 2] (plainFor_of_name pn_2) (fun m => rfl) Zf ?_
 intro C H hX0
 refine r_gets H 3 d_j52_5_0 (tw112 hw) S__assertionsDisabled ?_
 refine r_ifneT H 28 d_j52_5_3 ?_
 refine r_iloadN H 29 d_j52_5_28 ?_
 refine r_iconst H 30 1 d_j52_5_29 ?_
 refine r_ishl H 31 4 d_j52_5_30 (by decide) ?_
 refine r_istoreN H 32 #[vR a1, vI 4] d_j52_5_31 ?_
 refine r_aloadN H 33 d_j52_5_32 ?_
 refine r_iloadN H 34 d_j52_5_33 ?_
 refine r_iinc H 37 #[vR a1, vI 5] 5 d_j52_5_34 ?_
 refine r_baload H 38 i5 d_j52_5_37 A_a1 ?_
 refine r_sipush H 41 255 d_j52_5_38 ?_
 obtain ⟨p1, ep1, rp1⟩ : ∃ p : Int32, (i5 &&& (255 : Int32)) = p ∧ 0 ≤ p.toInt ∧ p.toInt ≤ 255 := ⟨_, rfl, (by have h := c_and i5 (255 : Int32) (by decide); have : (255 : Int32).toInt = 255 := (by decide); omega)⟩
 refine r_iand H 42 p1 d_j52_5_41 ep1 ?_
 refine r_gets H 45 d_j52_5_42 (tw113 hw) S_HI_BYTE_SHIFT ?_
 refine r_ishl H 46 (p1 <<< ((0 : Int32) &&& 31)) d_j52_5_45 rfl ?_
 refine r_aloadN H 47 d_j52_5_46 ?_
 refine r_iloadN H 48 d_j52_5_47 ?_
 refine r_baload H 49 i6 d_j52_5_48 A_a1 ?_
 refine r_sipush H 52 255 d_j52_5_49 ?_
 obtain ⟨p2, ep2, rp2⟩ : ∃ p : Int32, (i6 &&& (255 : Int32)) = p ∧ 0 ≤ p.toInt ∧ p.toInt ≤ 255 := ⟨_, rfl, (by have h := c_and i6 (255 : Int32) (by decide); have : (255 : Int32).toInt = 255 := (by decide); omega)⟩
 refine r_iand H 53 p2 d_j52_5_52 ep2 ?_
 refine r_gets H 56 d_j52_5_53 (tw114 hw) S_LO_BYTE_SHIFT ?_
 refine r_ishl H 57 (p2 <<< ((8 : Int32) &&& 31)) d_j52_5_56 rfl ?_
 refine r_ior H 58 ((p1 <<< ((0 : Int32) &&& 31)) ||| (p2 <<< ((8 : Int32) &&& 31))) d_j52_5_57 ?_
 obtain ⟨p3, ep3, rp3⟩ : ∃ p : Int32, (((p1 <<< ((0 : Int32) &&& 31)) ||| (p2 <<< ((8 : Int32) &&& 31))).toUInt32.toUInt16.toUInt32.toInt32) = p ∧ 0 ≤ p.toInt ∧ p.toInt ≤ 65535 := ⟨_, rfl, (by have h := c_i2c ((p1 <<< ((0 : Int32) &&& 31)) ||| (p2 <<< ((8 : Int32) &&& 31))); omega)⟩
 refine r_i2c H 59 p3 d_j52_5_58 ep3 ?_
 subst ep1 ep2 ep3
 exact r_nreturn ((((i5 &&& (255 : Int32)) <<< ((0 : Int32) &&& 31)) ||| ((i6 &&& (255 : Int32)) <<< ((8 : Int32) &&& 31))).toUInt32.toUInt16.toUInt32.toInt32) H d_j52_5_59 (nar_char_id (by have := rp3; omega)) nlr (fun _ t => t) (⟨_, rfl, rfl, (by have := rp3; omega), rfl⟩)
def Q_toBytes_116 (Z : State) (i1 : Int32) (i2 : Int32) (i3 : Int32) (h0 : Heap) (v : Option Value) (h : Heap) : Prop := ∃ (b1 : Addr) (kc2 : ClassId), v = some (.ref b1) ∧ Keep h0 h [] ∧ h0.size ≤ b1 ∧ Ar Z h b1 kc2 .byte [.int (cL8 i1), .int (cH8 i1), .int (cL8 i2), .int (cH8 i2), .int (cL8 i3), .int (cH8 i3)] ∧ Exa Z h b1 "[B"
def R_toBytes_116 : Room := { frames := 2, cells := 1, slots := 6, locals := 24 }
theorem rm_toBytes_116 {w : Bool} {Z : State} {a0 : Array Value} (hw : HW a0 Z) (Ts : List String) (a1 : Addr) (i1 : Int32) (i2 : Int32) (i3 : Int32) (c1 : ClassId) (h0 : Heap) (f : Nat) (Zf : Z.heap.size ≤ f) (Z0 : f ≤ h0.size) (A_a1 : Ar Z h0 a1 c1 .char [.int i1, .int i2, .int i3]) (r_i1 : 0 ≤ i1.toInt ∧ i1.toInt ≤ 255) (r_i2 : 256 ≤ i2.toInt ∧ i2.toInt ≤ 65535) (r_i3 : 0 ≤ i3.toInt ∧ i3.toInt ≤ 65535) (S__assertionsDisabled : G_S__assertionsDisabled Z) (S_HI_BYTE_SHIFT : G_S_HI_BYTE_SHIFT Z) (S_LO_BYTE_SHIFT : G_S_LO_BYTE_SHIFT Z) :
  Con w [] Z (⟨"java/lang/StringUTF16", "toBytes", "([CII)[B"⟩ : MethodName) jdk_52_method_14_code 5 (some (.array .byte)) R_toBytes_116 Ts Ts f #[.ref a1, .int 0, .int 3] h0 (Q_toBytes_116 Z i1 i2 i3 h0) := by
 refine con_of f #[vR a1, vI 0, vI 3, .unset, .unset] (plainFor_of_name pn_2) (fun m => rfl) Zf ?_
 intro C H hX0
 refine r_iloadN H 1 d_j52_14_0 ?_
 refine r_static (argsL := [.int 3]) (rest := []) (W := 0) H 4 d_j52_14_1 (tw102 hw) (tw103 hw) (tw88 hw) (tw104 hw) (lenOf pd_17 rfl) (rm_newBytesFor_110 hw Ts h0 f Zf Z0) ?_
 rintro _ hh7 ⟨b1, kc2, rfl, K3, g4, q5, q6⟩
 refine r_astoreN H 5 #[vR a1, vI 0, vI 3, vR b1, .unset] d_j52_14_4 ?_
 refine r_iconst H 6 0 d_j52_14_5 ?_
 refine r_istore H 8 #[vR a1, vI 0, vI 3, vR b1, vI 0] d_j52_14_6 ?_
 refine r_iload H 10 d_j52_14_8 ?_
 refine r_iloadN H 11 d_j52_14_10 ?_
 refine r_icmpgeF H 14 d_j52_14_11 ?_
 refine r_aloadN H 15 d_j52_14_14 ?_
 refine r_iload H 17 d_j52_14_15 ?_
 refine r_aloadN H 18 d_j52_14_17 ?_
 refine r_iloadN H 19 d_j52_14_18 ?_
 have q8 := (A_a1.keep K3 nin0)
 refine r_caload H 20 i1 d_j52_14_19 q8 ?_
 refine r_static (argsL := [.ref b1, .int 0, .int i1]) (rest := []) (W := 0) H 23 d_j52_14_20 (tw109 hw) (tw110 hw) (tw88 hw) (tw111 hw) (lenOf pd_3 rfl) (rm_putChar_112 hw Ts b1 i1 (0 : Int32) (0 : Int32) (0 : Int32) (0 : Int32) (0 : Int32) (0 : Int32) kc2 hh7 f Zf (nlt Z0 K3.1) q5 (nlt Z0 g4) q6 (by have := r_i1; omega) S__assertionsDisabled S_HI_BYTE_SHIFT S_LO_BYTE_SHIFT) ?_
 rintro _ hh12 ⟨rfl, K9, q10, q11⟩
 refine r_iinc H 26 #[vR a1, vI 1, vI 3, vR b1, vI 0] 1 d_j52_14_23 ?_
 refine r_iinc H 29 #[vR a1, vI 1, vI 3, vR b1, vI 1] 1 d_j52_14_26 ?_
 refine r_goto H 8 d_j52_14_29 ?_
 refine r_iload H 10 d_j52_14_8 ?_
 refine r_iloadN H 11 d_j52_14_10 ?_
 refine r_icmpgeF H 14 d_j52_14_11 ?_
 refine r_aloadN H 15 d_j52_14_14 ?_
 refine r_iload H 17 d_j52_14_15 ?_
 refine r_aloadN H 18 d_j52_14_17 ?_
 refine r_iloadN H 19 d_j52_14_18 ?_
 have q13 := (q8.keep K9 (ninS (Nat.ne_of_lt (Nat.lt_of_lt_of_le A_a1.lt (nlt nlr g4))) nin0))
 refine r_caload H 20 i2 d_j52_14_19 q13 ?_
 have z14 := Nat.le_trans K3.1 K9.1
 refine r_static (argsL := [.ref b1, .int 1, .int i2]) (rest := []) (W := 0) H 23 d_j52_14_20 (tw109 hw) (tw110 hw) (tw88 hw) (tw111 hw) (lenOf pd_3 rfl) (rm_putChar_113 hw Ts b1 i2 (cL8 i1) (cH8 i1) (0 : Int32) (0 : Int32) (0 : Int32) (0 : Int32) kc2 hh12 f Zf (nlt Z0 z14) q10 (nlt Z0 g4) q11 (by have := r_i2; omega) S__assertionsDisabled S_HI_BYTE_SHIFT S_LO_BYTE_SHIFT) ?_
 rintro _ hh18 ⟨rfl, K15, q16, q17⟩
 refine r_iinc H 26 #[vR a1, vI 2, vI 3, vR b1, vI 1] 2 d_j52_14_23 ?_
 refine r_iinc H 29 #[vR a1, vI 2, vI 3, vR b1, vI 2] 2 d_j52_14_26 ?_
 refine r_goto H 8 d_j52_14_29 ?_
 refine r_iload H 10 d_j52_14_8 ?_
 refine r_iloadN H 11 d_j52_14_10 ?_
 refine r_icmpgeF H 14 d_j52_14_11 ?_
 refine r_aloadN H 15 d_j52_14_14 ?_
 refine r_iload H 17 d_j52_14_15 ?_
 refine r_aloadN H 18 d_j52_14_17 ?_
 refine r_iloadN H 19 d_j52_14_18 ?_
 have q19 := (q13.keep K15 (ninS (Nat.ne_of_lt (Nat.lt_of_lt_of_le A_a1.lt (nlt nlr g4))) nin0))
 refine r_caload H 20 i3 d_j52_14_19 q19 ?_
 have z20 := Nat.le_trans z14 K15.1
 refine r_static (argsL := [.ref b1, .int 2, .int i3]) (rest := []) (W := 0) H 23 d_j52_14_20 (tw109 hw) (tw110 hw) (tw88 hw) (tw111 hw) (lenOf pd_3 rfl) (rm_putChar_114 hw Ts b1 i3 (cL8 i1) (cH8 i1) (cL8 i2) (cH8 i2) (0 : Int32) (0 : Int32) kc2 hh18 f Zf (nlt Z0 z20) q16 (nlt Z0 g4) q17 (by have := r_i3; omega) S__assertionsDisabled S_HI_BYTE_SHIFT S_LO_BYTE_SHIFT) ?_
 rintro _ hh24 ⟨rfl, K21, q22, q23⟩
 refine r_iinc H 26 #[vR a1, vI 3, vI 3, vR b1, vI 2] 3 d_j52_14_23 ?_
 refine r_iinc H 29 #[vR a1, vI 3, vI 3, vR b1, vI 3] 3 d_j52_14_26 ?_
 refine r_goto H 8 d_j52_14_29 ?_
 refine r_iload H 10 d_j52_14_8 ?_
 refine r_iloadN H 11 d_j52_14_10 ?_
 refine r_icmpgeT H 32 d_j52_14_11 ?_
 refine r_aloadN H 33 d_j52_14_32 ?_
 have k25 : Keep h0 hh7 [] := Keep.trans (Keep.refl h0 []) K3 all0
 have k26 : Keep h0 hh12 [] := Keep.trans k25 K9 (allS (Or.inr (nlt nlr g4)) all0)
 have k27 : Keep h0 hh18 [] := Keep.trans k26 K15 (allS (Or.inr (nlt nlr g4)) all0)
 have k28 : Keep h0 hh24 [] := Keep.trans k27 K21 (allS (Or.inr (nlt nlr g4)) all0)
 exact r_areturn H d_j52_14_33 (⟨b1, kc2, rfl, k28, (nlt nlr g4), q22, q23⟩)
def Q_getChar_117 (Z : State) (i3 : Int32) (i4 : Int32) (h0 : Heap) (v : Option Value) (h : Heap) : Prop := ∃ (z : Int32), v = some (.int z) ∧ ((((i3 &&& (255 : Int32)) <<< ((0 : Int32) &&& 31)) ||| ((i4 &&& (255 : Int32)) <<< ((8 : Int32) &&& 31))).toUInt32.toUInt16.toUInt32.toInt32) = z ∧ (0 ≤ z.toInt ∧ z.toInt ≤ 65535) ∧ h0 = h
def R_getChar_117 : Room := { frames := 0, cells := 0, slots := 0, locals := 0 }
theorem rm_getChar_117 {w : Bool} {Z : State} {a0 : Array Value} (hw : HW a0 Z) (Ts : List String) (a1 : Addr) (i1 : Int32) (i2 : Int32) (i3 : Int32) (i4 : Int32) (i5 : Int32) (i6 : Int32) (c1 : ClassId) (h0 : Heap) (f : Nat) (Zf : Z.heap.size ≤ f) (Z0 : f ≤ h0.size) (A_a1 : Ar Z h0 a1 c1 .byte [.int i1, .int i2, .int i3, .int i4, .int i5, .int i6]) (S__assertionsDisabled : G_S__assertionsDisabled Z) (S_HI_BYTE_SHIFT : G_S_HI_BYTE_SHIFT Z) (S_LO_BYTE_SHIFT : G_S_LO_BYTE_SHIFT Z) :
  Con w [] Z (⟨"java/lang/StringUTF16", "getChar", "([BI)C"⟩ : MethodName) jdk_52_method_5_code 2 (some .char) R_getChar_117 Ts Ts f #[.ref a1, .int 1] h0 (Q_getChar_117 Z i3 i4 h0) := by
 refine con_of f #[vR a1, vI 1] (plainFor_of_name pn_2) (fun m => rfl) Zf ?_
 intro C H hX0
 refine r_gets H 3 d_j52_5_0 (tw112 hw) S__assertionsDisabled ?_
 refine r_ifneT H 28 d_j52_5_3 ?_
 refine r_iloadN H 29 d_j52_5_28 ?_
 refine r_iconst H 30 1 d_j52_5_29 ?_
 refine r_ishl H 31 2 d_j52_5_30 (by decide) ?_
 refine r_istoreN H 32 #[vR a1, vI 2] d_j52_5_31 ?_
 refine r_aloadN H 33 d_j52_5_32 ?_
 refine r_iloadN H 34 d_j52_5_33 ?_
 refine r_iinc H 37 #[vR a1, vI 3] 3 d_j52_5_34 ?_
 refine r_baload H 38 i3 d_j52_5_37 A_a1 ?_
 refine r_sipush H 41 255 d_j52_5_38 ?_
 obtain ⟨p1, ep1, rp1⟩ : ∃ p : Int32, (i3 &&& (255 : Int32)) = p ∧ 0 ≤ p.toInt ∧ p.toInt ≤ 255 := ⟨_, rfl, (by have h := c_and i3 (255 : Int32) (by decide); have : (255 : Int32).toInt = 255 := (by decide); omega)⟩
 refine r_iand H 42 p1 d_j52_5_41 ep1 ?_
 refine r_gets H 45 d_j52_5_42 (tw113 hw) S_HI_BYTE_SHIFT ?_
 refine r_ishl H 46 (p1 <<< ((0 : Int32) &&& 31)) d_j52_5_45 rfl ?_
 refine r_aloadN H 47 d_j52_5_46 ?_
 refine r_iloadN H 48 d_j52_5_47 ?_
 refine r_baload H 49 i4 d_j52_5_48 A_a1 ?_
 refine r_sipush H 52 255 d_j52_5_49 ?_
 obtain ⟨p2, ep2, rp2⟩ : ∃ p : Int32, (i4 &&& (255 : Int32)) = p ∧ 0 ≤ p.toInt ∧ p.toInt ≤ 255 := ⟨_, rfl, (by have h := c_and i4 (255 : Int32) (by decide); have : (255 : Int32).toInt = 255 := (by decide); omega)⟩
 refine r_iand H 53 p2 d_j52_5_52 ep2 ?_
 refine r_gets H 56 d_j52_5_53 (tw114 hw) S_LO_BYTE_SHIFT ?_
 refine r_ishl H 57 (p2 <<< ((8 : Int32) &&& 31)) d_j52_5_56 rfl ?_
 refine r_ior H 58 ((p1 <<< ((0 : Int32) &&& 31)) ||| (p2 <<< ((8 : Int32) &&& 31))) d_j52_5_57 ?_
 obtain ⟨p3, ep3, rp3⟩ : ∃ p : Int32, (((p1 <<< ((0 : Int32) &&& 31)) ||| (p2 <<< ((8 : Int32) &&& 31))).toUInt32.toUInt16.toUInt32.toInt32) = p ∧ 0 ≤ p.toInt ∧ p.toInt ≤ 65535 := ⟨_, rfl, (by have h := c_i2c ((p1 <<< ((0 : Int32) &&& 31)) ||| (p2 <<< ((8 : Int32) &&& 31))); omega)⟩
 refine r_i2c H 59 p3 d_j52_5_58 ep3 ?_
 subst ep1 ep2 ep3
 exact r_nreturn ((((i3 &&& (255 : Int32)) <<< ((0 : Int32) &&& 31)) ||| ((i4 &&& (255 : Int32)) <<< ((8 : Int32) &&& 31))).toUInt32.toUInt16.toUInt32.toInt32) H d_j52_5_59 (nar_char_id (by have := rp3; omega)) nlr (fun _ t => t) (⟨_, rfl, rfl, (by have := rp3; omega), rfl⟩)
def Q_toBytes_118 (Z : State) (i1 : Int32) (i2 : Int32) (i3 : Int32) (h0 : Heap) (v : Option Value) (h : Heap) : Prop := ∃ (b1 : Addr) (kc2 : ClassId), v = some (.ref b1) ∧ Keep h0 h [] ∧ h0.size ≤ b1 ∧ Ar Z h b1 kc2 .byte [.int (cL8 i1), .int (cH8 i1), .int (cL8 i2), .int (cH8 i2), .int (cL8 i3), .int (cH8 i3)] ∧ Exa Z h b1 "[B"
def R_toBytes_118 : Room := { frames := 2, cells := 1, slots := 6, locals := 24 }
theorem rm_toBytes_118 {w : Bool} {Z : State} {a0 : Array Value} (hw : HW a0 Z) (Ts : List String) (a1 : Addr) (i1 : Int32) (i2 : Int32) (i3 : Int32) (c1 : ClassId) (h0 : Heap) (f : Nat) (Zf : Z.heap.size ≤ f) (Z0 : f ≤ h0.size) (A_a1 : Ar Z h0 a1 c1 .char [.int i1, .int i2, .int i3]) (r_i1 : 256 ≤ i1.toInt ∧ i1.toInt ≤ 65535) (r_i2 : 0 ≤ i2.toInt ∧ i2.toInt ≤ 65535) (r_i3 : 0 ≤ i3.toInt ∧ i3.toInt ≤ 65535) (S__assertionsDisabled : G_S__assertionsDisabled Z) (S_HI_BYTE_SHIFT : G_S_HI_BYTE_SHIFT Z) (S_LO_BYTE_SHIFT : G_S_LO_BYTE_SHIFT Z) :
  Con w [] Z (⟨"java/lang/StringUTF16", "toBytes", "([CII)[B"⟩ : MethodName) jdk_52_method_14_code 5 (some (.array .byte)) R_toBytes_118 Ts Ts f #[.ref a1, .int 0, .int 3] h0 (Q_toBytes_118 Z i1 i2 i3 h0) := by
 refine con_of f #[vR a1, vI 0, vI 3, .unset, .unset] (plainFor_of_name pn_2) (fun m => rfl) Zf ?_
 intro C H hX0
 refine r_iloadN H 1 d_j52_14_0 ?_
 refine r_static (argsL := [.int 3]) (rest := []) (W := 0) H 4 d_j52_14_1 (tw102 hw) (tw103 hw) (tw88 hw) (tw104 hw) (lenOf pd_17 rfl) (rm_newBytesFor_110 hw Ts h0 f Zf Z0) ?_
 rintro _ hh7 ⟨b1, kc2, rfl, K3, g4, q5, q6⟩
 refine r_astoreN H 5 #[vR a1, vI 0, vI 3, vR b1, .unset] d_j52_14_4 ?_
 refine r_iconst H 6 0 d_j52_14_5 ?_
 refine r_istore H 8 #[vR a1, vI 0, vI 3, vR b1, vI 0] d_j52_14_6 ?_
 refine r_iload H 10 d_j52_14_8 ?_
 refine r_iloadN H 11 d_j52_14_10 ?_
 refine r_icmpgeF H 14 d_j52_14_11 ?_
 refine r_aloadN H 15 d_j52_14_14 ?_
 refine r_iload H 17 d_j52_14_15 ?_
 refine r_aloadN H 18 d_j52_14_17 ?_
 refine r_iloadN H 19 d_j52_14_18 ?_
 have q8 := (A_a1.keep K3 nin0)
 refine r_caload H 20 i1 d_j52_14_19 q8 ?_
 refine r_static (argsL := [.ref b1, .int 0, .int i1]) (rest := []) (W := 0) H 23 d_j52_14_20 (tw109 hw) (tw110 hw) (tw88 hw) (tw111 hw) (lenOf pd_3 rfl) (rm_putChar_112 hw Ts b1 i1 (0 : Int32) (0 : Int32) (0 : Int32) (0 : Int32) (0 : Int32) (0 : Int32) kc2 hh7 f Zf (nlt Z0 K3.1) q5 (nlt Z0 g4) q6 (by have := r_i1; omega) S__assertionsDisabled S_HI_BYTE_SHIFT S_LO_BYTE_SHIFT) ?_
 rintro _ hh12 ⟨rfl, K9, q10, q11⟩
 refine r_iinc H 26 #[vR a1, vI 1, vI 3, vR b1, vI 0] 1 d_j52_14_23 ?_
 refine r_iinc H 29 #[vR a1, vI 1, vI 3, vR b1, vI 1] 1 d_j52_14_26 ?_
 refine r_goto H 8 d_j52_14_29 ?_
 refine r_iload H 10 d_j52_14_8 ?_
 refine r_iloadN H 11 d_j52_14_10 ?_
 refine r_icmpgeF H 14 d_j52_14_11 ?_
 refine r_aloadN H 15 d_j52_14_14 ?_
 refine r_iload H 17 d_j52_14_15 ?_
 refine r_aloadN H 18 d_j52_14_17 ?_
 refine r_iloadN H 19 d_j52_14_18 ?_
 have q13 := (q8.keep K9 (ninS (Nat.ne_of_lt (Nat.lt_of_lt_of_le A_a1.lt (nlt nlr g4))) nin0))
 refine r_caload H 20 i2 d_j52_14_19 q13 ?_
 have z14 := Nat.le_trans K3.1 K9.1
 refine r_static (argsL := [.ref b1, .int 1, .int i2]) (rest := []) (W := 0) H 23 d_j52_14_20 (tw109 hw) (tw110 hw) (tw88 hw) (tw111 hw) (lenOf pd_3 rfl) (rm_putChar_113 hw Ts b1 i2 (cL8 i1) (cH8 i1) (0 : Int32) (0 : Int32) (0 : Int32) (0 : Int32) kc2 hh12 f Zf (nlt Z0 z14) q10 (nlt Z0 g4) q11 (by have := r_i2; omega) S__assertionsDisabled S_HI_BYTE_SHIFT S_LO_BYTE_SHIFT) ?_
 rintro _ hh18 ⟨rfl, K15, q16, q17⟩
 refine r_iinc H 26 #[vR a1, vI 2, vI 3, vR b1, vI 1] 2 d_j52_14_23 ?_
 refine r_iinc H 29 #[vR a1, vI 2, vI 3, vR b1, vI 2] 2 d_j52_14_26 ?_
 refine r_goto H 8 d_j52_14_29 ?_
 refine r_iload H 10 d_j52_14_8 ?_
 refine r_iloadN H 11 d_j52_14_10 ?_
 refine r_icmpgeF H 14 d_j52_14_11 ?_
 refine r_aloadN H 15 d_j52_14_14 ?_
 refine r_iload H 17 d_j52_14_15 ?_
 refine r_aloadN H 18 d_j52_14_17 ?_
 refine r_iloadN H 19 d_j52_14_18 ?_
 have q19 := (q13.keep K15 (ninS (Nat.ne_of_lt (Nat.lt_of_lt_of_le A_a1.lt (nlt nlr g4))) nin0))
 refine r_caload H 20 i3 d_j52_14_19 q19 ?_
 have z20 := Nat.le_trans z14 K15.1
 refine r_static (argsL := [.ref b1, .int 2, .int i3]) (rest := []) (W := 0) H 23 d_j52_14_20 (tw109 hw) (tw110 hw) (tw88 hw) (tw111 hw) (lenOf pd_3 rfl) (rm_putChar_114 hw Ts b1 i3 (cL8 i1) (cH8 i1) (cL8 i2) (cH8 i2) (0 : Int32) (0 : Int32) kc2 hh18 f Zf (nlt Z0 z20) q16 (nlt Z0 g4) q17 (by have := r_i3; omega) S__assertionsDisabled S_HI_BYTE_SHIFT S_LO_BYTE_SHIFT) ?_
 rintro _ hh24 ⟨rfl, K21, q22, q23⟩
 refine r_iinc H 26 #[vR a1, vI 3, vI 3, vR b1, vI 2] 3 d_j52_14_23 ?_
 refine r_iinc H 29 #[vR a1, vI 3, vI 3, vR b1, vI 3] 3 d_j52_14_26 ?_
 refine r_goto H 8 d_j52_14_29 ?_
 refine r_iload H 10 d_j52_14_8 ?_
 refine r_iloadN H 11 d_j52_14_10 ?_
 refine r_icmpgeT H 32 d_j52_14_11 ?_
 refine r_aloadN H 33 d_j52_14_32 ?_
 have k25 : Keep h0 hh7 [] := Keep.trans (Keep.refl h0 []) K3 all0
 have k26 : Keep h0 hh12 [] := Keep.trans k25 K9 (allS (Or.inr (nlt nlr g4)) all0)
 have k27 : Keep h0 hh18 [] := Keep.trans k26 K15 (allS (Or.inr (nlt nlr g4)) all0)
 have k28 : Keep h0 hh24 [] := Keep.trans k27 K21 (allS (Or.inr (nlt nlr g4)) all0)
 exact r_areturn H d_j52_14_33 (⟨b1, kc2, rfl, k28, (nlt nlr g4), q22, q23⟩)
def Q_getChar_119 (Z : State) (i1 : Int32) (i2 : Int32) (h0 : Heap) (v : Option Value) (h : Heap) : Prop := ∃ (z : Int32), v = some (.int z) ∧ ((((i1 &&& (255 : Int32)) <<< ((0 : Int32) &&& 31)) ||| ((i2 &&& (255 : Int32)) <<< ((8 : Int32) &&& 31))).toUInt32.toUInt16.toUInt32.toInt32) = z ∧ (0 ≤ z.toInt ∧ z.toInt ≤ 65535) ∧ h0 = h
def R_getChar_119 : Room := { frames := 0, cells := 0, slots := 0, locals := 0 }
theorem rm_getChar_119 {w : Bool} {Z : State} {a0 : Array Value} (hw : HW a0 Z) (Ts : List String) (a1 : Addr) (i1 : Int32) (i2 : Int32) (i3 : Int32) (i4 : Int32) (i5 : Int32) (i6 : Int32) (c1 : ClassId) (h0 : Heap) (f : Nat) (Zf : Z.heap.size ≤ f) (Z0 : f ≤ h0.size) (A_a1 : Ar Z h0 a1 c1 .byte [.int i1, .int i2, .int i3, .int i4, .int i5, .int i6]) (S__assertionsDisabled : G_S__assertionsDisabled Z) (S_HI_BYTE_SHIFT : G_S_HI_BYTE_SHIFT Z) (S_LO_BYTE_SHIFT : G_S_LO_BYTE_SHIFT Z) :
  Con w [] Z (⟨"java/lang/StringUTF16", "getChar", "([BI)C"⟩ : MethodName) jdk_52_method_5_code 2 (some .char) R_getChar_119 Ts Ts f #[.ref a1, .int 0] h0 (Q_getChar_119 Z i1 i2 h0) := by
 refine con_of f #[vR a1, vI 0] (plainFor_of_name pn_2) (fun m => rfl) Zf ?_
 intro C H hX0
 refine r_gets H 3 d_j52_5_0 (tw112 hw) S__assertionsDisabled ?_
 refine r_ifneT H 28 d_j52_5_3 ?_
 refine r_iloadN H 29 d_j52_5_28 ?_
 refine r_iconst H 30 1 d_j52_5_29 ?_
 refine r_ishl H 31 0 d_j52_5_30 (by decide) ?_
 refine r_istoreN H 32 #[vR a1, vI 0] d_j52_5_31 ?_
 refine r_aloadN H 33 d_j52_5_32 ?_
 refine r_iloadN H 34 d_j52_5_33 ?_
 refine r_iinc H 37 #[vR a1, vI 1] 1 d_j52_5_34 ?_
 refine r_baload H 38 i1 d_j52_5_37 A_a1 ?_
 refine r_sipush H 41 255 d_j52_5_38 ?_
 obtain ⟨p1, ep1, rp1⟩ : ∃ p : Int32, (i1 &&& (255 : Int32)) = p ∧ 0 ≤ p.toInt ∧ p.toInt ≤ 255 := ⟨_, rfl, (by have h := c_and i1 (255 : Int32) (by decide); have : (255 : Int32).toInt = 255 := (by decide); omega)⟩
 refine r_iand H 42 p1 d_j52_5_41 ep1 ?_
 refine r_gets H 45 d_j52_5_42 (tw113 hw) S_HI_BYTE_SHIFT ?_
 refine r_ishl H 46 (p1 <<< ((0 : Int32) &&& 31)) d_j52_5_45 rfl ?_
 refine r_aloadN H 47 d_j52_5_46 ?_
 refine r_iloadN H 48 d_j52_5_47 ?_
 refine r_baload H 49 i2 d_j52_5_48 A_a1 ?_
 refine r_sipush H 52 255 d_j52_5_49 ?_
 obtain ⟨p2, ep2, rp2⟩ : ∃ p : Int32, (i2 &&& (255 : Int32)) = p ∧ 0 ≤ p.toInt ∧ p.toInt ≤ 255 := ⟨_, rfl, (by have h := c_and i2 (255 : Int32) (by decide); have : (255 : Int32).toInt = 255 := (by decide); omega)⟩
 refine r_iand H 53 p2 d_j52_5_52 ep2 ?_
 refine r_gets H 56 d_j52_5_53 (tw114 hw) S_LO_BYTE_SHIFT ?_
 refine r_ishl H 57 (p2 <<< ((8 : Int32) &&& 31)) d_j52_5_56 rfl ?_
 refine r_ior H 58 ((p1 <<< ((0 : Int32) &&& 31)) ||| (p2 <<< ((8 : Int32) &&& 31))) d_j52_5_57 ?_
 obtain ⟨p3, ep3, rp3⟩ : ∃ p : Int32, (((p1 <<< ((0 : Int32) &&& 31)) ||| (p2 <<< ((8 : Int32) &&& 31))).toUInt32.toUInt16.toUInt32.toInt32) = p ∧ 0 ≤ p.toInt ∧ p.toInt ≤ 65535 := ⟨_, rfl, (by have h := c_i2c ((p1 <<< ((0 : Int32) &&& 31)) ||| (p2 <<< ((8 : Int32) &&& 31))); omega)⟩
 refine r_i2c H 59 p3 d_j52_5_58 ep3 ?_
 subst ep1 ep2 ep3
 exact r_nreturn ((((i1 &&& (255 : Int32)) <<< ((0 : Int32) &&& 31)) ||| ((i2 &&& (255 : Int32)) <<< ((8 : Int32) &&& 31))).toUInt32.toUInt16.toUInt32.toInt32) H d_j52_5_59 (nar_char_id (by have := rp3; omega)) nlr (fun _ t => t) (⟨_, rfl, rfl, (by have := rp3; omega), rfl⟩)
def Q_compress_107 (Z : State) (i1 : Int32) (i2 : Int32) (i3 : Int32) (h0 : Heap) (v : Option Value) (h : Heap) : Prop := (∃ (b1 : Addr) (kc1 : ClassId), v = some (.ref b1) ∧ (¬ (255 : Int32) < i1) ∧ (¬ (255 : Int32) < i2) ∧ (¬ (255 : Int32) < i3) ∧ Keep h0 h [] ∧ h0.size ≤ b1 ∧ Ar Z h b1 kc1 .byte [.int (cB8 i1), .int (cB8 i2), .int (cB8 i3)] ∧ Exa Z h b1 "[B") ∨ (∃ (b34 : Addr) (kc35 : ClassId), v = some (.ref b34) ∧ Keep h0 h [] ∧ h0.size ≤ b34 ∧ Ar Z h b34 kc35 .byte [.int (cL8 i1), .int (cH8 i1), .int (cL8 i2), .int (cH8 i2), .int (cL8 i3), .int (cH8 i3)] ∧ Exa Z h b34 "[B")
def R_compress_107 : Room := { frames := 3, cells := 2, slots := 9, locals := 40 }
theorem rm_compress_107 {w : Bool} {Z : State} {a0 : Array Value} (hw : HW a0 Z) (Ts : List String) (a1 : Addr) (i1 : Int32) (i2 : Int32) (i3 : Int32) (c1 : ClassId) (h0 : Heap) (f : Nat) (Zf : Z.heap.size ≤ f) (Z0 : f ≤ h0.size) (A_a1 : Ar Z h0 a1 c1 .char [.int i1, .int i2, .int i3]) (E_a1 : Exa Z h0 a1 "[C") (r_i1 : 0 ≤ i1.toInt ∧ i1.toInt ≤ 65535) (r_i2 : 0 ≤ i2.toInt ∧ i2.toInt ≤ 65535) (r_i3 : 0 ≤ i3.toInt ∧ i3.toInt ≤ 65535) (S__assertionsDisabled : G_S__assertionsDisabled Z) (S_HI_BYTE_SHIFT : G_S_HI_BYTE_SHIFT Z) (S_LO_BYTE_SHIFT : G_S_LO_BYTE_SHIFT Z) :
  Con w [] Z (⟨"java/lang/StringUTF16", "compress", "([CII)[B"⟩ : MethodName) jdk_52_method_16_code 6 (some (.array .byte)) R_compress_107 Ts Ts f #[.ref a1, .int 0, .int 3] h0 (Q_compress_107 Z i1 i2 i3 h0) := by
 refine con_of f #[vR a1, vI 0, vI 3, .unset, .unset, .unset] (plainFor_of_name pn_2) (fun m => rfl) Zf ?_
 intro C H hX0
 refine r_iloadN H 1 d_j52_16_0 ?_
 refine r_newP H 3 "[B" 3 d_j52_16_1 (tw16 hw) ?_
 intro h1 b1 kc1 g1 l1 K1 E1 A1
 change Ar Z h1 b1 kc1 .byte [.int 0, .int 0, .int 0] at A1
 refine r_astoreN H 4 #[vR a1, vI 0, vI 3, vR b1, .unset, .unset] d_j52_16_3 ?_
 refine r_aloadN H 5 d_j52_16_4 ?_
 refine r_iloadN H 6 d_j52_16_5 ?_
 refine r_aloadN H 7 d_j52_16_6 ?_
 refine r_iconst H 8 0 d_j52_16_7 ?_
 refine r_iloadN H 9 d_j52_16_8 ?_
 have q2 := (A_a1.keep K1 nin0)
 have q3 := (E_a1.keep K1)
 refine r_static (argsL := [.ref a1, .int 0, .ref b1, .int 0, .int 3]) (rest := []) (W := 0) H 12 d_j52_16_9 (tw90 hw) (tw91 hw) (tw88 hw) (tw92 hw) (lenOf pd_16 rfl) (rm_compress_108 hw Ts a1 b1 i1 i2 i3 c1 kc1 h1 f Zf (nlt Z0 K1.1) q2 A1 (nlt Z0 (Nat.le_of_eq g1.symm)) E1 q3 r_i1 r_i2 r_i3) ?_
 rintro _ hh23 (⟨rfl, c5, c6, c7, K4, q8, q9⟩ | ⟨rfl, c11, c12, c13, K10, q14, q15⟩ | ⟨rfl, c17, c18, K16, q19, q20⟩ | ⟨rfl, c22, rfl⟩)
 ·
  refine r_istore H 14 #[vR a1, vI 0, vI 3, vR b1, vI 3, .unset] d_j52_16_12 ?_
  refine r_iload H 16 d_j52_16_14 ?_
  refine r_iloadN H 17 d_j52_16_16 ?_
  refine r_icmpeqT H 57 d_j52_16_17 (by decide) (by decide) (by decide) ?_
  refine r_aloadN H 58 d_j52_16_57 ?_
  have k27 : Keep h0 h1 [] := Keep.trans (Keep.refl h0 []) K1 all0
  have k28 : Keep h0 hh23 [] := Keep.trans k27 K4 (allS (Or.inr (nlt nlr (Nat.le_of_eq g1.symm))) all0)
  exact r_areturn H d_j52_16_58 (Or.inl ⟨b1, kc1, rfl, c5, c6, c7, k28, (nlt nlr (Nat.le_of_eq g1.symm)), q8, q9⟩)
 ·
  have rr29 : 0 ≤ i1.toInt ∧ i1.toInt ≤ 255 := by have := r_i1; have : (255 : Int32).toInt = 255 := (by decide); have hc_ := c11; simp only [Int32.lt_iff_toInt_lt, ← Int32.toInt_inj] at hc_; omega
  have rr30 : 0 ≤ i2.toInt ∧ i2.toInt ≤ 255 := by have := r_i2; have : (255 : Int32).toInt = 255 := (by decide); have hc_ := c12; simp only [Int32.lt_iff_toInt_lt, ← Int32.toInt_inj] at hc_; omega
  have rr31 : 256 ≤ i3.toInt ∧ i3.toInt ≤ 65535 := by have := r_i3; have : (255 : Int32).toInt = 255 := (by decide); have hc_ := c13; simp only [Int32.lt_iff_toInt_lt, ← Int32.toInt_inj] at hc_; omega
  refine r_istore H 14 #[vR a1, vI 0, vI 3, vR b1, vI 2, .unset] d_j52_16_12 ?_
  refine r_iload H 16 d_j52_16_14 ?_
  refine r_iloadN H 17 d_j52_16_16 ?_
  refine r_icmpeqF H 20 d_j52_16_17 rfl (by decide) ?_
  refine r_aloadN H 21 d_j52_16_20 ?_
  refine r_iloadN H 22 d_j52_16_21 ?_
  refine r_iloadN H 23 d_j52_16_22 ?_
  have q32 := (q2.keep K10 (ninS (Nat.ne_of_lt (Nat.lt_of_lt_of_le A_a1.lt (nlt nlr (Nat.le_of_eq g1.symm)))) nin0))
  have z33 := Nat.le_trans K1.1 K10.1
  refine r_static (argsL := [.ref a1, .int 0, .int 3]) (rest := []) (W := 0) H 26 d_j52_16_23 (tw99 hw) (tw100 hw) (tw88 hw) (tw101 hw) (lenOf pd_18 rfl) (rm_toBytes_109 hw Ts a1 i1 i2 i3 c1 hh23 f Zf (nlt Z0 z33) q32 rr29 rr30 rr31 S__assertionsDisabled S_HI_BYTE_SHIFT S_LO_BYTE_SHIFT) ?_
  rintro _ hh40 ⟨b34, kc35, rfl, K36, g37, q38, q39⟩
  refine r_astore H 28 #[vR a1, vI 0, vI 3, vR b1, vI 2, vR b34] d_j52_16_26 ?_
  refine r_aload H 30 d_j52_16_28 ?_
  refine r_iload H 32 d_j52_16_30 ?_
  have z41 := Nat.le_trans z33 K36.1
  refine r_static (argsL := [.ref b34, .int 2]) (rest := []) (W := 0) H 35 d_j52_16_32 (tw115 hw) (tw116 hw) (tw88 hw) (tw117 hw) (lenOf pd_19 rfl) (rm_getChar_115 hw Ts b34 (cL8 i1) (cH8 i1) (cL8 i2) (cH8 i2) (cL8 i3) (cH8 i3) kc35 hh40 f Zf (nlt Z0 z41) q38 S__assertionsDisabled S_HI_BYTE_SHIFT S_LO_BYTE_SHIFT) ?_
  rintro _ _ ⟨p42, rfl, ep42, rp42, rfl⟩
  have hzp42 : i3 = p42 := by rw [← ep42]; exact (own_u16 i3 (by have := rr31; omega)).symm
  subst hzp42
  refine r_sipush H 38 255 d_j52_16_35 ?_
  refine r_icmpgtT H 54 d_j52_16_38 (by decide) (by decide) (by have := rr31; have : (255 : Int32).toInt = 255 := (by decide); simp only [Int32.lt_iff_toInt_lt, ← Int32.toInt_inj]; omega) ?_
  refine r_aload H 56 d_j52_16_54 ?_
  have k44 : Keep h0 h1 [] := Keep.trans (Keep.refl h0 []) K1 all0
  have k45 : Keep h0 hh23 [] := Keep.trans k44 K10 (allS (Or.inr (nlt nlr (Nat.le_of_eq g1.symm))) all0)
  have k46 : Keep h0 hh40 [] := Keep.trans k45 K36 all0
  exact r_areturn H d_j52_16_56 (Or.inr (⟨b34, kc35, rfl, k46, (nlt z33 g37), q38, q39⟩))
 ·
  have rr47 : 0 ≤ i1.toInt ∧ i1.toInt ≤ 255 := by have := r_i1; have : (255 : Int32).toInt = 255 := (by decide); have hc_ := c17; simp only [Int32.lt_iff_toInt_lt, ← Int32.toInt_inj] at hc_; omega
  have rr48 : 256 ≤ i2.toInt ∧ i2.toInt ≤ 65535 := by have := r_i2; have : (255 : Int32).toInt = 255 := (by decide); have hc_ := c18; simp only [Int32.lt_iff_toInt_lt, ← Int32.toInt_inj] at hc_; omega
  refine r_istore H 14 #[vR a1, vI 0, vI 3, vR b1, vI 1, .unset] d_j52_16_12 ?_
  refine r_iload H 16 d_j52_16_14 ?_
  refine r_iloadN H 17 d_j52_16_16 ?_
  refine r_icmpeqF H 20 d_j52_16_17 rfl (by decide) ?_
  refine r_aloadN H 21 d_j52_16_20 ?_
  refine r_iloadN H 22 d_j52_16_21 ?_
  refine r_iloadN H 23 d_j52_16_22 ?_
  have q49 := (q2.keep K16 (ninS (Nat.ne_of_lt (Nat.lt_of_lt_of_le A_a1.lt (nlt nlr (Nat.le_of_eq g1.symm)))) nin0))
  have z50 := Nat.le_trans K1.1 K16.1
  refine r_static (argsL := [.ref a1, .int 0, .int 3]) (rest := []) (W := 0) H 26 d_j52_16_23 (tw99 hw) (tw100 hw) (tw88 hw) (tw101 hw) (lenOf pd_18 rfl) (rm_toBytes_116 hw Ts a1 i1 i2 i3 c1 hh23 f Zf (nlt Z0 z50) q49 rr47 rr48 r_i3 S__assertionsDisabled S_HI_BYTE_SHIFT S_LO_BYTE_SHIFT) ?_
  rintro _ hh57 ⟨b51, kc52, rfl, K53, g54, q55, q56⟩
  refine r_astore H 28 #[vR a1, vI 0, vI 3, vR b1, vI 1, vR b51] d_j52_16_26 ?_
  refine r_aload H 30 d_j52_16_28 ?_
  refine r_iload H 32 d_j52_16_30 ?_
  have z58 := Nat.le_trans z50 K53.1
  refine r_static (argsL := [.ref b51, .int 1]) (rest := []) (W := 0) H 35 d_j52_16_32 (tw115 hw) (tw116 hw) (tw88 hw) (tw117 hw) (lenOf pd_19 rfl) (rm_getChar_117 hw Ts b51 (cL8 i1) (cH8 i1) (cL8 i2) (cH8 i2) (cL8 i3) (cH8 i3) kc52 hh57 f Zf (nlt Z0 z58) q55 S__assertionsDisabled S_HI_BYTE_SHIFT S_LO_BYTE_SHIFT) ?_
  rintro _ _ ⟨p59, rfl, ep59, rp59, rfl⟩
  have hzp59 : i2 = p59 := by rw [← ep59]; exact (own_u16 i2 (by have := rr48; omega)).symm
  subst hzp59
  refine r_sipush H 38 255 d_j52_16_35 ?_
  refine r_icmpgtT H 54 d_j52_16_38 (by decide) (by decide) (by have := rr48; have : (255 : Int32).toInt = 255 := (by decide); simp only [Int32.lt_iff_toInt_lt, ← Int32.toInt_inj]; omega) ?_
  refine r_aload H 56 d_j52_16_54 ?_
  have k61 : Keep h0 h1 [] := Keep.trans (Keep.refl h0 []) K1 all0
  have k62 : Keep h0 hh23 [] := Keep.trans k61 K16 (allS (Or.inr (nlt nlr (Nat.le_of_eq g1.symm))) all0)
  have k63 : Keep h0 hh57 [] := Keep.trans k62 K53 all0
  exact r_areturn H d_j52_16_56 (Or.inr (⟨b51, kc52, rfl, k63, (nlt z50 g54), q55, q56⟩))
 ·
  have rr64 : 256 ≤ i1.toInt ∧ i1.toInt ≤ 65535 := by have := r_i1; have : (255 : Int32).toInt = 255 := (by decide); have hc_ := c22; simp only [Int32.lt_iff_toInt_lt, ← Int32.toInt_inj] at hc_; omega
  refine r_istore H 14 #[vR a1, vI 0, vI 3, vR b1, vI 0, .unset] d_j52_16_12 ?_
  refine r_iload H 16 d_j52_16_14 ?_
  refine r_iloadN H 17 d_j52_16_16 ?_
  refine r_icmpeqF H 20 d_j52_16_17 rfl (by decide) ?_
  refine r_aloadN H 21 d_j52_16_20 ?_
  refine r_iloadN H 22 d_j52_16_21 ?_
  refine r_iloadN H 23 d_j52_16_22 ?_
  refine r_static (argsL := [.ref a1, .int 0, .int 3]) (rest := []) (W := 0) H 26 d_j52_16_23 (tw99 hw) (tw100 hw) (tw88 hw) (tw101 hw) (lenOf pd_18 rfl) (rm_toBytes_118 hw Ts a1 i1 i2 i3 c1 h1 f Zf (nlt Z0 K1.1) q2 rr64 r_i2 r_i3 S__assertionsDisabled S_HI_BYTE_SHIFT S_LO_BYTE_SHIFT) ?_
  rintro _ hh71 ⟨b65, kc66, rfl, K67, g68, q69, q70⟩
  refine r_astore H 28 #[vR a1, vI 0, vI 3, vR b1, vI 0, vR b65] d_j52_16_26 ?_
  refine r_aload H 30 d_j52_16_28 ?_
  refine r_iload H 32 d_j52_16_30 ?_
  have z72 := Nat.le_trans K1.1 K67.1
  refine r_static (argsL := [.ref b65, .int 0]) (rest := []) (W := 0) H 35 d_j52_16_32 (tw115 hw) (tw116 hw) (tw88 hw) (tw117 hw) (lenOf pd_19 rfl) (rm_getChar_119 hw Ts b65 (cL8 i1) (cH8 i1) (cL8 i2) (cH8 i2) (cL8 i3) (cH8 i3) kc66 hh71 f Zf (nlt Z0 z72) q69 S__assertionsDisabled S_HI_BYTE_SHIFT S_LO_BYTE_SHIFT) ?_
  rintro _ _ ⟨p73, rfl, ep73, rp73, rfl⟩
  have hzp73 : i1 = p73 := by rw [← ep73]; exact (own_u16 i1 (by have := rr64; omega)).symm
  subst hzp73
  refine r_sipush H 38 255 d_j52_16_35 ?_
  refine r_icmpgtT H 54 d_j52_16_38 (by decide) (by decide) (by have := rr64; have : (255 : Int32).toInt = 255 := (by decide); simp only [Int32.lt_iff_toInt_lt, ← Int32.toInt_inj]; omega) ?_
  refine r_aload H 56 d_j52_16_54 ?_
  have k75 : Keep h0 h1 [] := Keep.trans (Keep.refl h0 []) K1 all0
  have k76 : Keep h0 hh71 [] := Keep.trans k75 K67 all0
  exact r_areturn H d_j52_16_56 (Or.inr (⟨b65, kc66, rfl, k76, (nlt K1.1 g68), q69, q70⟩))
def Q_coderFromArrayLen_120 (Z : State) (h0 : Heap) (v : Option Value) (h : Heap) : Prop := v = some (.int 0) ∧ h0 = h
def R_coderFromArrayLen_120 : Room := { frames := 0, cells := 0, slots := 0, locals := 0 }
theorem rm_coderFromArrayLen_120 {w : Bool} {Z : State} {a0 : Array Value} (hw : HW a0 Z) (Ts : List String) (a1 : Addr) (i1 : Int32) (i2 : Int32) (i3 : Int32) (c1 : ClassId) (h0 : Heap) (f : Nat) (Zf : Z.heap.size ≤ f) (Z0 : f ≤ h0.size) (A_a1 : Ar Z h0 a1 c1 .byte [.int (cB8 i1), .int (cB8 i2), .int (cB8 i3)]) :
  Con w [] Z (⟨"java/lang/StringUTF16", "coderFromArrayLen", "([BI)B"⟩ : MethodName) jdk_52_method_15_code 2 (some .byte) R_coderFromArrayLen_120 Ts Ts f #[.ref a1, .int 3] h0 (Q_coderFromArrayLen_120 Z h0) := by
 refine con_of f #[vR a1, vI 3] (plainFor_of_name pn_2) (fun m => rfl) Zf ?_
 intro C H hX0
 refine r_iloadN H 1 d_j52_15_0 ?_
 refine r_aloadN H 2 d_j52_15_1 ?_
 refine r_alen H 3 3 d_j52_15_2 A_a1 ?_
 refine r_isub H 4 0 d_j52_15_3 ?_
 refine r_bipush H 6 31 d_j52_15_4 ?_
 refine r_iushr H 7 0 d_j52_15_6 ?_
 refine r_i2b H 8 0 d_j52_15_7 (by decide) ?_
 exact r_nreturn (0 : Int32) H d_j52_15_8 (by decide) nlr (fun _ t => t) (⟨rfl, rfl⟩)
def Q_coderFromArrayLen_121 (Z : State) (h0 : Heap) (v : Option Value) (h : Heap) : Prop := v = some (.int 1) ∧ h0 = h
def R_coderFromArrayLen_121 : Room := { frames := 0, cells := 0, slots := 0, locals := 0 }
theorem rm_coderFromArrayLen_121 {w : Bool} {Z : State} {a0 : Array Value} (hw : HW a0 Z) (Ts : List String) (a1 : Addr) (i1 : Int32) (i2 : Int32) (i3 : Int32) (c1 : ClassId) (h0 : Heap) (f : Nat) (Zf : Z.heap.size ≤ f) (Z0 : f ≤ h0.size) (A_a1 : Ar Z h0 a1 c1 .byte [.int (cL8 i1), .int (cH8 i1), .int (cL8 i2), .int (cH8 i2), .int (cL8 i3), .int (cH8 i3)]) :
  Con w [] Z (⟨"java/lang/StringUTF16", "coderFromArrayLen", "([BI)B"⟩ : MethodName) jdk_52_method_15_code 2 (some .byte) R_coderFromArrayLen_121 Ts Ts f #[.ref a1, .int 3] h0 (Q_coderFromArrayLen_121 Z h0) := by
 refine con_of f #[vR a1, vI 3] (plainFor_of_name pn_2) (fun m => rfl) Zf ?_
 intro C H hX0
 refine r_iloadN H 1 d_j52_15_0 ?_
 refine r_aloadN H 2 d_j52_15_1 ?_
 refine r_alen H 3 6 d_j52_15_2 A_a1 ?_
 refine r_isub H 4 (-3 : Int32) d_j52_15_3 ?_
 refine r_bipush H 6 31 d_j52_15_4 ?_
 refine r_iushr H 7 1 d_j52_15_6 ?_
 refine r_i2b H 8 1 d_j52_15_7 (by decide) ?_
 exact r_nreturn (1 : Int32) H d_j52_15_8 (by decide) nlr (fun _ t => t) (⟨rfl, rfl⟩)
def Q_init_106 (Z : State) (a1 : Addr) (i1 : Int32) (i2 : Int32) (i3 : Int32) (h0 : Heap) (v : Option Value) (h : Heap) : Prop := (∃ (b1 : Addr) (kc2 : ClassId), v = none ∧ (¬ (255 : Int32) < i1) ∧ (¬ (255 : Int32) < i2) ∧ (¬ (255 : Int32) < i3) ∧ Keep h0 h [a1] ∧ h0.size ≤ b1 ∧ Exa Z h a1 "java/lang/String" ∧ Fld Z h a1 "java/lang/String" "coder" "B" (.int 0) ∧ Fld Z h a1 "java/lang/String" "value" "[B" (.ref b1) ∧ Ar Z h b1 kc2 .byte [.int (cB8 i1), .int (cB8 i2), .int (cB8 i3)] ∧ Exa Z h b1 "[B") ∨ (∃ (b10 : Addr) (kc11 : ClassId), v = none ∧ Keep h0 h [a1] ∧ h0.size ≤ b10 ∧ Exa Z h a1 "java/lang/String" ∧ Fld Z h a1 "java/lang/String" "coder" "B" (.int 1) ∧ Fld Z h a1 "java/lang/String" "value" "[B" (.ref b10) ∧ Ar Z h b10 kc11 .byte [.int (cL8 i1), .int (cH8 i1), .int (cL8 i2), .int (cH8 i2), .int (cL8 i3), .int (cH8 i3)] ∧ Exa Z h b10 "[B")
def R_init_106 : Room := { frames := 4, cells := 2, slots := 9, locals := 57 }
theorem rm_init_106 {w : Bool} {Z : State} {a0 : Array Value} (hw : HW a0 Z) (Ts : List String) (a1 : Addr) (a2 : Addr) (i1 : Int32) (i2 : Int32) (i3 : Int32) (c1 : ClassId) (cs : Int32) (h0 : Heap) (f : Nat) (Zf : Z.heap.size ≤ f) (Z0 : f ≤ h0.size) (A_a2 : Ar Z h0 a2 c1 .char [.int i1, .int i2, .int i3]) (E_a2 : Exa Z h0 a2 "[C") (E_a1 : Exa Z h0 a1 "java/lang/String") (F_coder_a1 : Fld Z h0 a1 "java/lang/String" "coder" "B" (.int 0)) (g_a1 : f ≤ a1) (F_value_a1 : Fld Z h0 a1 "java/lang/String" "value" "[B" .null) (r_i1 : 0 ≤ i1.toInt ∧ i1.toInt ≤ 65535) (r_i2 : 0 ≤ i2.toInt ∧ i2.toInt ≤ 65535) (r_i3 : 0 ≤ i3.toInt ∧ i3.toInt ≤ 65535) (S_cs : G_S_cs Z cs) (S__assertionsDisabled : G_S__assertionsDisabled Z) (S_HI_BYTE_SHIFT : G_S_HI_BYTE_SHIFT Z) (S_LO_BYTE_SHIFT : G_S_LO_BYTE_SHIFT Z) (hcs : ¬ cs = 0) :
  Con w [] Z (⟨"java/lang/String", "<init>", "([CIILjava/lang/Void;)V"⟩ : MethodName) jdk_42_method_149_code 6 none R_init_106 Ts Ts f #[.ref a1, .ref a2, .int 0, .int 3, .null] h0 (Q_init_106 Z a1 i1 i2 i3 h0) := by
 refine con_of f #[vR a1, vR a2, vI 0, vI 3, .val .null, .unset] (plainFor_of_name pn_0) (fun m => rfl) Zf ?_
 intro C H hX0
 refine r_aloadN H 1 d_j42_149_0 ?_
 refine r_initO (W := 0) H 4 d_j42_149_1 (tw12 hw) (tw13 hw) (tw14 hw) ?_
 refine r_iloadN H 5 d_j42_149_4 ?_
 refine r_ifneT H 27 d_j42_149_5 ?_
 refine r_gets H 30 d_j42_149_27 (tw27 hw) S_cs ?_
 refine r_ifeqF H 33 d_j42_149_30 rfl hcs ?_
 refine r_aloadN H 34 d_j42_149_33 ?_
 refine r_iloadN H 35 d_j42_149_34 ?_
 refine r_iloadN H 36 d_j42_149_35 ?_
 refine r_static (argsL := [.ref a2, .int 0, .int 3]) (rest := []) (W := 0) H 39 d_j42_149_36 (tw86 hw) (tw87 hw) (tw88 hw) (tw89 hw) (lenOf pd_18 rfl) (rm_compress_107 hw Ts a2 i1 i2 i3 c1 h0 f Zf Z0 A_a2 E_a2 r_i1 r_i2 r_i3 S__assertionsDisabled S_HI_BYTE_SHIFT S_LO_BYTE_SHIFT) ?_
 rintro _ hh16 (⟨b1, kc2, rfl, c4, c5, c6, K3, g7, q8, q9⟩ | ⟨b10, kc11, rfl, K12, g13, q14, q15⟩)
 ·
  refine r_astore H 41 #[vR a1, vR a2, vI 0, vI 3, .val .null, vR b1] d_j42_149_39 ?_
  refine r_aloadN H 42 d_j42_149_41 ?_
  refine r_aload H 44 d_j42_149_42 ?_
  refine r_iloadN H 45 d_j42_149_44 ?_
  refine r_static (argsL := [.ref b1, .int 3]) (rest := [.ref a1]) (W := 1) H 48 d_j42_149_45 (tw93 hw) (tw94 hw) (tw88 hw) (tw95 hw) (lenOf pd_20 rfl) (rm_coderFromArrayLen_120 hw Ts b1 i1 i2 i3 kc2 hh16 f Zf (nlt Z0 K3.1) q8) ?_
  rintro _ _ ⟨rfl, rfl⟩
  have q21 := (E_a1.keep K3)
  have q22 := (F_coder_a1.keep K3 nin0)
  refine r_putn (v' := (.int 0)) (ty := .byte) H 51 d_j42_149_48 (tw22 hw) q22 q21 (Or.inr ⟨(tw18 hw), rfl, rfl⟩) (tw3 hw) g_a1 ?_
  intro h23 W23 K23 E23 F23
  refine r_aloadN H 52 d_j42_149_51 ?_
  refine r_aload H 54 d_j42_149_52 ?_
  have q24 := ((F_value_a1.keep K3 nin0).other W23 (Or.inr (slot_ne (Or.inr (tw17 hw)) (Or.inr (tw18 hw)) (by decide) (t := (.array .byte)) (t' := .byte) (by decide) (by decide))))
  refine r_putf (ty := (.array .byte)) H 57 d_j42_149_54 (tw21 hw) q24 E23 (Or.inr ⟨(tw17 hw), rfl, rfl⟩) (tw3 hw) g_a1 ?_
  intro h25 W25 K25 E25 F25
  have k26 : Keep h0 hh16 [a1] := Keep.trans (Keep.refl h0 [a1]) K3 all0
  have k27 : Keep h0 h23 [a1] := Keep.trans k26 K23 (allS (Or.inl (List.mem_of_getElem? (i := 0) rfl)) all0)
  have k28 : Keep h0 h25 [a1] := Keep.trans k27 K25 (allS (Or.inl (List.mem_of_getElem? (i := 0) rfl)) all0)
  have q29 := (F23.other W25 (Or.inr (slot_ne (Or.inr (tw18 hw)) (Or.inr (tw17 hw)) (by decide) (t := .byte) (t' := (.array .byte)) (by decide) (by decide))))
  have q30 := ((q8.keep K23 (ninS (Ne.symm (Nat.ne_of_lt (Nat.lt_of_lt_of_le E_a1.lt (nlt nlr g7)))) nin0)).keep K25 (ninS (Ne.symm (Nat.ne_of_lt (Nat.lt_of_lt_of_le E_a1.lt (nlt nlr g7)))) nin0))
  have q31 := ((q9.keep K23).keep K25)
  exact r_return H d_j42_149_57 (Or.inl ⟨b1, kc2, rfl, c4, c5, c6, k28, (nlt nlr g7), E25, q29, F25, q30, q31⟩)
 ·
  refine r_astore H 41 #[vR a1, vR a2, vI 0, vI 3, .val .null, vR b10] d_j42_149_39 ?_
  refine r_aloadN H 42 d_j42_149_41 ?_
  refine r_aload H 44 d_j42_149_42 ?_
  refine r_iloadN H 45 d_j42_149_44 ?_
  refine r_static (argsL := [.ref b10, .int 3]) (rest := [.ref a1]) (W := 1) H 48 d_j42_149_45 (tw93 hw) (tw94 hw) (tw88 hw) (tw95 hw) (lenOf pd_20 rfl) (rm_coderFromArrayLen_121 hw Ts b10 i1 i2 i3 kc11 hh16 f Zf (nlt Z0 K12.1) q14) ?_
  rintro _ _ ⟨rfl, rfl⟩
  have q33 := (E_a1.keep K12)
  have q34 := (F_coder_a1.keep K12 nin0)
  refine r_putn (v' := (.int 1)) (ty := .byte) H 51 d_j42_149_48 (tw22 hw) q34 q33 (Or.inr ⟨(tw18 hw), rfl, rfl⟩) (tw3 hw) g_a1 ?_
  intro h35 W35 K35 E35 F35
  refine r_aloadN H 52 d_j42_149_51 ?_
  refine r_aload H 54 d_j42_149_52 ?_
  have q36 := ((F_value_a1.keep K12 nin0).other W35 (Or.inr (slot_ne (Or.inr (tw17 hw)) (Or.inr (tw18 hw)) (by decide) (t := (.array .byte)) (t' := .byte) (by decide) (by decide))))
  refine r_putf (ty := (.array .byte)) H 57 d_j42_149_54 (tw21 hw) q36 E35 (Or.inr ⟨(tw17 hw), rfl, rfl⟩) (tw3 hw) g_a1 ?_
  intro h37 W37 K37 E37 F37
  have k38 : Keep h0 hh16 [a1] := Keep.trans (Keep.refl h0 [a1]) K12 all0
  have k39 : Keep h0 h35 [a1] := Keep.trans k38 K35 (allS (Or.inl (List.mem_of_getElem? (i := 0) rfl)) all0)
  have k40 : Keep h0 h37 [a1] := Keep.trans k39 K37 (allS (Or.inl (List.mem_of_getElem? (i := 0) rfl)) all0)
  have q41 := (F35.other W37 (Or.inr (slot_ne (Or.inr (tw18 hw)) (Or.inr (tw17 hw)) (by decide) (t := .byte) (t' := (.array .byte)) (by decide) (by decide))))
  have q42 := ((q14.keep K35 (ninS (Ne.symm (Nat.ne_of_lt (Nat.lt_of_lt_of_le E_a1.lt (nlt nlr g13)))) nin0)).keep K37 (ninS (Ne.symm (Nat.ne_of_lt (Nat.lt_of_lt_of_le E_a1.lt (nlt nlr g13)))) nin0))
  have q43 := ((q15.keep K35).keep K37)
  exact r_return H d_j42_149_57 (Or.inr (⟨b10, kc11, rfl, k40, (nlt nlr g13), E37, q41, F37, q42, q43⟩))
def Q_init_105 (Z : State) (a1 : Addr) (i1 : Int32) (i2 : Int32) (i3 : Int32) (h0 : Heap) (v : Option Value) (h : Heap) : Prop := (∃ (b1 : Addr) (kc2 : ClassId), v = none ∧ (¬ (255 : Int32) < i1) ∧ (¬ (255 : Int32) < i2) ∧ (¬ (255 : Int32) < i3) ∧ Keep h0 h [a1] ∧ h0.size ≤ b1 ∧ Exa Z h a1 "java/lang/String" ∧ Fld Z h a1 "java/lang/String" "coder" "B" (.int 0) ∧ Fld Z h a1 "java/lang/String" "value" "[B" (.ref b1) ∧ Ar Z h b1 kc2 .byte [.int (cB8 i1), .int (cB8 i2), .int (cB8 i3)] ∧ Exa Z h b1 "[B") ∨ (∃ (b13 : Addr) (kc14 : ClassId), v = none ∧ Keep h0 h [a1] ∧ h0.size ≤ b13 ∧ Exa Z h a1 "java/lang/String" ∧ Fld Z h a1 "java/lang/String" "coder" "B" (.int 1) ∧ Fld Z h a1 "java/lang/String" "value" "[B" (.ref b13) ∧ Ar Z h b13 kc14 .byte [.int (cL8 i1), .int (cH8 i1), .int (cL8 i2), .int (cH8 i2), .int (cL8 i3), .int (cH8 i3)] ∧ Exa Z h b13 "[B")
def R_init_105 : Room := { frames := 5, cells := 2, slots := 9, locals := 74 }
theorem rm_init_105 {w : Bool} {Z : State} {a0 : Array Value} (hw : HW a0 Z) (Ts : List String) (a1 : Addr) (a2 : Addr) (i1 : Int32) (i2 : Int32) (i3 : Int32) (c1 : ClassId) (cs : Int32) (h0 : Heap) (f : Nat) (Zf : Z.heap.size ≤ f) (Z0 : f ≤ h0.size) (A_a2 : Ar Z h0 a2 c1 .char [.int i1, .int i2, .int i3]) (g_a1 : f ≤ a1) (E_a2 : Exa Z h0 a2 "[C") (E_a1 : Exa Z h0 a1 "java/lang/String") (F_coder_a1 : Fld Z h0 a1 "java/lang/String" "coder" "B" (.int 0)) (F_value_a1 : Fld Z h0 a1 "java/lang/String" "value" "[B" .null) (r_i1 : 0 ≤ i1.toInt ∧ i1.toInt ≤ 65535) (r_i2 : 0 ≤ i2.toInt ∧ i2.toInt ≤ 65535) (r_i3 : 0 ≤ i3.toInt ∧ i3.toInt ≤ 65535) (S_cs : G_S_cs Z cs) (S__assertionsDisabled : G_S__assertionsDisabled Z) (S_HI_BYTE_SHIFT : G_S_HI_BYTE_SHIFT Z) (S_LO_BYTE_SHIFT : G_S_LO_BYTE_SHIFT Z) (hcs : ¬ cs = 0) :
  Con w [] Z (⟨"java/lang/String", "<init>", "([C)V"⟩ : MethodName) jdk_42_method_3_code 2 none R_init_105 Ts Ts f #[.ref a1, .ref a2] h0 (Q_init_105 Z a1 i1 i2 i3 h0) := by
 refine con_of f #[vR a1, vR a2] (plainFor_of_name pn_0) (fun m => rfl) Zf ?_
 intro C H hX0
 refine r_aloadN H 1 d_j42_3_0 ?_
 refine r_aloadN H 2 d_j42_3_1 ?_
 refine r_iconst H 3 0 d_j42_3_2 ?_
 refine r_aloadN H 4 d_j42_3_3 ?_
 refine r_alen H 5 3 d_j42_3_4 A_a2 ?_
 refine r_null H 6 d_j42_3_5 ?_
 refine r_special (a := a1) (argsL := [.ref a2, .int 0, .int 3, .null]) (rest := []) (W := 0) H 9 d_j42_3_6 (tw8 hw) (tw9 hw) (tw4 hw) (tw11 hw) (lenOf pd_0 rfl) (rm_init_106 hw Ts a1 a2 i1 i2 i3 c1 cs h0 f Zf Z0 A_a2 E_a2 E_a1 F_coder_a1 g_a1 F_value_a1 r_i1 r_i2 r_i3 S_cs S__assertionsDisabled S_HI_BYTE_SHIFT S_LO_BYTE_SHIFT hcs) ?_
 rintro _ hh22 (⟨b1, kc2, rfl, c4, c5, c6, K3, g7, q8, q9, q10, q11, q12⟩ | ⟨b13, kc14, rfl, K15, g16, q17, q18, q19, q20, q21⟩)
 ·
  have k26 : Keep h0 hh22 [a1] := Keep.trans (Keep.refl h0 [a1]) K3 (allS (Or.inl (List.mem_of_getElem? (i := 0) rfl)) all0)
  exact r_return H d_j42_3_9 (Or.inl ⟨b1, kc2, rfl, c4, c5, c6, k26, (nlt nlr g7), q8, q9, q10, q11, q12⟩)
 ·
  have k27 : Keep h0 hh22 [a1] := Keep.trans (Keep.refl h0 [a1]) K15 (allS (Or.inl (List.mem_of_getElem? (i := 0) rfl)) all0)
  exact r_return H d_j42_3_9 (Or.inr (⟨b13, kc14, rfl, k27, (nlt nlr g16), q17, q18, q19, q20, q21⟩))
def Q_length_125 (Z : State) (h0 : Heap) (v : Option Value) (h : Heap) : Prop := v = some (.int 3) ∧ h0 = h
def R_length_125 : Room := { frames := 1, cells := 0, slots := 0, locals := 13 }
theorem rm_length_125 {w : Bool} {Z : State} {a0 : Array Value} (hw : HW a0 Z) (Ts : List String) (a1 : Addr) (a2 : Addr) (i1 : Int32) (i2 : Int32) (i3 : Int32) (c1 : ClassId) (cs : Int32) (h0 : Heap) (f : Nat) (Zf : Z.heap.size ≤ f) (Z0 : f ≤ h0.size) (F_value_a1 : Fld Z h0 a1 "java/lang/String" "value" "[B" (.ref a2)) (A_a2 : Ar Z h0 a2 c1 .byte [.int i1, .int i2, .int i3]) (E_a1 : Exa Z h0 a1 "java/lang/String") (F_coder_a1 : Fld Z h0 a1 "java/lang/String" "coder" "B" (.int 0)) (S_cs : G_S_cs Z cs) (hcs : ¬ cs = 0) :
  Con w [] Z (⟨"java/lang/String", "length", "()I"⟩ : MethodName) jdk_42_method_54_code 1 (some .int) R_length_125 Ts Ts f #[.ref a1] h0 (Q_length_125 Z h0) := by
 refine con_of f #[vR a1] (plainFor_of_name pn_0) (fun m => rfl) Zf ?_
 intro C H hX0
 refine r_aloadN H 1 d_j42_54_0 ?_
 refine r_getf H 4 d_j42_54_1 (tw21 hw) F_value_a1 ?_
 refine r_alen H 5 3 d_j42_54_4 A_a2 ?_
 refine r_aloadN H 6 d_j42_54_5 ?_
 refine r_virtual (z := (⟨"java/lang/String", "coder", "()B"⟩ : MethodName)) (a := a1) (argsL := []) (rest := [.int 3]) (W := 1) H 9 d_j42_54_6 (tw63 hw) (tw64 hw) (nf_sel (tw66 hw)) (tw66 hw) (tw65 hw) (tw4 hw) (tw67 hw) E_a1 (lenOf pd_8 rfl) (rm_coder_15 hw Ts a1 cs h0 f Zf Z0 F_coder_a1 S_cs hcs) ?_
 rintro _ _ ⟨rfl, rfl⟩
 refine r_ishr H 10 3 d_j42_54_9 (by decide) ?_
 exact r_ireturn H d_j42_54_10 (⟨rfl, rfl⟩)
def Q_min_127 (Z : State) (h0 : Heap) (v : Option Value) (h : Heap) : Prop := v = some (.int 3) ∧ h0 = h
def R_min_127 : Room := { frames := 0, cells := 0, slots := 0, locals := 0 }
theorem rm_min_127 {w : Bool} {Z : State} {a0 : Array Value} (hw : HW a0 Z) (Ts : List String) (h0 : Heap) (f : Nat) (Zf : Z.heap.size ≤ f) (Z0 : f ≤ h0.size) :
  Con w [] Z (⟨"java/lang/Math", "min", "(II)I"⟩ : MethodName) jdk_29_method_69_code 2 (some .int) R_min_127 Ts Ts f #[.int 3, .int 3] h0 (Q_min_127 Z h0) := by
 refine con_of f #[vI 3, vI 3] (Jvm.Free.JP.mathPlain rfl (by decide +kernel)) (fun m => rfl) Zf ?_
 intro C H hX0
 refine r_iloadN H 1 d_j29_69_0 ?_
 refine r_iloadN H 2 d_j29_69_1 ?_
 refine r_icmpgtF H 5 d_j29_69_2 rfl (by decide) ?_
 refine r_iloadN H 6 d_j29_69_5 ?_
 refine r_goto H 10 d_j29_69_6 ?_
 exact r_ireturn H d_j29_69_10 (⟨rfl, rfl⟩)
def Q_indexOfChar_128 (Z : State) (h0 : Heap) (v : Option Value) (h : Heap) : Prop := v = some (.int (-1)) ∧ h0 = h
def R_indexOfChar_128 : Room := { frames := 0, cells := 0, slots := 0, locals := 0 }
theorem rm_indexOfChar_128 {w : Bool} {Z : State} {a0 : Array Value} (hw : HW a0 Z) (Ts : List String) (a1 : Addr) (i1 : Int32) (i2 : Int32) (i3 : Int32) (c1 : ClassId) (h0 : Heap) (f : Nat) (Zf : Z.heap.size ≤ f) (Z0 : f ≤ h0.size) (A_a1 : Ar Z h0 a1 c1 .byte [.int (cB8 i1), .int (cB8 i2), .int (cB8 i3)]) (r_i1 : 0 ≤ i1.toInt ∧ i1.toInt ≤ 255) (r_i2 : 0 ≤ i2.toInt ∧ i2.toInt ≤ 255) (r_i3 : 0 ≤ i3.toInt ∧ i3.toInt ≤ 255) (x_i1_10 : ¬ i1 = (10 : Int32)) (x_i2_10 : ¬ i2 = (10 : Int32)) (x_i3_10 : ¬ i3 = (10 : Int32)) :
  Con w [] Z (⟨"java/lang/StringLatin1", "indexOfChar", "([BIII)I"⟩ : MethodName) jdk_43_method_23_code 6 (some .int) R_indexOfChar_128 Ts Ts f #[.ref a1, .int 10, .int 0, .int 3] h0 (Q_indexOfChar_128 Z h0) := by
 refine con_of f #[vR a1, vI 10, vI 0, vI 3, .unset, .unset] (plainFor_of_name pn_1) (fun m => rfl) Zf ?_
 intro C H hX0
 refine r_iloadN H 1 d_j43_23_0 ?_
 refine r_i2b H 2 10 d_j43_23_1 (by decide) ?_
 refine r_istore H 4 #[vR a1, vI 10, vI 0, vI 3, vI 10, .unset] d_j43_23_2 ?_
 refine r_iloadN H 5 d_j43_23_4 ?_
 refine r_istore H 7 #[vR a1, vI 10, vI 0, vI 3, vI 10, vI 0] d_j43_23_5 ?_
 refine r_iload H 9 d_j43_23_7 ?_
 refine r_iloadN H 10 d_j43_23_9 ?_
 refine r_icmpgeF H 13 d_j43_23_10 ?_
 refine r_aloadN H 14 d_j43_23_13 ?_
 refine r_iload H 16 d_j43_23_14 ?_
 refine r_baload H 17 (cB8 i1) d_j43_23_16 A_a1 ?_
 refine r_iload H 19 d_j43_23_17 ?_
 refine r_icmpneT H 25 d_j43_23_19 (by decide) (by decide) (i2b_ne (by have := r_i1; omega) (by decide) x_i1_10) ?_
 refine r_iinc H 28 #[vR a1, vI 10, vI 0, vI 3, vI 10, vI 1] 1 d_j43_23_25 ?_
 refine r_goto H 7 d_j43_23_28 ?_
 refine r_iload H 9 d_j43_23_7 ?_
 refine r_iloadN H 10 d_j43_23_9 ?_
 refine r_icmpgeF H 13 d_j43_23_10 ?_
 refine r_aloadN H 14 d_j43_23_13 ?_
 refine r_iload H 16 d_j43_23_14 ?_
 refine r_baload H 17 (cB8 i2) d_j43_23_16 A_a1 ?_
 refine r_iload H 19 d_j43_23_17 ?_
 refine r_icmpneT H 25 d_j43_23_19 (by decide) (by decide) (i2b_ne (by have := r_i2; omega) (by decide) x_i2_10) ?_
 refine r_iinc H 28 #[vR a1, vI 10, vI 0, vI 3, vI 10, vI 2] 2 d_j43_23_25 ?_
 refine r_goto H 7 d_j43_23_28 ?_
 refine r_iload H 9 d_j43_23_7 ?_
 refine r_iloadN H 10 d_j43_23_9 ?_
 refine r_icmpgeF H 13 d_j43_23_10 ?_
 refine r_aloadN H 14 d_j43_23_13 ?_
 refine r_iload H 16 d_j43_23_14 ?_
 refine r_baload H 17 (cB8 i3) d_j43_23_16 A_a1 ?_
 refine r_iload H 19 d_j43_23_17 ?_
 refine r_icmpneT H 25 d_j43_23_19 (by decide) (by decide) (i2b_ne (by have := r_i3; omega) (by decide) x_i3_10) ?_
 refine r_iinc H 28 #[vR a1, vI 10, vI 0, vI 3, vI 10, vI 3] 3 d_j43_23_25 ?_
 refine r_goto H 7 d_j43_23_28 ?_
 refine r_iload H 9 d_j43_23_7 ?_
 refine r_iloadN H 10 d_j43_23_9 ?_
 refine r_icmpgeT H 31 d_j43_23_10 ?_
 refine r_iconst H 32 (-1 : Int32) d_j43_23_31 ?_
 exact r_ireturn H d_j43_23_32 (⟨rfl, rfl⟩)
def Q_indexOf_126 (Z : State) (h0 : Heap) (v : Option Value) (h : Heap) : Prop := v = some (.int (-1)) ∧ h0 = h
def R_indexOf_126 : Room := { frames := 1, cells := 0, slots := 0, locals := 17 }
theorem rm_indexOf_126 {w : Bool} {Z : State} {a0 : Array Value} (hw : HW a0 Z) (Ts : List String) (a1 : Addr) (i1 : Int32) (i2 : Int32) (i3 : Int32) (c1 : ClassId) (h0 : Heap) (f : Nat) (Zf : Z.heap.size ≤ f) (Z0 : f ≤ h0.size) (A_a1 : Ar Z h0 a1 c1 .byte [.int (cB8 i1), .int (cB8 i2), .int (cB8 i3)]) (r_i1 : 0 ≤ i1.toInt ∧ i1.toInt ≤ 255) (r_i2 : 0 ≤ i2.toInt ∧ i2.toInt ≤ 255) (r_i3 : 0 ≤ i3.toInt ∧ i3.toInt ≤ 255) (x_i1_10 : ¬ i1 = (10 : Int32)) (x_i2_10 : ¬ i2 = (10 : Int32)) (x_i3_10 : ¬ i3 = (10 : Int32)) :
  Con w [] Z (⟨"java/lang/StringLatin1", "indexOf", "([BIII)I"⟩ : MethodName) jdk_43_method_22_code 4 (some .int) R_indexOf_126 Ts Ts f #[.ref a1, .int 10, .int 0, .int 3] h0 (Q_indexOf_126 Z h0) := by
 refine con_of f #[vR a1, vI 10, vI 0, vI 3] (plainFor_of_name pn_1) (fun m => rfl) Zf ?_
 intro C H hX0
 refine r_iloadN H 1 d_j43_22_0 ?_
 refine r_static (argsL := [.int 10]) (rest := []) (W := 0) H 4 d_j43_22_1 (tw71 hw) (tw72 hw) (tw30 hw) (tw73 hw) (lenOf pd_10 rfl) (rm_canEncode_17 hw Ts h0 f Zf Z0) ?_
 rintro _ _ ⟨rfl, rfl⟩
 refine r_ifneT H 9 d_j43_22_4 ?_
 refine r_iloadN H 10 d_j43_22_9 ?_
 refine r_iconst H 11 0 d_j43_22_10 ?_
 refine r_static (argsL := [.int 0, .int 0]) (rest := []) (W := 0) H 14 d_j43_22_11 (tw74 hw) (tw75 hw) (tw76 hw) (tw77 hw) (lenOf pd_11 rfl) (rm_max_18 hw Ts h0 f Zf Z0) ?_
 rintro _ _ ⟨rfl, rfl⟩
 refine r_istoreN H 15 #[vR a1, vI 10, vI 0, vI 3] d_j43_22_14 ?_
 refine r_iloadN H 16 d_j43_22_15 ?_
 refine r_aloadN H 17 d_j43_22_16 ?_
 refine r_alen H 18 3 d_j43_22_17 A_a1 ?_
 refine r_static (argsL := [.int 3, .int 3]) (rest := []) (W := 0) H 21 d_j43_22_18 (tw78 hw) (tw79 hw) (tw76 hw) (tw80 hw) (lenOf pd_11 rfl) (rm_min_127 hw Ts h0 f Zf Z0) ?_
 rintro _ _ ⟨rfl, rfl⟩
 refine r_istoreN H 22 #[vR a1, vI 10, vI 0, vI 3] d_j43_22_21 ?_
 refine r_iloadN H 23 d_j43_22_22 ?_
 refine r_iloadN H 24 d_j43_22_23 ?_
 refine r_icmpltT H 29 d_j43_22_24 ?_
 refine r_aloadN H 30 d_j43_22_29 ?_
 refine r_iloadN H 31 d_j43_22_30 ?_
 refine r_iloadN H 32 d_j43_22_31 ?_
 refine r_iloadN H 33 d_j43_22_32 ?_
 refine r_static (argsL := [.ref a1, .int 10, .int 0, .int 3]) (rest := []) (W := 0) H 36 d_j43_22_33 (tw96 hw) (tw97 hw) (tw30 hw) (tw98 hw) (lenOf pd_12 rfl) (rm_indexOfChar_128 hw Ts a1 i1 i2 i3 c1 h0 f Zf Z0 A_a1 r_i1 r_i2 r_i3 x_i1_10 x_i2_10 x_i3_10) ?_
 rintro _ _ ⟨rfl, rfl⟩
 exact r_ireturn H d_j43_22_36 (⟨rfl, rfl⟩)
def Q_indexOf_124 (Z : State) (h0 : Heap) (v : Option Value) (h : Heap) : Prop := v = some (.int (-1)) ∧ h0 = h
def R_indexOf_124 : Room := { frames := 2, cells := 0, slots := 0, locals := 32 }
theorem rm_indexOf_124 {w : Bool} {Z : State} {a0 : Array Value} (hw : HW a0 Z) (Ts : List String) (a1 : Addr) (a2 : Addr) (i1 : Int32) (i2 : Int32) (i3 : Int32) (c1 : ClassId) (cs : Int32) (h0 : Heap) (f : Nat) (Zf : Z.heap.size ≤ f) (Z0 : f ≤ h0.size) (E_a1 : Exa Z h0 a1 "java/lang/String") (F_coder_a1 : Fld Z h0 a1 "java/lang/String" "coder" "B" (.int 0)) (F_value_a1 : Fld Z h0 a1 "java/lang/String" "value" "[B" (.ref a2)) (A_a2 : Ar Z h0 a2 c1 .byte [.int (cB8 i1), .int (cB8 i2), .int (cB8 i3)]) (r_i1 : 0 ≤ i1.toInt ∧ i1.toInt ≤ 255) (r_i2 : 0 ≤ i2.toInt ∧ i2.toInt ≤ 255) (r_i3 : 0 ≤ i3.toInt ∧ i3.toInt ≤ 255) (x_i1_10 : ¬ i1 = (10 : Int32)) (x_i2_10 : ¬ i2 = (10 : Int32)) (x_i3_10 : ¬ i3 = (10 : Int32)) (S_cs : G_S_cs Z cs) (hcs : ¬ cs = 0) :
  Con w [] Z (⟨"java/lang/String", "indexOf", "(II)I"⟩ : MethodName) jdk_42_method_80_code 3 (some .int) R_indexOf_124 Ts Ts f #[.ref a1, .int 10, .int 0] h0 (Q_indexOf_124 Z h0) := by
 refine con_of f #[vR a1, vI 10, vI 0] (plainFor_of_name pn_0) (fun m => rfl) Zf ?_
 intro C H hX0
 refine r_aloadN H 1 d_j42_80_0 ?_
 refine r_virtual (z := (⟨"java/lang/String", "isLatin1", "()Z"⟩ : MethodName)) (a := a1) (argsL := []) (rest := []) (W := 0) H 4 d_j42_80_1 (tw53 hw) (tw54 hw) (nf_sel (tw56 hw)) (tw56 hw) (tw55 hw) (tw4 hw) (tw57 hw) E_a1 (lenOf pd_7 rfl) (rm_isLatin1_13 hw Ts a1 cs h0 f Zf Z0 F_coder_a1 S_cs hcs) ?_
 rintro _ _ ⟨rfl, rfl⟩
 refine r_ifeqF H 7 d_j42_80_4 rfl (by decide) ?_
 refine r_aloadN H 8 d_j42_80_7 ?_
 refine r_getf H 11 d_j42_80_8 (tw21 hw) F_value_a1 ?_
 refine r_iloadN H 12 d_j42_80_11 ?_
 refine r_iloadN H 13 d_j42_80_12 ?_
 refine r_aloadN H 14 d_j42_80_13 ?_
 refine r_virtual (z := (⟨"java/lang/String", "length", "()I"⟩ : MethodName)) (a := a1) (argsL := []) (rest := [.int 0, .int 10, .ref a2]) (W := 3) H 17 d_j42_80_14 (tw58 hw) (tw59 hw) (nf_sel (tw61 hw)) (tw61 hw) (tw60 hw) (tw4 hw) (tw62 hw) E_a1 (lenOf pd_9 rfl) (rm_length_125 hw Ts a1 a2 (cB8 i1) (cB8 i2) (cB8 i3) c1 cs h0 f Zf Z0 F_value_a1 A_a2 E_a1 F_coder_a1 S_cs hcs) ?_
 rintro _ _ ⟨rfl, rfl⟩
 refine r_static (argsL := [.ref a2, .int 10, .int 0, .int 3]) (rest := []) (W := 0) H 20 d_j42_80_17 (tw68 hw) (tw69 hw) (tw30 hw) (tw70 hw) (lenOf pd_12 rfl) (rm_indexOf_126 hw Ts a2 i1 i2 i3 c1 h0 f Zf Z0 A_a2 r_i1 r_i2 r_i3 x_i1_10 x_i2_10 x_i3_10) ?_
 rintro _ _ ⟨rfl, rfl⟩
 refine r_goto H 36 d_j42_80_20 ?_
 exact r_ireturn H d_j42_80_36 (⟨rfl, rfl⟩)
def Q_indexOf_123 (Z : State) (h0 : Heap) (v : Option Value) (h : Heap) : Prop := v = some (.int (-1)) ∧ h0 = h
def R_indexOf_123 : Room := { frames := 3, cells := 0, slots := 0, locals := 46 }
theorem rm_indexOf_123 {w : Bool} {Z : State} {a0 : Array Value} (hw : HW a0 Z) (Ts : List String) (a1 : Addr) (a2 : Addr) (i1 : Int32) (i2 : Int32) (i3 : Int32) (c1 : ClassId) (cs : Int32) (h0 : Heap) (f : Nat) (Zf : Z.heap.size ≤ f) (Z0 : f ≤ h0.size) (E_a1 : Exa Z h0 a1 "java/lang/String") (F_coder_a1 : Fld Z h0 a1 "java/lang/String" "coder" "B" (.int 0)) (F_value_a1 : Fld Z h0 a1 "java/lang/String" "value" "[B" (.ref a2)) (A_a2 : Ar Z h0 a2 c1 .byte [.int (cB8 i1), .int (cB8 i2), .int (cB8 i3)]) (r_i1 : 0 ≤ i1.toInt ∧ i1.toInt ≤ 255) (r_i2 : 0 ≤ i2.toInt ∧ i2.toInt ≤ 255) (r_i3 : 0 ≤ i3.toInt ∧ i3.toInt ≤ 255) (x_i1_10 : ¬ i1 = (10 : Int32)) (x_i2_10 : ¬ i2 = (10 : Int32)) (x_i3_10 : ¬ i3 = (10 : Int32)) (S_cs : G_S_cs Z cs) (hcs : ¬ cs = 0) :
  Con w [] Z (⟨"java/lang/String", "indexOf", "(I)I"⟩ : MethodName) jdk_42_method_79_code 2 (some .int) R_indexOf_123 Ts Ts f #[.ref a1, .int 10] h0 (Q_indexOf_123 Z h0) := by
 refine con_of f #[vR a1, vI 10] (plainFor_of_name pn_0) (fun m => rfl) Zf ?_
 intro C H hX0
 refine r_aloadN H 1 d_j42_79_0 ?_
 refine r_iloadN H 2 d_j42_79_1 ?_
 refine r_iconst H 3 0 d_j42_79_2 ?_
 refine r_virtual (z := (⟨"java/lang/String", "indexOf", "(II)I"⟩ : MethodName)) (a := a1) (argsL := [.int 10, .int 0]) (rest := []) (W := 0) H 6 d_j42_79_3 (tw48 hw) (tw49 hw) (nf_sel (tw51 hw)) (tw51 hw) (tw50 hw) (tw4 hw) (tw52 hw) E_a1 (lenOf pd_11 rfl) (rm_indexOf_124 hw Ts a1 a2 i1 i2 i3 c1 cs h0 f Zf Z0 E_a1 F_coder_a1 F_value_a1 A_a2 r_i1 r_i2 r_i3 x_i1_10 x_i2_10 x_i3_10 S_cs hcs) ?_
 rintro _ _ ⟨rfl, rfl⟩
 exact r_ireturn H d_j42_79_6 (⟨rfl, rfl⟩)
def Q_indexOfChar_132 (Z : State) (h0 : Heap) (v : Option Value) (h : Heap) : Prop := v = some (.int (-1)) ∧ h0 = h
def R_indexOfChar_132 : Room := { frames := 0, cells := 0, slots := 0, locals := 0 }
theorem rm_indexOfChar_132 {w : Bool} {Z : State} {a0 : Array Value} (hw : HW a0 Z) (Ts : List String) (a1 : Addr) (i1 : Int32) (i2 : Int32) (i3 : Int32) (c1 : ClassId) (h0 : Heap) (f : Nat) (Zf : Z.heap.size ≤ f) (Z0 : f ≤ h0.size) (A_a1 : Ar Z h0 a1 c1 .byte [.int (cB8 i1), .int (cB8 i2), .int (cB8 i3)]) (r_i1 : 0 ≤ i1.toInt ∧ i1.toInt ≤ 255) (r_i2 : 0 ≤ i2.toInt ∧ i2.toInt ≤ 255) (r_i3 : 0 ≤ i3.toInt ∧ i3.toInt ≤ 255) (x_i1_13 : ¬ i1 = (13 : Int32)) (x_i2_13 : ¬ i2 = (13 : Int32)) (x_i3_13 : ¬ i3 = (13 : Int32)) :
  Con w [] Z (⟨"java/lang/StringLatin1", "indexOfChar", "([BIII)I"⟩ : MethodName) jdk_43_method_23_code 6 (some .int) R_indexOfChar_132 Ts Ts f #[.ref a1, .int 13, .int 0, .int 3] h0 (Q_indexOfChar_132 Z h0) := by
 refine con_of f #[vR a1, vI 13, vI 0, vI 3, .unset, .unset] (plainFor_of_name pn_1) (fun m => rfl) Zf ?_
 intro C H hX0
 refine r_iloadN H 1 d_j43_23_0 ?_
 refine r_i2b H 2 13 d_j43_23_1 (by decide) ?_
 refine r_istore H 4 #[vR a1, vI 13, vI 0, vI 3, vI 13, .unset] d_j43_23_2 ?_
 refine r_iloadN H 5 d_j43_23_4 ?_
 refine r_istore H 7 #[vR a1, vI 13, vI 0, vI 3, vI 13, vI 0] d_j43_23_5 ?_
 refine r_iload H 9 d_j43_23_7 ?_
 refine r_iloadN H 10 d_j43_23_9 ?_
 refine r_icmpgeF H 13 d_j43_23_10 ?_
 refine r_aloadN H 14 d_j43_23_13 ?_
 refine r_iload H 16 d_j43_23_14 ?_
 refine r_baload H 17 (cB8 i1) d_j43_23_16 A_a1 ?_
 refine r_iload H 19 d_j43_23_17 ?_
 refine r_icmpneT H 25 d_j43_23_19 (by decide) (by decide) (i2b_ne (by have := r_i1; omega) (by decide) x_i1_13) ?_
 refine r_iinc H 28 #[vR a1, vI 13, vI 0, vI 3, vI 13, vI 1] 1 d_j43_23_25 ?_
 refine r_goto H 7 d_j43_23_28 ?_
 refine r_iload H 9 d_j43_23_7 ?_
 refine r_iloadN H 10 d_j43_23_9 ?_
 refine r_icmpgeF H 13 d_j43_23_10 ?_
 refine r_aloadN H 14 d_j43_23_13 ?_
 refine r_iload H 16 d_j43_23_14 ?_
 refine r_baload H 17 (cB8 i2) d_j43_23_16 A_a1 ?_
 refine r_iload H 19 d_j43_23_17 ?_
 refine r_icmpneT H 25 d_j43_23_19 (by decide) (by decide) (i2b_ne (by have := r_i2; omega) (by decide) x_i2_13) ?_
 refine r_iinc H 28 #[vR a1, vI 13, vI 0, vI 3, vI 13, vI 2] 2 d_j43_23_25 ?_
 refine r_goto H 7 d_j43_23_28 ?_
 refine r_iload H 9 d_j43_23_7 ?_
 refine r_iloadN H 10 d_j43_23_9 ?_
 refine r_icmpgeF H 13 d_j43_23_10 ?_
 refine r_aloadN H 14 d_j43_23_13 ?_
 refine r_iload H 16 d_j43_23_14 ?_
 refine r_baload H 17 (cB8 i3) d_j43_23_16 A_a1 ?_
 refine r_iload H 19 d_j43_23_17 ?_
 refine r_icmpneT H 25 d_j43_23_19 (by decide) (by decide) (i2b_ne (by have := r_i3; omega) (by decide) x_i3_13) ?_
 refine r_iinc H 28 #[vR a1, vI 13, vI 0, vI 3, vI 13, vI 3] 3 d_j43_23_25 ?_
 refine r_goto H 7 d_j43_23_28 ?_
 refine r_iload H 9 d_j43_23_7 ?_
 refine r_iloadN H 10 d_j43_23_9 ?_
 refine r_icmpgeT H 31 d_j43_23_10 ?_
 refine r_iconst H 32 (-1 : Int32) d_j43_23_31 ?_
 exact r_ireturn H d_j43_23_32 (⟨rfl, rfl⟩)
def Q_indexOf_131 (Z : State) (h0 : Heap) (v : Option Value) (h : Heap) : Prop := v = some (.int (-1)) ∧ h0 = h
def R_indexOf_131 : Room := { frames := 1, cells := 0, slots := 0, locals := 17 }
theorem rm_indexOf_131 {w : Bool} {Z : State} {a0 : Array Value} (hw : HW a0 Z) (Ts : List String) (a1 : Addr) (i1 : Int32) (i2 : Int32) (i3 : Int32) (c1 : ClassId) (h0 : Heap) (f : Nat) (Zf : Z.heap.size ≤ f) (Z0 : f ≤ h0.size) (A_a1 : Ar Z h0 a1 c1 .byte [.int (cB8 i1), .int (cB8 i2), .int (cB8 i3)]) (r_i1 : 0 ≤ i1.toInt ∧ i1.toInt ≤ 255) (r_i2 : 0 ≤ i2.toInt ∧ i2.toInt ≤ 255) (r_i3 : 0 ≤ i3.toInt ∧ i3.toInt ≤ 255) (x_i1_13 : ¬ i1 = (13 : Int32)) (x_i2_13 : ¬ i2 = (13 : Int32)) (x_i3_13 : ¬ i3 = (13 : Int32)) :
  Con w [] Z (⟨"java/lang/StringLatin1", "indexOf", "([BIII)I"⟩ : MethodName) jdk_43_method_22_code 4 (some .int) R_indexOf_131 Ts Ts f #[.ref a1, .int 13, .int 0, .int 3] h0 (Q_indexOf_131 Z h0) := by
 refine con_of f #[vR a1, vI 13, vI 0, vI 3] (plainFor_of_name pn_1) (fun m => rfl) Zf ?_
 intro C H hX0
 refine r_iloadN H 1 d_j43_22_0 ?_
 refine r_static (argsL := [.int 13]) (rest := []) (W := 0) H 4 d_j43_22_1 (tw71 hw) (tw72 hw) (tw30 hw) (tw73 hw) (lenOf pd_10 rfl) (rm_canEncode_23 hw Ts h0 f Zf Z0) ?_
 rintro _ _ ⟨rfl, rfl⟩
 refine r_ifneT H 9 d_j43_22_4 ?_
 refine r_iloadN H 10 d_j43_22_9 ?_
 refine r_iconst H 11 0 d_j43_22_10 ?_
 refine r_static (argsL := [.int 0, .int 0]) (rest := []) (W := 0) H 14 d_j43_22_11 (tw74 hw) (tw75 hw) (tw76 hw) (tw77 hw) (lenOf pd_11 rfl) (rm_max_18 hw Ts h0 f Zf Z0) ?_
 rintro _ _ ⟨rfl, rfl⟩
 refine r_istoreN H 15 #[vR a1, vI 13, vI 0, vI 3] d_j43_22_14 ?_
 refine r_iloadN H 16 d_j43_22_15 ?_
 refine r_aloadN H 17 d_j43_22_16 ?_
 refine r_alen H 18 3 d_j43_22_17 A_a1 ?_
 refine r_static (argsL := [.int 3, .int 3]) (rest := []) (W := 0) H 21 d_j43_22_18 (tw78 hw) (tw79 hw) (tw76 hw) (tw80 hw) (lenOf pd_11 rfl) (rm_min_127 hw Ts h0 f Zf Z0) ?_
 rintro _ _ ⟨rfl, rfl⟩
 refine r_istoreN H 22 #[vR a1, vI 13, vI 0, vI 3] d_j43_22_21 ?_
 refine r_iloadN H 23 d_j43_22_22 ?_
 refine r_iloadN H 24 d_j43_22_23 ?_
 refine r_icmpltT H 29 d_j43_22_24 ?_
 refine r_aloadN H 30 d_j43_22_29 ?_
 refine r_iloadN H 31 d_j43_22_30 ?_
 refine r_iloadN H 32 d_j43_22_31 ?_
 refine r_iloadN H 33 d_j43_22_32 ?_
 refine r_static (argsL := [.ref a1, .int 13, .int 0, .int 3]) (rest := []) (W := 0) H 36 d_j43_22_33 (tw96 hw) (tw97 hw) (tw30 hw) (tw98 hw) (lenOf pd_12 rfl) (rm_indexOfChar_132 hw Ts a1 i1 i2 i3 c1 h0 f Zf Z0 A_a1 r_i1 r_i2 r_i3 x_i1_13 x_i2_13 x_i3_13) ?_
 rintro _ _ ⟨rfl, rfl⟩
 exact r_ireturn H d_j43_22_36 (⟨rfl, rfl⟩)
def Q_indexOf_130 (Z : State) (h0 : Heap) (v : Option Value) (h : Heap) : Prop := v = some (.int (-1)) ∧ h0 = h
def R_indexOf_130 : Room := { frames := 2, cells := 0, slots := 0, locals := 32 }
theorem rm_indexOf_130 {w : Bool} {Z : State} {a0 : Array Value} (hw : HW a0 Z) (Ts : List String) (a1 : Addr) (a2 : Addr) (i1 : Int32) (i2 : Int32) (i3 : Int32) (c1 : ClassId) (cs : Int32) (h0 : Heap) (f : Nat) (Zf : Z.heap.size ≤ f) (Z0 : f ≤ h0.size) (E_a1 : Exa Z h0 a1 "java/lang/String") (F_coder_a1 : Fld Z h0 a1 "java/lang/String" "coder" "B" (.int 0)) (F_value_a1 : Fld Z h0 a1 "java/lang/String" "value" "[B" (.ref a2)) (A_a2 : Ar Z h0 a2 c1 .byte [.int (cB8 i1), .int (cB8 i2), .int (cB8 i3)]) (r_i1 : 0 ≤ i1.toInt ∧ i1.toInt ≤ 255) (r_i2 : 0 ≤ i2.toInt ∧ i2.toInt ≤ 255) (r_i3 : 0 ≤ i3.toInt ∧ i3.toInt ≤ 255) (x_i1_13 : ¬ i1 = (13 : Int32)) (x_i2_13 : ¬ i2 = (13 : Int32)) (x_i3_13 : ¬ i3 = (13 : Int32)) (S_cs : G_S_cs Z cs) (hcs : ¬ cs = 0) :
  Con w [] Z (⟨"java/lang/String", "indexOf", "(II)I"⟩ : MethodName) jdk_42_method_80_code 3 (some .int) R_indexOf_130 Ts Ts f #[.ref a1, .int 13, .int 0] h0 (Q_indexOf_130 Z h0) := by
 refine con_of f #[vR a1, vI 13, vI 0] (plainFor_of_name pn_0) (fun m => rfl) Zf ?_
 intro C H hX0
 refine r_aloadN H 1 d_j42_80_0 ?_
 refine r_virtual (z := (⟨"java/lang/String", "isLatin1", "()Z"⟩ : MethodName)) (a := a1) (argsL := []) (rest := []) (W := 0) H 4 d_j42_80_1 (tw53 hw) (tw54 hw) (nf_sel (tw56 hw)) (tw56 hw) (tw55 hw) (tw4 hw) (tw57 hw) E_a1 (lenOf pd_7 rfl) (rm_isLatin1_13 hw Ts a1 cs h0 f Zf Z0 F_coder_a1 S_cs hcs) ?_
 rintro _ _ ⟨rfl, rfl⟩
 refine r_ifeqF H 7 d_j42_80_4 rfl (by decide) ?_
 refine r_aloadN H 8 d_j42_80_7 ?_
 refine r_getf H 11 d_j42_80_8 (tw21 hw) F_value_a1 ?_
 refine r_iloadN H 12 d_j42_80_11 ?_
 refine r_iloadN H 13 d_j42_80_12 ?_
 refine r_aloadN H 14 d_j42_80_13 ?_
 refine r_virtual (z := (⟨"java/lang/String", "length", "()I"⟩ : MethodName)) (a := a1) (argsL := []) (rest := [.int 0, .int 13, .ref a2]) (W := 3) H 17 d_j42_80_14 (tw58 hw) (tw59 hw) (nf_sel (tw61 hw)) (tw61 hw) (tw60 hw) (tw4 hw) (tw62 hw) E_a1 (lenOf pd_9 rfl) (rm_length_125 hw Ts a1 a2 (cB8 i1) (cB8 i2) (cB8 i3) c1 cs h0 f Zf Z0 F_value_a1 A_a2 E_a1 F_coder_a1 S_cs hcs) ?_
 rintro _ _ ⟨rfl, rfl⟩
 refine r_static (argsL := [.ref a2, .int 13, .int 0, .int 3]) (rest := []) (W := 0) H 20 d_j42_80_17 (tw68 hw) (tw69 hw) (tw30 hw) (tw70 hw) (lenOf pd_12 rfl) (rm_indexOf_131 hw Ts a2 i1 i2 i3 c1 h0 f Zf Z0 A_a2 r_i1 r_i2 r_i3 x_i1_13 x_i2_13 x_i3_13) ?_
 rintro _ _ ⟨rfl, rfl⟩
 refine r_goto H 36 d_j42_80_20 ?_
 exact r_ireturn H d_j42_80_36 (⟨rfl, rfl⟩)
def Q_indexOf_129 (Z : State) (h0 : Heap) (v : Option Value) (h : Heap) : Prop := v = some (.int (-1)) ∧ h0 = h
def R_indexOf_129 : Room := { frames := 3, cells := 0, slots := 0, locals := 46 }
theorem rm_indexOf_129 {w : Bool} {Z : State} {a0 : Array Value} (hw : HW a0 Z) (Ts : List String) (a1 : Addr) (a2 : Addr) (i1 : Int32) (i2 : Int32) (i3 : Int32) (c1 : ClassId) (cs : Int32) (h0 : Heap) (f : Nat) (Zf : Z.heap.size ≤ f) (Z0 : f ≤ h0.size) (E_a1 : Exa Z h0 a1 "java/lang/String") (F_coder_a1 : Fld Z h0 a1 "java/lang/String" "coder" "B" (.int 0)) (F_value_a1 : Fld Z h0 a1 "java/lang/String" "value" "[B" (.ref a2)) (A_a2 : Ar Z h0 a2 c1 .byte [.int (cB8 i1), .int (cB8 i2), .int (cB8 i3)]) (r_i1 : 0 ≤ i1.toInt ∧ i1.toInt ≤ 255) (r_i2 : 0 ≤ i2.toInt ∧ i2.toInt ≤ 255) (r_i3 : 0 ≤ i3.toInt ∧ i3.toInt ≤ 255) (x_i1_13 : ¬ i1 = (13 : Int32)) (x_i2_13 : ¬ i2 = (13 : Int32)) (x_i3_13 : ¬ i3 = (13 : Int32)) (S_cs : G_S_cs Z cs) (hcs : ¬ cs = 0) :
  Con w [] Z (⟨"java/lang/String", "indexOf", "(I)I"⟩ : MethodName) jdk_42_method_79_code 2 (some .int) R_indexOf_129 Ts Ts f #[.ref a1, .int 13] h0 (Q_indexOf_129 Z h0) := by
 refine con_of f #[vR a1, vI 13] (plainFor_of_name pn_0) (fun m => rfl) Zf ?_
 intro C H hX0
 refine r_aloadN H 1 d_j42_79_0 ?_
 refine r_iloadN H 2 d_j42_79_1 ?_
 refine r_iconst H 3 0 d_j42_79_2 ?_
 refine r_virtual (z := (⟨"java/lang/String", "indexOf", "(II)I"⟩ : MethodName)) (a := a1) (argsL := [.int 13, .int 0]) (rest := []) (W := 0) H 6 d_j42_79_3 (tw48 hw) (tw49 hw) (nf_sel (tw51 hw)) (tw51 hw) (tw50 hw) (tw4 hw) (tw52 hw) E_a1 (lenOf pd_11 rfl) (rm_indexOf_130 hw Ts a1 a2 i1 i2 i3 c1 cs h0 f Zf Z0 E_a1 F_coder_a1 F_value_a1 A_a2 r_i1 r_i2 r_i3 x_i1_13 x_i2_13 x_i3_13 S_cs hcs) ?_
 rintro _ _ ⟨rfl, rfl⟩
 exact r_ireturn H d_j42_79_6 (⟨rfl, rfl⟩)
def Q_require_122 (Z : State) (a2 : Addr) (h0 : Heap) (v : Option Value) (h : Heap) : Prop := v = some (.ref a2) ∧ h0 = h
def R_require_122 : Room := { frames := 4, cells := 0, slots := 0, locals := 59 }
theorem rm_require_122 {w : Bool} {Z : State} {a0 : Array Value} (hw : HW a0 Z) (Ts : List String) (a1 : Addr) (a2 : Addr) (a4 : Addr) (i3 : Int32) (i4 : Int32) (i5 : Int32) (c2 : ClassId) (cs : Int32) (h0 : Heap) (f : Nat) (Zf : Z.heap.size ≤ f) (Z0 : f ≤ h0.size) (E_a2 : Exa Z h0 a2 "java/lang/String") (F_coder_a2 : Fld Z h0 a2 "java/lang/String" "coder" "B" (.int 0)) (F_value_a2 : Fld Z h0 a2 "java/lang/String" "value" "[B" (.ref a4)) (A_a4 : Ar Z h0 a4 c2 .byte [.int (cB8 i3), .int (cB8 i4), .int (cB8 i5)]) (r_i3 : 0 ≤ i3.toInt ∧ i3.toInt ≤ 255) (r_i4 : 0 ≤ i4.toInt ∧ i4.toInt ≤ 255) (r_i5 : 0 ≤ i5.toInt ∧ i5.toInt ≤ 255) (x_i3_10 : ¬ i3 = (10 : Int32)) (x_i3_13 : ¬ i3 = (13 : Int32)) (x_i4_10 : ¬ i4 = (10 : Int32)) (x_i4_13 : ¬ i4 = (13 : Int32)) (x_i5_10 : ¬ i5 = (10 : Int32)) (x_i5_13 : ¬ i5 = (13 : Int32)) (S_cs : G_S_cs Z cs) (hcs : ¬ cs = 0) :
  Con w [] Z (⟨"com/example/ferryline/ferryline/model/OneLine", "require", "(Ljava/lang/String;Ljava/lang/String;)Ljava/lang/String;"⟩ : MethodName) prog_70_method_2_code 2 (some (.object "java/lang/String")) R_require_122 Ts Ts f #[.ref a1, .ref a2] h0 (Q_require_122 Z a2 h0) := by
 refine con_of f #[vR a1, vR a2] (plainFor_of_name pn_3) (fun m => rfl) Zf ?_
 intro C H hX0
 refine r_aloadN H 1 d_g70_2_0 ?_
 refine r_bipush H 3 10 d_g70_2_1 ?_
 refine r_virtual (z := (⟨"java/lang/String", "indexOf", "(I)I"⟩ : MethodName)) (a := a2) (argsL := [.int 10]) (rest := []) (W := 0) H 6 d_g70_2_3 (tw43 hw) (tw44 hw) (nf_sel (tw46 hw)) (tw46 hw) (tw45 hw) (tw4 hw) (tw47 hw) E_a2 (lenOf pd_13 rfl) (rm_indexOf_123 hw Ts a2 a4 i3 i4 i5 c2 cs h0 f Zf Z0 E_a2 F_coder_a2 F_value_a2 A_a4 r_i3 r_i4 r_i5 x_i3_10 x_i4_10 x_i5_10 S_cs hcs) ?_
 rintro _ _ ⟨rfl, rfl⟩
 refine r_ifgeF H 9 d_g70_2_6 ?_
 refine r_aloadN H 10 d_g70_2_9 ?_
 refine r_bipush H 12 13 d_g70_2_10 ?_
 refine r_virtual (z := (⟨"java/lang/String", "indexOf", "(I)I"⟩ : MethodName)) (a := a2) (argsL := [.int 13]) (rest := []) (W := 0) H 15 d_g70_2_12 (tw43 hw) (tw44 hw) (nf_sel (tw46 hw)) (tw46 hw) (tw45 hw) (tw4 hw) (tw47 hw) E_a2 (lenOf pd_13 rfl) (rm_indexOf_129 hw Ts a2 a4 i3 i4 i5 c2 cs h0 f Zf Z0 E_a2 F_coder_a2 F_value_a2 A_a4 r_i3 r_i4 r_i5 x_i3_13 x_i4_13 x_i5_13 S_cs hcs) ?_
 rintro _ _ ⟨rfl, rfl⟩
 refine r_ifltT H 38 d_g70_2_15 ?_
 refine r_aloadN H 39 d_g70_2_38 ?_
 exact r_areturn H d_g70_2_39 (⟨rfl, rfl⟩)
def Q_length_136 (Z : State) (h0 : Heap) (v : Option Value) (h : Heap) : Prop := v = some (.int 3) ∧ h0 = h
def R_length_136 : Room := { frames := 1, cells := 0, slots := 0, locals := 13 }
theorem rm_length_136 {w : Bool} {Z : State} {a0 : Array Value} (hw : HW a0 Z) (Ts : List String) (a1 : Addr) (a2 : Addr) (i1 : Int32) (i2 : Int32) (i3 : Int32) (i4 : Int32) (i5 : Int32) (i6 : Int32) (c1 : ClassId) (cs : Int32) (h0 : Heap) (f : Nat) (Zf : Z.heap.size ≤ f) (Z0 : f ≤ h0.size) (F_value_a1 : Fld Z h0 a1 "java/lang/String" "value" "[B" (.ref a2)) (A_a2 : Ar Z h0 a2 c1 .byte [.int i1, .int i2, .int i3, .int i4, .int i5, .int i6]) (E_a1 : Exa Z h0 a1 "java/lang/String") (F_coder_a1 : Fld Z h0 a1 "java/lang/String" "coder" "B" (.int 1)) (S_cs : G_S_cs Z cs) (hcs : ¬ cs = 0) :
  Con w [] Z (⟨"java/lang/String", "length", "()I"⟩ : MethodName) jdk_42_method_54_code 1 (some .int) R_length_136 Ts Ts f #[.ref a1] h0 (Q_length_136 Z h0) := by
 refine con_of f #[vR a1] (plainFor_of_name pn_0) (fun m => rfl) Zf ?_
 intro C H hX0
 refine r_aloadN H 1 d_j42_54_0 ?_
 refine r_getf H 4 d_j42_54_1 (tw21 hw) F_value_a1 ?_
 refine r_alen H 5 6 d_j42_54_4 A_a2 ?_
 refine r_aloadN H 6 d_j42_54_5 ?_
 refine r_virtual (z := (⟨"java/lang/String", "coder", "()B"⟩ : MethodName)) (a := a1) (argsL := []) (rest := [.int 6]) (W := 1) H 9 d_j42_54_6 (tw63 hw) (tw64 hw) (nf_sel (tw66 hw)) (tw66 hw) (tw65 hw) (tw4 hw) (tw67 hw) E_a1 (lenOf pd_8 rfl) (rm_coder_51 hw Ts a1 cs h0 f Zf Z0 F_coder_a1 S_cs hcs) ?_
 rintro _ _ ⟨rfl, rfl⟩
 refine r_ishr H 10 3 d_j42_54_9 (by decide) ?_
 exact r_ireturn H d_j42_54_10 (⟨rfl, rfl⟩)
def Q_length_140 (Z : State) (h0 : Heap) (v : Option Value) (h : Heap) : Prop := v = some (.int 3) ∧ h0 = h
def R_length_140 : Room := { frames := 0, cells := 0, slots := 0, locals := 0 }
theorem rm_length_140 {w : Bool} {Z : State} {a0 : Array Value} (hw : HW a0 Z) (Ts : List String) (a1 : Addr) (i1 : Int32) (i2 : Int32) (i3 : Int32) (i4 : Int32) (i5 : Int32) (i6 : Int32) (c1 : ClassId) (h0 : Heap) (f : Nat) (Zf : Z.heap.size ≤ f) (Z0 : f ≤ h0.size) (A_a1 : Ar Z h0 a1 c1 .byte [.int i1, .int i2, .int i3, .int i4, .int i5, .int i6]) :
  Con w [] Z (⟨"java/lang/StringUTF16", "length", "([B)I"⟩ : MethodName) jdk_52_method_6_code 1 (some .int) R_length_140 Ts Ts f #[.ref a1] h0 (Q_length_140 Z h0) := by
 refine con_of f #[vR a1] (plainFor_of_name pn_2) (fun m => rfl) Zf ?_
 intro C H hX0
 refine r_aloadN H 1 d_j52_6_0 ?_
 refine r_alen H 2 6 d_j52_6_1 A_a1 ?_
 refine r_iconst H 3 1 d_j52_6_2 ?_
 refine r_ishr H 4 3 d_j52_6_3 (by decide) ?_
 exact r_ireturn H d_j52_6_4 (⟨rfl, rfl⟩)
def Q_checkFromToIndex_142 (Z : State) (h0 : Heap) (v : Option Value) (h : Heap) : Prop := v = some (.int 0) ∧ h0 = h
def R_checkFromToIndex_142 : Room := { frames := 0, cells := 0, slots := 0, locals := 0 }
theorem rm_checkFromToIndex_142 {w : Bool} {Z : State} {a0 : Array Value} (hw : HW a0 Z) (Ts : List String) (sio : Value) (h0 : Heap) (f : Nat) (Zf : Z.heap.size ≤ f) (Z0 : f ≤ h0.size) (hsio : G_hsio Z sio) :
  Con w [] Z (⟨"jdk/internal/util/Preconditions", "checkFromToIndex", "(IIILjava/util/function/BiFunction;)I"⟩ : MethodName) jdk_41_method_12_code 4 (some .int) R_checkFromToIndex_142 Ts Ts f #[.int 0, .int 3, .int 3, sio] h0 (Q_checkFromToIndex_142 Z h0) := by
 refine con_of f #[vI 0, vI 3, vI 3, .val sio] (plainFor_of_name pn_5) (fun m => by rcases hsio with hh | ⟨_, hh⟩ <;> subst hh <;> rfl) Zf ?_
 intro C H hX0
 refine r_iloadN H 1 d_j41_12_0 ?_
 refine r_ifltF H 4 d_j41_12_1 ?_
 refine r_iloadN H 5 d_j41_12_4 ?_
 refine r_iloadN H 6 d_j41_12_5 ?_
 refine r_icmpgtF H 9 d_j41_12_6 rfl (by decide) ?_
 refine r_iloadN H 10 d_j41_12_9 ?_
 refine r_iloadN H 11 d_j41_12_10 ?_
 refine r_icmpleT H 22 d_j41_12_11 (by decide) (by decide) (by decide) ?_
 refine r_iloadN H 23 d_j41_12_22 ?_
 exact r_ireturn H d_j41_12_23 (⟨rfl, rfl⟩)
def Q_checkBoundsBeginEnd_141 (Z : State) (h0 : Heap) (v : Option Value) (h : Heap) : Prop := v = none ∧ h0 = h
def R_checkBoundsBeginEnd_141 : Room := { frames := 1, cells := 0, slots := 0, locals := 15 }
theorem rm_checkBoundsBeginEnd_141 {w : Bool} {Z : State} {a0 : Array Value} (hw : HW a0 Z) (Ts : List String) (sio : Value) (h0 : Heap) (f : Nat) (Zf : Z.heap.size ≤ f) (Z0 : f ≤ h0.size) (S_sio : G_S_sio Z sio) (hsio : G_hsio Z sio) :
  Con w [] Z (⟨"java/lang/String", "checkBoundsBeginEnd", "(III)V"⟩ : MethodName) jdk_42_method_158_code 3 none R_checkBoundsBeginEnd_141 Ts Ts f #[.int 0, .int 3, .int 3] h0 (Q_checkBoundsBeginEnd_141 Z h0) := by
 refine con_of f #[vI 0, vI 3, vI 3] (plainFor_of_name pn_0) (fun m => rfl) Zf ?_
 intro C H hX0
 refine r_iloadN H 1 d_j42_158_0 ?_
 refine r_iloadN H 2 d_j42_158_1 ?_
 refine r_iloadN H 3 d_j42_158_2 ?_
 refine r_gets H 6 d_j42_158_3 (tw139 hw) S_sio ?_
 refine r_static (argsL := [.int 0, .int 3, .int 3, sio]) (rest := []) (W := 0) H 9 d_j42_158_6 (tw141 hw) (tw142 hw) (tw140 hw) (tw143 hw) (lenOf pd_22 rfl) (rm_checkFromToIndex_142 hw Ts sio h0 f Zf Z0 hsio) ?_
 rintro _ _ ⟨rfl, rfl⟩
 refine r_pop H 10 d_j42_158_9 ?_
 exact r_return H d_j42_158_10 (⟨rfl, rfl⟩)
def Q_checkBoundsBeginEnd_139 (Z : State) (h0 : Heap) (v : Option Value) (h : Heap) : Prop := v = none ∧ h0 = h
def R_checkBoundsBeginEnd_139 : Room := { frames := 2, cells := 0, slots := 0, locals := 29 }
theorem rm_checkBoundsBeginEnd_139 {w : Bool} {Z : State} {a0 : Array Value} (hw : HW a0 Z) (Ts : List String) (a1 : Addr) (i1 : Int32) (i2 : Int32) (i3 : Int32) (c1 : ClassId) (sio : Value) (h0 : Heap) (f : Nat) (Zf : Z.heap.size ≤ f) (Z0 : f ≤ h0.size) (A_a1 : Ar Z h0 a1 c1 .byte [.int (cL8 i1), .int (cH8 i1), .int (cL8 i2), .int (cH8 i2), .int (cL8 i3), .int (cH8 i3)]) (S_sio : G_S_sio Z sio) (hsio : G_hsio Z sio) :
  Con w [] Z (⟨"java/lang/StringUTF16", "checkBoundsBeginEnd", "(II[B)V"⟩ : MethodName) jdk_52_method_93_code 3 none R_checkBoundsBeginEnd_139 Ts Ts f #[.int 0, .int 3, .ref a1] h0 (Q_checkBoundsBeginEnd_139 Z h0) := by
 refine con_of f #[vI 0, vI 3, vR a1] (plainFor_of_name pn_2) (fun m => rfl) Zf ?_
 intro C H hX0
 refine r_iloadN H 1 d_j52_93_0 ?_
 refine r_iloadN H 2 d_j52_93_1 ?_
 refine r_aloadN H 3 d_j52_93_2 ?_
 refine r_static (argsL := [.ref a1]) (rest := [.int 3, .int 0]) (W := 2) H 6 d_j52_93_3 (tw133 hw) (tw134 hw) (tw88 hw) (tw135 hw) (lenOf pd_21 rfl) (rm_length_140 hw Ts a1 (cL8 i1) (cH8 i1) (cL8 i2) (cH8 i2) (cL8 i3) (cH8 i3) c1 h0 f Zf Z0 A_a1) ?_
 rintro _ _ ⟨rfl, rfl⟩
 refine r_static (argsL := [.int 0, .int 3, .int 3]) (rest := []) (W := 0) H 9 d_j52_93_6 (tw136 hw) (tw137 hw) (tw4 hw) (tw138 hw) (lenOf pd_23 rfl) (rm_checkBoundsBeginEnd_141 hw Ts sio h0 f Zf Z0 S_sio hsio) ?_
 rintro _ _ ⟨rfl, rfl⟩
 exact r_return H d_j52_93_9 (⟨rfl, rfl⟩)
def Q_indexOfCharUnsafe_143 (Z : State) (h0 : Heap) (v : Option Value) (h : Heap) : Prop := v = some (.int (-1)) ∧ h0 = h
def R_indexOfCharUnsafe_143 : Room := { frames := 1, cells := 0, slots := 0, locals := 13 }
theorem rm_indexOfCharUnsafe_143 {w : Bool} {Z : State} {a0 : Array Value} (hw : HW a0 Z) (Ts : List String) (a1 : Addr) (i1 : Int32) (i2 : Int32) (i3 : Int32) (c1 : ClassId) (h0 : Heap) (f : Nat) (Zf : Z.heap.size ≤ f) (Z0 : f ≤ h0.size) (A_a1 : Ar Z h0 a1 c1 .byte [.int (cL8 i1), .int (cH8 i1), .int (cL8 i2), .int (cH8 i2), .int (cL8 i3), .int (cH8 i3)]) (r_i1 : 0 ≤ i1.toInt ∧ i1.toInt ≤ 65535) (r_i2 : 0 ≤ i2.toInt ∧ i2.toInt ≤ 65535) (r_i3 : 0 ≤ i3.toInt ∧ i3.toInt ≤ 65535) (x_i1_10 : ¬ i1 = (10 : Int32)) (x_i2_10 : ¬ i2 = (10 : Int32)) (x_i3_10 : ¬ i3 = (10 : Int32)) (S__assertionsDisabled : G_S__assertionsDisabled Z) (S_HI_BYTE_SHIFT : G_S_HI_BYTE_SHIFT Z) (S_LO_BYTE_SHIFT : G_S_LO_BYTE_SHIFT Z) :
  Con w [] Z (⟨"java/lang/StringUTF16", "indexOfCharUnsafe", "([BIII)I"⟩ : MethodName) jdk_52_method_48_code 5 (some .int) R_indexOfCharUnsafe_143 Ts Ts f #[.ref a1, .int 10, .int 0, .int 3] h0 (Q_indexOfCharUnsafe_143 Z h0) := by
 refine con_of f #[vR a1, vI 10, vI 0, vI 3, .unset] (plainFor_of_name pn_2) (fun m => rfl) Zf ?_
 intro C H hX0
 refine r_iloadN H 1 d_j52_48_0 ?_
 refine r_istore H 3 #[vR a1, vI 10, vI 0, vI 3, vI 0] d_j52_48_1 ?_
 refine r_iload H 5 d_j52_48_3 ?_
 refine r_iloadN H 6 d_j52_48_5 ?_
 refine r_icmpgeF H 9 d_j52_48_6 ?_
 refine r_aloadN H 10 d_j52_48_9 ?_
 refine r_iload H 12 d_j52_48_10 ?_
 refine r_static (argsL := [.ref a1, .int 0]) (rest := []) (W := 0) H 15 d_j52_48_12 (tw115 hw) (tw116 hw) (tw88 hw) (tw117 hw) (lenOf pd_19 rfl) (rm_getChar_119 hw Ts a1 (cL8 i1) (cH8 i1) (cL8 i2) (cH8 i2) (cL8 i3) (cH8 i3) c1 h0 f Zf Z0 A_a1 S__assertionsDisabled S_HI_BYTE_SHIFT S_LO_BYTE_SHIFT) ?_
 rintro _ _ ⟨p1, rfl, ep1, rp1, rfl⟩
 have hzp1 : i1 = p1 := by rw [← ep1]; exact (own_u16 i1 (by have := r_i1; omega)).symm
 subst hzp1
 refine r_iloadN H 16 d_j52_48_15 ?_
 refine r_icmpneT H 22 d_j52_48_16 (by decide) (by decide) x_i1_10 ?_
 refine r_iinc H 25 #[vR a1, vI 10, vI 0, vI 3, vI 1] 1 d_j52_48_22 ?_
 refine r_goto H 3 d_j52_48_25 ?_
 refine r_iload H 5 d_j52_48_3 ?_
 refine r_iloadN H 6 d_j52_48_5 ?_
 refine r_icmpgeF H 9 d_j52_48_6 ?_
 refine r_aloadN H 10 d_j52_48_9 ?_
 refine r_iload H 12 d_j52_48_10 ?_
 refine r_static (argsL := [.ref a1, .int 1]) (rest := []) (W := 0) H 15 d_j52_48_12 (tw115 hw) (tw116 hw) (tw88 hw) (tw117 hw) (lenOf pd_19 rfl) (rm_getChar_117 hw Ts a1 (cL8 i1) (cH8 i1) (cL8 i2) (cH8 i2) (cL8 i3) (cH8 i3) c1 h0 f Zf Z0 A_a1 S__assertionsDisabled S_HI_BYTE_SHIFT S_LO_BYTE_SHIFT) ?_
 rintro _ _ ⟨p3, rfl, ep3, rp3, rfl⟩
 have hzp3 : i2 = p3 := by rw [← ep3]; exact (own_u16 i2 (by have := r_i2; omega)).symm
 subst hzp3
 refine r_iloadN H 16 d_j52_48_15 ?_
 refine r_icmpneT H 22 d_j52_48_16 (by decide) (by decide) x_i2_10 ?_
 refine r_iinc H 25 #[vR a1, vI 10, vI 0, vI 3, vI 2] 2 d_j52_48_22 ?_
 refine r_goto H 3 d_j52_48_25 ?_
 refine r_iload H 5 d_j52_48_3 ?_
 refine r_iloadN H 6 d_j52_48_5 ?_
 refine r_icmpgeF H 9 d_j52_48_6 ?_
 refine r_aloadN H 10 d_j52_48_9 ?_
 refine r_iload H 12 d_j52_48_10 ?_
 refine r_static (argsL := [.ref a1, .int 2]) (rest := []) (W := 0) H 15 d_j52_48_12 (tw115 hw) (tw116 hw) (tw88 hw) (tw117 hw) (lenOf pd_19 rfl) (rm_getChar_115 hw Ts a1 (cL8 i1) (cH8 i1) (cL8 i2) (cH8 i2) (cL8 i3) (cH8 i3) c1 h0 f Zf Z0 A_a1 S__assertionsDisabled S_HI_BYTE_SHIFT S_LO_BYTE_SHIFT) ?_
 rintro _ _ ⟨p5, rfl, ep5, rp5, rfl⟩
 have hzp5 : i3 = p5 := by rw [← ep5]; exact (own_u16 i3 (by have := r_i3; omega)).symm
 subst hzp5
 refine r_iloadN H 16 d_j52_48_15 ?_
 refine r_icmpneT H 22 d_j52_48_16 (by decide) (by decide) x_i3_10 ?_
 refine r_iinc H 25 #[vR a1, vI 10, vI 0, vI 3, vI 3] 3 d_j52_48_22 ?_
 refine r_goto H 3 d_j52_48_25 ?_
 refine r_iload H 5 d_j52_48_3 ?_
 refine r_iloadN H 6 d_j52_48_5 ?_
 refine r_icmpgeT H 28 d_j52_48_6 ?_
 refine r_iconst H 29 (-1 : Int32) d_j52_48_28 ?_
 exact r_ireturn H d_j52_48_29 (⟨rfl, rfl⟩)
def Q_indexOfChar_138 (Z : State) (h0 : Heap) (v : Option Value) (h : Heap) : Prop := v = some (.int (-1)) ∧ h0 = h
def R_indexOfChar_138 : Room := { frames := 3, cells := 0, slots := 0, locals := 43 }
theorem rm_indexOfChar_138 {w : Bool} {Z : State} {a0 : Array Value} (hw : HW a0 Z) (Ts : List String) (a1 : Addr) (i1 : Int32) (i2 : Int32) (i3 : Int32) (c1 : ClassId) (sio : Value) (h0 : Heap) (f : Nat) (Zf : Z.heap.size ≤ f) (Z0 : f ≤ h0.size) (A_a1 : Ar Z h0 a1 c1 .byte [.int (cL8 i1), .int (cH8 i1), .int (cL8 i2), .int (cH8 i2), .int (cL8 i3), .int (cH8 i3)]) (r_i1 : 0 ≤ i1.toInt ∧ i1.toInt ≤ 65535) (r_i2 : 0 ≤ i2.toInt ∧ i2.toInt ≤ 65535) (r_i3 : 0 ≤ i3.toInt ∧ i3.toInt ≤ 65535) (x_i1_10 : ¬ i1 = (10 : Int32)) (x_i2_10 : ¬ i2 = (10 : Int32)) (x_i3_10 : ¬ i3 = (10 : Int32)) (S_sio : G_S_sio Z sio) (hsio : G_hsio Z sio) (S__assertionsDisabled : G_S__assertionsDisabled Z) (S_HI_BYTE_SHIFT : G_S_HI_BYTE_SHIFT Z) (S_LO_BYTE_SHIFT : G_S_LO_BYTE_SHIFT Z) :
  Con w [] Z (⟨"java/lang/StringUTF16", "indexOfChar", "([BIII)I"⟩ : MethodName) jdk_52_method_47_code 4 (some .int) R_indexOfChar_138 Ts Ts f #[.ref a1, .int 10, .int 0, .int 3] h0 (Q_indexOfChar_138 Z h0) := by
 refine con_of f #[vR a1, vI 10, vI 0, vI 3] (plainFor_of_name pn_2) (fun m => rfl) Zf ?_
 intro C H hX0
 refine r_iloadN H 1 d_j52_47_0 ?_
 refine r_iloadN H 2 d_j52_47_1 ?_
 refine r_aloadN H 3 d_j52_47_2 ?_
 refine r_static (argsL := [.int 0, .int 3, .ref a1]) (rest := []) (W := 0) H 6 d_j52_47_3 (tw130 hw) (tw131 hw) (tw88 hw) (tw132 hw) (lenOf pd_24 rfl) (rm_checkBoundsBeginEnd_139 hw Ts a1 i1 i2 i3 c1 sio h0 f Zf Z0 A_a1 S_sio hsio) ?_
 rintro _ _ ⟨rfl, rfl⟩
 refine r_aloadN H 7 d_j52_47_6 ?_
 refine r_iloadN H 8 d_j52_47_7 ?_
 refine r_iloadN H 9 d_j52_47_8 ?_
 refine r_iloadN H 10 d_j52_47_9 ?_
 refine r_static (argsL := [.ref a1, .int 10, .int 0, .int 3]) (rest := []) (W := 0) H 13 d_j52_47_10 (tw144 hw) (tw145 hw) (tw88 hw) (tw146 hw) (lenOf pd_12 rfl) (rm_indexOfCharUnsafe_143 hw Ts a1 i1 i2 i3 c1 h0 f Zf Z0 A_a1 r_i1 r_i2 r_i3 x_i1_10 x_i2_10 x_i3_10 S__assertionsDisabled S_HI_BYTE_SHIFT S_LO_BYTE_SHIFT) ?_
 rintro _ _ ⟨rfl, rfl⟩
 exact r_ireturn H d_j52_47_13 (⟨rfl, rfl⟩)
def Q_indexOf_137 (Z : State) (h0 : Heap) (v : Option Value) (h : Heap) : Prop := v = some (.int (-1)) ∧ h0 = h
def R_indexOf_137 : Room := { frames := 4, cells := 0, slots := 0, locals := 58 }
theorem rm_indexOf_137 {w : Bool} {Z : State} {a0 : Array Value} (hw : HW a0 Z) (Ts : List String) (a1 : Addr) (i1 : Int32) (i2 : Int32) (i3 : Int32) (c1 : ClassId) (sio : Value) (h0 : Heap) (f : Nat) (Zf : Z.heap.size ≤ f) (Z0 : f ≤ h0.size) (A_a1 : Ar Z h0 a1 c1 .byte [.int (cL8 i1), .int (cH8 i1), .int (cL8 i2), .int (cH8 i2), .int (cL8 i3), .int (cH8 i3)]) (r_i1 : 0 ≤ i1.toInt ∧ i1.toInt ≤ 65535) (r_i2 : 0 ≤ i2.toInt ∧ i2.toInt ≤ 65535) (r_i3 : 0 ≤ i3.toInt ∧ i3.toInt ≤ 65535) (x_i1_10 : ¬ i1 = (10 : Int32)) (x_i2_10 : ¬ i2 = (10 : Int32)) (x_i3_10 : ¬ i3 = (10 : Int32)) (S_sio : G_S_sio Z sio) (hsio : G_hsio Z sio) (S__assertionsDisabled : G_S__assertionsDisabled Z) (S_HI_BYTE_SHIFT : G_S_HI_BYTE_SHIFT Z) (S_LO_BYTE_SHIFT : G_S_LO_BYTE_SHIFT Z) :
  Con w [] Z (⟨"java/lang/StringUTF16", "indexOf", "([BIII)I"⟩ : MethodName) jdk_52_method_40_code 4 (some .int) R_indexOf_137 Ts Ts f #[.ref a1, .int 10, .int 0, .int 3] h0 (Q_indexOf_137 Z h0) := by
 refine con_of f #[vR a1, vI 10, vI 0, vI 3] (plainFor_of_name pn_2) (fun m => rfl) Zf ?_
 intro C H hX0
 refine r_iloadN H 1 d_j52_40_0 ?_
 refine r_iconst H 2 0 d_j52_40_1 ?_
 refine r_static (argsL := [.int 0, .int 0]) (rest := []) (W := 0) H 5 d_j52_40_2 (tw124 hw) (tw75 hw) (tw76 hw) (tw77 hw) (lenOf pd_11 rfl) (rm_max_18 hw Ts h0 f Zf Z0) ?_
 rintro _ _ ⟨rfl, rfl⟩
 refine r_istoreN H 6 #[vR a1, vI 10, vI 0, vI 3] d_j52_40_5 ?_
 refine r_iloadN H 7 d_j52_40_6 ?_
 refine r_aloadN H 8 d_j52_40_7 ?_
 refine r_alen H 9 6 d_j52_40_8 A_a1 ?_
 refine r_iconst H 10 1 d_j52_40_9 ?_
 refine r_ishr H 11 3 d_j52_40_10 (by decide) ?_
 refine r_static (argsL := [.int 3, .int 3]) (rest := []) (W := 0) H 14 d_j52_40_11 (tw125 hw) (tw79 hw) (tw76 hw) (tw80 hw) (lenOf pd_11 rfl) (rm_min_127 hw Ts h0 f Zf Z0) ?_
 rintro _ _ ⟨rfl, rfl⟩
 refine r_istoreN H 15 #[vR a1, vI 10, vI 0, vI 3] d_j52_40_14 ?_
 refine r_iloadN H 16 d_j52_40_15 ?_
 refine r_iloadN H 17 d_j52_40_16 ?_
 refine r_icmpltT H 22 d_j52_40_17 ?_
 refine r_iloadN H 23 d_j52_40_22 ?_
 refine r_ldcI H 25 d_j52_40_23 (tw126 hw) ?_
 refine r_icmpgeF H 28 d_j52_40_25 ?_
 refine r_aloadN H 29 d_j52_40_28 ?_
 refine r_iloadN H 30 d_j52_40_29 ?_
 refine r_iloadN H 31 d_j52_40_30 ?_
 refine r_iloadN H 32 d_j52_40_31 ?_
 refine r_static (argsL := [.ref a1, .int 10, .int 0, .int 3]) (rest := []) (W := 0) H 35 d_j52_40_32 (tw127 hw) (tw128 hw) (tw88 hw) (tw129 hw) (lenOf pd_12 rfl) (rm_indexOfChar_138 hw Ts a1 i1 i2 i3 c1 sio h0 f Zf Z0 A_a1 r_i1 r_i2 r_i3 x_i1_10 x_i2_10 x_i3_10 S_sio hsio S__assertionsDisabled S_HI_BYTE_SHIFT S_LO_BYTE_SHIFT) ?_
 rintro _ _ ⟨rfl, rfl⟩
 exact r_ireturn H d_j52_40_35 (⟨rfl, rfl⟩)
def Q_indexOf_135 (Z : State) (h0 : Heap) (v : Option Value) (h : Heap) : Prop := v = some (.int (-1)) ∧ h0 = h
def R_indexOf_135 : Room := { frames := 5, cells := 0, slots := 0, locals := 73 }
theorem rm_indexOf_135 {w : Bool} {Z : State} {a0 : Array Value} (hw : HW a0 Z) (Ts : List String) (a1 : Addr) (a2 : Addr) (i1 : Int32) (i2 : Int32) (i3 : Int32) (c1 : ClassId) (cs : Int32) (sio : Value) (h0 : Heap) (f : Nat) (Zf : Z.heap.size ≤ f) (Z0 : f ≤ h0.size) (E_a1 : Exa Z h0 a1 "java/lang/String") (F_coder_a1 : Fld Z h0 a1 "java/lang/String" "coder" "B" (.int 1)) (F_value_a1 : Fld Z h0 a1 "java/lang/String" "value" "[B" (.ref a2)) (A_a2 : Ar Z h0 a2 c1 .byte [.int (cL8 i1), .int (cH8 i1), .int (cL8 i2), .int (cH8 i2), .int (cL8 i3), .int (cH8 i3)]) (r_i1 : 0 ≤ i1.toInt ∧ i1.toInt ≤ 65535) (r_i2 : 0 ≤ i2.toInt ∧ i2.toInt ≤ 65535) (r_i3 : 0 ≤ i3.toInt ∧ i3.toInt ≤ 65535) (x_i1_10 : ¬ i1 = (10 : Int32)) (x_i2_10 : ¬ i2 = (10 : Int32)) (x_i3_10 : ¬ i3 = (10 : Int32)) (S_cs : G_S_cs Z cs) (S_sio : G_S_sio Z sio) (hsio : G_hsio Z sio) (S__assertionsDisabled : G_S__assertionsDisabled Z) (S_HI_BYTE_SHIFT : G_S_HI_BYTE_SHIFT Z) (S_LO_BYTE_SHIFT : G_S_LO_BYTE_SHIFT Z) (hcs : ¬ cs = 0) :
  Con w [] Z (⟨"java/lang/String", "indexOf", "(II)I"⟩ : MethodName) jdk_42_method_80_code 3 (some .int) R_indexOf_135 Ts Ts f #[.ref a1, .int 10, .int 0] h0 (Q_indexOf_135 Z h0) := by
 refine con_of f #[vR a1, vI 10, vI 0] (plainFor_of_name pn_0) (fun m => rfl) Zf ?_
 intro C H hX0
 refine r_aloadN H 1 d_j42_80_0 ?_
 refine r_virtual (z := (⟨"java/lang/String", "isLatin1", "()Z"⟩ : MethodName)) (a := a1) (argsL := []) (rest := []) (W := 0) H 4 d_j42_80_1 (tw53 hw) (tw54 hw) (nf_sel (tw56 hw)) (tw56 hw) (tw55 hw) (tw4 hw) (tw57 hw) E_a1 (lenOf pd_7 rfl) (rm_isLatin1_49 hw Ts a1 cs h0 f Zf Z0 F_coder_a1 S_cs hcs) ?_
 rintro _ _ ⟨rfl, rfl⟩
 refine r_ifeqT H 23 d_j42_80_4 (by decide) (by decide) (by decide) ?_
 refine r_aloadN H 24 d_j42_80_23 ?_
 refine r_getf H 27 d_j42_80_24 (tw21 hw) F_value_a1 ?_
 refine r_iloadN H 28 d_j42_80_27 ?_
 refine r_iloadN H 29 d_j42_80_28 ?_
 refine r_aloadN H 30 d_j42_80_29 ?_
 refine r_virtual (z := (⟨"java/lang/String", "length", "()I"⟩ : MethodName)) (a := a1) (argsL := []) (rest := [.int 0, .int 10, .ref a2]) (W := 3) H 33 d_j42_80_30 (tw58 hw) (tw59 hw) (nf_sel (tw61 hw)) (tw61 hw) (tw60 hw) (tw4 hw) (tw62 hw) E_a1 (lenOf pd_9 rfl) (rm_length_136 hw Ts a1 a2 (cL8 i1) (cH8 i1) (cL8 i2) (cH8 i2) (cL8 i3) (cH8 i3) c1 cs h0 f Zf Z0 F_value_a1 A_a2 E_a1 F_coder_a1 S_cs hcs) ?_
 rintro _ _ ⟨rfl, rfl⟩
 refine r_static (argsL := [.ref a2, .int 10, .int 0, .int 3]) (rest := []) (W := 0) H 36 d_j42_80_33 (tw121 hw) (tw122 hw) (tw88 hw) (tw123 hw) (lenOf pd_12 rfl) (rm_indexOf_137 hw Ts a2 i1 i2 i3 c1 sio h0 f Zf Z0 A_a2 r_i1 r_i2 r_i3 x_i1_10 x_i2_10 x_i3_10 S_sio hsio S__assertionsDisabled S_HI_BYTE_SHIFT S_LO_BYTE_SHIFT) ?_
 rintro _ _ ⟨rfl, rfl⟩
 exact r_ireturn H d_j42_80_36 (⟨rfl, rfl⟩)
def Q_indexOf_134 (Z : State) (h0 : Heap) (v : Option Value) (h : Heap) : Prop := v = some (.int (-1)) ∧ h0 = h
def R_indexOf_134 : Room := { frames := 6, cells := 0, slots := 0, locals := 87 }
theorem rm_indexOf_134 {w : Bool} {Z : State} {a0 : Array Value} (hw : HW a0 Z) (Ts : List String) (a1 : Addr) (a2 : Addr) (i1 : Int32) (i2 : Int32) (i3 : Int32) (c1 : ClassId) (cs : Int32) (sio : Value) (h0 : Heap) (f : Nat) (Zf : Z.heap.size ≤ f) (Z0 : f ≤ h0.size) (E_a1 : Exa Z h0 a1 "java/lang/String") (F_coder_a1 : Fld Z h0 a1 "java/lang/String" "coder" "B" (.int 1)) (F_value_a1 : Fld Z h0 a1 "java/lang/String" "value" "[B" (.ref a2)) (A_a2 : Ar Z h0 a2 c1 .byte [.int (cL8 i1), .int (cH8 i1), .int (cL8 i2), .int (cH8 i2), .int (cL8 i3), .int (cH8 i3)]) (r_i1 : 0 ≤ i1.toInt ∧ i1.toInt ≤ 65535) (r_i2 : 0 ≤ i2.toInt ∧ i2.toInt ≤ 65535) (r_i3 : 0 ≤ i3.toInt ∧ i3.toInt ≤ 65535) (x_i1_10 : ¬ i1 = (10 : Int32)) (x_i2_10 : ¬ i2 = (10 : Int32)) (x_i3_10 : ¬ i3 = (10 : Int32)) (S_cs : G_S_cs Z cs) (S_sio : G_S_sio Z sio) (hsio : G_hsio Z sio) (S__assertionsDisabled : G_S__assertionsDisabled Z) (S_HI_BYTE_SHIFT : G_S_HI_BYTE_SHIFT Z) (S_LO_BYTE_SHIFT : G_S_LO_BYTE_SHIFT Z) (hcs : ¬ cs = 0) :
  Con w [] Z (⟨"java/lang/String", "indexOf", "(I)I"⟩ : MethodName) jdk_42_method_79_code 2 (some .int) R_indexOf_134 Ts Ts f #[.ref a1, .int 10] h0 (Q_indexOf_134 Z h0) := by
 refine con_of f #[vR a1, vI 10] (plainFor_of_name pn_0) (fun m => rfl) Zf ?_
 intro C H hX0
 refine r_aloadN H 1 d_j42_79_0 ?_
 refine r_iloadN H 2 d_j42_79_1 ?_
 refine r_iconst H 3 0 d_j42_79_2 ?_
 refine r_virtual (z := (⟨"java/lang/String", "indexOf", "(II)I"⟩ : MethodName)) (a := a1) (argsL := [.int 10, .int 0]) (rest := []) (W := 0) H 6 d_j42_79_3 (tw48 hw) (tw49 hw) (nf_sel (tw51 hw)) (tw51 hw) (tw50 hw) (tw4 hw) (tw52 hw) E_a1 (lenOf pd_11 rfl) (rm_indexOf_135 hw Ts a1 a2 i1 i2 i3 c1 cs sio h0 f Zf Z0 E_a1 F_coder_a1 F_value_a1 A_a2 r_i1 r_i2 r_i3 x_i1_10 x_i2_10 x_i3_10 S_cs S_sio hsio S__assertionsDisabled S_HI_BYTE_SHIFT S_LO_BYTE_SHIFT hcs) ?_
 rintro _ _ ⟨rfl, rfl⟩
 exact r_ireturn H d_j42_79_6 (⟨rfl, rfl⟩)
def Q_indexOfCharUnsafe_148 (Z : State) (h0 : Heap) (v : Option Value) (h : Heap) : Prop := v = some (.int (-1)) ∧ h0 = h
def R_indexOfCharUnsafe_148 : Room := { frames := 1, cells := 0, slots := 0, locals := 13 }
theorem rm_indexOfCharUnsafe_148 {w : Bool} {Z : State} {a0 : Array Value} (hw : HW a0 Z) (Ts : List String) (a1 : Addr) (i1 : Int32) (i2 : Int32) (i3 : Int32) (c1 : ClassId) (h0 : Heap) (f : Nat) (Zf : Z.heap.size ≤ f) (Z0 : f ≤ h0.size) (A_a1 : Ar Z h0 a1 c1 .byte [.int (cL8 i1), .int (cH8 i1), .int (cL8 i2), .int (cH8 i2), .int (cL8 i3), .int (cH8 i3)]) (r_i1 : 0 ≤ i1.toInt ∧ i1.toInt ≤ 65535) (r_i2 : 0 ≤ i2.toInt ∧ i2.toInt ≤ 65535) (r_i3 : 0 ≤ i3.toInt ∧ i3.toInt ≤ 65535) (x_i1_13 : ¬ i1 = (13 : Int32)) (x_i2_13 : ¬ i2 = (13 : Int32)) (x_i3_13 : ¬ i3 = (13 : Int32)) (S__assertionsDisabled : G_S__assertionsDisabled Z) (S_HI_BYTE_SHIFT : G_S_HI_BYTE_SHIFT Z) (S_LO_BYTE_SHIFT : G_S_LO_BYTE_SHIFT Z) :
  Con w [] Z (⟨"java/lang/StringUTF16", "indexOfCharUnsafe", "([BIII)I"⟩ : MethodName) jdk_52_method_48_code 5 (some .int) R_indexOfCharUnsafe_148 Ts Ts f #[.ref a1, .int 13, .int 0, .int 3] h0 (Q_indexOfCharUnsafe_148 Z h0) := by
 refine con_of f #[vR a1, vI 13, vI 0, vI 3, .unset] (plainFor_of_name pn_2) (fun m => rfl) Zf ?_
 intro C H hX0
 refine r_iloadN H 1 d_j52_48_0 ?_
 refine r_istore H 3 #[vR a1, vI 13, vI 0, vI 3, vI 0] d_j52_48_1 ?_
 refine r_iload H 5 d_j52_48_3 ?_
 refine r_iloadN H 6 d_j52_48_5 ?_
 refine r_icmpgeF H 9 d_j52_48_6 ?_
 refine r_aloadN H 10 d_j52_48_9 ?_
 refine r_iload H 12 d_j52_48_10 ?_
 refine r_static (argsL := [.ref a1, .int 0]) (rest := []) (W := 0) H 15 d_j52_48_12 (tw115 hw) (tw116 hw) (tw88 hw) (tw117 hw) (lenOf pd_19 rfl) (rm_getChar_119 hw Ts a1 (cL8 i1) (cH8 i1) (cL8 i2) (cH8 i2) (cL8 i3) (cH8 i3) c1 h0 f Zf Z0 A_a1 S__assertionsDisabled S_HI_BYTE_SHIFT S_LO_BYTE_SHIFT) ?_
 rintro _ _ ⟨p1, rfl, ep1, rp1, rfl⟩
 have hzp1 : i1 = p1 := by rw [← ep1]; exact (own_u16 i1 (by have := r_i1; omega)).symm
 subst hzp1
 refine r_iloadN H 16 d_j52_48_15 ?_
 refine r_icmpneT H 22 d_j52_48_16 (by decide) (by decide) x_i1_13 ?_
 refine r_iinc H 25 #[vR a1, vI 13, vI 0, vI 3, vI 1] 1 d_j52_48_22 ?_
 refine r_goto H 3 d_j52_48_25 ?_
 refine r_iload H 5 d_j52_48_3 ?_
 refine r_iloadN H 6 d_j52_48_5 ?_
 refine r_icmpgeF H 9 d_j52_48_6 ?_
 refine r_aloadN H 10 d_j52_48_9 ?_
 refine r_iload H 12 d_j52_48_10 ?_
 refine r_static (argsL := [.ref a1, .int 1]) (rest := []) (W := 0) H 15 d_j52_48_12 (tw115 hw) (tw116 hw) (tw88 hw) (tw117 hw) (lenOf pd_19 rfl) (rm_getChar_117 hw Ts a1 (cL8 i1) (cH8 i1) (cL8 i2) (cH8 i2) (cL8 i3) (cH8 i3) c1 h0 f Zf Z0 A_a1 S__assertionsDisabled S_HI_BYTE_SHIFT S_LO_BYTE_SHIFT) ?_
 rintro _ _ ⟨p3, rfl, ep3, rp3, rfl⟩
 have hzp3 : i2 = p3 := by rw [← ep3]; exact (own_u16 i2 (by have := r_i2; omega)).symm
 subst hzp3
 refine r_iloadN H 16 d_j52_48_15 ?_
 refine r_icmpneT H 22 d_j52_48_16 (by decide) (by decide) x_i2_13 ?_
 refine r_iinc H 25 #[vR a1, vI 13, vI 0, vI 3, vI 2] 2 d_j52_48_22 ?_
 refine r_goto H 3 d_j52_48_25 ?_
 refine r_iload H 5 d_j52_48_3 ?_
 refine r_iloadN H 6 d_j52_48_5 ?_
 refine r_icmpgeF H 9 d_j52_48_6 ?_
 refine r_aloadN H 10 d_j52_48_9 ?_
 refine r_iload H 12 d_j52_48_10 ?_
 refine r_static (argsL := [.ref a1, .int 2]) (rest := []) (W := 0) H 15 d_j52_48_12 (tw115 hw) (tw116 hw) (tw88 hw) (tw117 hw) (lenOf pd_19 rfl) (rm_getChar_115 hw Ts a1 (cL8 i1) (cH8 i1) (cL8 i2) (cH8 i2) (cL8 i3) (cH8 i3) c1 h0 f Zf Z0 A_a1 S__assertionsDisabled S_HI_BYTE_SHIFT S_LO_BYTE_SHIFT) ?_
 rintro _ _ ⟨p5, rfl, ep5, rp5, rfl⟩
 have hzp5 : i3 = p5 := by rw [← ep5]; exact (own_u16 i3 (by have := r_i3; omega)).symm
 subst hzp5
 refine r_iloadN H 16 d_j52_48_15 ?_
 refine r_icmpneT H 22 d_j52_48_16 (by decide) (by decide) x_i3_13 ?_
 refine r_iinc H 25 #[vR a1, vI 13, vI 0, vI 3, vI 3] 3 d_j52_48_22 ?_
 refine r_goto H 3 d_j52_48_25 ?_
 refine r_iload H 5 d_j52_48_3 ?_
 refine r_iloadN H 6 d_j52_48_5 ?_
 refine r_icmpgeT H 28 d_j52_48_6 ?_
 refine r_iconst H 29 (-1 : Int32) d_j52_48_28 ?_
 exact r_ireturn H d_j52_48_29 (⟨rfl, rfl⟩)
def Q_indexOfChar_147 (Z : State) (h0 : Heap) (v : Option Value) (h : Heap) : Prop := v = some (.int (-1)) ∧ h0 = h
def R_indexOfChar_147 : Room := { frames := 3, cells := 0, slots := 0, locals := 43 }
theorem rm_indexOfChar_147 {w : Bool} {Z : State} {a0 : Array Value} (hw : HW a0 Z) (Ts : List String) (a1 : Addr) (i1 : Int32) (i2 : Int32) (i3 : Int32) (c1 : ClassId) (sio : Value) (h0 : Heap) (f : Nat) (Zf : Z.heap.size ≤ f) (Z0 : f ≤ h0.size) (A_a1 : Ar Z h0 a1 c1 .byte [.int (cL8 i1), .int (cH8 i1), .int (cL8 i2), .int (cH8 i2), .int (cL8 i3), .int (cH8 i3)]) (r_i1 : 0 ≤ i1.toInt ∧ i1.toInt ≤ 65535) (r_i2 : 0 ≤ i2.toInt ∧ i2.toInt ≤ 65535) (r_i3 : 0 ≤ i3.toInt ∧ i3.toInt ≤ 65535) (x_i1_13 : ¬ i1 = (13 : Int32)) (x_i2_13 : ¬ i2 = (13 : Int32)) (x_i3_13 : ¬ i3 = (13 : Int32)) (S_sio : G_S_sio Z sio) (hsio : G_hsio Z sio) (S__assertionsDisabled : G_S__assertionsDisabled Z) (S_HI_BYTE_SHIFT : G_S_HI_BYTE_SHIFT Z) (S_LO_BYTE_SHIFT : G_S_LO_BYTE_SHIFT Z) :
  Con w [] Z (⟨"java/lang/StringUTF16", "indexOfChar", "([BIII)I"⟩ : MethodName) jdk_52_method_47_code 4 (some .int) R_indexOfChar_147 Ts Ts f #[.ref a1, .int 13, .int 0, .int 3] h0 (Q_indexOfChar_147 Z h0) := by
 refine con_of f #[vR a1, vI 13, vI 0, vI 3] (plainFor_of_name pn_2) (fun m => rfl) Zf ?_
 intro C H hX0
 refine r_iloadN H 1 d_j52_47_0 ?_
 refine r_iloadN H 2 d_j52_47_1 ?_
 refine r_aloadN H 3 d_j52_47_2 ?_
 refine r_static (argsL := [.int 0, .int 3, .ref a1]) (rest := []) (W := 0) H 6 d_j52_47_3 (tw130 hw) (tw131 hw) (tw88 hw) (tw132 hw) (lenOf pd_24 rfl) (rm_checkBoundsBeginEnd_139 hw Ts a1 i1 i2 i3 c1 sio h0 f Zf Z0 A_a1 S_sio hsio) ?_
 rintro _ _ ⟨rfl, rfl⟩
 refine r_aloadN H 7 d_j52_47_6 ?_
 refine r_iloadN H 8 d_j52_47_7 ?_
 refine r_iloadN H 9 d_j52_47_8 ?_
 refine r_iloadN H 10 d_j52_47_9 ?_
 refine r_static (argsL := [.ref a1, .int 13, .int 0, .int 3]) (rest := []) (W := 0) H 13 d_j52_47_10 (tw144 hw) (tw145 hw) (tw88 hw) (tw146 hw) (lenOf pd_12 rfl) (rm_indexOfCharUnsafe_148 hw Ts a1 i1 i2 i3 c1 h0 f Zf Z0 A_a1 r_i1 r_i2 r_i3 x_i1_13 x_i2_13 x_i3_13 S__assertionsDisabled S_HI_BYTE_SHIFT S_LO_BYTE_SHIFT) ?_
 rintro _ _ ⟨rfl, rfl⟩
 exact r_ireturn H d_j52_47_13 (⟨rfl, rfl⟩)
def Q_indexOf_146 (Z : State) (h0 : Heap) (v : Option Value) (h : Heap) : Prop := v = some (.int (-1)) ∧ h0 = h
def R_indexOf_146 : Room := { frames := 4, cells := 0, slots := 0, locals := 58 }
theorem rm_indexOf_146 {w : Bool} {Z : State} {a0 : Array Value} (hw : HW a0 Z) (Ts : List String) (a1 : Addr) (i1 : Int32) (i2 : Int32) (i3 : Int32) (c1 : ClassId) (sio : Value) (h0 : Heap) (f : Nat) (Zf : Z.heap.size ≤ f) (Z0 : f ≤ h0.size) (A_a1 : Ar Z h0 a1 c1 .byte [.int (cL8 i1), .int (cH8 i1), .int (cL8 i2), .int (cH8 i2), .int (cL8 i3), .int (cH8 i3)]) (r_i1 : 0 ≤ i1.toInt ∧ i1.toInt ≤ 65535) (r_i2 : 0 ≤ i2.toInt ∧ i2.toInt ≤ 65535) (r_i3 : 0 ≤ i3.toInt ∧ i3.toInt ≤ 65535) (x_i1_13 : ¬ i1 = (13 : Int32)) (x_i2_13 : ¬ i2 = (13 : Int32)) (x_i3_13 : ¬ i3 = (13 : Int32)) (S_sio : G_S_sio Z sio) (hsio : G_hsio Z sio) (S__assertionsDisabled : G_S__assertionsDisabled Z) (S_HI_BYTE_SHIFT : G_S_HI_BYTE_SHIFT Z) (S_LO_BYTE_SHIFT : G_S_LO_BYTE_SHIFT Z) :
  Con w [] Z (⟨"java/lang/StringUTF16", "indexOf", "([BIII)I"⟩ : MethodName) jdk_52_method_40_code 4 (some .int) R_indexOf_146 Ts Ts f #[.ref a1, .int 13, .int 0, .int 3] h0 (Q_indexOf_146 Z h0) := by
 refine con_of f #[vR a1, vI 13, vI 0, vI 3] (plainFor_of_name pn_2) (fun m => rfl) Zf ?_
 intro C H hX0
 refine r_iloadN H 1 d_j52_40_0 ?_
 refine r_iconst H 2 0 d_j52_40_1 ?_
 refine r_static (argsL := [.int 0, .int 0]) (rest := []) (W := 0) H 5 d_j52_40_2 (tw124 hw) (tw75 hw) (tw76 hw) (tw77 hw) (lenOf pd_11 rfl) (rm_max_18 hw Ts h0 f Zf Z0) ?_
 rintro _ _ ⟨rfl, rfl⟩
 refine r_istoreN H 6 #[vR a1, vI 13, vI 0, vI 3] d_j52_40_5 ?_
 refine r_iloadN H 7 d_j52_40_6 ?_
 refine r_aloadN H 8 d_j52_40_7 ?_
 refine r_alen H 9 6 d_j52_40_8 A_a1 ?_
 refine r_iconst H 10 1 d_j52_40_9 ?_
 refine r_ishr H 11 3 d_j52_40_10 (by decide) ?_
 refine r_static (argsL := [.int 3, .int 3]) (rest := []) (W := 0) H 14 d_j52_40_11 (tw125 hw) (tw79 hw) (tw76 hw) (tw80 hw) (lenOf pd_11 rfl) (rm_min_127 hw Ts h0 f Zf Z0) ?_
 rintro _ _ ⟨rfl, rfl⟩
 refine r_istoreN H 15 #[vR a1, vI 13, vI 0, vI 3] d_j52_40_14 ?_
 refine r_iloadN H 16 d_j52_40_15 ?_
 refine r_iloadN H 17 d_j52_40_16 ?_
 refine r_icmpltT H 22 d_j52_40_17 ?_
 refine r_iloadN H 23 d_j52_40_22 ?_
 refine r_ldcI H 25 d_j52_40_23 (tw126 hw) ?_
 refine r_icmpgeF H 28 d_j52_40_25 ?_
 refine r_aloadN H 29 d_j52_40_28 ?_
 refine r_iloadN H 30 d_j52_40_29 ?_
 refine r_iloadN H 31 d_j52_40_30 ?_
 refine r_iloadN H 32 d_j52_40_31 ?_
 refine r_static (argsL := [.ref a1, .int 13, .int 0, .int 3]) (rest := []) (W := 0) H 35 d_j52_40_32 (tw127 hw) (tw128 hw) (tw88 hw) (tw129 hw) (lenOf pd_12 rfl) (rm_indexOfChar_147 hw Ts a1 i1 i2 i3 c1 sio h0 f Zf Z0 A_a1 r_i1 r_i2 r_i3 x_i1_13 x_i2_13 x_i3_13 S_sio hsio S__assertionsDisabled S_HI_BYTE_SHIFT S_LO_BYTE_SHIFT) ?_
 rintro _ _ ⟨rfl, rfl⟩
 exact r_ireturn H d_j52_40_35 (⟨rfl, rfl⟩)
def Q_indexOf_145 (Z : State) (h0 : Heap) (v : Option Value) (h : Heap) : Prop := v = some (.int (-1)) ∧ h0 = h
def R_indexOf_145 : Room := { frames := 5, cells := 0, slots := 0, locals := 73 }
theorem rm_indexOf_145 {w : Bool} {Z : State} {a0 : Array Value} (hw : HW a0 Z) (Ts : List String) (a1 : Addr) (a2 : Addr) (i1 : Int32) (i2 : Int32) (i3 : Int32) (c1 : ClassId) (cs : Int32) (sio : Value) (h0 : Heap) (f : Nat) (Zf : Z.heap.size ≤ f) (Z0 : f ≤ h0.size) (E_a1 : Exa Z h0 a1 "java/lang/String") (F_coder_a1 : Fld Z h0 a1 "java/lang/String" "coder" "B" (.int 1)) (F_value_a1 : Fld Z h0 a1 "java/lang/String" "value" "[B" (.ref a2)) (A_a2 : Ar Z h0 a2 c1 .byte [.int (cL8 i1), .int (cH8 i1), .int (cL8 i2), .int (cH8 i2), .int (cL8 i3), .int (cH8 i3)]) (r_i1 : 0 ≤ i1.toInt ∧ i1.toInt ≤ 65535) (r_i2 : 0 ≤ i2.toInt ∧ i2.toInt ≤ 65535) (r_i3 : 0 ≤ i3.toInt ∧ i3.toInt ≤ 65535) (x_i1_13 : ¬ i1 = (13 : Int32)) (x_i2_13 : ¬ i2 = (13 : Int32)) (x_i3_13 : ¬ i3 = (13 : Int32)) (S_cs : G_S_cs Z cs) (S_sio : G_S_sio Z sio) (hsio : G_hsio Z sio) (S__assertionsDisabled : G_S__assertionsDisabled Z) (S_HI_BYTE_SHIFT : G_S_HI_BYTE_SHIFT Z) (S_LO_BYTE_SHIFT : G_S_LO_BYTE_SHIFT Z) (hcs : ¬ cs = 0) :
  Con w [] Z (⟨"java/lang/String", "indexOf", "(II)I"⟩ : MethodName) jdk_42_method_80_code 3 (some .int) R_indexOf_145 Ts Ts f #[.ref a1, .int 13, .int 0] h0 (Q_indexOf_145 Z h0) := by
 refine con_of f #[vR a1, vI 13, vI 0] (plainFor_of_name pn_0) (fun m => rfl) Zf ?_
 intro C H hX0
 refine r_aloadN H 1 d_j42_80_0 ?_
 refine r_virtual (z := (⟨"java/lang/String", "isLatin1", "()Z"⟩ : MethodName)) (a := a1) (argsL := []) (rest := []) (W := 0) H 4 d_j42_80_1 (tw53 hw) (tw54 hw) (nf_sel (tw56 hw)) (tw56 hw) (tw55 hw) (tw4 hw) (tw57 hw) E_a1 (lenOf pd_7 rfl) (rm_isLatin1_49 hw Ts a1 cs h0 f Zf Z0 F_coder_a1 S_cs hcs) ?_
 rintro _ _ ⟨rfl, rfl⟩
 refine r_ifeqT H 23 d_j42_80_4 (by decide) (by decide) (by decide) ?_
 refine r_aloadN H 24 d_j42_80_23 ?_
 refine r_getf H 27 d_j42_80_24 (tw21 hw) F_value_a1 ?_
 refine r_iloadN H 28 d_j42_80_27 ?_
 refine r_iloadN H 29 d_j42_80_28 ?_
 refine r_aloadN H 30 d_j42_80_29 ?_
 refine r_virtual (z := (⟨"java/lang/String", "length", "()I"⟩ : MethodName)) (a := a1) (argsL := []) (rest := [.int 0, .int 13, .ref a2]) (W := 3) H 33 d_j42_80_30 (tw58 hw) (tw59 hw) (nf_sel (tw61 hw)) (tw61 hw) (tw60 hw) (tw4 hw) (tw62 hw) E_a1 (lenOf pd_9 rfl) (rm_length_136 hw Ts a1 a2 (cL8 i1) (cH8 i1) (cL8 i2) (cH8 i2) (cL8 i3) (cH8 i3) c1 cs h0 f Zf Z0 F_value_a1 A_a2 E_a1 F_coder_a1 S_cs hcs) ?_
 rintro _ _ ⟨rfl, rfl⟩
 refine r_static (argsL := [.ref a2, .int 13, .int 0, .int 3]) (rest := []) (W := 0) H 36 d_j42_80_33 (tw121 hw) (tw122 hw) (tw88 hw) (tw123 hw) (lenOf pd_12 rfl) (rm_indexOf_146 hw Ts a2 i1 i2 i3 c1 sio h0 f Zf Z0 A_a2 r_i1 r_i2 r_i3 x_i1_13 x_i2_13 x_i3_13 S_sio hsio S__assertionsDisabled S_HI_BYTE_SHIFT S_LO_BYTE_SHIFT) ?_
 rintro _ _ ⟨rfl, rfl⟩
 exact r_ireturn H d_j42_80_36 (⟨rfl, rfl⟩)
def Q_indexOf_144 (Z : State) (h0 : Heap) (v : Option Value) (h : Heap) : Prop := v = some (.int (-1)) ∧ h0 = h
def R_indexOf_144 : Room := { frames := 6, cells := 0, slots := 0, locals := 87 }
theorem rm_indexOf_144 {w : Bool} {Z : State} {a0 : Array Value} (hw : HW a0 Z) (Ts : List String) (a1 : Addr) (a2 : Addr) (i1 : Int32) (i2 : Int32) (i3 : Int32) (c1 : ClassId) (cs : Int32) (sio : Value) (h0 : Heap) (f : Nat) (Zf : Z.heap.size ≤ f) (Z0 : f ≤ h0.size) (E_a1 : Exa Z h0 a1 "java/lang/String") (F_coder_a1 : Fld Z h0 a1 "java/lang/String" "coder" "B" (.int 1)) (F_value_a1 : Fld Z h0 a1 "java/lang/String" "value" "[B" (.ref a2)) (A_a2 : Ar Z h0 a2 c1 .byte [.int (cL8 i1), .int (cH8 i1), .int (cL8 i2), .int (cH8 i2), .int (cL8 i3), .int (cH8 i3)]) (r_i1 : 0 ≤ i1.toInt ∧ i1.toInt ≤ 65535) (r_i2 : 0 ≤ i2.toInt ∧ i2.toInt ≤ 65535) (r_i3 : 0 ≤ i3.toInt ∧ i3.toInt ≤ 65535) (x_i1_13 : ¬ i1 = (13 : Int32)) (x_i2_13 : ¬ i2 = (13 : Int32)) (x_i3_13 : ¬ i3 = (13 : Int32)) (S_cs : G_S_cs Z cs) (S_sio : G_S_sio Z sio) (hsio : G_hsio Z sio) (S__assertionsDisabled : G_S__assertionsDisabled Z) (S_HI_BYTE_SHIFT : G_S_HI_BYTE_SHIFT Z) (S_LO_BYTE_SHIFT : G_S_LO_BYTE_SHIFT Z) (hcs : ¬ cs = 0) :
  Con w [] Z (⟨"java/lang/String", "indexOf", "(I)I"⟩ : MethodName) jdk_42_method_79_code 2 (some .int) R_indexOf_144 Ts Ts f #[.ref a1, .int 13] h0 (Q_indexOf_144 Z h0) := by
 refine con_of f #[vR a1, vI 13] (plainFor_of_name pn_0) (fun m => rfl) Zf ?_
 intro C H hX0
 refine r_aloadN H 1 d_j42_79_0 ?_
 refine r_iloadN H 2 d_j42_79_1 ?_
 refine r_iconst H 3 0 d_j42_79_2 ?_
 refine r_virtual (z := (⟨"java/lang/String", "indexOf", "(II)I"⟩ : MethodName)) (a := a1) (argsL := [.int 13, .int 0]) (rest := []) (W := 0) H 6 d_j42_79_3 (tw48 hw) (tw49 hw) (nf_sel (tw51 hw)) (tw51 hw) (tw50 hw) (tw4 hw) (tw52 hw) E_a1 (lenOf pd_11 rfl) (rm_indexOf_145 hw Ts a1 a2 i1 i2 i3 c1 cs sio h0 f Zf Z0 E_a1 F_coder_a1 F_value_a1 A_a2 r_i1 r_i2 r_i3 x_i1_13 x_i2_13 x_i3_13 S_cs S_sio hsio S__assertionsDisabled S_HI_BYTE_SHIFT S_LO_BYTE_SHIFT hcs) ?_
 rintro _ _ ⟨rfl, rfl⟩
 exact r_ireturn H d_j42_79_6 (⟨rfl, rfl⟩)
def Q_require_133 (Z : State) (a2 : Addr) (h0 : Heap) (v : Option Value) (h : Heap) : Prop := v = some (.ref a2) ∧ h0 = h
def R_require_133 : Room := { frames := 7, cells := 0, slots := 0, locals := 100 }
theorem rm_require_133 {w : Bool} {Z : State} {a0 : Array Value} (hw : HW a0 Z) (Ts : List String) (a1 : Addr) (a2 : Addr) (a4 : Addr) (i3 : Int32) (i4 : Int32) (i5 : Int32) (c2 : ClassId) (cs : Int32) (sio : Value) (h0 : Heap) (f : Nat) (Zf : Z.heap.size ≤ f) (Z0 : f ≤ h0.size) (E_a2 : Exa Z h0 a2 "java/lang/String") (F_coder_a2 : Fld Z h0 a2 "java/lang/String" "coder" "B" (.int 1)) (F_value_a2 : Fld Z h0 a2 "java/lang/String" "value" "[B" (.ref a4)) (A_a4 : Ar Z h0 a4 c2 .byte [.int (cL8 i3), .int (cH8 i3), .int (cL8 i4), .int (cH8 i4), .int (cL8 i5), .int (cH8 i5)]) (r_i3 : 0 ≤ i3.toInt ∧ i3.toInt ≤ 65535) (r_i4 : 0 ≤ i4.toInt ∧ i4.toInt ≤ 65535) (r_i5 : 0 ≤ i5.toInt ∧ i5.toInt ≤ 65535) (x_i3_10 : ¬ i3 = (10 : Int32)) (x_i3_13 : ¬ i3 = (13 : Int32)) (x_i4_10 : ¬ i4 = (10 : Int32)) (x_i4_13 : ¬ i4 = (13 : Int32)) (x_i5_10 : ¬ i5 = (10 : Int32)) (x_i5_13 : ¬ i5 = (13 : Int32)) (S_cs : G_S_cs Z cs) (S_sio : G_S_sio Z sio) (hsio : G_hsio Z sio) (S__assertionsDisabled : G_S__assertionsDisabled Z) (S_HI_BYTE_SHIFT : G_S_HI_BYTE_SHIFT Z) (S_LO_BYTE_SHIFT : G_S_LO_BYTE_SHIFT Z) (hcs : ¬ cs = 0) :
  Con w [] Z (⟨"com/example/ferryline/ferryline/model/OneLine", "require", "(Ljava/lang/String;Ljava/lang/String;)Ljava/lang/String;"⟩ : MethodName) prog_70_method_2_code 2 (some (.object "java/lang/String")) R_require_133 Ts Ts f #[.ref a1, .ref a2] h0 (Q_require_133 Z a2 h0) := by
 refine con_of f #[vR a1, vR a2] (plainFor_of_name pn_3) (fun m => rfl) Zf ?_
 intro C H hX0
 refine r_aloadN H 1 d_g70_2_0 ?_
 refine r_bipush H 3 10 d_g70_2_1 ?_
 refine r_virtual (z := (⟨"java/lang/String", "indexOf", "(I)I"⟩ : MethodName)) (a := a2) (argsL := [.int 10]) (rest := []) (W := 0) H 6 d_g70_2_3 (tw43 hw) (tw44 hw) (nf_sel (tw46 hw)) (tw46 hw) (tw45 hw) (tw4 hw) (tw47 hw) E_a2 (lenOf pd_13 rfl) (rm_indexOf_134 hw Ts a2 a4 i3 i4 i5 c2 cs sio h0 f Zf Z0 E_a2 F_coder_a2 F_value_a2 A_a4 r_i3 r_i4 r_i5 x_i3_10 x_i4_10 x_i5_10 S_cs S_sio hsio S__assertionsDisabled S_HI_BYTE_SHIFT S_LO_BYTE_SHIFT hcs) ?_
 rintro _ _ ⟨rfl, rfl⟩
 refine r_ifgeF H 9 d_g70_2_6 ?_
 refine r_aloadN H 10 d_g70_2_9 ?_
 refine r_bipush H 12 13 d_g70_2_10 ?_
 refine r_virtual (z := (⟨"java/lang/String", "indexOf", "(I)I"⟩ : MethodName)) (a := a2) (argsL := [.int 13]) (rest := []) (W := 0) H 15 d_g70_2_12 (tw43 hw) (tw44 hw) (nf_sel (tw46 hw)) (tw46 hw) (tw45 hw) (tw4 hw) (tw47 hw) E_a2 (lenOf pd_13 rfl) (rm_indexOf_144 hw Ts a2 a4 i3 i4 i5 c2 cs sio h0 f Zf Z0 E_a2 F_coder_a2 F_value_a2 A_a4 r_i3 r_i4 r_i5 x_i3_13 x_i4_13 x_i5_13 S_cs S_sio hsio S__assertionsDisabled S_HI_BYTE_SHIFT S_LO_BYTE_SHIFT hcs) ?_
 rintro _ _ ⟨rfl, rfl⟩
 refine r_ifltT H 38 d_g70_2_15 ?_
 refine r_aloadN H 39 d_g70_2_38 ?_
 exact r_areturn H d_g70_2_39 (⟨rfl, rfl⟩)
def Q_compress_152 (Z : State) (a2 : Addr) (i1 : Int32) (i2 : Int32) (i3 : Int32) (i4 : Int32) (c2 : ClassId) (h0 : Heap) (v : Option Value) (h : Heap) : Prop := (v = some (.int 4) ∧ (¬ (255 : Int32) < i1) ∧ (¬ (255 : Int32) < i2) ∧ (¬ (255 : Int32) < i3) ∧ (¬ (255 : Int32) < i4) ∧ Keep h0 h [a2] ∧ Ar Z h a2 c2 .byte [.int (cB8 i1), .int (cB8 i2), .int (cB8 i3), .int (cB8 i4)] ∧ Exa Z h a2 "[B") ∨ (v = some (.int 3) ∧ (¬ (255 : Int32) < i1) ∧ (¬ (255 : Int32) < i2) ∧ (¬ (255 : Int32) < i3) ∧ ((255 : Int32) < i4) ∧ Keep h0 h [a2] ∧ Ar Z h a2 c2 .byte [.int (cB8 i1), .int (cB8 i2), .int (cB8 i3), .int 0] ∧ Exa Z h a2 "[B") ∨ (v = some (.int 2) ∧ (¬ (255 : Int32) < i1) ∧ (¬ (255 : Int32) < i2) ∧ ((255 : Int32) < i3) ∧ Keep h0 h [a2] ∧ Ar Z h a2 c2 .byte [.int (cB8 i1), .int (cB8 i2), .int 0, .int 0] ∧ Exa Z h a2 "[B") ∨ (v = some (.int 1) ∧ (¬ (255 : Int32) < i1) ∧ ((255 : Int32) < i2) ∧ Keep h0 h [a2] ∧ Ar Z h a2 c2 .byte [.int (cB8 i1), .int 0, .int 0, .int 0] ∧ Exa Z h a2 "[B") ∨ (v = some (.int 0) ∧ ((255 : Int32) < i1) ∧ h0 = h)
def R_compress_152 : Room := { frames := 0, cells := 0, slots := 0, locals := 0 }
theorem rm_compress_152 {w : Bool} {Z : State} {a0 : Array Value} (hw : HW a0 Z) (Ts : List String) (a1 : Addr) (a2 : Addr) (i1 : Int32) (i2 : Int32) (i3 : Int32) (i4 : Int32) (c1 : ClassId) (c2 : ClassId) (h0 : Heap) (f : Nat) (Zf : Z.heap.size ≤ f) (Z0 : f ≤ h0.size) (A_a1 : Ar Z h0 a1 c1 .char [.int i1, .int i2, .int i3, .int i4]) (A_a2 : Ar Z h0 a2 c2 .byte [.int 0, .int 0, .int 0, .int 0]) (g_a2 : f ≤ a2) (E_a2 : Exa Z h0 a2 "[B") (E_a1 : Exa Z h0 a1 "[C") (r_i1 : 0 ≤ i1.toInt ∧ i1.toInt ≤ 65535) (r_i2 : 0 ≤ i2.toInt ∧ i2.toInt ≤ 65535) (r_i3 : 0 ≤ i3.toInt ∧ i3.toInt ≤ 65535) (r_i4 : 0 ≤ i4.toInt ∧ i4.toInt ≤ 65535) :
  Con w [] Z (⟨"java/lang/StringUTF16", "compress", "([CI[BII)I"⟩ : MethodName) jdk_52_method_21_code 7 (some .int) R_compress_152 Ts Ts f #[.ref a1, .int 0, .ref a2, .int 0, .int 4] h0 (Q_compress_152 Z a2 i1 i2 i3 i4 c2 h0) := by
 refine con_of f #[vR a1, vI 0, vR a2, vI 0, vI 4, .unset, .unset] (plainFor_of_name pn_2) (fun m => rfl) Zf ?_
 intro C H hX0
 refine r_iconst H 1 0 d_j52_21_0 ?_
 refine r_istore H 3 #[vR a1, vI 0, vR a2, vI 0, vI 4, vI 0, .unset] d_j52_21_1 ?_
 refine r_iload H 5 d_j52_21_3 ?_
 refine r_iload H 7 d_j52_21_5 ?_
 refine r_icmpgeF H 10 d_j52_21_7 ?_
 refine r_aloadN H 11 d_j52_21_10 ?_
 refine r_iloadN H 12 d_j52_21_11 ?_
 refine r_caload H 13 i1 d_j52_21_12 A_a1 ?_
 refine r_istore H 15 #[vR a1, vI 0, vR a2, vI 0, vI 4, vI 0, vI i1] d_j52_21_13 ?_
 refine r_iload H 17 d_j52_21_15 ?_
 refine r_sipush H 20 255 d_j52_21_17 ?_
 refine r_icmple H 26 23 d_j52_21_20 (fun c1 => ?_) (fun c1 => ?_)
 ·
  refine r_aloadN H 27 d_j52_21_26 ?_
  refine r_iloadN H 28 d_j52_21_27 ?_
  refine r_iload H 30 d_j52_21_28 ?_
  obtain ⟨p3, ep3, rp3⟩ : ∃ p : Int32, (i1.toInt8.toInt32) = p ∧ -128 ≤ p.toInt ∧ p.toInt ≤ 127 := ⟨_, rfl, (by have h := c_i2b i1; omega)⟩
  refine r_i2b H 31 p3 d_j52_21_30 ep3 ?_
  refine r_bastore H 32 p3 d_j52_21_31 A_a2 g_a2 (nar_byte_id (by have := rp3; omega)) ?_
  intro h4 K4 A4
  change Ar Z h4 a2 c2 .byte [.int p3, .int 0, .int 0, .int 0] at A4
  refine r_iinc H 35 #[vR a1, vI 1, vR a2, vI 0, vI 4, vI 0, vI i1] 1 d_j52_21_32 ?_
  refine r_iinc H 38 #[vR a1, vI 1, vR a2, vI 1, vI 4, vI 0, vI i1] 1 d_j52_21_35 ?_
  refine r_iinc H 41 #[vR a1, vI 1, vR a2, vI 1, vI 4, vI 1, vI i1] 1 d_j52_21_38 ?_
  refine r_goto H 3 d_j52_21_41 ?_
  refine r_iload H 5 d_j52_21_3 ?_
  refine r_iload H 7 d_j52_21_5 ?_
  refine r_icmpgeF H 10 d_j52_21_7 ?_
  refine r_aloadN H 11 d_j52_21_10 ?_
  refine r_iloadN H 12 d_j52_21_11 ?_
  have q5 := (E_a1.keep K4)
  have q6 := (E_a2.keep K4)
  have q7 := (A_a1.keep K4 (ninS (ne_exa q5 q6 (by decide)) nin0))
  refine r_caload H 13 i2 d_j52_21_12 q7 ?_
  refine r_istore H 15 #[vR a1, vI 1, vR a2, vI 1, vI 4, vI 1, vI i2] d_j52_21_13 ?_
  refine r_iload H 17 d_j52_21_15 ?_
  refine r_sipush H 20 255 d_j52_21_17 ?_
  refine r_icmple H 26 23 d_j52_21_20 (fun c8 => ?_) (fun c8 => ?_)
  ·
   refine r_aloadN H 27 d_j52_21_26 ?_
   refine r_iloadN H 28 d_j52_21_27 ?_
   refine r_iload H 30 d_j52_21_28 ?_
   obtain ⟨p10, ep10, rp10⟩ : ∃ p : Int32, (i2.toInt8.toInt32) = p ∧ -128 ≤ p.toInt ∧ p.toInt ≤ 127 := ⟨_, rfl, (by have h := c_i2b i2; omega)⟩
   refine r_i2b H 31 p10 d_j52_21_30 ep10 ?_
   refine r_bastore H 32 p10 d_j52_21_31 A4 g_a2 (nar_byte_id (by have := rp10; omega)) ?_
   intro h11 K11 A11
   change Ar Z h11 a2 c2 .byte [.int p3, .int p10, .int 0, .int 0] at A11
   refine r_iinc H 35 #[vR a1, vI 2, vR a2, vI 1, vI 4, vI 1, vI i2] 2 d_j52_21_32 ?_
   refine r_iinc H 38 #[vR a1, vI 2, vR a2, vI 2, vI 4, vI 1, vI i2] 2 d_j52_21_35 ?_
   refine r_iinc H 41 #[vR a1, vI 2, vR a2, vI 2, vI 4, vI 2, vI i2] 2 d_j52_21_38 ?_
   refine r_goto H 3 d_j52_21_41 ?_
   refine r_iload H 5 d_j52_21_3 ?_
   refine r_iload H 7 d_j52_21_5 ?_
   refine r_icmpgeF H 10 d_j52_21_7 ?_
   refine r_aloadN H 11 d_j52_21_10 ?_
   refine r_iloadN H 12 d_j52_21_11 ?_
   have q12 := (q5.keep K11)
   have q13 := (q6.keep K11)
   have q14 := (q7.keep K11 (ninS (ne_exa q12 q13 (by decide)) nin0))
   refine r_caload H 13 i3 d_j52_21_12 q14 ?_
   refine r_istore H 15 #[vR a1, vI 2, vR a2, vI 2, vI 4, vI 2, vI i3] d_j52_21_13 ?_
   refine r_iload H 17 d_j52_21_15 ?_
   refine r_sipush H 20 255 d_j52_21_17 ?_
   refine r_icmple H 26 23 d_j52_21_20 (fun c15 => ?_) (fun c15 => ?_)
   ·
    refine r_aloadN H 27 d_j52_21_26 ?_
    refine r_iloadN H 28 d_j52_21_27 ?_
    refine r_iload H 30 d_j52_21_28 ?_
    obtain ⟨p17, ep17, rp17⟩ : ∃ p : Int32, (i3.toInt8.toInt32) = p ∧ -128 ≤ p.toInt ∧ p.toInt ≤ 127 := ⟨_, rfl, (by have h := c_i2b i3; omega)⟩
    refine r_i2b H 31 p17 d_j52_21_30 ep17 ?_
    refine r_bastore H 32 p17 d_j52_21_31 A11 g_a2 (nar_byte_id (by have := rp17; omega)) ?_
    intro h18 K18 A18
    change Ar Z h18 a2 c2 .byte [.int p3, .int p10, .int p17, .int 0] at A18
    refine r_iinc H 35 #[vR a1, vI 3, vR a2, vI 2, vI 4, vI 2, vI i3] 3 d_j52_21_32 ?_
    refine r_iinc H 38 #[vR a1, vI 3, vR a2, vI 3, vI 4, vI 2, vI i3] 3 d_j52_21_35 ?_
    refine r_iinc H 41 #[vR a1, vI 3, vR a2, vI 3, vI 4, vI 3, vI i3] 3 d_j52_21_38 ?_
    refine r_goto H 3 d_j52_21_41 ?_
    refine r_iload H 5 d_j52_21_3 ?_
    refine r_iload H 7 d_j52_21_5 ?_
    refine r_icmpgeF H 10 d_j52_21_7 ?_
    refine r_aloadN H 11 d_j52_21_10 ?_
    refine r_iloadN H 12 d_j52_21_11 ?_
    have q19 := (q12.keep K18)
    have q20 := (q13.keep K18)
    have q21 := (q14.keep K18 (ninS (ne_exa q19 q20 (by decide)) nin0))
    refine r_caload H 13 i4 d_j52_21_12 q21 ?_
    refine r_istore H 15 #[vR a1, vI 3, vR a2, vI 3, vI 4, vI 3, vI i4] d_j52_21_13 ?_
    refine r_iload H 17 d_j52_21_15 ?_
    refine r_sipush H 20 255 d_j52_21_17 ?_
    refine r_icmple H 26 23 d_j52_21_20 (fun c22 => ?_) (fun c22 => ?_)
    ·
     refine r_aloadN H 27 d_j52_21_26 ?_
     refine r_iloadN H 28 d_j52_21_27 ?_
     refine r_iload H 30 d_j52_21_28 ?_
     obtain ⟨p24, ep24, rp24⟩ : ∃ p : Int32, (i4.toInt8.toInt32) = p ∧ -128 ≤ p.toInt ∧ p.toInt ≤ 127 := ⟨_, rfl, (by have h := c_i2b i4; omega)⟩
     refine r_i2b H 31 p24 d_j52_21_30 ep24 ?_
     refine r_bastore H 32 p24 d_j52_21_31 A18 g_a2 (nar_byte_id (by have := rp24; omega)) ?_
     intro h25 K25 A25
     change Ar Z h25 a2 c2 .byte [.int p3, .int p10, .int p17, .int p24] at A25
     refine r_iinc H 35 #[vR a1, vI 4, vR a2, vI 3, vI 4, vI 3, vI i4] 4 d_j52_21_32 ?_
     refine r_iinc H 38 #[vR a1, vI 4, vR a2, vI 4, vI 4, vI 3, vI i4] 4 d_j52_21_35 ?_
     refine r_iinc H 41 #[vR a1, vI 4, vR a2, vI 4, vI 4, vI 4, vI i4] 4 d_j52_21_38 ?_
     refine r_goto H 3 d_j52_21_41 ?_
     refine r_iload H 5 d_j52_21_3 ?_
     refine r_iload H 7 d_j52_21_5 ?_
     refine r_icmpgeT H 44 d_j52_21_7 ?_
     refine r_iload H 46 d_j52_21_44 ?_
     have k26 : Keep h0 h4 [a2] := Keep.trans (Keep.refl h0 [a2]) K4 (allS (Or.inl (List.mem_of_getElem? (i := 0) rfl)) all0)
     have k27 : Keep h0 h11 [a2] := Keep.trans k26 K11 (allS (Or.inl (List.mem_of_getElem? (i := 0) rfl)) all0)
     have k28 : Keep h0 h18 [a2] := Keep.trans k27 K18 (allS (Or.inl (List.mem_of_getElem? (i := 0) rfl)) all0)
     have k29 : Keep h0 h25 [a2] := Keep.trans k28 K25 (allS (Or.inl (List.mem_of_getElem? (i := 0) rfl)) all0)
     have q30 := (q20.keep K25)
     subst ep3 ep10 ep17 ep24
     exact r_ireturn H d_j52_21_46 (Or.inl ⟨rfl, c1, c8, c15, c22, k29, A25, q30⟩)
    ·
     refine r_iload H 25 d_j52_21_23 ?_
     have k32 : Keep h0 h4 [a2] := Keep.trans (Keep.refl h0 [a2]) K4 (allS (Or.inl (List.mem_of_getElem? (i := 0) rfl)) all0)
     have k33 : Keep h0 h11 [a2] := Keep.trans k32 K11 (allS (Or.inl (List.mem_of_getElem? (i := 0) rfl)) all0)
     have k34 : Keep h0 h18 [a2] := Keep.trans k33 K18 (allS (Or.inl (List.mem_of_getElem? (i := 0) rfl)) all0)
     subst ep3 ep10 ep17
     exact r_ireturn H d_j52_21_25 (Or.inr (Or.inl ⟨rfl, c1, c8, c15, c22, k34, A18, q20⟩))
   ·
    refine r_iload H 25 d_j52_21_23 ?_
    have k36 : Keep h0 h4 [a2] := Keep.trans (Keep.refl h0 [a2]) K4 (allS (Or.inl (List.mem_of_getElem? (i := 0) rfl)) all0)
    have k37 : Keep h0 h11 [a2] := Keep.trans k36 K11 (allS (Or.inl (List.mem_of_getElem? (i := 0) rfl)) all0)
    subst ep3 ep10
    exact r_ireturn H d_j52_21_25 (Or.inr (Or.inr (Or.inl ⟨rfl, c1, c8, c15, k37, A11, q13⟩)))
  ·
   refine r_iload H 25 d_j52_21_23 ?_
   have k39 : Keep h0 h4 [a2] := Keep.trans (Keep.refl h0 [a2]) K4 (allS (Or.inl (List.mem_of_getElem? (i := 0) rfl)) all0)
   subst ep3
   exact r_ireturn H d_j52_21_25 (Or.inr (Or.inr (Or.inr (Or.inl ⟨rfl, c1, c8, k39, A4, q6⟩))))
 ·
  refine r_iload H 25 d_j52_21_23 ?_
  exact r_ireturn H d_j52_21_25 (Or.inr (Or.inr (Or.inr (Or.inr (⟨rfl, c1, rfl⟩)))))
def Q_newBytesLength_155 (Z : State) (h0 : Heap) (v : Option Value) (h : Heap) : Prop := v = some (.int 8) ∧ h0 = h
def R_newBytesLength_155 : Room := { frames := 0, cells := 0, slots := 0, locals := 0 }
theorem rm_newBytesLength_155 {w : Bool} {Z : State} {a0 : Array Value} (hw : HW a0 Z) (Ts : List String) (h0 : Heap) (f : Nat) (Zf : Z.heap.size ≤ f) (Z0 : f ≤ h0.size) :
  Con w [] Z (⟨"java/lang/StringUTF16", "newBytesLength", "(I)I"⟩ : MethodName) jdk_52_method_3_code 1 (some .int) R_newBytesLength_155 Ts Ts f #[.int 4] h0 (Q_newBytesLength_155 Z h0) := by
 refine con_of f #[vI 4] (plainFor_of_name pn_2) (fun m => rfl) Zf ?_
 intro C H hX0
 refine r_iloadN H 1 d_j52_3_0 ?_
 refine r_ifgeT H 12 d_j52_3_1 ?_
 refine r_iloadN H 13 d_j52_3_12 ?_
 refine r_ldcI H 15 d_j52_3_13 (tw108 hw) ?_
 refine r_icmpltT H 55 d_j52_3_15 ?_
 refine r_iloadN H 56 d_j52_3_55 ?_
 refine r_iconst H 57 1 d_j52_3_56 ?_
 refine r_ishl H 58 8 d_j52_3_57 (by decide) ?_
 exact r_ireturn H d_j52_3_58 (⟨rfl, rfl⟩)
def Q_newBytesFor_154 (Z : State) (h0 : Heap) (v : Option Value) (h : Heap) : Prop := ∃ (b2 : Addr) (kc2 : ClassId), v = some (.ref b2) ∧ Keep h0 h [] ∧ h0.size ≤ b2 ∧ Ar Z h b2 kc2 .byte [.int 0, .int 0, .int 0, .int 0, .int 0, .int 0, .int 0, .int 0] ∧ Exa Z h b2 "[B"
def R_newBytesFor_154 : Room := { frames := 1, cells := 1, slots := 8, locals := 12 }
theorem rm_newBytesFor_154 {w : Bool} {Z : State} {a0 : Array Value} (hw : HW a0 Z) (Ts : List String) (h0 : Heap) (f : Nat) (Zf : Z.heap.size ≤ f) (Z0 : f ≤ h0.size) :
  Con w [] Z (⟨"java/lang/StringUTF16", "newBytesFor", "(I)[B"⟩ : MethodName) jdk_52_method_2_code 1 (some (.array .byte)) R_newBytesFor_154 Ts Ts f #[.int 4] h0 (Q_newBytesFor_154 Z h0) := by
 refine con_of f #[vI 4] (plainFor_of_name pn_2) (fun m => rfl) Zf ?_
 intro C H hX0
 refine r_iloadN H 1 d_j52_2_0 ?_
 refine r_static (argsL := [.int 4]) (rest := []) (W := 0) H 4 d_j52_2_1 (tw105 hw) (tw106 hw) (tw88 hw) (tw107 hw) (lenOf pd_13 rfl) (rm_newBytesLength_155 hw Ts h0 f Zf Z0) ?_
 rintro _ _ ⟨rfl, rfl⟩
 refine r_newP H 6 "[B" 8 d_j52_2_4 (tw16 hw) ?_
 intro h2 b2 kc2 g2 l2 K2 E2 A2
 change Ar Z h2 b2 kc2 .byte [.int 0, .int 0, .int 0, .int 0, .int 0, .int 0, .int 0, .int 0] at A2
 have k3 : Keep h0 h2 [] := Keep.trans (Keep.refl h0 []) K2 all0
 exact r_areturn H d_j52_2_6 (⟨b2, kc2, rfl, k3, (nlt nlr (Nat.le_of_eq g2.symm)), A2, E2⟩)
def Q_putChar_156 (Z : State) (a1 : Addr) (i1 : Int32) (i4 : Int32) (i5 : Int32) (i6 : Int32) (i7 : Int32) (i8 : Int32) (i9 : Int32) (c1 : ClassId) (h0 : Heap) (v : Option Value) (h : Heap) : Prop := v = none ∧ Keep h0 h [a1] ∧ Ar Z h a1 c1 .byte [.int (cL8 i1), .int (cH8 i1), .int i4, .int i5, .int i6, .int i7, .int i8, .int i9] ∧ Exa Z h a1 "[B"
def R_putChar_156 : Room := { frames := 0, cells := 0, slots := 0, locals := 0 }
theorem rm_putChar_156 {w : Bool} {Z : State} {a0 : Array Value} (hw : HW a0 Z) (Ts : List String) (a1 : Addr) (i1 : Int32) (i2 : Int32) (i3 : Int32) (i4 : Int32) (i5 : Int32) (i6 : Int32) (i7 : Int32) (i8 : Int32) (i9 : Int32) (c1 : ClassId) (h0 : Heap) (f : Nat) (Zf : Z.heap.size ≤ f) (Z0 : f ≤ h0.size) (A_a1 : Ar Z h0 a1 c1 .byte [.int i2, .int i3, .int i4, .int i5, .int i6, .int i7, .int i8, .int i9]) (g_a1 : f ≤ a1) (E_a1 : Exa Z h0 a1 "[B") (r_i1 : 0 ≤ i1.toInt ∧ i1.toInt ≤ 65535) (S__assertionsDisabled : G_S__assertionsDisabled Z) (S_HI_BYTE_SHIFT : G_S_HI_BYTE_SHIFT Z) (S_LO_BYTE_SHIFT : G_S_LO_BYTE_SHIFT Z) :
  Con w [] Z (⟨"java/lang/StringUTF16", "putChar", "([BII)V"⟩ : MethodName) jdk_52_method_4_code 3 none R_putChar_156 Ts Ts f #[.ref a1, .int 0, .int i1] h0 (Q_putChar_156 Z a1 i1 i4 i5 i6 i7 i8 i9 c1 h0) := by
 refine con_of f #[vR a1, vI 0, vI i1] (plainFor_of_name pn_2) (fun m => rfl) Zf ?_
 intro C H hX0
 refine r_gets H 3 d_j52_4_0 (tw112 hw) S__assertionsDisabled ?_
 refine r_ifneT H 28 d_j52_4_3 ?_
 refine r_iloadN H 29 d_j52_4_28 ?_
 refine r_iconst H 30 1 d_j52_4_29 ?_
 refine r_ishl H 31 0 d_j52_4_30 (by decide) ?_
 refine r_istoreN H 32 #[vR a1, vI 0, vI i1] d_j52_4_31 ?_
 refine r_aloadN H 33 d_j52_4_32 ?_
 refine r_iloadN H 34 d_j52_4_33 ?_
 refine r_iinc H 37 #[vR a1, vI 1, vI i1] 1 d_j52_4_34 ?_
 refine r_iloadN H 38 d_j52_4_37 ?_
 refine r_gets H 41 d_j52_4_38 (tw113 hw) S_HI_BYTE_SHIFT ?_
 obtain ⟨p1, ep1, rp1⟩ : ∃ p : Int32, (i1 >>> ((0 : Int32) &&& 31)) = p ∧ 0 ≤ p.toInt ∧ p.toInt ≤ 65535 := ⟨_, rfl, (by have := r_i1; have h1 := c_ishr i1 (0 : Int32) 0 (by decide); omega)⟩
 refine r_ishr H 42 p1 d_j52_4_41 ep1 ?_
 obtain ⟨p2, ep2, rp2⟩ : ∃ p : Int32, (p1.toInt8.toInt32) = p ∧ -128 ≤ p.toInt ∧ p.toInt ≤ 127 := ⟨_, rfl, (by have h := c_i2b p1; omega)⟩
 refine r_i2b H 43 p2 d_j52_4_42 ep2 ?_
 refine r_bastore H 44 p2 d_j52_4_43 A_a1 g_a1 (nar_byte_id (by have := rp2; omega)) ?_
 intro h3 K3 A3
 change Ar Z h3 a1 c1 .byte [.int p2, .int i3, .int i4, .int i5, .int i6, .int i7, .int i8, .int i9] at A3
 refine r_aloadN H 45 d_j52_4_44 ?_
 refine r_iloadN H 46 d_j52_4_45 ?_
 refine r_iloadN H 47 d_j52_4_46 ?_
 refine r_gets H 50 d_j52_4_47 (tw114 hw) S_LO_BYTE_SHIFT ?_
 obtain ⟨p4, ep4, rp4⟩ : ∃ p : Int32, (i1 >>> ((8 : Int32) &&& 31)) = p ∧ 0 ≤ p.toInt ∧ p.toInt ≤ 255 := ⟨_, rfl, (by have := r_i1; have h1 := c_ishr i1 (8 : Int32) 8 (by decide); omega)⟩
 refine r_ishr H 51 p4 d_j52_4_50 ep4 ?_
 obtain ⟨p5, ep5, rp5⟩ : ∃ p : Int32, (p4.toInt8.toInt32) = p ∧ -128 ≤ p.toInt ∧ p.toInt ≤ 127 := ⟨_, rfl, (by have h := c_i2b p4; omega)⟩
 refine r_i2b H 52 p5 d_j52_4_51 ep5 ?_
 refine r_bastore H 53 p5 d_j52_4_52 A3 g_a1 (nar_byte_id (by have := rp5; omega)) ?_
 intro h6 K6 A6
 have q7 := (E_a1.keep K3)
 change Ar Z h6 a1 c1 .byte [.int p2, .int p5, .int i4, .int i5, .int i6, .int i7, .int i8, .int i9] at A6
 have k8 : Keep h0 h3 [a1] := Keep.trans (Keep.refl h0 [a1]) K3 (allS (Or.inl (List.mem_of_getElem? (i := 0) rfl)) all0)
 have k9 : Keep h0 h6 [a1] := Keep.trans k8 K6 (allS (Or.inl (List.mem_of_getElem? (i := 0) rfl)) all0)
 have q10 := (q7.keep K6)
 subst ep1 ep2 ep4 ep5
 exact r_return H d_j52_4_53 (⟨rfl, k9, A6, q10⟩)
def Q_putChar_157 (Z : State) (a1 : Addr) (i1 : Int32) (i2 : Int32) (i3 : Int32) (i6 : Int32) (i7 : Int32) (i8 : Int32) (i9 : Int32) (c1 : ClassId) (h0 : Heap) (v : Option Value) (h : Heap) : Prop := v = none ∧ Keep h0 h [a1] ∧ Ar Z h a1 c1 .byte [.int i2, .int i3, .int (cL8 i1), .int (cH8 i1), .int i6, .int i7, .int i8, .int i9] ∧ Exa Z h a1 "[B"
def R_putChar_157 : Room := { frames := 0, cells := 0, slots := 0, locals := 0 }
theorem rm_putChar_157 {w : Bool} {Z : State} {a0 : Array Value} (hw : HW a0 Z) (Ts : List String) (a1 : Addr) (i1 : Int32) (i2 : Int32) (i3 : Int32) (i4 : Int32) (i5 : Int32) (i6 : Int32) (i7 : Int32) (i8 : Int32) (i9 : Int32) (c1 : ClassId) (h0 : Heap) (f : Nat) (Zf : Z.heap.size ≤ f) (Z0 : f ≤ h0.size) (A_a1 : Ar Z h0 a1 c1 .byte [.int i2, .int i3, .int i4, .int i5, .int i6, .int i7, .int i8, .int i9]) (g_a1 : f ≤ a1) (E_a1 : Exa Z h0 a1 "[B") (r_i1 : 0 ≤ i1.toInt ∧ i1.toInt ≤ 65535) (S__assertionsDisabled : G_S__assertionsDisabled Z) (S_HI_BYTE_SHIFT : G_S_HI_BYTE_SHIFT Z) (S_LO_BYTE_SHIFT : G_S_LO_BYTE_SHIFT Z) :
  Con w [] Z (⟨"java/lang/StringUTF16", "putChar", "([BII)V"⟩ : MethodName) jdk_52_method_4_code 3 none R_putChar_157 Ts Ts f #[.ref a1, .int 1, .int i1] h0 (Q_putChar_157 Z a1 i1 i2 i3 i6 i7 i8 i9 c1 h0) := by
 refine con_of f #[vR a1, vI 1, vI i1] (plainFor_of_name pn_2) (fun m => rfl) Zf ?_
 intro C H hX0
 refine r_gets H 3 d_j52_4_0 (tw112 hw) S__assertionsDisabled ?_
 refine r_ifneT H 28 d_j52_4_3 ?_
 refine r_iloadN H 29 d_j52_4_28 ?_
 refine r_iconst H 30 1 d_j52_4_29 ?_
 refine r_ishl H 31 2 d_j52_4_30 (by decide) ?_
 refine r_istoreN H 32 #[vR a1, vI 2, vI i1] d_j52_4_31 ?_
 refine r_aloadN H 33 d_j52_4_32 ?_
 refine r_iloadN H 34 d_j52_4_33 ?_
 refine r_iinc H 37 #[vR a1, vI 3, vI i1] 3 d_j52_4_34 ?_
 refine r_iloadN H 38 d_j52_4_37 ?_
 refine r_gets H 41 d_j52_4_38 (tw113 hw) S_HI_BYTE_SHIFT ?_
 obtain ⟨p1, ep1, rp1⟩ : ∃ p : Int32, (i1 >>> ((0 : Int32) &&& 31)) = p ∧ 0 ≤ p.toInt ∧ p.toInt ≤ 65535 := ⟨_, rfl, (by have := r_i1; have h1 := c_ishr i1 (0 : Int32) 0 (by decide); omega)⟩
 refine r_ishr H 42 p1 d_j52_4_41 ep1 ?_
 obtain ⟨p2, ep2, rp2⟩ : ∃ p : Int32, (p1.toInt8.toInt32) = p ∧ -128 ≤ p.toInt ∧ p.toInt ≤ 127 := ⟨_, rfl, (by have h := c_i2b p1; omega)⟩
 refine r_i2b H 43 p2 d_j52_4_42 ep2 ?_
 refine r_bastore H 44 p2 d_j52_4_43 A_a1 g_a1 (nar_byte_id (by have := rp2; omega)) ?_
 intro h3 K3 A3
 change Ar Z h3 a1 c1 .byte [.int i2, .int i3, .int p2, .int i5, .int i6, .int i7, .int i8, .int i9] at A3
 refine r_aloadN H 45 d_j52_4_44 ?_
 refine r_iloadN H 46 d_j52_4_45 ?_
 refine r_iloadN H 47 d_j52_4_46 ?_
 refine r_gets H 50 d_j52_4_47 (tw114 hw) S_LO_BYTE_SHIFT ?_
 obtain ⟨p4, ep4, rp4⟩ : ∃ p : Int32, (i1 >>> ((8 : Int32) &&& 31)) = p ∧ 0 ≤ p.toInt ∧ p.toInt ≤ 255 := ⟨_, rfl, (by have := r_i1; have h1 := c_ishr i1 (8 : Int32) 8 (by decide); omega)⟩
 refine r_ishr H 51 p4 d_j52_4_50 ep4 ?_
 obtain ⟨p5, ep5, rp5⟩ : ∃ p : Int32, (p4.toInt8.toInt32) = p ∧ -128 ≤ p.toInt ∧ p.toInt ≤ 127 := ⟨_, rfl, (by have h := c_i2b p4; omega)⟩
 refine r_i2b H 52 p5 d_j52_4_51 ep5 ?_
 refine r_bastore H 53 p5 d_j52_4_52 A3 g_a1 (nar_byte_id (by have := rp5; omega)) ?_
 intro h6 K6 A6
 have q7 := (E_a1.keep K3)
 change Ar Z h6 a1 c1 .byte [.int i2, .int i3, .int p2, .int p5, .int i6, .int i7, .int i8, .int i9] at A6
 have k8 : Keep h0 h3 [a1] := Keep.trans (Keep.refl h0 [a1]) K3 (allS (Or.inl (List.mem_of_getElem? (i := 0) rfl)) all0)
 have k9 : Keep h0 h6 [a1] := Keep.trans k8 K6 (allS (Or.inl (List.mem_of_getElem? (i := 0) rfl)) all0)
 have q10 := (q7.keep K6)
 subst ep1 ep2 ep4 ep5
 exact r_return H d_j52_4_53 (⟨rfl, k9, A6, q10⟩)
def Q_putChar_158 (Z : State) (a1 : Addr) (i1 : Int32) (i2 : Int32) (i3 : Int32) (i4 : Int32) (i5 : Int32) (i8 : Int32) (i9 : Int32) (c1 : ClassId) (h0 : Heap) (v : Option Value) (h : Heap) : Prop := v = none ∧ Keep h0 h [a1] ∧ Ar Z h a1 c1 .byte [.int i2, .int i3, .int i4, .int i5, .int (cL8 i1), .int (cH8 i1), .int i8, .int i9] ∧ Exa Z h a1 "[B"
def R_putChar_158 : Room := { frames := 0, cells := 0, slots := 0, locals := 0 }
theorem rm_putChar_158 {w : Bool} {Z : State} {a0 : Array Value} (hw : HW a0 Z) (Ts : List String) (a1 : Addr) (i1 : Int32) (i2 : Int32) (i3 : Int32) (i4 : Int32) (i5 : Int32) (i6 : Int32) (i7 : Int32) (i8 : Int32) (i9 : Int32) (c1 : ClassId) (h0 : Heap) (f : Nat) (Zf : Z.heap.size ≤ f) (Z0 : f ≤ h0.size) (A_a1 : Ar Z h0 a1 c1 .byte [.int i2, .int i3, .int i4, .int i5, .int i6, .int i7, .int i8, .int i9]) (g_a1 : f ≤ a1) (E_a1 : Exa Z h0 a1 "[B") (r_i1 : 0 ≤ i1.toInt ∧ i1.toInt ≤ 65535) (S__assertionsDisabled : G_S__assertionsDisabled Z) (S_HI_BYTE_SHIFT : G_S_HI_BYTE_SHIFT Z) (S_LO_BYTE_SHIFT : G_S_LO_BYTE_SHIFT Z) :
  Con w [] Z (⟨"java/lang/StringUTF16", "putChar", "([BII)V"⟩ : MethodName) jdk_52_method_4_code 3 none R_putChar_158 Ts Ts f #[.ref a1, .int 2, .int i1] h0 (Q_putChar_158 Z a1 i1 i2 i3 i4 i5 i8 i9 c1 h0) := by
 refine con_of f #[vR a1, vI 2, vI i1] (plainFor_of_name pn_2) (fun m => rfl) Zf ?_
 intro C H hX0
 refine r_gets H 3 d_j52_4_0 (tw112 hw) S__assertionsDisabled ?_
 refine r_ifneT H 28 d_j52_4_3 ?_
 refine r_iloadN H 29 d_j52_4_28 ?_
 refine r_iconst H 30 1 d_j52_4_29 ?_
 refine r_ishl H 31 4 d_j52_4_30 (by decide) ?_
 refine r_istoreN H 32 #[vR a1, vI 4, vI i1] d_j52_4_31 ?_
 refine r_aloadN H 33 d_j52_4_32 ?_
 refine r_iloadN H 34 d_j52_4_33 ?_
 refine r_iinc H 37 #[vR a1, vI 5, vI i1] 5 d_j52_4_34 ?_
 refine r_iloadN H 38 d_j52_4_37 ?_
 refine r_gets H 41 d_j52_4_38 (tw113 hw) S_HI_BYTE_SHIFT ?_
 obtain ⟨p1, ep1, rp1⟩ : ∃ p : Int32, (i1 >>> ((0 : Int32) &&& 31)) = p ∧ 0 ≤ p.toInt ∧ p.toInt ≤ 65535 := ⟨_, rfl, (by have := r_i1; have h1 := c_ishr i1 (0 : Int32) 0 (by decide); omega)⟩
 refine r_ishr H 42 p1 d_j52_4_41 ep1 ?_
 obtain ⟨p2, ep2, rp2⟩ : ∃ p : Int32, (p1.toInt8.toInt32) = p ∧ -128 ≤ p.toInt ∧ p.toInt ≤ 127 := ⟨_, rfl, (by have h := c_i2b p1; omega)⟩
 refine r_i2b H 43 p2 d_j52_4_42 ep2 ?_
 refine r_bastore H 44 p2 d_j52_4_43 A_a1 g_a1 (nar_byte_id (by have := rp2; omega)) ?_
 intro h3 K3 A3
 change Ar Z h3 a1 c1 .byte [.int i2, .int i3, .int i4, .int i5, .int p2, .int i7, .int i8, .int i9] at A3
 refine r_aloadN H 45 d_j52_4_44 ?_
 refine r_iloadN H 46 d_j52_4_45 ?_
 refine r_iloadN H 47 d_j52_4_46 ?_
 refine r_gets H 50 d_j52_4_47 (tw114 hw) S_LO_BYTE_SHIFT ?_
 obtain ⟨p4, ep4, rp4⟩ : ∃ p : Int32, (i1 >>> ((8 : Int32) &&& 31)) = p ∧ 0 ≤ p.toInt ∧ p.toInt ≤ 255 := ⟨_, rfl, (by have := r_i1; have h1 := c_ishr i1 (8 : Int32) 8 (by decide); omega)⟩
 refine r_ishr H 51 p4 d_j52_4_50 ep4 ?_
 obtain ⟨p5, ep5, rp5⟩ : ∃ p : Int32, (p4.toInt8.toInt32) = p ∧ -128 ≤ p.toInt ∧ p.toInt ≤ 127 := ⟨_, rfl, (by have h := c_i2b p4; omega)⟩
 refine r_i2b H 52 p5 d_j52_4_51 ep5 ?_
 refine r_bastore H 53 p5 d_j52_4_52 A3 g_a1 (nar_byte_id (by have := rp5; omega)) ?_
 intro h6 K6 A6
 have q7 := (E_a1.keep K3)
 change Ar Z h6 a1 c1 .byte [.int i2, .int i3, .int i4, .int i5, .int p2, .int p5, .int i8, .int i9] at A6
 have k8 : Keep h0 h3 [a1] := Keep.trans (Keep.refl h0 [a1]) K3 (allS (Or.inl (List.mem_of_getElem? (i := 0) rfl)) all0)
 have k9 : Keep h0 h6 [a1] := Keep.trans k8 K6 (allS (Or.inl (List.mem_of_getElem? (i := 0) rfl)) all0)
 have q10 := (q7.keep K6)
 subst ep1 ep2 ep4 ep5
 exact r_return H d_j52_4_53 (⟨rfl, k9, A6, q10⟩)
def Q_putChar_159 (Z : State) (a1 : Addr) (i1 : Int32) (i2 : Int32) (i3 : Int32) (i4 : Int32) (i5 : Int32) (i6 : Int32) (i7 : Int32) (c1 : ClassId) (h0 : Heap) (v : Option Value) (h : Heap) : Prop := v = none ∧ Keep h0 h [a1] ∧ Ar Z h a1 c1 .byte [.int i2, .int i3, .int i4, .int i5, .int i6, .int i7, .int (cL8 i1), .int (cH8 i1)] ∧ Exa Z h a1 "[B"
def R_putChar_159 : Room := { frames := 0, cells := 0, slots := 0, locals := 0 }
theorem rm_putChar_159 {w : Bool} {Z : State} {a0 : Array Value} (hw : HW a0 Z) (Ts : List String) (a1 : Addr) (i1 : Int32) (i2 : Int32) (i3 : Int32) (i4 : Int32) (i5 : Int32) (i6 : Int32) (i7 : Int32) (i8 : Int32) (i9 : Int32) (c1 : ClassId) (h0 : Heap) (f : Nat) (Zf : Z.heap.size ≤ f) (Z0 : f ≤ h0.size) (A_a1 : Ar Z h0 a1 c1 .byte [.int i2, .int i3, .int i4, .int i5, .int i6, .int i7, .int i8, .int i9]) (g_a1 : f ≤ a1) (E_a1 : Exa Z h0 a1 "[B") (r_i1 : 0 ≤ i1.toInt ∧ i1.toInt ≤ 65535) (S__assertionsDisabled : G_S__assertionsDisabled Z) (S_HI_BYTE_SHIFT : G_S_HI_BYTE_SHIFT Z) (S_LO_BYTE_SHIFT : G_S_LO_BYTE_SHIFT Z) :
  Con w [] Z (⟨"java/lang/StringUTF16", "putChar", "([BII)V"⟩ : MethodName) jdk_52_method_4_code 3 none R_putChar_159 Ts Ts f #[.ref a1, .int 3, .int i1] h0 (Q_putChar_159 Z a1 i1 i2 i3 i4 i5 i6 i7 c1 h0) := by
 refine con_of f #[vR a1, vI 3, vI i1] (plainFor_of_name pn_2) (fun m => rfl) Zf ?_
 intro C H hX0
 refine r_gets H 3 d_j52_4_0 (tw112 hw) S__assertionsDisabled ?_
 refine r_ifneT H 28 d_j52_4_3 ?_
 refine r_iloadN H 29 d_j52_4_28 ?_
 refine r_iconst H 30 1 d_j52_4_29 ?_
 refine r_ishl H 31 6 d_j52_4_30 (by decide) ?_
 refine r_istoreN H 32 #[vR a1, vI 6, vI i1] d_j52_4_31 ?_
 refine r_aloadN H 33 d_j52_4_32 ?_
 refine r_iloadN H 34 d_j52_4_33 ?_
 refine r_iinc H 37 #[vR a1, vI 7, vI i1] 7 d_j52_4_34 ?_
 refine r_iloadN H 38 d_j52_4_37 ?_
 refine r_gets H 41 d_j52_4_38 (tw113 hw) S_HI_BYTE_SHIFT ?_
 obtain ⟨p1, ep1, rp1⟩ : ∃ p : Int32, (i1 >>> ((0 : Int32) &&& 31)) = p ∧ 0 ≤ p.toInt ∧ p.toInt ≤ 65535 := ⟨_, rfl, (by have := r_i1; have h1 := c_ishr i1 (0 : Int32) 0 (by decide); omega)⟩
 refine r_ishr H 42 p1 d_j52_4_41 ep1 ?_
 obtain ⟨p2, ep2, rp2⟩ : ∃ p : Int32, (p1.toInt8.toInt32) = p ∧ -128 ≤ p.toInt ∧ p.toInt ≤ 127 := ⟨_, rfl, (by have h := c_i2b p1; omega)⟩
 refine r_i2b H 43 p2 d_j52_4_42 ep2 ?_
 refine r_bastore H 44 p2 d_j52_4_43 A_a1 g_a1 (nar_byte_id (by have := rp2; omega)) ?_
 intro h3 K3 A3
 change Ar Z h3 a1 c1 .byte [.int i2, .int i3, .int i4, .int i5, .int i6, .int i7, .int p2, .int i9] at A3
 refine r_aloadN H 45 d_j52_4_44 ?_
 refine r_iloadN H 46 d_j52_4_45 ?_
 refine r_iloadN H 47 d_j52_4_46 ?_
 refine r_gets H 50 d_j52_4_47 (tw114 hw) S_LO_BYTE_SHIFT ?_
 obtain ⟨p4, ep4, rp4⟩ : ∃ p : Int32, (i1 >>> ((8 : Int32) &&& 31)) = p ∧ 0 ≤ p.toInt ∧ p.toInt ≤ 255 := ⟨_, rfl, (by have := r_i1; have h1 := c_ishr i1 (8 : Int32) 8 (by decide); omega)⟩
 refine r_ishr H 51 p4 d_j52_4_50 ep4 ?_
 obtain ⟨p5, ep5, rp5⟩ : ∃ p : Int32, (p4.toInt8.toInt32) = p ∧ -128 ≤ p.toInt ∧ p.toInt ≤ 127 := ⟨_, rfl, (by have h := c_i2b p4; omega)⟩
 refine r_i2b H 52 p5 d_j52_4_51 ep5 ?_
 refine r_bastore H 53 p5 d_j52_4_52 A3 g_a1 (nar_byte_id (by have := rp5; omega)) ?_
 intro h6 K6 A6
 have q7 := (E_a1.keep K3)
 change Ar Z h6 a1 c1 .byte [.int i2, .int i3, .int i4, .int i5, .int i6, .int i7, .int p2, .int p5] at A6
 have k8 : Keep h0 h3 [a1] := Keep.trans (Keep.refl h0 [a1]) K3 (allS (Or.inl (List.mem_of_getElem? (i := 0) rfl)) all0)
 have k9 : Keep h0 h6 [a1] := Keep.trans k8 K6 (allS (Or.inl (List.mem_of_getElem? (i := 0) rfl)) all0)
 have q10 := (q7.keep K6)
 subst ep1 ep2 ep4 ep5
 exact r_return H d_j52_4_53 (⟨rfl, k9, A6, q10⟩)
def Q_toBytes_153 (Z : State) (i1 : Int32) (i2 : Int32) (i3 : Int32) (i4 : Int32) (h0 : Heap) (v : Option Value) (h : Heap) : Prop := ∃ (b1 : Addr) (kc2 : ClassId), v = some (.ref b1) ∧ Keep h0 h [] ∧ h0.size ≤ b1 ∧ Ar Z h b1 kc2 .byte [.int (cL8 i1), .int (cH8 i1), .int (cL8 i2), .int (cH8 i2), .int (cL8 i3), .int (cH8 i3), .int (cL8 i4), .int (cH8 i4)] ∧ Exa Z h b1 "[B"
def R_toBytes_153 : Room := { frames := 2, cells := 1, slots := 8, locals := 24 }
theorem rm_toBytes_153 {w : Bool} {Z : State} {a0 : Array Value} (hw : HW a0 Z) (Ts : List String) (a1 : Addr) (i1 : Int32) (i2 : Int32) (i3 : Int32) (i4 : Int32) (c1 : ClassId) (h0 : Heap) (f : Nat) (Zf : Z.heap.size ≤ f) (Z0 : f ≤ h0.size) (A_a1 : Ar Z h0 a1 c1 .char [.int i1, .int i2, .int i3, .int i4]) (r_i1 : 0 ≤ i1.toInt ∧ i1.toInt ≤ 255) (r_i2 : 0 ≤ i2.toInt ∧ i2.toInt ≤ 255) (r_i3 : 0 ≤ i3.toInt ∧ i3.toInt ≤ 255) (r_i4 : 256 ≤ i4.toInt ∧ i4.toInt ≤ 65535) (S__assertionsDisabled : G_S__assertionsDisabled Z) (S_HI_BYTE_SHIFT : G_S_HI_BYTE_SHIFT Z) (S_LO_BYTE_SHIFT : G_S_LO_BYTE_SHIFT Z) :
  Con w [] Z (⟨"java/lang/StringUTF16", "toBytes", "([CII)[B"⟩ : MethodName) jdk_52_method_14_code 5 (some (.array .byte)) R_toBytes_153 Ts Ts f #[.ref a1, .int 0, .int 4] h0 (Q_toBytes_153 Z i1 i2 i3 i4 h0) := by
 refine con_of f #[vR a1, vI 0, vI 4, .unset, .unset] (plainFor_of_name pn_2) (fun m => rfl) Zf ?_
 intro C H hX0
 refine r_iloadN H 1 d_j52_14_0 ?_
 refine r_static (argsL := [.int 4]) (rest := []) (W := 0) H 4 d_j52_14_1 (tw102 hw) (tw103 hw) (tw88 hw) (tw104 hw) (lenOf pd_17 rfl) (rm_newBytesFor_154 hw Ts h0 f Zf Z0) ?_
 rintro _ hh7 ⟨b1, kc2, rfl, K3, g4, q5, q6⟩
 refine r_astoreN H 5 #[vR a1, vI 0, vI 4, vR b1, .unset] d_j52_14_4 ?_
 refine r_iconst H 6 0 d_j52_14_5 ?_
 refine r_istore H 8 #[vR a1, vI 0, vI 4, vR b1, vI 0] d_j52_14_6 ?_
 refine r_iload H 10 d_j52_14_8 ?_
 refine r_iloadN H 11 d_j52_14_10 ?_
 refine r_icmpgeF H 14 d_j52_14_11 ?_
 refine r_aloadN H 15 d_j52_14_14 ?_
 refine r_iload H 17 d_j52_14_15 ?_
 refine r_aloadN H 18 d_j52_14_17 ?_
 refine r_iloadN H 19 d_j52_14_18 ?_
 have q8 := (A_a1.keep K3 nin0)
 refine r_caload H 20 i1 d_j52_14_19 q8 ?_
 refine r_static (argsL := [.ref b1, .int 0, .int i1]) (rest := []) (W := 0) H 23 d_j52_14_20 (tw109 hw) (tw110 hw) (tw88 hw) (tw111 hw) (lenOf pd_3 rfl) (rm_putChar_156 hw Ts b1 i1 (0 : Int32) (0 : Int32) (0 : Int32) (0 : Int32) (0 : Int32) (0 : Int32) (0 : Int32) (0 : Int32) kc2 hh7 f Zf (nlt Z0 K3.1) q5 (nlt Z0 g4) q6 (by have := r_i1; omega) S__assertionsDisabled S_HI_BYTE_SHIFT S_LO_BYTE_SHIFT) ?_
 rintro _ hh12 ⟨rfl, K9, q10, q11⟩
 refine r_iinc H 26 #[vR a1, vI 1, vI 4, vR b1, vI 0] 1 d_j52_14_23 ?_
 refine r_iinc H 29 #[vR a1, vI 1, vI 4, vR b1, vI 1] 1 d_j52_14_26 ?_
 refine r_goto H 8 d_j52_14_29 ?_
 refine r_iload H 10 d_j52_14_8 ?_
 refine r_iloadN H 11 d_j52_14_10 ?_
 refine r_icmpgeF H 14 d_j52_14_11 ?_
 refine r_aloadN H 15 d_j52_14_14 ?_
 refine r_iload H 17 d_j52_14_15 ?_
 refine r_aloadN H 18 d_j52_14_17 ?_
 refine r_iloadN H 19 d_j52_14_18 ?_
 have q13 := (q8.keep K9 (ninS (Nat.ne_of_lt (Nat.lt_of_lt_of_le A_a1.lt (nlt nlr g4))) nin0))
 refine r_caload H 20 i2 d_j52_14_19 q13 ?_
 have z14 := Nat.le_trans K3.1 K9.1
 refine r_static (argsL := [.ref b1, .int 1, .int i2]) (rest := []) (W := 0) H 23 d_j52_14_20 (tw109 hw) (tw110 hw) (tw88 hw) (tw111 hw) (lenOf pd_3 rfl) (rm_putChar_157 hw Ts b1 i2 (cL8 i1) (cH8 i1) (0 : Int32) (0 : Int32) (0 : Int32) (0 : Int32) (0 : Int32) (0 : Int32) kc2 hh12 f Zf (nlt Z0 z14) q10 (nlt Z0 g4) q11 (by have := r_i2; omega) S__assertionsDisabled S_HI_BYTE_SHIFT S_LO_BYTE_SHIFT) ?_
 rintro _ hh18 ⟨rfl, K15, q16, q17⟩
 refine r_iinc H 26 #[vR a1, vI 2, vI 4, vR b1, vI 1] 2 d_j52_14_23 ?_
 refine r_iinc H 29 #[vR a1, vI 2, vI 4, vR b1, vI 2] 2 d_j52_14_26 ?_
 refine r_goto H 8 d_j52_14_29 ?_
 refine r_iload H 10 d_j52_14_8 ?_
 refine r_iloadN H 11 d_j52_14_10 ?_
 refine r_icmpgeF H 14 d_j52_14_11 ?_
 refine r_aloadN H 15 d_j52_14_14 ?_
 refine r_iload H 17 d_j52_14_15 ?_
 refine r_aloadN H 18 d_j52_14_17 ?_
 refine r_iloadN H 19 d_j52_14_18 ?_
 have q19 := (q13.keep K15 (ninS (Nat.ne_of_lt (Nat.lt_of_lt_of_le A_a1.lt (nlt nlr g4))) nin0))
 refine r_caload H 20 i3 d_j52_14_19 q19 ?_
 have z20 := Nat.le_trans z14 K15.1
 refine r_static (argsL := [.ref b1, .int 2, .int i3]) (rest := []) (W := 0) H 23 d_j52_14_20 (tw109 hw) (tw110 hw) (tw88 hw) (tw111 hw) (lenOf pd_3 rfl) (rm_putChar_158 hw Ts b1 i3 (cL8 i1) (cH8 i1) (cL8 i2) (cH8 i2) (0 : Int32) (0 : Int32) (0 : Int32) (0 : Int32) kc2 hh18 f Zf (nlt Z0 z20) q16 (nlt Z0 g4) q17 (by have := r_i3; omega) S__assertionsDisabled S_HI_BYTE_SHIFT S_LO_BYTE_SHIFT) ?_
 rintro _ hh24 ⟨rfl, K21, q22, q23⟩
 refine r_iinc H 26 #[vR a1, vI 3, vI 4, vR b1, vI 2] 3 d_j52_14_23 ?_
 refine r_iinc H 29 #[vR a1, vI 3, vI 4, vR b1, vI 3] 3 d_j52_14_26 ?_
 refine r_goto H 8 d_j52_14_29 ?_
 refine r_iload H 10 d_j52_14_8 ?_
 refine r_iloadN H 11 d_j52_14_10 ?_
 refine r_icmpgeF H 14 d_j52_14_11 ?_
 refine r_aloadN H 15 d_j52_14_14 ?_
 refine r_iload H 17 d_j52_14_15 ?_
 refine r_aloadN H 18 d_j52_14_17 ?_
 refine r_iloadN H 19 d_j52_14_18 ?_
 have q25 := (q19.keep K21 (ninS (Nat.ne_of_lt (Nat.lt_of_lt_of_le A_a1.lt (nlt nlr g4))) nin0))
 refine r_caload H 20 i4 d_j52_14_19 q25 ?_
 have z26 := Nat.le_trans z20 K21.1
 refine r_static (argsL := [.ref b1, .int 3, .int i4]) (rest := []) (W := 0) H 23 d_j52_14_20 (tw109 hw) (tw110 hw) (tw88 hw) (tw111 hw) (lenOf pd_3 rfl) (rm_putChar_159 hw Ts b1 i4 (cL8 i1) (cH8 i1) (cL8 i2) (cH8 i2) (cL8 i3) (cH8 i3) (0 : Int32) (0 : Int32) kc2 hh24 f Zf (nlt Z0 z26) q22 (nlt Z0 g4) q23 (by have := r_i4; omega) S__assertionsDisabled S_HI_BYTE_SHIFT S_LO_BYTE_SHIFT) ?_
 rintro _ hh30 ⟨rfl, K27, q28, q29⟩
 refine r_iinc H 26 #[vR a1, vI 4, vI 4, vR b1, vI 3] 4 d_j52_14_23 ?_
 refine r_iinc H 29 #[vR a1, vI 4, vI 4, vR b1, vI 4] 4 d_j52_14_26 ?_
 refine r_goto H 8 d_j52_14_29 ?_
 refine r_iload H 10 d_j52_14_8 ?_
 refine r_iloadN H 11 d_j52_14_10 ?_
 refine r_icmpgeT H 32 d_j52_14_11 ?_
 refine r_aloadN H 33 d_j52_14_32 ?_
 have k31 : Keep h0 hh7 [] := Keep.trans (Keep.refl h0 []) K3 all0
 have k32 : Keep h0 hh12 [] := Keep.trans k31 K9 (allS (Or.inr (nlt nlr g4)) all0)
 have k33 : Keep h0 hh18 [] := Keep.trans k32 K15 (allS (Or.inr (nlt nlr g4)) all0)
 have k34 : Keep h0 hh24 [] := Keep.trans k33 K21 (allS (Or.inr (nlt nlr g4)) all0)
 have k35 : Keep h0 hh30 [] := Keep.trans k34 K27 (allS (Or.inr (nlt nlr g4)) all0)
 exact r_areturn H d_j52_14_33 (⟨b1, kc2, rfl, k35, (nlt nlr g4), q28, q29⟩)
def Q_getChar_160 (Z : State) (i7 : Int32) (i8 : Int32) (h0 : Heap) (v : Option Value) (h : Heap) : Prop := ∃ (z : Int32), v = some (.int z) ∧ ((((i7 &&& (255 : Int32)) <<< ((0 : Int32) &&& 31)) ||| ((i8 &&& (255 : Int32)) <<< ((8 : Int32) &&& 31))).toUInt32.toUInt16.toUInt32.toInt32) = z ∧ (0 ≤ z.toInt ∧ z.toInt ≤ 65535) ∧ h0 = h
def R_getChar_160 : Room := { frames := 0, cells := 0, slots := 0, locals := 0 }
theorem rm_getChar_160 {w : Bool} {Z : State} {a0 : Array Value} (hw : HW a0 Z) (Ts : List String) (a1 : Addr) (i1 : Int32) (i2 : Int32) (i3 : Int32) (i4 : Int32) (i5 : Int32) (i6 : Int32) (i7 : Int32) (i8 : Int32) (c1 : ClassId) (h0 : Heap) (f : Nat) (Zf : Z.heap.size ≤ f) (Z0 : f ≤ h0.size) (A_a1 : Ar Z h0 a1 c1 .byte [.int i1, .int i2, .int i3, .int i4, .int i5, .int i6, .int i7, .int i8]) (S__assertionsDisabled : G_S__assertionsDisabled Z) (S_HI_BYTE_SHIFT : G_S_HI_BYTE_SHIFT Z) (S_LO_BYTE_SHIFT : G_S_LO_BYTE_SHIFT Z) :
  Con w [] Z (⟨"java/lang/StringUTF16", "getChar", "([BI)C"⟩ : MethodName) jdk_52_method_5_code 2 (some .char) R_getChar_160 Ts Ts f #[.ref a1, .int 3] h0 (Q_getChar_160 Z i7 i8 h0) := by
 refine con_of f #[vR a1, vI 3] (plainFor_of_name pn_2) (fun m => rfl) Zf ?_
 intro C H hX0
 refine r_gets H 3 d_j52_5_0 (tw112 hw) S__assertionsDisabled ?_
 refine r_ifneT H 28 d_j52_5_3 ?_
 refine r_iloadN H 29 d_j52_5_28 ?_
 refine r_iconst H 30 1 d_j52_5_29 ?_
 refine r_ishl H 31 6 d_j52_5_30 (by decide) ?_
 refine r_istoreN H 32 #[vR a1, vI 6] d_j52_5_31 ?_
 refine r_aloadN H 33 d_j52_5_32 ?_
 refine r_iloadN H 34 d_j52_5_33 ?_
 refine r_iinc H 37 #[vR a1, vI 7] 7 d_j52_5_34 ?_
 refine r_baload H 38 i7 d_j52_5_37 A_a1 ?_
 refine r_sipush H 41 255 d_j52_5_38 ?_
 obtain ⟨p1, ep1, rp1⟩ : ∃ p : Int32, (i7 &&& (255 : Int32)) = p ∧ 0 ≤ p.toInt ∧ p.toInt ≤ 255 := ⟨_, rfl, (by have h := c_and i7 (255 : Int32) (by decide); have : (255 : Int32).toInt = 255 := (by decide); omega)⟩
 refine r_iand H 42 p1 d_j52_5_41 ep1 ?_
 refine r_gets H 45 d_j52_5_42 (tw113 hw) S_HI_BYTE_SHIFT ?_
 refine r_ishl H 46 (p1 <<< ((0 : Int32) &&& 31)) d_j52_5_45 rfl ?_
 refine r_aloadN H 47 d_j52_5_46 ?_
 refine r_iloadN H 48 d_j52_5_47 ?_
 refine r_baload H 49 i8 d_j52_5_48 A_a1 ?_
 refine r_sipush H 52 255 d_j52_5_49 ?_
 obtain ⟨p2, ep2, rp2⟩ : ∃ p : Int32, (i8 &&& (255 : Int32)) = p ∧ 0 ≤ p.toInt ∧ p.toInt ≤ 255 := ⟨_, rfl, (by have h := c_and i8 (255 : Int32) (by decide); have : (255 : Int32).toInt = 255 := (by decide); omega)⟩
 refine r_iand H 53 p2 d_j52_5_52 ep2 ?_
 refine r_gets H 56 d_j52_5_53 (tw114 hw) S_LO_BYTE_SHIFT ?_
 refine r_ishl H 57 (p2 <<< ((8 : Int32) &&& 31)) d_j52_5_56 rfl ?_
 refine r_ior H 58 ((p1 <<< ((0 : Int32) &&& 31)) ||| (p2 <<< ((8 : Int32) &&& 31))) d_j52_5_57 ?_
 obtain ⟨p3, ep3, rp3⟩ : ∃ p : Int32, (((p1 <<< ((0 : Int32) &&& 31)) ||| (p2 <<< ((8 : Int32) &&& 31))).toUInt32.toUInt16.toUInt32.toInt32) = p ∧ 0 ≤ p.toInt ∧ p.toInt ≤ 65535 := ⟨_, rfl, (by have h := c_i2c ((p1 <<< ((0 : Int32) &&& 31)) ||| (p2 <<< ((8 : Int32) &&& 31))); omega)⟩
 refine r_i2c H 59 p3 d_j52_5_58 ep3 ?_
 subst ep1 ep2 ep3
 exact r_nreturn ((((i7 &&& (255 : Int32)) <<< ((0 : Int32) &&& 31)) ||| ((i8 &&& (255 : Int32)) <<< ((8 : Int32) &&& 31))).toUInt32.toUInt16.toUInt32.toInt32) H d_j52_5_59 (nar_char_id (by have := rp3; omega)) nlr (fun _ t => t) (⟨_, rfl, rfl, (by have := rp3; omega), rfl⟩)
def Q_toBytes_161 (Z : State) (i1 : Int32) (i2 : Int32) (i3 : Int32) (i4 : Int32) (h0 : Heap) (v : Option Value) (h : Heap) : Prop := ∃ (b1 : Addr) (kc2 : ClassId), v = some (.ref b1) ∧ Keep h0 h [] ∧ h0.size ≤ b1 ∧ Ar Z h b1 kc2 .byte [.int (cL8 i1), .int (cH8 i1), .int (cL8 i2), .int (cH8 i2), .int (cL8 i3), .int (cH8 i3), .int (cL8 i4), .int (cH8 i4)] ∧ Exa Z h b1 "[B"
def R_toBytes_161 : Room := { frames := 2, cells := 1, slots := 8, locals := 24 }
theorem rm_toBytes_161 {w : Bool} {Z : State} {a0 : Array Value} (hw : HW a0 Z) (Ts : List String) (a1 : Addr) (i1 : Int32) (i2 : Int32) (i3 : Int32) (i4 : Int32) (c1 : ClassId) (h0 : Heap) (f : Nat) (Zf : Z.heap.size ≤ f) (Z0 : f ≤ h0.size) (A_a1 : Ar Z h0 a1 c1 .char [.int i1, .int i2, .int i3, .int i4]) (r_i1 : 0 ≤ i1.toInt ∧ i1.toInt ≤ 255) (r_i2 : 0 ≤ i2.toInt ∧ i2.toInt ≤ 255) (r_i3 : 256 ≤ i3.toInt ∧ i3.toInt ≤ 65535) (r_i4 : 0 ≤ i4.toInt ∧ i4.toInt ≤ 65535) (S__assertionsDisabled : G_S__assertionsDisabled Z) (S_HI_BYTE_SHIFT : G_S_HI_BYTE_SHIFT Z) (S_LO_BYTE_SHIFT : G_S_LO_BYTE_SHIFT Z) :
  Con w [] Z (⟨"java/lang/StringUTF16", "toBytes", "([CII)[B"⟩ : MethodName) jdk_52_method_14_code 5 (some (.array .byte)) R_toBytes_161 Ts Ts f #[.ref a1, .int 0, .int 4] h0 (Q_toBytes_161 Z i1 i2 i3 i4 h0) := by
 refine con_of f #[vR a1, vI 0, vI 4, .unset, .unset] (plainFor_of_name pn_2) (fun m => rfl) Zf ?_
 intro C H hX0
 refine r_iloadN H 1 d_j52_14_0 ?_
 refine r_static (argsL := [.int 4]) (rest := []) (W := 0) H 4 d_j52_14_1 (tw102 hw) (tw103 hw) (tw88 hw) (tw104 hw) (lenOf pd_17 rfl) (rm_newBytesFor_154 hw Ts h0 f Zf Z0) ?_
 rintro _ hh7 ⟨b1, kc2, rfl, K3, g4, q5, q6⟩
 refine r_astoreN H 5 #[vR a1, vI 0, vI 4, vR b1, .unset] d_j52_14_4 ?_
 refine r_iconst H 6 0 d_j52_14_5 ?_
 refine r_istore H 8 #[vR a1, vI 0, vI 4, vR b1, vI 0] d_j52_14_6 ?_
 refine r_iload H 10 d_j52_14_8 ?_
 refine r_iloadN H 11 d_j52_14_10 ?_
 refine r_icmpgeF H 14 d_j52_14_11 ?_
 refine r_aloadN H 15 d_j52_14_14 ?_
 refine r_iload H 17 d_j52_14_15 ?_
 refine r_aloadN H 18 d_j52_14_17 ?_
 refine r_iloadN H 19 d_j52_14_18 ?_
 have q8 := (A_a1.keep K3 nin0)
 refine r_caload H 20 i1 d_j52_14_19 q8 ?_
 refine r_static (argsL := [.ref b1, .int 0, .int i1]) (rest := []) (W := 0) H 23 d_j52_14_20 (tw109 hw) (tw110 hw) (tw88 hw) (tw111 hw) (lenOf pd_3 rfl) (rm_putChar_156 hw Ts b1 i1 (0 : Int32) (0 : Int32) (0 : Int32) (0 : Int32) (0 : Int32) (0 : Int32) (0 : Int32) (0 : Int32) kc2 hh7 f Zf (nlt Z0 K3.1) q5 (nlt Z0 g4) q6 (by have := r_i1; omega) S__assertionsDisabled S_HI_BYTE_SHIFT S_LO_BYTE_SHIFT) ?_
 rintro _ hh12 ⟨rfl, K9, q10, q11⟩
 refine r_iinc H 26 #[vR a1, vI 1, vI 4, vR b1, vI 0] 1 d_j52_14_23 ?_
 refine r_iinc H 29 #[vR a1, vI 1, vI 4, vR b1, vI 1] 1 d_j52_14_26 ?_
 refine r_goto H 8 d_j52_14_29 ?_
 refine r_iload H 10 d_j52_14_8 ?_
 refine r_iloadN H 11 d_j52_14_10 ?_
 refine r_icmpgeF H 14 d_j52_14_11 ?_
 refine r_aloadN H 15 d_j52_14_14 ?_
 refine r_iload H 17 d_j52_14_15 ?_
 refine r_aloadN H 18 d_j52_14_17 ?_
 refine r_iloadN H 19 d_j52_14_18 ?_
 have q13 := (q8.keep K9 (ninS (Nat.ne_of_lt (Nat.lt_of_lt_of_le A_a1.lt (nlt nlr g4))) nin0))
 refine r_caload H 20 i2 d_j52_14_19 q13 ?_
 have z14 := Nat.le_trans K3.1 K9.1
 refine r_static (argsL := [.ref b1, .int 1, .int i2]) (rest := []) (W := 0) H 23 d_j52_14_20 (tw109 hw) (tw110 hw) (tw88 hw) (tw111 hw) (lenOf pd_3 rfl) (rm_putChar_157 hw Ts b1 i2 (cL8 i1) (cH8 i1) (0 : Int32) (0 : Int32) (0 : Int32) (0 : Int32) (0 : Int32) (0 : Int32) kc2 hh12 f Zf (nlt Z0 z14) q10 (nlt Z0 g4) q11 (by have := r_i2; omega) S__assertionsDisabled S_HI_BYTE_SHIFT S_LO_BYTE_SHIFT) ?_
 rintro _ hh18 ⟨rfl, K15, q16, q17⟩
 refine r_iinc H 26 #[vR a1, vI 2, vI 4, vR b1, vI 1] 2 d_j52_14_23 ?_
 refine r_iinc H 29 #[vR a1, vI 2, vI 4, vR b1, vI 2] 2 d_j52_14_26 ?_
 refine r_goto H 8 d_j52_14_29 ?_
 refine r_iload H 10 d_j52_14_8 ?_
 refine r_iloadN H 11 d_j52_14_10 ?_
 refine r_icmpgeF H 14 d_j52_14_11 ?_
 refine r_aloadN H 15 d_j52_14_14 ?_
 refine r_iload H 17 d_j52_14_15 ?_
 refine r_aloadN H 18 d_j52_14_17 ?_
 refine r_iloadN H 19 d_j52_14_18 ?_
 have q19 := (q13.keep K15 (ninS (Nat.ne_of_lt (Nat.lt_of_lt_of_le A_a1.lt (nlt nlr g4))) nin0))
 refine r_caload H 20 i3 d_j52_14_19 q19 ?_
 have z20 := Nat.le_trans z14 K15.1
 refine r_static (argsL := [.ref b1, .int 2, .int i3]) (rest := []) (W := 0) H 23 d_j52_14_20 (tw109 hw) (tw110 hw) (tw88 hw) (tw111 hw) (lenOf pd_3 rfl) (rm_putChar_158 hw Ts b1 i3 (cL8 i1) (cH8 i1) (cL8 i2) (cH8 i2) (0 : Int32) (0 : Int32) (0 : Int32) (0 : Int32) kc2 hh18 f Zf (nlt Z0 z20) q16 (nlt Z0 g4) q17 (by have := r_i3; omega) S__assertionsDisabled S_HI_BYTE_SHIFT S_LO_BYTE_SHIFT) ?_
 rintro _ hh24 ⟨rfl, K21, q22, q23⟩
 refine r_iinc H 26 #[vR a1, vI 3, vI 4, vR b1, vI 2] 3 d_j52_14_23 ?_
 refine r_iinc H 29 #[vR a1, vI 3, vI 4, vR b1, vI 3] 3 d_j52_14_26 ?_
 refine r_goto H 8 d_j52_14_29 ?_
 refine r_iload H 10 d_j52_14_8 ?_
 refine r_iloadN H 11 d_j52_14_10 ?_
 refine r_icmpgeF H 14 d_j52_14_11 ?_
 refine r_aloadN H 15 d_j52_14_14 ?_
 refine r_iload H 17 d_j52_14_15 ?_
 refine r_aloadN H 18 d_j52_14_17 ?_
 refine r_iloadN H 19 d_j52_14_18 ?_
 have q25 := (q19.keep K21 (ninS (Nat.ne_of_lt (Nat.lt_of_lt_of_le A_a1.lt (nlt nlr g4))) nin0))
 refine r_caload H 20 i4 d_j52_14_19 q25 ?_
 have z26 := Nat.le_trans z20 K21.1
 refine r_static (argsL := [.ref b1, .int 3, .int i4]) (rest := []) (W := 0) H 23 d_j52_14_20 (tw109 hw) (tw110 hw) (tw88 hw) (tw111 hw) (lenOf pd_3 rfl) (rm_putChar_159 hw Ts b1 i4 (cL8 i1) (cH8 i1) (cL8 i2) (cH8 i2) (cL8 i3) (cH8 i3) (0 : Int32) (0 : Int32) kc2 hh24 f Zf (nlt Z0 z26) q22 (nlt Z0 g4) q23 (by have := r_i4; omega) S__assertionsDisabled S_HI_BYTE_SHIFT S_LO_BYTE_SHIFT) ?_
 rintro _ hh30 ⟨rfl, K27, q28, q29⟩
 refine r_iinc H 26 #[vR a1, vI 4, vI 4, vR b1, vI 3] 4 d_j52_14_23 ?_
 refine r_iinc H 29 #[vR a1, vI 4, vI 4, vR b1, vI 4] 4 d_j52_14_26 ?_
 refine r_goto H 8 d_j52_14_29 ?_
 refine r_iload H 10 d_j52_14_8 ?_
 refine r_iloadN H 11 d_j52_14_10 ?_
 refine r_icmpgeT H 32 d_j52_14_11 ?_
 refine r_aloadN H 33 d_j52_14_32 ?_
 have k31 : Keep h0 hh7 [] := Keep.trans (Keep.refl h0 []) K3 all0
 have k32 : Keep h0 hh12 [] := Keep.trans k31 K9 (allS (Or.inr (nlt nlr g4)) all0)
 have k33 : Keep h0 hh18 [] := Keep.trans k32 K15 (allS (Or.inr (nlt nlr g4)) all0)
 have k34 : Keep h0 hh24 [] := Keep.trans k33 K21 (allS (Or.inr (nlt nlr g4)) all0)
 have k35 : Keep h0 hh30 [] := Keep.trans k34 K27 (allS (Or.inr (nlt nlr g4)) all0)
 exact r_areturn H d_j52_14_33 (⟨b1, kc2, rfl, k35, (nlt nlr g4), q28, q29⟩)
def Q_getChar_162 (Z : State) (i5 : Int32) (i6 : Int32) (h0 : Heap) (v : Option Value) (h : Heap) : Prop := ∃ (z : Int32), v = some (.int z) ∧ ((((i5 &&& (255 : Int32)) <<< ((0 : Int32) &&& 31)) ||| ((i6 &&& (255 : Int32)) <<< ((8 : Int32) &&& 31))).toUInt32.toUInt16.toUInt32.toInt32) = z ∧ (0 ≤ z.toInt ∧ z.toInt ≤ 65535) ∧ h0 = h
def R_getChar_162 : Room := { frames := 0, cells := 0, slots := 0, locals := 0 }
theorem rm_getChar_162 {w : Bool} {Z : State} {a0 : Array Value} (hw : HW a0 Z) (Ts : List String) (a1 : Addr) (i1 : Int32) (i2 : Int32) (i3 : Int32) (i4 : Int32) (i5 : Int32) (i6 : Int32) (i7 : Int32) (i8 : Int32) (c1 : ClassId) (h0 : Heap) (f : Nat) (Zf : Z.heap.size ≤ f) (Z0 : f ≤ h0.size) (A_a1 : Ar Z h0 a1 c1 .byte [.int i1, .int i2, .int i3, .int i4, .int i5, .int i6, .int i7, .int i8]) (S__assertionsDisabled : G_S__assertionsDisabled Z) (S_HI_BYTE_SHIFT : G_S_HI_BYTE_SHIFT Z) (S_LO_BYTE_SHIFT : G_S_LO_BYTE_SHIFT Z) :
  Con w [] Z (⟨"java/lang/StringUTF16", "getChar", "([BI)C"⟩ : MethodName) jdk_52_method_5_code 2 (some .char) R_getChar_162 Ts Ts f #[.ref a1, .int 2] h0 (Q_getChar_162 Z i5 i6 h0) := by
 refine con_of f #[vR a1, vI 2] (plainFor_of_name pn_2) (fun m => rfl) Zf ?_
 intro C H hX0
 refine r_gets H 3 d_j52_5_0 (tw112 hw) S__assertionsDisabled ?_
 refine r_ifneT H 28 d_j52_5_3 ?_
 refine r_iloadN H 29 d_j52_5_28 ?_
 refine r_iconst H 30 1 d_j52_5_29 ?_
 refine r_ishl H 31 4 d_j52_5_30 (by decide) ?_
 refine r_istoreN H 32 #[vR a1, vI 4] d_j52_5_31 ?_
 refine r_aloadN H 33 d_j52_5_32 ?_
 refine r_iloadN H 34 d_j52_5_33 ?_
 refine r_iinc H 37 #[vR a1, vI 5] 5 d_j52_5_34 ?_
 refine r_baload H 38 i5 d_j52_5_37 A_a1 ?_
 refine r_sipush H 41 255 d_j52_5_38 ?_
 obtain ⟨p1, ep1, rp1⟩ : ∃ p : Int32, (i5 &&& (255 : Int32)) = p ∧ 0 ≤ p.toInt ∧ p.toInt ≤ 255 := ⟨_, rfl, (by have h := c_and i5 (255 : Int32) (by decide); have : (255 : Int32).toInt = 255 := (by decide); omega)⟩
 refine r_iand H 42 p1 d_j52_5_41 ep1 ?_
 refine r_gets H 45 d_j52_5_42 (tw113 hw) S_HI_BYTE_SHIFT ?_
 refine r_ishl H 46 (p1 <<< ((0 : Int32) &&& 31)) d_j52_5_45 rfl ?_
 refine r_aloadN H 47 d_j52_5_46 ?_
 refine r_iloadN H 48 d_j52_5_47 ?_
 refine r_baload H 49 i6 d_j52_5_48 A_a1 ?_
 refine r_sipush H 52 255 d_j52_5_49 ?_
 obtain ⟨p2, ep2, rp2⟩ : ∃ p : Int32, (i6 &&& (255 : Int32)) = p ∧ 0 ≤ p.toInt ∧ p.toInt ≤ 255 := ⟨_, rfl, (by have h := c_and i6 (255 : Int32) (by decide); have : (255 : Int32).toInt = 255 := (by decide); omega)⟩
 refine r_iand H 53 p2 d_j52_5_52 ep2 ?_
 refine r_gets H 56 d_j52_5_53 (tw114 hw) S_LO_BYTE_SHIFT ?_
 refine r_ishl H 57 (p2 <<< ((8 : Int32) &&& 31)) d_j52_5_56 rfl ?_
 refine r_ior H 58 ((p1 <<< ((0 : Int32) &&& 31)) ||| (p2 <<< ((8 : Int32) &&& 31))) d_j52_5_57 ?_
 obtain ⟨p3, ep3, rp3⟩ : ∃ p : Int32, (((p1 <<< ((0 : Int32) &&& 31)) ||| (p2 <<< ((8 : Int32) &&& 31))).toUInt32.toUInt16.toUInt32.toInt32) = p ∧ 0 ≤ p.toInt ∧ p.toInt ≤ 65535 := ⟨_, rfl, (by have h := c_i2c ((p1 <<< ((0 : Int32) &&& 31)) ||| (p2 <<< ((8 : Int32) &&& 31))); omega)⟩
 refine r_i2c H 59 p3 d_j52_5_58 ep3 ?_
 subst ep1 ep2 ep3
 exact r_nreturn ((((i5 &&& (255 : Int32)) <<< ((0 : Int32) &&& 31)) ||| ((i6 &&& (255 : Int32)) <<< ((8 : Int32) &&& 31))).toUInt32.toUInt16.toUInt32.toInt32) H d_j52_5_59 (nar_char_id (by have := rp3; omega)) nlr (fun _ t => t) (⟨_, rfl, rfl, (by have := rp3; omega), rfl⟩)
def Q_toBytes_163 (Z : State) (i1 : Int32) (i2 : Int32) (i3 : Int32) (i4 : Int32) (h0 : Heap) (v : Option Value) (h : Heap) : Prop := ∃ (b1 : Addr) (kc2 : ClassId), v = some (.ref b1) ∧ Keep h0 h [] ∧ h0.size ≤ b1 ∧ Ar Z h b1 kc2 .byte [.int (cL8 i1), .int (cH8 i1), .int (cL8 i2), .int (cH8 i2), .int (cL8 i3), .int (cH8 i3), .int (cL8 i4), .int (cH8 i4)] ∧ Exa Z h b1 "[B"
def R_toBytes_163 : Room := { frames := 2, cells := 1, slots := 8, locals := 24 }
theorem rm_toBytes_163 {w : Bool} {Z : State} {a0 : Array Value} (hw : HW a0 Z) (Ts : List String) (a1 : Addr) (i1 : Int32) (i2 : Int32) (i3 : Int32) (i4 : Int32) (c1 : ClassId) (h0 : Heap) (f : Nat) (Zf : Z.heap.size ≤ f) (Z0 : f ≤ h0.size) (A_a1 : Ar Z h0 a1 c1 .char [.int i1, .int i2, .int i3, .int i4]) (r_i1 : 0 ≤ i1.toInt ∧ i1.toInt ≤ 255) (r_i2 : 256 ≤ i2.toInt ∧ i2.toInt ≤ 65535) (r_i3 : 0 ≤ i3.toInt ∧ i3.toInt ≤ 65535) (r_i4 : 0 ≤ i4.toInt ∧ i4.toInt ≤ 65535) (S__assertionsDisabled : G_S__assertionsDisabled Z) (S_HI_BYTE_SHIFT : G_S_HI_BYTE_SHIFT Z) (S_LO_BYTE_SHIFT : G_S_LO_BYTE_SHIFT Z) :
  Con w [] Z (⟨"java/lang/StringUTF16", "toBytes", "([CII)[B"⟩ : MethodName) jdk_52_method_14_code 5 (some (.array .byte)) R_toBytes_163 Ts Ts f #[.ref a1, .int 0, .int 4] h0 (Q_toBytes_163 Z i1 i2 i3 i4 h0) := by
 refine con_of f #[vR a1, vI 0, vI 4, .unset, .unset] (plainFor_of_name pn_2) (fun m => rfl) Zf ?_
 intro C H hX0
 refine r_iloadN H 1 d_j52_14_0 ?_
 refine r_static (argsL := [.int 4]) (rest := []) (W := 0) H 4 d_j52_14_1 (tw102 hw) (tw103 hw) (tw88 hw) (tw104 hw) (lenOf pd_17 rfl) (rm_newBytesFor_154 hw Ts h0 f Zf Z0) ?_
 rintro _ hh7 ⟨b1, kc2, rfl, K3, g4, q5, q6⟩
 refine r_astoreN H 5 #[vR a1, vI 0, vI 4, vR b1, .unset] d_j52_14_4 ?_
 refine r_iconst H 6 0 d_j52_14_5 ?_
 refine r_istore H 8 #[vR a1, vI 0, vI 4, vR b1, vI 0] d_j52_14_6 ?_
 refine r_iload H 10 d_j52_14_8 ?_
 refine r_iloadN H 11 d_j52_14_10 ?_
 refine r_icmpgeF H 14 d_j52_14_11 ?_
 refine r_aloadN H 15 d_j52_14_14 ?_
 refine r_iload H 17 d_j52_14_15 ?_
 refine r_aloadN H 18 d_j52_14_17 ?_
 refine r_iloadN H 19 d_j52_14_18 ?_
 have q8 := (A_a1.keep K3 nin0)
 refine r_caload H 20 i1 d_j52_14_19 q8 ?_
 refine r_static (argsL := [.ref b1, .int 0, .int i1]) (rest := []) (W := 0) H 23 d_j52_14_20 (tw109 hw) (tw110 hw) (tw88 hw) (tw111 hw) (lenOf pd_3 rfl) (rm_putChar_156 hw Ts b1 i1 (0 : Int32) (0 : Int32) (0 : Int32) (0 : Int32) (0 : Int32) (0 : Int32) (0 : Int32) (0 : Int32) kc2 hh7 f Zf (nlt Z0 K3.1) q5 (nlt Z0 g4) q6 (by have := r_i1; omega) S__assertionsDisabled S_HI_BYTE_SHIFT S_LO_BYTE_SHIFT) ?_
 rintro _ hh12 ⟨rfl, K9, q10, q11⟩
 refine r_iinc H 26 #[vR a1, vI 1, vI 4, vR b1, vI 0] 1 d_j52_14_23 ?_
 refine r_iinc H 29 #[vR a1, vI 1, vI 4, vR b1, vI 1] 1 d_j52_14_26 ?_
 refine r_goto H 8 d_j52_14_29 ?_
 refine r_iload H 10 d_j52_14_8 ?_
 refine r_iloadN H 11 d_j52_14_10 ?_
 refine r_icmpgeF H 14 d_j52_14_11 ?_
 refine r_aloadN H 15 d_j52_14_14 ?_
 refine r_iload H 17 d_j52_14_15 ?_
 refine r_aloadN H 18 d_j52_14_17 ?_
 refine r_iloadN H 19 d_j52_14_18 ?_
 have q13 := (q8.keep K9 (ninS (Nat.ne_of_lt (Nat.lt_of_lt_of_le A_a1.lt (nlt nlr g4))) nin0))
 refine r_caload H 20 i2 d_j52_14_19 q13 ?_
 have z14 := Nat.le_trans K3.1 K9.1
 refine r_static (argsL := [.ref b1, .int 1, .int i2]) (rest := []) (W := 0) H 23 d_j52_14_20 (tw109 hw) (tw110 hw) (tw88 hw) (tw111 hw) (lenOf pd_3 rfl) (rm_putChar_157 hw Ts b1 i2 (cL8 i1) (cH8 i1) (0 : Int32) (0 : Int32) (0 : Int32) (0 : Int32) (0 : Int32) (0 : Int32) kc2 hh12 f Zf (nlt Z0 z14) q10 (nlt Z0 g4) q11 (by have := r_i2; omega) S__assertionsDisabled S_HI_BYTE_SHIFT S_LO_BYTE_SHIFT) ?_
 rintro _ hh18 ⟨rfl, K15, q16, q17⟩
 refine r_iinc H 26 #[vR a1, vI 2, vI 4, vR b1, vI 1] 2 d_j52_14_23 ?_
 refine r_iinc H 29 #[vR a1, vI 2, vI 4, vR b1, vI 2] 2 d_j52_14_26 ?_
 refine r_goto H 8 d_j52_14_29 ?_
 refine r_iload H 10 d_j52_14_8 ?_
 refine r_iloadN H 11 d_j52_14_10 ?_
 refine r_icmpgeF H 14 d_j52_14_11 ?_
 refine r_aloadN H 15 d_j52_14_14 ?_
 refine r_iload H 17 d_j52_14_15 ?_
 refine r_aloadN H 18 d_j52_14_17 ?_
 refine r_iloadN H 19 d_j52_14_18 ?_
 have q19 := (q13.keep K15 (ninS (Nat.ne_of_lt (Nat.lt_of_lt_of_le A_a1.lt (nlt nlr g4))) nin0))
 refine r_caload H 20 i3 d_j52_14_19 q19 ?_
 have z20 := Nat.le_trans z14 K15.1
 refine r_static (argsL := [.ref b1, .int 2, .int i3]) (rest := []) (W := 0) H 23 d_j52_14_20 (tw109 hw) (tw110 hw) (tw88 hw) (tw111 hw) (lenOf pd_3 rfl) (rm_putChar_158 hw Ts b1 i3 (cL8 i1) (cH8 i1) (cL8 i2) (cH8 i2) (0 : Int32) (0 : Int32) (0 : Int32) (0 : Int32) kc2 hh18 f Zf (nlt Z0 z20) q16 (nlt Z0 g4) q17 (by have := r_i3; omega) S__assertionsDisabled S_HI_BYTE_SHIFT S_LO_BYTE_SHIFT) ?_
 rintro _ hh24 ⟨rfl, K21, q22, q23⟩
 refine r_iinc H 26 #[vR a1, vI 3, vI 4, vR b1, vI 2] 3 d_j52_14_23 ?_
 refine r_iinc H 29 #[vR a1, vI 3, vI 4, vR b1, vI 3] 3 d_j52_14_26 ?_
 refine r_goto H 8 d_j52_14_29 ?_
 refine r_iload H 10 d_j52_14_8 ?_
 refine r_iloadN H 11 d_j52_14_10 ?_
 refine r_icmpgeF H 14 d_j52_14_11 ?_
 refine r_aloadN H 15 d_j52_14_14 ?_
 refine r_iload H 17 d_j52_14_15 ?_
 refine r_aloadN H 18 d_j52_14_17 ?_
 refine r_iloadN H 19 d_j52_14_18 ?_
 have q25 := (q19.keep K21 (ninS (Nat.ne_of_lt (Nat.lt_of_lt_of_le A_a1.lt (nlt nlr g4))) nin0))
 refine r_caload H 20 i4 d_j52_14_19 q25 ?_
 have z26 := Nat.le_trans z20 K21.1
 refine r_static (argsL := [.ref b1, .int 3, .int i4]) (rest := []) (W := 0) H 23 d_j52_14_20 (tw109 hw) (tw110 hw) (tw88 hw) (tw111 hw) (lenOf pd_3 rfl) (rm_putChar_159 hw Ts b1 i4 (cL8 i1) (cH8 i1) (cL8 i2) (cH8 i2) (cL8 i3) (cH8 i3) (0 : Int32) (0 : Int32) kc2 hh24 f Zf (nlt Z0 z26) q22 (nlt Z0 g4) q23 (by have := r_i4; omega) S__assertionsDisabled S_HI_BYTE_SHIFT S_LO_BYTE_SHIFT) ?_
 rintro _ hh30 ⟨rfl, K27, q28, q29⟩
 refine r_iinc H 26 #[vR a1, vI 4, vI 4, vR b1, vI 3] 4 d_j52_14_23 ?_
 refine r_iinc H 29 #[vR a1, vI 4, vI 4, vR b1, vI 4] 4 d_j52_14_26 ?_
 refine r_goto H 8 d_j52_14_29 ?_
 refine r_iload H 10 d_j52_14_8 ?_
 refine r_iloadN H 11 d_j52_14_10 ?_
 refine r_icmpgeT H 32 d_j52_14_11 ?_
 refine r_aloadN H 33 d_j52_14_32 ?_
 have k31 : Keep h0 hh7 [] := Keep.trans (Keep.refl h0 []) K3 all0
 have k32 : Keep h0 hh12 [] := Keep.trans k31 K9 (allS (Or.inr (nlt nlr g4)) all0)
 have k33 : Keep h0 hh18 [] := Keep.trans k32 K15 (allS (Or.inr (nlt nlr g4)) all0)
 have k34 : Keep h0 hh24 [] := Keep.trans k33 K21 (allS (Or.inr (nlt nlr g4)) all0)
 have k35 : Keep h0 hh30 [] := Keep.trans k34 K27 (allS (Or.inr (nlt nlr g4)) all0)
 exact r_areturn H d_j52_14_33 (⟨b1, kc2, rfl, k35, (nlt nlr g4), q28, q29⟩)
def Q_getChar_164 (Z : State) (i3 : Int32) (i4 : Int32) (h0 : Heap) (v : Option Value) (h : Heap) : Prop := ∃ (z : Int32), v = some (.int z) ∧ ((((i3 &&& (255 : Int32)) <<< ((0 : Int32) &&& 31)) ||| ((i4 &&& (255 : Int32)) <<< ((8 : Int32) &&& 31))).toUInt32.toUInt16.toUInt32.toInt32) = z ∧ (0 ≤ z.toInt ∧ z.toInt ≤ 65535) ∧ h0 = h
def R_getChar_164 : Room := { frames := 0, cells := 0, slots := 0, locals := 0 }
theorem rm_getChar_164 {w : Bool} {Z : State} {a0 : Array Value} (hw : HW a0 Z) (Ts : List String) (a1 : Addr) (i1 : Int32) (i2 : Int32) (i3 : Int32) (i4 : Int32) (i5 : Int32) (i6 : Int32) (i7 : Int32) (i8 : Int32) (c1 : ClassId) (h0 : Heap) (f : Nat) (Zf : Z.heap.size ≤ f) (Z0 : f ≤ h0.size) (A_a1 : Ar Z h0 a1 c1 .byte [.int i1, .int i2, .int i3, .int i4, .int i5, .int i6, .int i7, .int i8]) (S__assertionsDisabled : G_S__assertionsDisabled Z) (S_HI_BYTE_SHIFT : G_S_HI_BYTE_SHIFT Z) (S_LO_BYTE_SHIFT : G_S_LO_BYTE_SHIFT Z) :
  Con w [] Z (⟨"java/lang/StringUTF16", "getChar", "([BI)C"⟩ : MethodName) jdk_52_method_5_code 2 (some .char) R_getChar_164 Ts Ts f #[.ref a1, .int 1] h0 (Q_getChar_164 Z i3 i4 h0) := by
 refine con_of f #[vR a1, vI 1] (plainFor_of_name pn_2) (fun m => rfl) Zf ?_
 intro C H hX0
 refine r_gets H 3 d_j52_5_0 (tw112 hw) S__assertionsDisabled ?_
 refine r_ifneT H 28 d_j52_5_3 ?_
 refine r_iloadN H 29 d_j52_5_28 ?_
 refine r_iconst H 30 1 d_j52_5_29 ?_
 refine r_ishl H 31 2 d_j52_5_30 (by decide) ?_
 refine r_istoreN H 32 #[vR a1, vI 2] d_j52_5_31 ?_
 refine r_aloadN H 33 d_j52_5_32 ?_
 refine r_iloadN H 34 d_j52_5_33 ?_
 refine r_iinc H 37 #[vR a1, vI 3] 3 d_j52_5_34 ?_
 refine r_baload H 38 i3 d_j52_5_37 A_a1 ?_
 refine r_sipush H 41 255 d_j52_5_38 ?_
 obtain ⟨p1, ep1, rp1⟩ : ∃ p : Int32, (i3 &&& (255 : Int32)) = p ∧ 0 ≤ p.toInt ∧ p.toInt ≤ 255 := ⟨_, rfl, (by have h := c_and i3 (255 : Int32) (by decide); have : (255 : Int32).toInt = 255 := (by decide); omega)⟩
 refine r_iand H 42 p1 d_j52_5_41 ep1 ?_
 refine r_gets H 45 d_j52_5_42 (tw113 hw) S_HI_BYTE_SHIFT ?_
 refine r_ishl H 46 (p1 <<< ((0 : Int32) &&& 31)) d_j52_5_45 rfl ?_
 refine r_aloadN H 47 d_j52_5_46 ?_
 refine r_iloadN H 48 d_j52_5_47 ?_
 refine r_baload H 49 i4 d_j52_5_48 A_a1 ?_
 refine r_sipush H 52 255 d_j52_5_49 ?_
 obtain ⟨p2, ep2, rp2⟩ : ∃ p : Int32, (i4 &&& (255 : Int32)) = p ∧ 0 ≤ p.toInt ∧ p.toInt ≤ 255 := ⟨_, rfl, (by have h := c_and i4 (255 : Int32) (by decide); have : (255 : Int32).toInt = 255 := (by decide); omega)⟩
 refine r_iand H 53 p2 d_j52_5_52 ep2 ?_
 refine r_gets H 56 d_j52_5_53 (tw114 hw) S_LO_BYTE_SHIFT ?_
 refine r_ishl H 57 (p2 <<< ((8 : Int32) &&& 31)) d_j52_5_56 rfl ?_
 refine r_ior H 58 ((p1 <<< ((0 : Int32) &&& 31)) ||| (p2 <<< ((8 : Int32) &&& 31))) d_j52_5_57 ?_
 obtain ⟨p3, ep3, rp3⟩ : ∃ p : Int32, (((p1 <<< ((0 : Int32) &&& 31)) ||| (p2 <<< ((8 : Int32) &&& 31))).toUInt32.toUInt16.toUInt32.toInt32) = p ∧ 0 ≤ p.toInt ∧ p.toInt ≤ 65535 := ⟨_, rfl, (by have h := c_i2c ((p1 <<< ((0 : Int32) &&& 31)) ||| (p2 <<< ((8 : Int32) &&& 31))); omega)⟩
 refine r_i2c H 59 p3 d_j52_5_58 ep3 ?_
 subst ep1 ep2 ep3
 exact r_nreturn ((((i3 &&& (255 : Int32)) <<< ((0 : Int32) &&& 31)) ||| ((i4 &&& (255 : Int32)) <<< ((8 : Int32) &&& 31))).toUInt32.toUInt16.toUInt32.toInt32) H d_j52_5_59 (nar_char_id (by have := rp3; omega)) nlr (fun _ t => t) (⟨_, rfl, rfl, (by have := rp3; omega), rfl⟩)
def Q_toBytes_165 (Z : State) (i1 : Int32) (i2 : Int32) (i3 : Int32) (i4 : Int32) (h0 : Heap) (v : Option Value) (h : Heap) : Prop := ∃ (b1 : Addr) (kc2 : ClassId), v = some (.ref b1) ∧ Keep h0 h [] ∧ h0.size ≤ b1 ∧ Ar Z h b1 kc2 .byte [.int (cL8 i1), .int (cH8 i1), .int (cL8 i2), .int (cH8 i2), .int (cL8 i3), .int (cH8 i3), .int (cL8 i4), .int (cH8 i4)] ∧ Exa Z h b1 "[B"
def R_toBytes_165 : Room := { frames := 2, cells := 1, slots := 8, locals := 24 }
theorem rm_toBytes_165 {w : Bool} {Z : State} {a0 : Array Value} (hw : HW a0 Z) (Ts : List String) (a1 : Addr) (i1 : Int32) (i2 : Int32) (i3 : Int32) (i4 : Int32) (c1 : ClassId) (h0 : Heap) (f : Nat) (Zf : Z.heap.size ≤ f) (Z0 : f ≤ h0.size) (A_a1 : Ar Z h0 a1 c1 .char [.int i1, .int i2, .int i3, .int i4]) (r_i1 : 256 ≤ i1.toInt ∧ i1.toInt ≤ 65535) (r_i2 : 0 ≤ i2.toInt ∧ i2.toInt ≤ 65535) (r_i3 : 0 ≤ i3.toInt ∧ i3.toInt ≤ 65535) (r_i4 : 0 ≤ i4.toInt ∧ i4.toInt ≤ 65535) (S__assertionsDisabled : G_S__assertionsDisabled Z) (S_HI_BYTE_SHIFT : G_S_HI_BYTE_SHIFT Z) (S_LO_BYTE_SHIFT : G_S_LO_BYTE_SHIFT Z) :
  Con w [] Z (⟨"java/lang/StringUTF16", "toBytes", "([CII)[B"⟩ : MethodName) jdk_52_method_14_code 5 (some (.array .byte)) R_toBytes_165 Ts Ts f #[.ref a1, .int 0, .int 4] h0 (Q_toBytes_165 Z i1 i2 i3 i4 h0) := by
 refine con_of f #[vR a1, vI 0, vI 4, .unset, .unset] (plainFor_of_name pn_2) (fun m => rfl) Zf ?_
 intro C H hX0
 refine r_iloadN H 1 d_j52_14_0 ?_
 refine r_static (argsL := [.int 4]) (rest := []) (W := 0) H 4 d_j52_14_1 (tw102 hw) (tw103 hw) (tw88 hw) (tw104 hw) (lenOf pd_17 rfl) (rm_newBytesFor_154 hw Ts h0 f Zf Z0) ?_
 rintro _ hh7 ⟨b1, kc2, rfl, K3, g4, q5, q6⟩
 refine r_astoreN H 5 #[vR a1, vI 0, vI 4, vR b1, .unset] d_j52_14_4 ?_
 refine r_iconst H 6 0 d_j52_14_5 ?_
 refine r_istore H 8 #[vR a1, vI 0, vI 4, vR b1, vI 0] d_j52_14_6 ?_
 refine r_iload H 10 d_j52_14_8 ?_
 refine r_iloadN H 11 d_j52_14_10 ?_
 refine r_icmpgeF H 14 d_j52_14_11 ?_
 refine r_aloadN H 15 d_j52_14_14 ?_
 refine r_iload H 17 d_j52_14_15 ?_
 refine r_aloadN H 18 d_j52_14_17 ?_
 refine r_iloadN H 19 d_j52_14_18 ?_
 have q8 := (A_a1.keep K3 nin0)
 refine r_caload H 20 i1 d_j52_14_19 q8 ?_
 refine r_static (argsL := [.ref b1, .int 0, .int i1]) (rest := []) (W := 0) H 23 d_j52_14_20 (tw109 hw) (tw110 hw) (tw88 hw) (tw111 hw) (lenOf pd_3 rfl) (rm_putChar_156 hw Ts b1 i1 (0 : Int32) (0 : Int32) (0 : Int32) (0 : Int32) (0 : Int32) (0 : Int32) (0 : Int32) (0 : Int32) kc2 hh7 f Zf (nlt Z0 K3.1) q5 (nlt Z0 g4) q6 (by have := r_i1; omega) S__assertionsDisabled S_HI_BYTE_SHIFT S_LO_BYTE_SHIFT) ?_
 rintro _ hh12 ⟨rfl, K9, q10, q11⟩
 refine r_iinc H 26 #[vR a1, vI 1, vI 4, vR b1, vI 0] 1 d_j52_14_23 ?_
 refine r_iinc H 29 #[vR a1, vI 1, vI 4, vR b1, vI 1] 1 d_j52_14_26 ?_
 refine r_goto H 8 d_j52_14_29 ?_
 refine r_iload H 10 d_j52_14_8 ?_
 refine r_iloadN H 11 d_j52_14_10 ?_
 refine r_icmpgeF H 14 d_j52_14_11 ?_
 refine r_aloadN H 15 d_j52_14_14 ?_
 refine r_iload H 17 d_j52_14_15 ?_
 refine r_aloadN H 18 d_j52_14_17 ?_
 refine r_iloadN H 19 d_j52_14_18 ?_
 have q13 := (q8.keep K9 (ninS (Nat.ne_of_lt (Nat.lt_of_lt_of_le A_a1.lt (nlt nlr g4))) nin0))
 refine r_caload H 20 i2 d_j52_14_19 q13 ?_
 have z14 := Nat.le_trans K3.1 K9.1
 refine r_static (argsL := [.ref b1, .int 1, .int i2]) (rest := []) (W := 0) H 23 d_j52_14_20 (tw109 hw) (tw110 hw) (tw88 hw) (tw111 hw) (lenOf pd_3 rfl) (rm_putChar_157 hw Ts b1 i2 (cL8 i1) (cH8 i1) (0 : Int32) (0 : Int32) (0 : Int32) (0 : Int32) (0 : Int32) (0 : Int32) kc2 hh12 f Zf (nlt Z0 z14) q10 (nlt Z0 g4) q11 (by have := r_i2; omega) S__assertionsDisabled S_HI_BYTE_SHIFT S_LO_BYTE_SHIFT) ?_
 rintro _ hh18 ⟨rfl, K15, q16, q17⟩
 refine r_iinc H 26 #[vR a1, vI 2, vI 4, vR b1, vI 1] 2 d_j52_14_23 ?_
 refine r_iinc H 29 #[vR a1, vI 2, vI 4, vR b1, vI 2] 2 d_j52_14_26 ?_
 refine r_goto H 8 d_j52_14_29 ?_
 refine r_iload H 10 d_j52_14_8 ?_
 refine r_iloadN H 11 d_j52_14_10 ?_
 refine r_icmpgeF H 14 d_j52_14_11 ?_
 refine r_aloadN H 15 d_j52_14_14 ?_
 refine r_iload H 17 d_j52_14_15 ?_
 refine r_aloadN H 18 d_j52_14_17 ?_
 refine r_iloadN H 19 d_j52_14_18 ?_
 have q19 := (q13.keep K15 (ninS (Nat.ne_of_lt (Nat.lt_of_lt_of_le A_a1.lt (nlt nlr g4))) nin0))
 refine r_caload H 20 i3 d_j52_14_19 q19 ?_
 have z20 := Nat.le_trans z14 K15.1
 refine r_static (argsL := [.ref b1, .int 2, .int i3]) (rest := []) (W := 0) H 23 d_j52_14_20 (tw109 hw) (tw110 hw) (tw88 hw) (tw111 hw) (lenOf pd_3 rfl) (rm_putChar_158 hw Ts b1 i3 (cL8 i1) (cH8 i1) (cL8 i2) (cH8 i2) (0 : Int32) (0 : Int32) (0 : Int32) (0 : Int32) kc2 hh18 f Zf (nlt Z0 z20) q16 (nlt Z0 g4) q17 (by have := r_i3; omega) S__assertionsDisabled S_HI_BYTE_SHIFT S_LO_BYTE_SHIFT) ?_
 rintro _ hh24 ⟨rfl, K21, q22, q23⟩
 refine r_iinc H 26 #[vR a1, vI 3, vI 4, vR b1, vI 2] 3 d_j52_14_23 ?_
 refine r_iinc H 29 #[vR a1, vI 3, vI 4, vR b1, vI 3] 3 d_j52_14_26 ?_
 refine r_goto H 8 d_j52_14_29 ?_
 refine r_iload H 10 d_j52_14_8 ?_
 refine r_iloadN H 11 d_j52_14_10 ?_
 refine r_icmpgeF H 14 d_j52_14_11 ?_
 refine r_aloadN H 15 d_j52_14_14 ?_
 refine r_iload H 17 d_j52_14_15 ?_
 refine r_aloadN H 18 d_j52_14_17 ?_
 refine r_iloadN H 19 d_j52_14_18 ?_
 have q25 := (q19.keep K21 (ninS (Nat.ne_of_lt (Nat.lt_of_lt_of_le A_a1.lt (nlt nlr g4))) nin0))
 refine r_caload H 20 i4 d_j52_14_19 q25 ?_
 have z26 := Nat.le_trans z20 K21.1
 refine r_static (argsL := [.ref b1, .int 3, .int i4]) (rest := []) (W := 0) H 23 d_j52_14_20 (tw109 hw) (tw110 hw) (tw88 hw) (tw111 hw) (lenOf pd_3 rfl) (rm_putChar_159 hw Ts b1 i4 (cL8 i1) (cH8 i1) (cL8 i2) (cH8 i2) (cL8 i3) (cH8 i3) (0 : Int32) (0 : Int32) kc2 hh24 f Zf (nlt Z0 z26) q22 (nlt Z0 g4) q23 (by have := r_i4; omega) S__assertionsDisabled S_HI_BYTE_SHIFT S_LO_BYTE_SHIFT) ?_
 rintro _ hh30 ⟨rfl, K27, q28, q29⟩
 refine r_iinc H 26 #[vR a1, vI 4, vI 4, vR b1, vI 3] 4 d_j52_14_23 ?_
 refine r_iinc H 29 #[vR a1, vI 4, vI 4, vR b1, vI 4] 4 d_j52_14_26 ?_
 refine r_goto H 8 d_j52_14_29 ?_
 refine r_iload H 10 d_j52_14_8 ?_
 refine r_iloadN H 11 d_j52_14_10 ?_
 refine r_icmpgeT H 32 d_j52_14_11 ?_
 refine r_aloadN H 33 d_j52_14_32 ?_
 have k31 : Keep h0 hh7 [] := Keep.trans (Keep.refl h0 []) K3 all0
 have k32 : Keep h0 hh12 [] := Keep.trans k31 K9 (allS (Or.inr (nlt nlr g4)) all0)
 have k33 : Keep h0 hh18 [] := Keep.trans k32 K15 (allS (Or.inr (nlt nlr g4)) all0)
 have k34 : Keep h0 hh24 [] := Keep.trans k33 K21 (allS (Or.inr (nlt nlr g4)) all0)
 have k35 : Keep h0 hh30 [] := Keep.trans k34 K27 (allS (Or.inr (nlt nlr g4)) all0)
 exact r_areturn H d_j52_14_33 (⟨b1, kc2, rfl, k35, (nlt nlr g4), q28, q29⟩)
def Q_getChar_166 (Z : State) (i1 : Int32) (i2 : Int32) (h0 : Heap) (v : Option Value) (h : Heap) : Prop := ∃ (z : Int32), v = some (.int z) ∧ ((((i1 &&& (255 : Int32)) <<< ((0 : Int32) &&& 31)) ||| ((i2 &&& (255 : Int32)) <<< ((8 : Int32) &&& 31))).toUInt32.toUInt16.toUInt32.toInt32) = z ∧ (0 ≤ z.toInt ∧ z.toInt ≤ 65535) ∧ h0 = h
def R_getChar_166 : Room := { frames := 0, cells := 0, slots := 0, locals := 0 }
theorem rm_getChar_166 {w : Bool} {Z : State} {a0 : Array Value} (hw : HW a0 Z) (Ts : List String) (a1 : Addr) (i1 : Int32) (i2 : Int32) (i3 : Int32) (i4 : Int32) (i5 : Int32) (i6 : Int32) (i7 : Int32) (i8 : Int32) (c1 : ClassId) (h0 : Heap) (f : Nat) (Zf : Z.heap.size ≤ f) (Z0 : f ≤ h0.size) (A_a1 : Ar Z h0 a1 c1 .byte [.int i1, .int i2, .int i3, .int i4, .int i5, .int i6, .int i7, .int i8]) (S__assertionsDisabled : G_S__assertionsDisabled Z) (S_HI_BYTE_SHIFT : G_S_HI_BYTE_SHIFT Z) (S_LO_BYTE_SHIFT : G_S_LO_BYTE_SHIFT Z) :
  Con w [] Z (⟨"java/lang/StringUTF16", "getChar", "([BI)C"⟩ : MethodName) jdk_52_method_5_code 2 (some .char) R_getChar_166 Ts Ts f #[.ref a1, .int 0] h0 (Q_getChar_166 Z i1 i2 h0) := by
 refine con_of f #[vR a1, vI 0] (plainFor_of_name pn_2) (fun m => rfl) Zf ?_
 intro C H hX0
 refine r_gets H 3 d_j52_5_0 (tw112 hw) S__assertionsDisabled ?_
 refine r_ifneT H 28 d_j52_5_3 ?_
 refine r_iloadN H 29 d_j52_5_28 ?_
 refine r_iconst H 30 1 d_j52_5_29 ?_
 refine r_ishl H 31 0 d_j52_5_30 (by decide) ?_
 refine r_istoreN H 32 #[vR a1, vI 0] d_j52_5_31 ?_
 refine r_aloadN H 33 d_j52_5_32 ?_
 refine r_iloadN H 34 d_j52_5_33 ?_
 refine r_iinc H 37 #[vR a1, vI 1] 1 d_j52_5_34 ?_
 refine r_baload H 38 i1 d_j52_5_37 A_a1 ?_
 refine r_sipush H 41 255 d_j52_5_38 ?_
 obtain ⟨p1, ep1, rp1⟩ : ∃ p : Int32, (i1 &&& (255 : Int32)) = p ∧ 0 ≤ p.toInt ∧ p.toInt ≤ 255 := ⟨_, rfl, (by have h := c_and i1 (255 : Int32) (by decide); have : (255 : Int32).toInt = 255 := (by decide); omega)⟩
 refine r_iand H 42 p1 d_j52_5_41 ep1 ?_
 refine r_gets H 45 d_j52_5_42 (tw113 hw) S_HI_BYTE_SHIFT ?_
 refine r_ishl H 46 (p1 <<< ((0 : Int32) &&& 31)) d_j52_5_45 rfl ?_
 refine r_aloadN H 47 d_j52_5_46 ?_
 refine r_iloadN H 48 d_j52_5_47 ?_
 refine r_baload H 49 i2 d_j52_5_48 A_a1 ?_
 refine r_sipush H 52 255 d_j52_5_49 ?_
 obtain ⟨p2, ep2, rp2⟩ : ∃ p : Int32, (i2 &&& (255 : Int32)) = p ∧ 0 ≤ p.toInt ∧ p.toInt ≤ 255 := ⟨_, rfl, (by have h := c_and i2 (255 : Int32) (by decide); have : (255 : Int32).toInt = 255 := (by decide); omega)⟩
 refine r_iand H 53 p2 d_j52_5_52 ep2 ?_
 refine r_gets H 56 d_j52_5_53 (tw114 hw) S_LO_BYTE_SHIFT ?_
 refine r_ishl H 57 (p2 <<< ((8 : Int32) &&& 31)) d_j52_5_56 rfl ?_
 refine r_ior H 58 ((p1 <<< ((0 : Int32) &&& 31)) ||| (p2 <<< ((8 : Int32) &&& 31))) d_j52_5_57 ?_
 obtain ⟨p3, ep3, rp3⟩ : ∃ p : Int32, (((p1 <<< ((0 : Int32) &&& 31)) ||| (p2 <<< ((8 : Int32) &&& 31))).toUInt32.toUInt16.toUInt32.toInt32) = p ∧ 0 ≤ p.toInt ∧ p.toInt ≤ 65535 := ⟨_, rfl, (by have h := c_i2c ((p1 <<< ((0 : Int32) &&& 31)) ||| (p2 <<< ((8 : Int32) &&& 31))); omega)⟩
 refine r_i2c H 59 p3 d_j52_5_58 ep3 ?_
 subst ep1 ep2 ep3
 exact r_nreturn ((((i1 &&& (255 : Int32)) <<< ((0 : Int32) &&& 31)) ||| ((i2 &&& (255 : Int32)) <<< ((8 : Int32) &&& 31))).toUInt32.toUInt16.toUInt32.toInt32) H d_j52_5_59 (nar_char_id (by have := rp3; omega)) nlr (fun _ t => t) (⟨_, rfl, rfl, (by have := rp3; omega), rfl⟩)
def Q_compress_151 (Z : State) (i1 : Int32) (i2 : Int32) (i3 : Int32) (i4 : Int32) (h0 : Heap) (v : Option Value) (h : Heap) : Prop := (∃ (b1 : Addr) (kc1 : ClassId), v = some (.ref b1) ∧ (¬ (255 : Int32) < i1) ∧ (¬ (255 : Int32) < i2) ∧ (¬ (255 : Int32) < i3) ∧ (¬ (255 : Int32) < i4) ∧ Keep h0 h [] ∧ h0.size ≤ b1 ∧ Ar Z h b1 kc1 .byte [.int (cB8 i1), .int (cB8 i2), .int (cB8 i3), .int (cB8 i4)] ∧ Exa Z h b1 "[B") ∨ (∃ (b44 : Addr) (kc45 : ClassId), v = some (.ref b44) ∧ Keep h0 h [] ∧ h0.size ≤ b44 ∧ Ar Z h b44 kc45 .byte [.int (cL8 i1), .int (cH8 i1), .int (cL8 i2), .int (cH8 i2), .int (cL8 i3), .int (cH8 i3), .int (cL8 i4), .int (cH8 i4)] ∧ Exa Z h b44 "[B")
def R_compress_151 : Room := { frames := 3, cells := 2, slots := 12, locals := 40 }
theorem rm_compress_151 {w : Bool} {Z : State} {a0 : Array Value} (hw : HW a0 Z) (Ts : List String) (a1 : Addr) (i1 : Int32) (i2 : Int32) (i3 : Int32) (i4 : Int32) (c1 : ClassId) (h0 : Heap) (f : Nat) (Zf : Z.heap.size ≤ f) (Z0 : f ≤ h0.size) (A_a1 : Ar Z h0 a1 c1 .char [.int i1, .int i2, .int i3, .int i4]) (E_a1 : Exa Z h0 a1 "[C") (r_i1 : 0 ≤ i1.toInt ∧ i1.toInt ≤ 65535) (r_i2 : 0 ≤ i2.toInt ∧ i2.toInt ≤ 65535) (r_i3 : 0 ≤ i3.toInt ∧ i3.toInt ≤ 65535) (r_i4 : 0 ≤ i4.toInt ∧ i4.toInt ≤ 65535) (S__assertionsDisabled : G_S__assertionsDisabled Z) (S_HI_BYTE_SHIFT : G_S_HI_BYTE_SHIFT Z) (S_LO_BYTE_SHIFT : G_S_LO_BYTE_SHIFT Z) :
  Con w [] Z (⟨"java/lang/StringUTF16", "compress", "([CII)[B"⟩ : MethodName) jdk_52_method_16_code 6 (some (.array .byte)) R_compress_151 Ts Ts f #[.ref a1, .int 0, .int 4] h0 (Q_compress_151 Z i1 i2 i3 i4 h0) := by
 refine con_of f #[vR a1, vI 0, vI 4, .unset, .unset, .unset] (plainFor_of_name pn_2) (fun m => rfl) Zf ?_
 intro C H hX0
 refine r_iloadN H 1 d_j52_16_0 ?_
 refine r_newP H 3 "[B" 4 d_j52_16_1 (tw16 hw) ?_
 intro h1 b1 kc1 g1 l1 K1 E1 A1
 change Ar Z h1 b1 kc1 .byte [.int 0, .int 0, .int 0, .int 0] at A1
 refine r_astoreN H 4 #[vR a1, vI 0, vI 4, vR b1, .unset, .unset] d_j52_16_3 ?_
 refine r_aloadN H 5 d_j52_16_4 ?_
 refine r_iloadN H 6 d_j52_16_5 ?_
 refine r_aloadN H 7 d_j52_16_6 ?_
 refine r_iconst H 8 0 d_j52_16_7 ?_
 refine r_iloadN H 9 d_j52_16_8 ?_
 have q2 := (A_a1.keep K1 nin0)
 have q3 := (E_a1.keep K1)
 refine r_static (argsL := [.ref a1, .int 0, .ref b1, .int 0, .int 4]) (rest := []) (W := 0) H 12 d_j52_16_9 (tw90 hw) (tw91 hw) (tw88 hw) (tw92 hw) (lenOf pd_16 rfl) (rm_compress_152 hw Ts a1 b1 i1 i2 i3 i4 c1 kc1 h1 f Zf (nlt Z0 K1.1) q2 A1 (nlt Z0 (Nat.le_of_eq g1.symm)) E1 q3 r_i1 r_i2 r_i3 r_i4) ?_
 rintro _ hh31 (⟨rfl, c5, c6, c7, c8, K4, q9, q10⟩ | ⟨rfl, c12, c13, c14, c15, K11, q16, q17⟩ | ⟨rfl, c19, c20, c21, K18, q22, q23⟩ | ⟨rfl, c25, c26, K24, q27, q28⟩ | ⟨rfl, c30, rfl⟩)
 ·
  refine r_istore H 14 #[vR a1, vI 0, vI 4, vR b1, vI 4, .unset] d_j52_16_12 ?_
  refine r_iload H 16 d_j52_16_14 ?_
  refine r_iloadN H 17 d_j52_16_16 ?_
  refine r_icmpeqT H 57 d_j52_16_17 (by decide) (by decide) (by decide) ?_
  refine r_aloadN H 58 d_j52_16_57 ?_
  have k36 : Keep h0 h1 [] := Keep.trans (Keep.refl h0 []) K1 all0
  have k37 : Keep h0 hh31 [] := Keep.trans k36 K4 (allS (Or.inr (nlt nlr (Nat.le_of_eq g1.symm))) all0)
  exact r_areturn H d_j52_16_58 (Or.inl ⟨b1, kc1, rfl, c5, c6, c7, c8, k37, (nlt nlr (Nat.le_of_eq g1.symm)), q9, q10⟩)
 ·
  have rr38 : 0 ≤ i1.toInt ∧ i1.toInt ≤ 255 := by have := r_i1; have : (255 : Int32).toInt = 255 := (by decide); have hc_ := c12; simp only [Int32.lt_iff_toInt_lt, ← Int32.toInt_inj] at hc_; omega
  have rr39 : 0 ≤ i2.toInt ∧ i2.toInt ≤ 255 := by have := r_i2; have : (255 : Int32).toInt = 255 := (by decide); have hc_ := c13; simp only [Int32.lt_iff_toInt_lt, ← Int32.toInt_inj] at hc_; omega
  have rr40 : 0 ≤ i3.toInt ∧ i3.toInt ≤ 255 := by have := r_i3; have : (255 : Int32).toInt = 255 := (by decide); have hc_ := c14; simp only [Int32.lt_iff_toInt_lt, ← Int32.toInt_inj] at hc_; omega
  have rr41 : 256 ≤ i4.toInt ∧ i4.toInt ≤ 65535 := by have := r_i4; have : (255 : Int32).toInt = 255 := (by decide); have hc_ := c15; simp only [Int32.lt_iff_toInt_lt, ← Int32.toInt_inj] at hc_; omega
  refine r_istore H 14 #[vR a1, vI 0, vI 4, vR b1, vI 3, .unset] d_j52_16_12 ?_
  refine r_iload H 16 d_j52_16_14 ?_
  refine r_iloadN H 17 d_j52_16_16 ?_
  refine r_icmpeqF H 20 d_j52_16_17 rfl (by decide) ?_
  refine r_aloadN H 21 d_j52_16_20 ?_
  refine r_iloadN H 22 d_j52_16_21 ?_
  refine r_iloadN H 23 d_j52_16_22 ?_
  have q42 := (q2.keep K11 (ninS (Nat.ne_of_lt (Nat.lt_of_lt_of_le A_a1.lt (nlt nlr (Nat.le_of_eq g1.symm)))) nin0))
  have z43 := Nat.le_trans K1.1 K11.1
  refine r_static (argsL := [.ref a1, .int 0, .int 4]) (rest := []) (W := 0) H 26 d_j52_16_23 (tw99 hw) (tw100 hw) (tw88 hw) (tw101 hw) (lenOf pd_18 rfl) (rm_toBytes_153 hw Ts a1 i1 i2 i3 i4 c1 hh31 f Zf (nlt Z0 z43) q42 rr38 rr39 rr40 rr41 S__assertionsDisabled S_HI_BYTE_SHIFT S_LO_BYTE_SHIFT) ?_
  rintro _ hh50 ⟨b44, kc45, rfl, K46, g47, q48, q49⟩
  refine r_astore H 28 #[vR a1, vI 0, vI 4, vR b1, vI 3, vR b44] d_j52_16_26 ?_
  refine r_aload H 30 d_j52_16_28 ?_
  refine r_iload H 32 d_j52_16_30 ?_
  have z51 := Nat.le_trans z43 K46.1
  refine r_static (argsL := [.ref b44, .int 3]) (rest := []) (W := 0) H 35 d_j52_16_32 (tw115 hw) (tw116 hw) (tw88 hw) (tw117 hw) (lenOf pd_19 rfl) (rm_getChar_160 hw Ts b44 (cL8 i1) (cH8 i1) (cL8 i2) (cH8 i2) (cL8 i3) (cH8 i3) (cL8 i4) (cH8 i4) kc45 hh50 f Zf (nlt Z0 z51) q48 S__assertionsDisabled S_HI_BYTE_SHIFT S_LO_BYTE_SHIFT) ?_
  rintro _ _ ⟨p52, rfl, ep52, rp52, rfl⟩
  have hzp52 : i4 = p52 := by rw [← ep52]; exact (own_u16 i4 (by have := rr41; omega)).symm
  subst hzp52
  refine r_sipush H 38 255 d_j52_16_35 ?_
  refine r_icmpgtT H 54 d_j52_16_38 (by decide) (by decide) (by have := rr41; have : (255 : Int32).toInt = 255 := (by decide); simp only [Int32.lt_iff_toInt_lt, ← Int32.toInt_inj]; omega) ?_
  refine r_aload H 56 d_j52_16_54 ?_
  have k54 : Keep h0 h1 [] := Keep.trans (Keep.refl h0 []) K1 all0
  have k55 : Keep h0 hh31 [] := Keep.trans k54 K11 (allS (Or.inr (nlt nlr (Nat.le_of_eq g1.symm))) all0)
  have k56 : Keep h0 hh50 [] := Keep.trans k55 K46 all0
  exact r_areturn H d_j52_16_56 (Or.inr (⟨b44, kc45, rfl, k56, (nlt z43 g47), q48, q49⟩))
 ·
  have rr57 : 0 ≤ i1.toInt ∧ i1.toInt ≤ 255 := by have := r_i1; have : (255 : Int32).toInt = 255 := (by decide); have hc_ := c19; simp only [Int32.lt_iff_toInt_lt, ← Int32.toInt_inj] at hc_; omega
  have rr58 : 0 ≤ i2.toInt ∧ i2.toInt ≤ 255 := by have := r_i2; have : (255 : Int32).toInt = 255 := (by decide); have hc_ := c20; simp only [Int32.lt_iff_toInt_lt, ← Int32.toInt_inj] at hc_; omega
  have rr59 : 256 ≤ i3.toInt ∧ i3.toInt ≤ 65535 := by have := r_i3; have : (255 : Int32).toInt = 255 := (by decide); have hc_ := c21; simp only [Int32.lt_iff_toInt_lt, ← Int32.toInt_inj] at hc_; omega
  refine r_istore H 14 #[vR a1, vI 0, vI 4, vR b1, vI 2, .unset] d_j52_16_12 ?_
  refine r_iload H 16 d_j52_16_14 ?_
  refine r_iloadN H 17 d_j52_16_16 ?_
  refine r_icmpeqF H 20 d_j52_16_17 rfl (by decide) ?_
  refine r_aloadN H 21 d_j52_16_20 ?_
  refine r_iloadN H 22 d_j52_16_21 ?_
  refine r_iloadN H 23 d_j52_16_22 ?_
  have q60 := (q2.keep K18 (ninS (Nat.ne_of_lt (Nat.lt_of_lt_of_le A_a1.lt (nlt nlr (Nat.le_of_eq g1.symm)))) nin0))
  have z61 := Nat.le_trans K1.1 K18.1
  refine r_static (argsL := [.ref a1, .int 0, .int 4]) (rest := []) (W := 0) H 26 d_j52_16_23 (tw99 hw) (tw100 hw) (tw88 hw) (tw101 hw) (lenOf pd_18 rfl) (rm_toBytes_161 hw Ts a1 i1 i2 i3 i4 c1 hh31 f Zf (nlt Z0 z61) q60 rr57 rr58 rr59 r_i4 S__assertionsDisabled S_HI_BYTE_SHIFT S_LO_BYTE_SHIFT) ?_
  rintro _ hh68 ⟨b62, kc63, rfl, K64, g65, q66, q67⟩
  refine r_astore H 28 #[vR a1, vI 0, vI 4, vR b1, vI 2, vR b62] d_j52_16_26 ?_
  refine r_aload H 30 d_j52_16_28 ?_
  refine r_iload H 32 d_j52_16_30 ?_
  have z69 := Nat.le_trans z61 K64.1
  refine r_static (argsL := [.ref b62, .int 2]) (rest := []) (W := 0) H 35 d_j52_16_32 (tw115 hw) (tw116 hw) (tw88 hw) (tw117 hw) (lenOf pd_19 rfl) (rm_getChar_162 hw Ts b62 (cL8 i1) (cH8 i1) (cL8 i2) (cH8 i2) (cL8 i3) (cH8 i3) (cL8 i4) (cH8 i4) kc63 hh68 f Zf (nlt Z0 z69) q66 S__assertionsDisabled S_HI_BYTE_SHIFT S_LO_BYTE_SHIFT) ?_
  rintro _ _ ⟨p70, rfl, ep70, rp70, rfl⟩
  have hzp70 : i3 = p70 := by rw [← ep70]; exact (own_u16 i3 (by have := rr59; omega)).symm
  subst hzp70
  refine r_sipush H 38 255 d_j52_16_35 ?_
  refine r_icmpgtT H 54 d_j52_16_38 (by decide) (by decide) (by have := rr59; have : (255 : Int32).toInt = 255 := (by decide); simp only [Int32.lt_iff_toInt_lt, ← Int32.toInt_inj]; omega) ?_
  refine r_aload H 56 d_j52_16_54 ?_
  have k72 : Keep h0 h1 [] := Keep.trans (Keep.refl h0 []) K1 all0
  have k73 : Keep h0 hh31 [] := Keep.trans k72 K18 (allS (Or.inr (nlt nlr (Nat.le_of_eq g1.symm))) all0)
  have k74 : Keep h0 hh68 [] := Keep.trans k73 K64 all0
  exact r_areturn H d_j52_16_56 (Or.inr (⟨b62, kc63, rfl, k74, (nlt z61 g65), q66, q67⟩))
 ·
  have rr75 : 0 ≤ i1.toInt ∧ i1.toInt ≤ 255 := by have := r_i1; have : (255 : Int32).toInt = 255 := (by decide); have hc_ := c25; simp only [Int32.lt_iff_toInt_lt, ← Int32.toInt_inj] at hc_; omega
  have rr76 : 256 ≤ i2.toInt ∧ i2.toInt ≤ 65535 := by have := r_i2; have : (255 : Int32).toInt = 255 := (by decide); have hc_ := c26; simp only [Int32.lt_iff_toInt_lt, ← Int32.toInt_inj] at hc_; omega
  refine r_istore H 14 #[vR a1, vI 0, vI 4, vR b1, vI 1, .unset] d_j52_16_12 ?_
  refine r_iload H 16 d_j52_16_14 ?_
  refine r_iloadN H 17 d_j52_16_16 ?_
  refine r_icmpeqF H 20 d_j52_16_17 rfl (by decide) ?_
  refine r_aloadN H 21 d_j52_16_20 ?_
  refine r_iloadN H 22 d_j52_16_21 ?_
  refine r_iloadN H 23 d_j52_16_22 ?_
  have q77 := (q2.keep K24 (ninS (Nat.ne_of_lt (Nat.lt_of_lt_of_le A_a1.lt (nlt nlr (Nat.le_of_eq g1.symm)))) nin0))
  have z78 := Nat.le_trans K1.1 K24.1
  refine r_static (argsL := [.ref a1, .int 0, .int 4]) (rest := []) (W := 0) H 26 d_j52_16_23 (tw99 hw) (tw100 hw) (tw88 hw) (tw101 hw) (lenOf pd_18 rfl) (rm_toBytes_163 hw Ts a1 i1 i2 i3 i4 c1 hh31 f Zf (nlt Z0 z78) q77 rr75 rr76 r_i3 r_i4 S__assertionsDisabled S_HI_BYTE_SHIFT S_LO_BYTE_SHIFT) ?_
  rintro _ hh85 ⟨b79, kc80, rfl, K81, g82, q83, q84⟩
  refine r_astore H 28 #[vR a1, vI 0, vI 4, vR b1, vI 1, vR b79] d_j52_16_26 ?_
  refine r_aload H 30 d_j52_16_28 ?_
  refine r_iload H 32 d_j52_16_30 ?_
  have z86 := Nat.le_trans z78 K81.1
  refine r_static (argsL := [.ref b79, .int 1]) (rest := []) (W := 0) H 35 d_j52_16_32 (tw115 hw) (tw116 hw) (tw88 hw) (tw117 hw) (lenOf pd_19 rfl) (rm_getChar_164 hw Ts b79 (cL8 i1) (cH8 i1) (cL8 i2) (cH8 i2) (cL8 i3) (cH8 i3) (cL8 i4) (cH8 i4) kc80 hh85 f Zf (nlt Z0 z86) q83 S__assertionsDisabled S_HI_BYTE_SHIFT S_LO_BYTE_SHIFT) ?_
  rintro _ _ ⟨p87, rfl, ep87, rp87, rfl⟩
  have hzp87 : i2 = p87 := by rw [← ep87]; exact (own_u16 i2 (by have := rr76; omega)).symm
  subst hzp87
  refine r_sipush H 38 255 d_j52_16_35 ?_
  refine r_icmpgtT H 54 d_j52_16_38 (by decide) (by decide) (by have := rr76; have : (255 : Int32).toInt = 255 := (by decide); simp only [Int32.lt_iff_toInt_lt, ← Int32.toInt_inj]; omega) ?_
  refine r_aload H 56 d_j52_16_54 ?_
  have k89 : Keep h0 h1 [] := Keep.trans (Keep.refl h0 []) K1 all0
  have k90 : Keep h0 hh31 [] := Keep.trans k89 K24 (allS (Or.inr (nlt nlr (Nat.le_of_eq g1.symm))) all0)
  have k91 : Keep h0 hh85 [] := Keep.trans k90 K81 all0
  exact r_areturn H d_j52_16_56 (Or.inr (⟨b79, kc80, rfl, k91, (nlt z78 g82), q83, q84⟩))
 ·
  have rr92 : 256 ≤ i1.toInt ∧ i1.toInt ≤ 65535 := by have := r_i1; have : (255 : Int32).toInt = 255 := (by decide); have hc_ := c30; simp only [Int32.lt_iff_toInt_lt, ← Int32.toInt_inj] at hc_; omega
  refine r_istore H 14 #[vR a1, vI 0, vI 4, vR b1, vI 0, .unset] d_j52_16_12 ?_
  refine r_iload H 16 d_j52_16_14 ?_
  refine r_iloadN H 17 d_j52_16_16 ?_
  refine r_icmpeqF H 20 d_j52_16_17 rfl (by decide) ?_
  refine r_aloadN H 21 d_j52_16_20 ?_
  refine r_iloadN H 22 d_j52_16_21 ?_
  refine r_iloadN H 23 d_j52_16_22 ?_
  refine r_static (argsL := [.ref a1, .int 0, .int 4]) (rest := []) (W := 0) H 26 d_j52_16_23 (tw99 hw) (tw100 hw) (tw88 hw) (tw101 hw) (lenOf pd_18 rfl) (rm_toBytes_165 hw Ts a1 i1 i2 i3 i4 c1 h1 f Zf (nlt Z0 K1.1) q2 rr92 r_i2 r_i3 r_i4 S__assertionsDisabled S_HI_BYTE_SHIFT S_LO_BYTE_SHIFT) ?_
  rintro _ hh99 ⟨b93, kc94, rfl, K95, g96, q97, q98⟩
  refine r_astore H 28 #[vR a1, vI 0, vI 4, vR b1, vI 0, vR b93] d_j52_16_26 ?_
  refine r_aload H 30 d_j52_16_28 ?_
  refine r_iload H 32 d_j52_16_30 ?_
  have z100 := Nat.le_trans K1.1 K95.1
  refine r_static (argsL := [.ref b93, .int 0]) (rest := []) (W := 0) H 35 d_j52_16_32 (tw115 hw) (tw116 hw) (tw88 hw) (tw117 hw) (lenOf pd_19 rfl) (rm_getChar_166 hw Ts b93 (cL8 i1) (cH8 i1) (cL8 i2) (cH8 i2) (cL8 i3) (cH8 i3) (cL8 i4) (cH8 i4) kc94 hh99 f Zf (nlt Z0 z100) q97 S__assertionsDisabled S_HI_BYTE_SHIFT S_LO_BYTE_SHIFT) ?_
  rintro _ _ ⟨p101, rfl, ep101, rp101, rfl⟩
  have hzp101 : i1 = p101 := by rw [← ep101]; exact (own_u16 i1 (by have := rr92; omega)).symm
  subst hzp101
  refine r_sipush H 38 255 d_j52_16_35 ?_
  refine r_icmpgtT H 54 d_j52_16_38 (by decide) (by decide) (by have := rr92; have : (255 : Int32).toInt = 255 := (by decide); simp only [Int32.lt_iff_toInt_lt, ← Int32.toInt_inj]; omega) ?_
  refine r_aload H 56 d_j52_16_54 ?_
  have k103 : Keep h0 h1 [] := Keep.trans (Keep.refl h0 []) K1 all0
  have k104 : Keep h0 hh99 [] := Keep.trans k103 K95 all0
  exact r_areturn H d_j52_16_56 (Or.inr (⟨b93, kc94, rfl, k104, (nlt K1.1 g96), q97, q98⟩))
def Q_coderFromArrayLen_167 (Z : State) (h0 : Heap) (v : Option Value) (h : Heap) : Prop := v = some (.int 0) ∧ h0 = h
def R_coderFromArrayLen_167 : Room := { frames := 0, cells := 0, slots := 0, locals := 0 }
theorem rm_coderFromArrayLen_167 {w : Bool} {Z : State} {a0 : Array Value} (hw : HW a0 Z) (Ts : List String) (a1 : Addr) (i1 : Int32) (i2 : Int32) (i3 : Int32) (i4 : Int32) (c1 : ClassId) (h0 : Heap) (f : Nat) (Zf : Z.heap.size ≤ f) (Z0 : f ≤ h0.size) (A_a1 : Ar Z h0 a1 c1 .byte [.int (cB8 i1), .int (cB8 i2), .int (cB8 i3), .int (cB8 i4)]) :
  Con w [] Z (⟨"java/lang/StringUTF16", "coderFromArrayLen", "([BI)B"⟩ : MethodName) jdk_52_method_15_code 2 (some .byte) R_coderFromArrayLen_167 Ts Ts f #[.ref a1, .int 4] h0 (Q_coderFromArrayLen_167 Z h0) := by
 refine con_of f #[vR a1, vI 4] (plainFor_of_name pn_2) (fun m => rfl) Zf ?_
 intro C H hX0
 refine r_iloadN H 1 d_j52_15_0 ?_
 refine r_aloadN H 2 d_j52_15_1 ?_
 refine r_alen H 3 4 d_j52_15_2 A_a1 ?_
 refine r_isub H 4 0 d_j52_15_3 ?_
 refine r_bipush H 6 31 d_j52_15_4 ?_
 refine r_iushr H 7 0 d_j52_15_6 ?_
 refine r_i2b H 8 0 d_j52_15_7 (by decide) ?_
 exact r_nreturn (0 : Int32) H d_j52_15_8 (by decide) nlr (fun _ t => t) (⟨rfl, rfl⟩)
def Q_coderFromArrayLen_168 (Z : State) (h0 : Heap) (v : Option Value) (h : Heap) : Prop := v = some (.int 1) ∧ h0 = h
def R_coderFromArrayLen_168 : Room := { frames := 0, cells := 0, slots := 0, locals := 0 }
theorem rm_coderFromArrayLen_168 {w : Bool} {Z : State} {a0 : Array Value} (hw : HW a0 Z) (Ts : List String) (a1 : Addr) (i1 : Int32) (i2 : Int32) (i3 : Int32) (i4 : Int32) (c1 : ClassId) (h0 : Heap) (f : Nat) (Zf : Z.heap.size ≤ f) (Z0 : f ≤ h0.size) (A_a1 : Ar Z h0 a1 c1 .byte [.int (cL8 i1), .int (cH8 i1), .int (cL8 i2), .int (cH8 i2), .int (cL8 i3), .int (cH8 i3), .int (cL8 i4), .int (cH8 i4)]) :
  Con w [] Z (⟨"java/lang/StringUTF16", "coderFromArrayLen", "([BI)B"⟩ : MethodName) jdk_52_method_15_code 2 (some .byte) R_coderFromArrayLen_168 Ts Ts f #[.ref a1, .int 4] h0 (Q_coderFromArrayLen_168 Z h0) := by
 refine con_of f #[vR a1, vI 4] (plainFor_of_name pn_2) (fun m => rfl) Zf ?_
 intro C H hX0
 refine r_iloadN H 1 d_j52_15_0 ?_
 refine r_aloadN H 2 d_j52_15_1 ?_
 refine r_alen H 3 8 d_j52_15_2 A_a1 ?_
 refine r_isub H 4 (-4 : Int32) d_j52_15_3 ?_
 refine r_bipush H 6 31 d_j52_15_4 ?_
 refine r_iushr H 7 1 d_j52_15_6 ?_
 refine r_i2b H 8 1 d_j52_15_7 (by decide) ?_
 exact r_nreturn (1 : Int32) H d_j52_15_8 (by decide) nlr (fun _ t => t) (⟨rfl, rfl⟩)
def Q_init_150 (Z : State) (a1 : Addr) (i1 : Int32) (i2 : Int32) (i3 : Int32) (i4 : Int32) (h0 : Heap) (v : Option Value) (h : Heap) : Prop := (∃ (b1 : Addr) (kc2 : ClassId), v = none ∧ (¬ (255 : Int32) < i1) ∧ (¬ (255 : Int32) < i2) ∧ (¬ (255 : Int32) < i3) ∧ (¬ (255 : Int32) < i4) ∧ Keep h0 h [a1] ∧ h0.size ≤ b1 ∧ Exa Z h a1 "java/lang/String" ∧ Fld Z h a1 "java/lang/String" "coder" "B" (.int 0) ∧ Fld Z h a1 "java/lang/String" "value" "[B" (.ref b1) ∧ Ar Z h b1 kc2 .byte [.int (cB8 i1), .int (cB8 i2), .int (cB8 i3), .int (cB8 i4)] ∧ Exa Z h b1 "[B") ∨ (∃ (b11 : Addr) (kc12 : ClassId), v = none ∧ Keep h0 h [a1] ∧ h0.size ≤ b11 ∧ Exa Z h a1 "java/lang/String" ∧ Fld Z h a1 "java/lang/String" "coder" "B" (.int 1) ∧ Fld Z h a1 "java/lang/String" "value" "[B" (.ref b11) ∧ Ar Z h b11 kc12 .byte [.int (cL8 i1), .int (cH8 i1), .int (cL8 i2), .int (cH8 i2), .int (cL8 i3), .int (cH8 i3), .int (cL8 i4), .int (cH8 i4)] ∧ Exa Z h b11 "[B")
def R_init_150 : Room := { frames := 4, cells := 2, slots := 12, locals := 57 }
theorem rm_init_150 {w : Bool} {Z : State} {a0 : Array Value} (hw : HW a0 Z) (Ts : List String) (a1 : Addr) (a2 : Addr) (i1 : Int32) (i2 : Int32) (i3 : Int32) (i4 : Int32) (c1 : ClassId) (cs : Int32) (h0 : Heap) (f : Nat) (Zf : Z.heap.size ≤ f) (Z0 : f ≤ h0.size) (A_a2 : Ar Z h0 a2 c1 .char [.int i1, .int i2, .int i3, .int i4]) (E_a2 : Exa Z h0 a2 "[C") (E_a1 : Exa Z h0 a1 "java/lang/String") (F_coder_a1 : Fld Z h0 a1 "java/lang/String" "coder" "B" (.int 0)) (g_a1 : f ≤ a1) (F_value_a1 : Fld Z h0 a1 "java/lang/String" "value" "[B" .null) (r_i1 : 0 ≤ i1.toInt ∧ i1.toInt ≤ 65535) (r_i2 : 0 ≤ i2.toInt ∧ i2.toInt ≤ 65535) (r_i3 : 0 ≤ i3.toInt ∧ i3.toInt ≤ 65535) (r_i4 : 0 ≤ i4.toInt ∧ i4.toInt ≤ 65535) (S_cs : G_S_cs Z cs) (S__assertionsDisabled : G_S__assertionsDisabled Z) (S_HI_BYTE_SHIFT : G_S_HI_BYTE_SHIFT Z) (S_LO_BYTE_SHIFT : G_S_LO_BYTE_SHIFT Z) (hcs : ¬ cs = 0) :
  Con w [] Z (⟨"java/lang/String", "<init>", "([CIILjava/lang/Void;)V"⟩ : MethodName) jdk_42_method_149_code 6 none R_init_150 Ts Ts f #[.ref a1, .ref a2, .int 0, .int 4, .null] h0 (Q_init_150 Z a1 i1 i2 i3 i4 h0) := by
 refine con_of f #[vR a1, vR a2, vI 0, vI 4, .val .null, .unset] (plainFor_of_name pn_0) (fun m => rfl) Zf ?_
 intro C H hX0
 refine r_aloadN H 1 d_j42_149_0 ?_
 refine r_initO (W := 0) H 4 d_j42_149_1 (tw12 hw) (tw13 hw) (tw14 hw) ?_
 refine r_iloadN H 5 d_j42_149_4 ?_
 refine r_ifneT H 27 d_j42_149_5 ?_
 refine r_gets H 30 d_j42_149_27 (tw27 hw) S_cs ?_
 refine r_ifeqF H 33 d_j42_149_30 rfl hcs ?_
 refine r_aloadN H 34 d_j42_149_33 ?_
 refine r_iloadN H 35 d_j42_149_34 ?_
 refine r_iloadN H 36 d_j42_149_35 ?_
 refine r_static (argsL := [.ref a2, .int 0, .int 4]) (rest := []) (W := 0) H 39 d_j42_149_36 (tw86 hw) (tw87 hw) (tw88 hw) (tw89 hw) (lenOf pd_18 rfl) (rm_compress_151 hw Ts a2 i1 i2 i3 i4 c1 h0 f Zf Z0 A_a2 E_a2 r_i1 r_i2 r_i3 r_i4 S__assertionsDisabled S_HI_BYTE_SHIFT S_LO_BYTE_SHIFT) ?_
 rintro _ hh17 (⟨b1, kc2, rfl, c4, c5, c6, c7, K3, g8, q9, q10⟩ | ⟨b11, kc12, rfl, K13, g14, q15, q16⟩)
 ·
  refine r_astore H 41 #[vR a1, vR a2, vI 0, vI 4, .val .null, vR b1] d_j42_149_39 ?_
  refine r_aloadN H 42 d_j42_149_41 ?_
  refine r_aload H 44 d_j42_149_42 ?_
  refine r_iloadN H 45 d_j42_149_44 ?_
  refine r_static (argsL := [.ref b1, .int 4]) (rest := [.ref a1]) (W := 1) H 48 d_j42_149_45 (tw93 hw) (tw94 hw) (tw88 hw) (tw95 hw) (lenOf pd_20 rfl) (rm_coderFromArrayLen_167 hw Ts b1 i1 i2 i3 i4 kc2 hh17 f Zf (nlt Z0 K3.1) q9) ?_
  rintro _ _ ⟨rfl, rfl⟩
  have q23 := (E_a1.keep K3)
  have q24 := (F_coder_a1.keep K3 nin0)
  refine r_putn (v' := (.int 0)) (ty := .byte) H 51 d_j42_149_48 (tw22 hw) q24 q23 (Or.inr ⟨(tw18 hw), rfl, rfl⟩) (tw3 hw) g_a1 ?_
  intro h25 W25 K25 E25 F25
  refine r_aloadN H 52 d_j42_149_51 ?_
  refine r_aload H 54 d_j42_149_52 ?_
  have q26 := ((F_value_a1.keep K3 nin0).other W25 (Or.inr (slot_ne (Or.inr (tw17 hw)) (Or.inr (tw18 hw)) (by decide) (t := (.array .byte)) (t' := .byte) (by decide) (by decide))))
  refine r_putf (ty := (.array .byte)) H 57 d_j42_149_54 (tw21 hw) q26 E25 (Or.inr ⟨(tw17 hw), rfl, rfl⟩) (tw3 hw) g_a1 ?_
  intro h27 W27 K27 E27 F27
  have k28 : Keep h0 hh17 [a1] := Keep.trans (Keep.refl h0 [a1]) K3 all0
  have k29 : Keep h0 h25 [a1] := Keep.trans k28 K25 (allS (Or.inl (List.mem_of_getElem? (i := 0) rfl)) all0)
  have k30 : Keep h0 h27 [a1] := Keep.trans k29 K27 (allS (Or.inl (List.mem_of_getElem? (i := 0) rfl)) all0)
  have q31 := (F25.other W27 (Or.inr (slot_ne (Or.inr (tw18 hw)) (Or.inr (tw17 hw)) (by decide) (t := .byte) (t' := (.array .byte)) (by decide) (by decide))))
  have q32 := ((q9.keep K25 (ninS (Ne.symm (Nat.ne_of_lt (Nat.lt_of_lt_of_le E_a1.lt (nlt nlr g8)))) nin0)).keep K27 (ninS (Ne.symm (Nat.ne_of_lt (Nat.lt_of_lt_of_le E_a1.lt (nlt nlr g8)))) nin0))
  have q33 := ((q10.keep K25).keep K27)
  exact r_return H d_j42_149_57 (Or.inl ⟨b1, kc2, rfl, c4, c5, c6, c7, k30, (nlt nlr g8), E27, q31, F27, q32, q33⟩)
 ·
  refine r_astore H 41 #[vR a1, vR a2, vI 0, vI 4, .val .null, vR b11] d_j42_149_39 ?_
  refine r_aloadN H 42 d_j42_149_41 ?_
  refine r_aload H 44 d_j42_149_42 ?_
  refine r_iloadN H 45 d_j42_149_44 ?_
  refine r_static (argsL := [.ref b11, .int 4]) (rest := [.ref a1]) (W := 1) H 48 d_j42_149_45 (tw93 hw) (tw94 hw) (tw88 hw) (tw95 hw) (lenOf pd_20 rfl) (rm_coderFromArrayLen_168 hw Ts b11 i1 i2 i3 i4 kc12 hh17 f Zf (nlt Z0 K13.1) q15) ?_
  rintro _ _ ⟨rfl, rfl⟩
  have q35 := (E_a1.keep K13)
  have q36 := (F_coder_a1.keep K13 nin0)
  refine r_putn (v' := (.int 1)) (ty := .byte) H 51 d_j42_149_48 (tw22 hw) q36 q35 (Or.inr ⟨(tw18 hw), rfl, rfl⟩) (tw3 hw) g_a1 ?_
  intro h37 W37 K37 E37 F37
  refine r_aloadN H 52 d_j42_149_51 ?_
  refine r_aload H 54 d_j42_149_52 ?_
  have q38 := ((F_value_a1.keep K13 nin0).other W37 (Or.inr (slot_ne (Or.inr (tw17 hw)) (Or.inr (tw18 hw)) (by decide) (t := (.array .byte)) (t' := .byte) (by decide) (by decide))))
  refine r_putf (ty := (.array .byte)) H 57 d_j42_149_54 (tw21 hw) q38 E37 (Or.inr ⟨(tw17 hw), rfl, rfl⟩) (tw3 hw) g_a1 ?_
  intro h39 W39 K39 E39 F39
  have k40 : Keep h0 hh17 [a1] := Keep.trans (Keep.refl h0 [a1]) K13 all0
  have k41 : Keep h0 h37 [a1] := Keep.trans k40 K37 (allS (Or.inl (List.mem_of_getElem? (i := 0) rfl)) all0)
  have k42 : Keep h0 h39 [a1] := Keep.trans k41 K39 (allS (Or.inl (List.mem_of_getElem? (i := 0) rfl)) all0)
  have q43 := (F37.other W39 (Or.inr (slot_ne (Or.inr (tw18 hw)) (Or.inr (tw17 hw)) (by decide) (t := .byte) (t' := (.array .byte)) (by decide) (by decide))))
  have q44 := ((q15.keep K37 (ninS (Ne.symm (Nat.ne_of_lt (Nat.lt_of_lt_of_le E_a1.lt (nlt nlr g14)))) nin0)).keep K39 (ninS (Ne.symm (Nat.ne_of_lt (Nat.lt_of_lt_of_le E_a1.lt (nlt nlr g14)))) nin0))
  have q45 := ((q16.keep K37).keep K39)
  exact r_return H d_j42_149_57 (Or.inr (⟨b11, kc12, rfl, k42, (nlt nlr g14), E39, q43, F39, q44, q45⟩))
def Q_init_149 (Z : State) (a1 : Addr) (i1 : Int32) (i2 : Int32) (i3 : Int32) (i4 : Int32) (h0 : Heap) (v : Option Value) (h : Heap) : Prop := (∃ (b1 : Addr) (kc2 : ClassId), v = none ∧ (¬ (255 : Int32) < i1) ∧ (¬ (255 : Int32) < i2) ∧ (¬ (255 : Int32) < i3) ∧ (¬ (255 : Int32) < i4) ∧ Keep h0 h [a1] ∧ h0.size ≤ b1 ∧ Exa Z h a1 "java/lang/String" ∧ Fld Z h a1 "java/lang/String" "coder" "B" (.int 0) ∧ Fld Z h a1 "java/lang/String" "value" "[B" (.ref b1) ∧ Ar Z h b1 kc2 .byte [.int (cB8 i1), .int (cB8 i2), .int (cB8 i3), .int (cB8 i4)] ∧ Exa Z h b1 "[B") ∨ (∃ (b14 : Addr) (kc15 : ClassId), v = none ∧ Keep h0 h [a1] ∧ h0.size ≤ b14 ∧ Exa Z h a1 "java/lang/String" ∧ Fld Z h a1 "java/lang/String" "coder" "B" (.int 1) ∧ Fld Z h a1 "java/lang/String" "value" "[B" (.ref b14) ∧ Ar Z h b14 kc15 .byte [.int (cL8 i1), .int (cH8 i1), .int (cL8 i2), .int (cH8 i2), .int (cL8 i3), .int (cH8 i3), .int (cL8 i4), .int (cH8 i4)] ∧ Exa Z h b14 "[B")
def R_init_149 : Room := { frames := 5, cells := 2, slots := 12, locals := 74 }
theorem rm_init_149 {w : Bool} {Z : State} {a0 : Array Value} (hw : HW a0 Z) (Ts : List String) (a1 : Addr) (a2 : Addr) (i1 : Int32) (i2 : Int32) (i3 : Int32) (i4 : Int32) (c1 : ClassId) (cs : Int32) (h0 : Heap) (f : Nat) (Zf : Z.heap.size ≤ f) (Z0 : f ≤ h0.size) (A_a2 : Ar Z h0 a2 c1 .char [.int i1, .int i2, .int i3, .int i4]) (g_a1 : f ≤ a1) (E_a2 : Exa Z h0 a2 "[C") (E_a1 : Exa Z h0 a1 "java/lang/String") (F_coder_a1 : Fld Z h0 a1 "java/lang/String" "coder" "B" (.int 0)) (F_value_a1 : Fld Z h0 a1 "java/lang/String" "value" "[B" .null) (r_i1 : 0 ≤ i1.toInt ∧ i1.toInt ≤ 65535) (r_i2 : 0 ≤ i2.toInt ∧ i2.toInt ≤ 65535) (r_i3 : 0 ≤ i3.toInt ∧ i3.toInt ≤ 65535) (r_i4 : 0 ≤ i4.toInt ∧ i4.toInt ≤ 65535) (S_cs : G_S_cs Z cs) (S__assertionsDisabled : G_S__assertionsDisabled Z) (S_HI_BYTE_SHIFT : G_S_HI_BYTE_SHIFT Z) (S_LO_BYTE_SHIFT : G_S_LO_BYTE_SHIFT Z) (hcs : ¬ cs = 0) :
  Con w [] Z (⟨"java/lang/String", "<init>", "([C)V"⟩ : MethodName) jdk_42_method_3_code 2 none R_init_149 Ts Ts f #[.ref a1, .ref a2] h0 (Q_init_149 Z a1 i1 i2 i3 i4 h0) := by
 refine con_of f #[vR a1, vR a2] (plainFor_of_name pn_0) (fun m => rfl) Zf ?_
 intro C H hX0
 refine r_aloadN H 1 d_j42_3_0 ?_
 refine r_aloadN H 2 d_j42_3_1 ?_
 refine r_iconst H 3 0 d_j42_3_2 ?_
 refine r_aloadN H 4 d_j42_3_3 ?_
 refine r_alen H 5 4 d_j42_3_4 A_a2 ?_
 refine r_null H 6 d_j42_3_5 ?_
 refine r_special (a := a1) (argsL := [.ref a2, .int 0, .int 4, .null]) (rest := []) (W := 0) H 9 d_j42_3_6 (tw8 hw) (tw9 hw) (tw4 hw) (tw11 hw) (lenOf pd_0 rfl) (rm_init_150 hw Ts a1 a2 i1 i2 i3 i4 c1 cs h0 f Zf Z0 A_a2 E_a2 E_a1 F_coder_a1 g_a1 F_value_a1 r_i1 r_i2 r_i3 r_i4 S_cs S__assertionsDisabled S_HI_BYTE_SHIFT S_LO_BYTE_SHIFT hcs) ?_
 rintro _ hh23 (⟨b1, kc2, rfl, c4, c5, c6, c7, K3, g8, q9, q10, q11, q12, q13⟩ | ⟨b14, kc15, rfl, K16, g17, q18, q19, q20, q21, q22⟩)
 ·
  have k28 : Keep h0 hh23 [a1] := Keep.trans (Keep.refl h0 [a1]) K3 (allS (Or.inl (List.mem_of_getElem? (i := 0) rfl)) all0)
  exact r_return H d_j42_3_9 (Or.inl ⟨b1, kc2, rfl, c4, c5, c6, c7, k28, (nlt nlr g8), q9, q10, q11, q12, q13⟩)
 ·
  have k29 : Keep h0 hh23 [a1] := Keep.trans (Keep.refl h0 [a1]) K16 (allS (Or.inl (List.mem_of_getElem? (i := 0) rfl)) all0)
  exact r_return H d_j42_3_9 (Or.inr (⟨b14, kc15, rfl, k29, (nlt nlr g17), q18, q19, q20, q21, q22⟩))
def Q_length_172 (Z : State) (h0 : Heap) (v : Option Value) (h : Heap) : Prop := v = some (.int 4) ∧ h0 = h
def R_length_172 : Room := { frames := 1, cells := 0, slots := 0, locals := 13 }
theorem rm_length_172 {w : Bool} {Z : State} {a0 : Array Value} (hw : HW a0 Z) (Ts : List String) (a1 : Addr) (a2 : Addr) (i1 : Int32) (i2 : Int32) (i3 : Int32) (i4 : Int32) (c1 : ClassId) (cs : Int32) (h0 : Heap) (f : Nat) (Zf : Z.heap.size ≤ f) (Z0 : f ≤ h0.size) (F_value_a1 : Fld Z h0 a1 "java/lang/String" "value" "[B" (.ref a2)) (A_a2 : Ar Z h0 a2 c1 .byte [.int i1, .int i2, .int i3, .int i4]) (E_a1 : Exa Z h0 a1 "java/lang/String") (F_coder_a1 : Fld Z h0 a1 "java/lang/String" "coder" "B" (.int 0)) (S_cs : G_S_cs Z cs) (hcs : ¬ cs = 0) :
  Con w [] Z (⟨"java/lang/String", "length", "()I"⟩ : MethodName) jdk_42_method_54_code 1 (some .int) R_length_172 Ts Ts f #[.ref a1] h0 (Q_length_172 Z h0) := by
 refine con_of f #[vR a1] (plainFor_of_name pn_0) (fun m => rfl) Zf ?_
 intro C H hX0
 refine r_aloadN H 1 d_j42_54_0 ?_
 refine r_getf H 4 d_j42_54_1 (tw21 hw) F_value_a1 ?_
 refine r_alen H 5 4 d_j42_54_4 A_a2 ?_
 refine r_aloadN H 6 d_j42_54_5 ?_
 refine r_virtual (z := (⟨"java/lang/String", "coder", "()B"⟩ : MethodName)) (a := a1) (argsL := []) (rest := [.int 4]) (W := 1) H 9 d_j42_54_6 (tw63 hw) (tw64 hw) (nf_sel (tw66 hw)) (tw66 hw) (tw65 hw) (tw4 hw) (tw67 hw) E_a1 (lenOf pd_8 rfl) (rm_coder_15 hw Ts a1 cs h0 f Zf Z0 F_coder_a1 S_cs hcs) ?_
 rintro _ _ ⟨rfl, rfl⟩
 refine r_ishr H 10 4 d_j42_54_9 (by decide) ?_
 exact r_ireturn H d_j42_54_10 (⟨rfl, rfl⟩)
def Q_min_174 (Z : State) (h0 : Heap) (v : Option Value) (h : Heap) : Prop := v = some (.int 4) ∧ h0 = h
def R_min_174 : Room := { frames := 0, cells := 0, slots := 0, locals := 0 }
theorem rm_min_174 {w : Bool} {Z : State} {a0 : Array Value} (hw : HW a0 Z) (Ts : List String) (h0 : Heap) (f : Nat) (Zf : Z.heap.size ≤ f) (Z0 : f ≤ h0.size) :
  Con w [] Z (⟨"java/lang/Math", "min", "(II)I"⟩ : MethodName) jdk_29_method_69_code 2 (some .int) R_min_174 Ts Ts f #[.int 4, .int 4] h0 (Q_min_174 Z h0) := by
 refine con_of f #[vI 4, vI 4] (Jvm.Free.JP.mathPlain rfl (by decide +kernel)) (fun m => rfl) Zf ?_
 intro C H hX0
 refine r_iloadN H 1 d_j29_69_0 ?_
 refine r_iloadN H 2 d_j29_69_1 ?_
 refine r_icmpgtF H 5 d_j29_69_2 rfl (by decide) ?_
 refine r_iloadN H 6 d_j29_69_5 ?_
 refine r_goto H 10 d_j29_69_6 ?_
 exact r_ireturn H d_j29_69_10 (⟨rfl, rfl⟩)
def Q_indexOfChar_175 (Z : State) (h0 : Heap) (v : Option Value) (h : Heap) : Prop := v = some (.int (-1)) ∧ h0 = h
def R_indexOfChar_175 : Room := { frames := 0, cells := 0, slots := 0, locals := 0 }
theorem rm_indexOfChar_175 {w : Bool} {Z : State} {a0 : Array Value} (hw : HW a0 Z) (Ts : List String) (a1 : Addr) (i1 : Int32) (i2 : Int32) (i3 : Int32) (i4 : Int32) (c1 : ClassId) (h0 : Heap) (f : Nat) (Zf : Z.heap.size ≤ f) (Z0 : f ≤ h0.size) (A_a1 : Ar Z h0 a1 c1 .byte [.int (cB8 i1), .int (cB8 i2), .int (cB8 i3), .int (cB8 i4)]) (r_i1 : 0 ≤ i1.toInt ∧ i1.toInt ≤ 255) (r_i2 : 0 ≤ i2.toInt ∧ i2.toInt ≤ 255) (r_i3 : 0 ≤ i3.toInt ∧ i3.toInt ≤ 255) (r_i4 : 0 ≤ i4.toInt ∧ i4.toInt ≤ 255) (x_i1_10 : ¬ i1 = (10 : Int32)) (x_i2_10 : ¬ i2 = (10 : Int32)) (x_i3_10 : ¬ i3 = (10 : Int32)) (x_i4_10 : ¬ i4 = (10 : Int32)) :
  Con w [] Z (⟨"java/lang/StringLatin1", "indexOfChar", "([BIII)I"⟩ : MethodName) jdk_43_method_23_code 6 (some .int) R_indexOfChar_175 Ts Ts f #[.ref a1, .int 10, .int 0, .int 4] h0 (Q_indexOfChar_175 Z h0) := by
 refine con_of f #[vR a1, vI 10, vI 0, vI 4, .unset, .unset] (plainFor_of_name pn_1) (fun m => rfl) Zf ?_
 intro C H hX0
 refine r_iloadN H 1 d_j43_23_0 ?_
 refine r_i2b H 2 10 d_j43_23_1 (by decide) ?_
 refine r_istore H 4 #[vR a1, vI 10, vI 0, vI 4, vI 10, .unset] d_j43_23_2 ?_
 refine r_iloadN H 5 d_j43_23_4 ?_
 refine r_istore H 7 #[vR a1, vI 10, vI 0, vI 4, vI 10, vI 0] d_j43_23_5 ?_
 refine r_iload H 9 d_j43_23_7 ?_
 refine r_iloadN H 10 d_j43_23_9 ?_
 refine r_icmpgeF H 13 d_j43_23_10 ?_
 refine r_aloadN H 14 d_j43_23_13 ?_
 refine r_iload H 16 d_j43_23_14 ?_
 refine r_baload H 17 (cB8 i1) d_j43_23_16 A_a1 ?_
 refine r_iload H 19 d_j43_23_17 ?_
 refine r_icmpneT H 25 d_j43_23_19 (by decide) (by decide) (i2b_ne (by have := r_i1; omega) (by decide) x_i1_10) ?_
 refine r_iinc H 28 #[vR a1, vI 10, vI 0, vI 4, vI 10, vI 1] 1 d_j43_23_25 ?_
 refine r_goto H 7 d_j43_23_28 ?_
 refine r_iload H 9 d_j43_23_7 ?_
 refine r_iloadN H 10 d_j43_23_9 ?_
 refine r_icmpgeF H 13 d_j43_23_10 ?_
 refine r_aloadN H 14 d_j43_23_13 ?_
 refine r_iload H 16 d_j43_23_14 ?_
 refine r_baload H 17 (cB8 i2) d_j43_23_16 A_a1 ?_
 refine r_iload H 19 d_j43_23_17 ?_
 refine r_icmpneT H 25 d_j43_23_19 (by decide) (by decide) (i2b_ne (by have := r_i2; omega) (by decide) x_i2_10) ?_
 refine r_iinc H 28 #[vR a1, vI 10, vI 0, vI 4, vI 10, vI 2] 2 d_j43_23_25 ?_
 refine r_goto H 7 d_j43_23_28 ?_
 refine r_iload H 9 d_j43_23_7 ?_
 refine r_iloadN H 10 d_j43_23_9 ?_
 refine r_icmpgeF H 13 d_j43_23_10 ?_
 refine r_aloadN H 14 d_j43_23_13 ?_
 refine r_iload H 16 d_j43_23_14 ?_
 refine r_baload H 17 (cB8 i3) d_j43_23_16 A_a1 ?_
 refine r_iload H 19 d_j43_23_17 ?_
 refine r_icmpneT H 25 d_j43_23_19 (by decide) (by decide) (i2b_ne (by have := r_i3; omega) (by decide) x_i3_10) ?_
 refine r_iinc H 28 #[vR a1, vI 10, vI 0, vI 4, vI 10, vI 3] 3 d_j43_23_25 ?_
 refine r_goto H 7 d_j43_23_28 ?_
 refine r_iload H 9 d_j43_23_7 ?_
 refine r_iloadN H 10 d_j43_23_9 ?_
 refine r_icmpgeF H 13 d_j43_23_10 ?_
 refine r_aloadN H 14 d_j43_23_13 ?_
 refine r_iload H 16 d_j43_23_14 ?_
 refine r_baload H 17 (cB8 i4) d_j43_23_16 A_a1 ?_
 refine r_iload H 19 d_j43_23_17 ?_
 refine r_icmpneT H 25 d_j43_23_19 (by decide) (by decide) (i2b_ne (by have := r_i4; omega) (by decide) x_i4_10) ?_
 refine r_iinc H 28 #[vR a1, vI 10, vI 0, vI 4, vI 10, vI 4] 4 d_j43_23_25 ?_
 refine r_goto H 7 d_j43_23_28 ?_
 refine r_iload H 9 d_j43_23_7 ?_
 refine r_iloadN H 10 d_j43_23_9 ?_
 refine r_icmpgeT H 31 d_j43_23_10 ?_
 refine r_iconst H 32 (-1 : Int32) d_j43_23_31 ?_
 exact r_ireturn H d_j43_23_32 (⟨rfl, rfl⟩)
def Q_indexOf_173 (Z : State) (h0 : Heap) (v : Option Value) (h : Heap) : Prop := v = some (.int (-1)) ∧ h0 = h
def R_indexOf_173 : Room := { frames := 1, cells := 0, slots := 0, locals := 17 }
theorem rm_indexOf_173 {w : Bool} {Z : State} {a0 : Array Value} (hw : HW a0 Z) (Ts : List String) (a1 : Addr) (i1 : Int32) (i2 : Int32) (i3 : Int32) (i4 : Int32) (c1 : ClassId) (h0 : Heap) (f : Nat) (Zf : Z.heap.size ≤ f) (Z0 : f ≤ h0.size) (A_a1 : Ar Z h0 a1 c1 .byte [.int (cB8 i1), .int (cB8 i2), .int (cB8 i3), .int (cB8 i4)]) (r_i1 : 0 ≤ i1.toInt ∧ i1.toInt ≤ 255) (r_i2 : 0 ≤ i2.toInt ∧ i2.toInt ≤ 255) (r_i3 : 0 ≤ i3.toInt ∧ i3.toInt ≤ 255) (r_i4 : 0 ≤ i4.toInt ∧ i4.toInt ≤ 255) (x_i1_10 : ¬ i1 = (10 : Int32)) (x_i2_10 : ¬ i2 = (10 : Int32)) (x_i3_10 : ¬ i3 = (10 : Int32)) (x_i4_10 : ¬ i4 = (10 : Int32)) :
  Con w [] Z (⟨"java/lang/StringLatin1", "indexOf", "([BIII)I"⟩ : MethodName) jdk_43_method_22_code 4 (some .int) R_indexOf_173 Ts Ts f #[.ref a1, .int 10, .int 0, .int 4] h0 (Q_indexOf_173 Z h0) := by
 refine con_of f #[vR a1, vI 10, vI 0, vI 4] (plainFor_of_name pn_1) (fun m => rfl) Zf ?_
 intro C H hX0
 refine r_iloadN H 1 d_j43_22_0 ?_
 refine r_static (argsL := [.int 10]) (rest := []) (W := 0) H 4 d_j43_22_1 (tw71 hw) (tw72 hw) (tw30 hw) (tw73 hw) (lenOf pd_10 rfl) (rm_canEncode_17 hw Ts h0 f Zf Z0) ?_
 rintro _ _ ⟨rfl, rfl⟩
 refine r_ifneT H 9 d_j43_22_4 ?_
 refine r_iloadN H 10 d_j43_22_9 ?_
 refine r_iconst H 11 0 d_j43_22_10 ?_
 refine r_static (argsL := [.int 0, .int 0]) (rest := []) (W := 0) H 14 d_j43_22_11 (tw74 hw) (tw75 hw) (tw76 hw) (tw77 hw) (lenOf pd_11 rfl) (rm_max_18 hw Ts h0 f Zf Z0) ?_
 rintro _ _ ⟨rfl, rfl⟩
 refine r_istoreN H 15 #[vR a1, vI 10, vI 0, vI 4] d_j43_22_14 ?_
 refine r_iloadN H 16 d_j43_22_15 ?_
 refine r_aloadN H 17 d_j43_22_16 ?_
 refine r_alen H 18 4 d_j43_22_17 A_a1 ?_
 refine r_static (argsL := [.int 4, .int 4]) (rest := []) (W := 0) H 21 d_j43_22_18 (tw78 hw) (tw79 hw) (tw76 hw) (tw80 hw) (lenOf pd_11 rfl) (rm_min_174 hw Ts h0 f Zf Z0) ?_
 rintro _ _ ⟨rfl, rfl⟩
 refine r_istoreN H 22 #[vR a1, vI 10, vI 0, vI 4] d_j43_22_21 ?_
 refine r_iloadN H 23 d_j43_22_22 ?_
 refine r_iloadN H 24 d_j43_22_23 ?_
 refine r_icmpltT H 29 d_j43_22_24 ?_
 refine r_aloadN H 30 d_j43_22_29 ?_
 refine r_iloadN H 31 d_j43_22_30 ?_
 refine r_iloadN H 32 d_j43_22_31 ?_
 refine r_iloadN H 33 d_j43_22_32 ?_
 refine r_static (argsL := [.ref a1, .int 10, .int 0, .int 4]) (rest := []) (W := 0) H 36 d_j43_22_33 (tw96 hw) (tw97 hw) (tw30 hw) (tw98 hw) (lenOf pd_12 rfl) (rm_indexOfChar_175 hw Ts a1 i1 i2 i3 i4 c1 h0 f Zf Z0 A_a1 r_i1 r_i2 r_i3 r_i4 x_i1_10 x_i2_10 x_i3_10 x_i4_10) ?_
 rintro _ _ ⟨rfl, rfl⟩
 exact r_ireturn H d_j43_22_36 (⟨rfl, rfl⟩)
def Q_indexOf_171 (Z : State) (h0 : Heap) (v : Option Value) (h : Heap) : Prop := v = some (.int (-1)) ∧ h0 = h
def R_indexOf_171 : Room := { frames := 2, cells := 0, slots := 0, locals := 32 }
theorem rm_indexOf_171 {w : Bool} {Z : State} {a0 : Array Value} (hw : HW a0 Z) (Ts : List String) (a1 : Addr) (a2 : Addr) (i1 : Int32) (i2 : Int32) (i3 : Int32) (i4 : Int32) (c1 : ClassId) (cs : Int32) (h0 : Heap) (f : Nat) (Zf : Z.heap.size ≤ f) (Z0 : f ≤ h0.size) (E_a1 : Exa Z h0 a1 "java/lang/String") (F_coder_a1 : Fld Z h0 a1 "java/lang/String" "coder" "B" (.int 0)) (F_value_a1 : Fld Z h0 a1 "java/lang/String" "value" "[B" (.ref a2)) (A_a2 : Ar Z h0 a2 c1 .byte [.int (cB8 i1), .int (cB8 i2), .int (cB8 i3), .int (cB8 i4)]) (r_i1 : 0 ≤ i1.toInt ∧ i1.toInt ≤ 255) (r_i2 : 0 ≤ i2.toInt ∧ i2.toInt ≤ 255) (r_i3 : 0 ≤ i3.toInt ∧ i3.toInt ≤ 255) (r_i4 : 0 ≤ i4.toInt ∧ i4.toInt ≤ 255) (x_i1_10 : ¬ i1 = (10 : Int32)) (x_i2_10 : ¬ i2 = (10 : Int32)) (x_i3_10 : ¬ i3 = (10 : Int32)) (x_i4_10 : ¬ i4 = (10 : Int32)) (S_cs : G_S_cs Z cs) (hcs : ¬ cs = 0) :
  Con w [] Z (⟨"java/lang/String", "indexOf", "(II)I"⟩ : MethodName) jdk_42_method_80_code 3 (some .int) R_indexOf_171 Ts Ts f #[.ref a1, .int 10, .int 0] h0 (Q_indexOf_171 Z h0) := by
 refine con_of f #[vR a1, vI 10, vI 0] (plainFor_of_name pn_0) (fun m => rfl) Zf ?_
 intro C H hX0
 refine r_aloadN H 1 d_j42_80_0 ?_
 refine r_virtual (z := (⟨"java/lang/String", "isLatin1", "()Z"⟩ : MethodName)) (a := a1) (argsL := []) (rest := []) (W := 0) H 4 d_j42_80_1 (tw53 hw) (tw54 hw) (nf_sel (tw56 hw)) (tw56 hw) (tw55 hw) (tw4 hw) (tw57 hw) E_a1 (lenOf pd_7 rfl) (rm_isLatin1_13 hw Ts a1 cs h0 f Zf Z0 F_coder_a1 S_cs hcs) ?_
 rintro _ _ ⟨rfl, rfl⟩
 refine r_ifeqF H 7 d_j42_80_4 rfl (by decide) ?_
 refine r_aloadN H 8 d_j42_80_7 ?_
 refine r_getf H 11 d_j42_80_8 (tw21 hw) F_value_a1 ?_
 refine r_iloadN H 12 d_j42_80_11 ?_
 refine r_iloadN H 13 d_j42_80_12 ?_
 refine r_aloadN H 14 d_j42_80_13 ?_
 refine r_virtual (z := (⟨"java/lang/String", "length", "()I"⟩ : MethodName)) (a := a1) (argsL := []) (rest := [.int 0, .int 10, .ref a2]) (W := 3) H 17 d_j42_80_14 (tw58 hw) (tw59 hw) (nf_sel (tw61 hw)) (tw61 hw) (tw60 hw) (tw4 hw) (tw62 hw) E_a1 (lenOf pd_9 rfl) (rm_length_172 hw Ts a1 a2 (cB8 i1) (cB8 i2) (cB8 i3) (cB8 i4) c1 cs h0 f Zf Z0 F_value_a1 A_a2 E_a1 F_coder_a1 S_cs hcs) ?_
 rintro _ _ ⟨rfl, rfl⟩
 refine r_static (argsL := [.ref a2, .int 10, .int 0, .int 4]) (rest := []) (W := 0) H 20 d_j42_80_17 (tw68 hw) (tw69 hw) (tw30 hw) (tw70 hw) (lenOf pd_12 rfl) (rm_indexOf_173 hw Ts a2 i1 i2 i3 i4 c1 h0 f Zf Z0 A_a2 r_i1 r_i2 r_i3 r_i4 x_i1_10 x_i2_10 x_i3_10 x_i4_10) ?_
 rintro _ _ ⟨rfl, rfl⟩
 refine r_goto H 36 d_j42_80_20 ?_
 exact r_ireturn H d_j42_80_36 (⟨rfl, rfl⟩)
def Q_indexOf_170 (Z : State) (h0 : Heap) (v : Option Value) (h : Heap) : Prop := v = some (.int (-1)) ∧ h0 = h
def R_indexOf_170 : Room := { frames := 3, cells := 0, slots := 0, locals := 46 }
theorem rm_indexOf_170 {w : Bool} {Z : State} {a0 : Array Value} (hw : HW a0 Z) (Ts : List String) (a1 : Addr) (a2 : Addr) (i1 : Int32) (i2 : Int32) (i3 : Int32) (i4 : Int32) (c1 : ClassId) (cs : Int32) (h0 : Heap) (f : Nat) (Zf : Z.heap.size ≤ f) (Z0 : f ≤ h0.size) (E_a1 : Exa Z h0 a1 "java/lang/String") (F_coder_a1 : Fld Z h0 a1 "java/lang/String" "coder" "B" (.int 0)) (F_value_a1 : Fld Z h0 a1 "java/lang/String" "value" "[B" (.ref a2)) (A_a2 : Ar Z h0 a2 c1 .byte [.int (cB8 i1), .int (cB8 i2), .int (cB8 i3), .int (cB8 i4)]) (r_i1 : 0 ≤ i1.toInt ∧ i1.toInt ≤ 255) (r_i2 : 0 ≤ i2.toInt ∧ i2.toInt ≤ 255) (r_i3 : 0 ≤ i3.toInt ∧ i3.toInt ≤ 255) (r_i4 : 0 ≤ i4.toInt ∧ i4.toInt ≤ 255) (x_i1_10 : ¬ i1 = (10 : Int32)) (x_i2_10 : ¬ i2 = (10 : Int32)) (x_i3_10 : ¬ i3 = (10 : Int32)) (x_i4_10 : ¬ i4 = (10 : Int32)) (S_cs : G_S_cs Z cs) (hcs : ¬ cs = 0) :
  Con w [] Z (⟨"java/lang/String", "indexOf", "(I)I"⟩ : MethodName) jdk_42_method_79_code 2 (some .int) R_indexOf_170 Ts Ts f #[.ref a1, .int 10] h0 (Q_indexOf_170 Z h0) := by
 refine con_of f #[vR a1, vI 10] (plainFor_of_name pn_0) (fun m => rfl) Zf ?_
 intro C H hX0
 refine r_aloadN H 1 d_j42_79_0 ?_
 refine r_iloadN H 2 d_j42_79_1 ?_
 refine r_iconst H 3 0 d_j42_79_2 ?_
 refine r_virtual (z := (⟨"java/lang/String", "indexOf", "(II)I"⟩ : MethodName)) (a := a1) (argsL := [.int 10, .int 0]) (rest := []) (W := 0) H 6 d_j42_79_3 (tw48 hw) (tw49 hw) (nf_sel (tw51 hw)) (tw51 hw) (tw50 hw) (tw4 hw) (tw52 hw) E_a1 (lenOf pd_11 rfl) (rm_indexOf_171 hw Ts a1 a2 i1 i2 i3 i4 c1 cs h0 f Zf Z0 E_a1 F_coder_a1 F_value_a1 A_a2 r_i1 r_i2 r_i3 r_i4 x_i1_10 x_i2_10 x_i3_10 x_i4_10 S_cs hcs) ?_
 rintro _ _ ⟨rfl, rfl⟩
 exact r_ireturn H d_j42_79_6 (⟨rfl, rfl⟩)
def Q_indexOfChar_179 (Z : State) (h0 : Heap) (v : Option Value) (h : Heap) : Prop := v = some (.int (-1)) ∧ h0 = h
def R_indexOfChar_179 : Room := { frames := 0, cells := 0, slots := 0, locals := 0 }
theorem rm_indexOfChar_179 {w : Bool} {Z : State} {a0 : Array Value} (hw : HW a0 Z) (Ts : List String) (a1 : Addr) (i1 : Int32) (i2 : Int32) (i3 : Int32) (i4 : Int32) (c1 : ClassId) (h0 : Heap) (f : Nat) (Zf : Z.heap.size ≤ f) (Z0 : f ≤ h0.size) (A_a1 : Ar Z h0 a1 c1 .byte [.int (cB8 i1), .int (cB8 i2), .int (cB8 i3), .int (cB8 i4)]) (r_i1 : 0 ≤ i1.toInt ∧ i1.toInt ≤ 255) (r_i2 : 0 ≤ i2.toInt ∧ i2.toInt ≤ 255) (r_i3 : 0 ≤ i3.toInt ∧ i3.toInt ≤ 255) (r_i4 : 0 ≤ i4.toInt ∧ i4.toInt ≤ 255) (x_i1_13 : ¬ i1 = (13 : Int32)) (x_i2_13 : ¬ i2 = (13 : Int32)) (x_i3_13 : ¬ i3 = (13 : Int32)) (x_i4_13 : ¬ i4 = (13 : Int32)) :
  Con w [] Z (⟨"java/lang/StringLatin1", "indexOfChar", "([BIII)I"⟩ : MethodName) jdk_43_method_23_code 6 (some .int) R_indexOfChar_179 Ts Ts f #[.ref a1, .int 13, .int 0, .int 4] h0 (Q_indexOfChar_179 Z h0) := by
 refine con_of f #[vR a1, vI 13, vI 0, vI 4, .unset, .unset] (plainFor_of_name pn_1) (fun m => rfl) Zf ?_
 intro C H hX0
 refine r_iloadN H 1 d_j43_23_0 ?_
 refine r_i2b H 2 13 d_j43_23_1 (by decide) ?_
 refine r_istore H 4 #[vR a1, vI 13, vI 0, vI 4, vI 13, .unset] d_j43_23_2 ?_
 refine r_iloadN H 5 d_j43_23_4 ?_
 refine r_istore H 7 #[vR a1, vI 13, vI 0, vI 4, vI 13, vI 0] d_j43_23_5 ?_
 refine r_iload H 9 d_j43_23_7 ?_
 refine r_iloadN H 10 d_j43_23_9 ?_
 refine r_icmpgeF H 13 d_j43_23_10 ?_
 refine r_aloadN H 14 d_j43_23_13 ?_
 refine r_iload H 16 d_j43_23_14 ?_
 refine r_baload H 17 (cB8 i1) d_j43_23_16 A_a1 ?_
 refine r_iload H 19 d_j43_23_17 ?_
 refine r_icmpneT H 25 d_j43_23_19 (by decide) (by decide) (i2b_ne (by have := r_i1; omega) (by decide) x_i1_13) ?_
 refine r_iinc H 28 #[vR a1, vI 13, vI 0, vI 4, vI 13, vI 1] 1 d_j43_23_25 ?_
 refine r_goto H 7 d_j43_23_28 ?_
 refine r_iload H 9 d_j43_23_7 ?_
 refine r_iloadN H 10 d_j43_23_9 ?_
 refine r_icmpgeF H 13 d_j43_23_10 ?_
 refine r_aloadN H 14 d_j43_23_13 ?_
 refine r_iload H 16 d_j43_23_14 ?_
 refine r_baload H 17 (cB8 i2) d_j43_23_16 A_a1 ?_
 refine r_iload H 19 d_j43_23_17 ?_
 refine r_icmpneT H 25 d_j43_23_19 (by decide) (by decide) (i2b_ne (by have := r_i2; omega) (by decide) x_i2_13) ?_
 refine r_iinc H 28 #[vR a1, vI 13, vI 0, vI 4, vI 13, vI 2] 2 d_j43_23_25 ?_
 refine r_goto H 7 d_j43_23_28 ?_
 refine r_iload H 9 d_j43_23_7 ?_
 refine r_iloadN H 10 d_j43_23_9 ?_
 refine r_icmpgeF H 13 d_j43_23_10 ?_
 refine r_aloadN H 14 d_j43_23_13 ?_
 refine r_iload H 16 d_j43_23_14 ?_
 refine r_baload H 17 (cB8 i3) d_j43_23_16 A_a1 ?_
 refine r_iload H 19 d_j43_23_17 ?_
 refine r_icmpneT H 25 d_j43_23_19 (by decide) (by decide) (i2b_ne (by have := r_i3; omega) (by decide) x_i3_13) ?_
 refine r_iinc H 28 #[vR a1, vI 13, vI 0, vI 4, vI 13, vI 3] 3 d_j43_23_25 ?_
 refine r_goto H 7 d_j43_23_28 ?_
 refine r_iload H 9 d_j43_23_7 ?_
 refine r_iloadN H 10 d_j43_23_9 ?_
 refine r_icmpgeF H 13 d_j43_23_10 ?_
 refine r_aloadN H 14 d_j43_23_13 ?_
 refine r_iload H 16 d_j43_23_14 ?_
 refine r_baload H 17 (cB8 i4) d_j43_23_16 A_a1 ?_
 refine r_iload H 19 d_j43_23_17 ?_
 refine r_icmpneT H 25 d_j43_23_19 (by decide) (by decide) (i2b_ne (by have := r_i4; omega) (by decide) x_i4_13) ?_
 refine r_iinc H 28 #[vR a1, vI 13, vI 0, vI 4, vI 13, vI 4] 4 d_j43_23_25 ?_
 refine r_goto H 7 d_j43_23_28 ?_
 refine r_iload H 9 d_j43_23_7 ?_
 refine r_iloadN H 10 d_j43_23_9 ?_
 refine r_icmpgeT H 31 d_j43_23_10 ?_
 refine r_iconst H 32 (-1 : Int32) d_j43_23_31 ?_
 exact r_ireturn H d_j43_23_32 (⟨rfl, rfl⟩)
def Q_indexOf_178 (Z : State) (h0 : Heap) (v : Option Value) (h : Heap) : Prop := v = some (.int (-1)) ∧ h0 = h
def R_indexOf_178 : Room := { frames := 1, cells := 0, slots := 0, locals := 17 }
theorem rm_indexOf_178 {w : Bool} {Z : State} {a0 : Array Value} (hw : HW a0 Z) (Ts : List String) (a1 : Addr) (i1 : Int32) (i2 : Int32) (i3 : Int32) (i4 : Int32) (c1 : ClassId) (h0 : Heap) (f : Nat) (Zf : Z.heap.size ≤ f) (Z0 : f ≤ h0.size) (A_a1 : Ar Z h0 a1 c1 .byte [.int (cB8 i1), .int (cB8 i2), .int (cB8 i3), .int (cB8 i4)]) (r_i1 : 0 ≤ i1.toInt ∧ i1.toInt ≤ 255) (r_i2 : 0 ≤ i2.toInt ∧ i2.toInt ≤ 255) (r_i3 : 0 ≤ i3.toInt ∧ i3.toInt ≤ 255) (r_i4 : 0 ≤ i4.toInt ∧ i4.toInt ≤ 255) (x_i1_13 : ¬ i1 = (13 : Int32)) (x_i2_13 : ¬ i2 = (13 : Int32)) (x_i3_13 : ¬ i3 = (13 : Int32)) (x_i4_13 : ¬ i4 = (13 : Int32)) :
  Con w [] Z (⟨"java/lang/StringLatin1", "indexOf", "([BIII)I"⟩ : MethodName) jdk_43_method_22_code 4 (some .int) R_indexOf_178 Ts Ts f #[.ref a1, .int 13, .int 0, .int 4] h0 (Q_indexOf_178 Z h0) := by
 refine con_of f #[vR a1, vI 13, vI 0, vI 4] (plainFor_of_name pn_1) (fun m => rfl) Zf ?_
 intro C H hX0
 refine r_iloadN H 1 d_j43_22_0 ?_
 refine r_static (argsL := [.int 13]) (rest := []) (W := 0) H 4 d_j43_22_1 (tw71 hw) (tw72 hw) (tw30 hw) (tw73 hw) (lenOf pd_10 rfl) (rm_canEncode_23 hw Ts h0 f Zf Z0) ?_
 rintro _ _ ⟨rfl, rfl⟩
 refine r_ifneT H 9 d_j43_22_4 ?_
 refine r_iloadN H 10 d_j43_22_9 ?_
 refine r_iconst H 11 0 d_j43_22_10 ?_
 refine r_static (argsL := [.int 0, .int 0]) (rest := []) (W := 0) H 14 d_j43_22_11 (tw74 hw) (tw75 hw) (tw76 hw) (tw77 hw) (lenOf pd_11 rfl) (rm_max_18 hw Ts h0 f Zf Z0) ?_
 rintro _ _ ⟨rfl, rfl⟩
 refine r_istoreN H 15 #[vR a1, vI 13, vI 0, vI 4] d_j43_22_14 ?_
 refine r_iloadN H 16 d_j43_22_15 ?_
 refine r_aloadN H 17 d_j43_22_16 ?_
 refine r_alen H 18 4 d_j43_22_17 A_a1 ?_
 refine r_static (argsL := [.int 4, .int 4]) (rest := []) (W := 0) H 21 d_j43_22_18 (tw78 hw) (tw79 hw) (tw76 hw) (tw80 hw) (lenOf pd_11 rfl) (rm_min_174 hw Ts h0 f Zf Z0) ?_
 rintro _ _ ⟨rfl, rfl⟩
 refine r_istoreN H 22 #[vR a1, vI 13, vI 0, vI 4] d_j43_22_21 ?_
 refine r_iloadN H 23 d_j43_22_22 ?_
 refine r_iloadN H 24 d_j43_22_23 ?_
 refine r_icmpltT H 29 d_j43_22_24 ?_
 refine r_aloadN H 30 d_j43_22_29 ?_
 refine r_iloadN H 31 d_j43_22_30 ?_
 refine r_iloadN H 32 d_j43_22_31 ?_
 refine r_iloadN H 33 d_j43_22_32 ?_
 refine r_static (argsL := [.ref a1, .int 13, .int 0, .int 4]) (rest := []) (W := 0) H 36 d_j43_22_33 (tw96 hw) (tw97 hw) (tw30 hw) (tw98 hw) (lenOf pd_12 rfl) (rm_indexOfChar_179 hw Ts a1 i1 i2 i3 i4 c1 h0 f Zf Z0 A_a1 r_i1 r_i2 r_i3 r_i4 x_i1_13 x_i2_13 x_i3_13 x_i4_13) ?_
 rintro _ _ ⟨rfl, rfl⟩
 exact r_ireturn H d_j43_22_36 (⟨rfl, rfl⟩)
def Q_indexOf_177 (Z : State) (h0 : Heap) (v : Option Value) (h : Heap) : Prop := v = some (.int (-1)) ∧ h0 = h
def R_indexOf_177 : Room := { frames := 2, cells := 0, slots := 0, locals := 32 }
theorem rm_indexOf_177 {w : Bool} {Z : State} {a0 : Array Value} (hw : HW a0 Z) (Ts : List String) (a1 : Addr) (a2 : Addr) (i1 : Int32) (i2 : Int32) (i3 : Int32) (i4 : Int32) (c1 : ClassId) (cs : Int32) (h0 : Heap) (f : Nat) (Zf : Z.heap.size ≤ f) (Z0 : f ≤ h0.size) (E_a1 : Exa Z h0 a1 "java/lang/String") (F_coder_a1 : Fld Z h0 a1 "java/lang/String" "coder" "B" (.int 0)) (F_value_a1 : Fld Z h0 a1 "java/lang/String" "value" "[B" (.ref a2)) (A_a2 : Ar Z h0 a2 c1 .byte [.int (cB8 i1), .int (cB8 i2), .int (cB8 i3), .int (cB8 i4)]) (r_i1 : 0 ≤ i1.toInt ∧ i1.toInt ≤ 255) (r_i2 : 0 ≤ i2.toInt ∧ i2.toInt ≤ 255) (r_i3 : 0 ≤ i3.toInt ∧ i3.toInt ≤ 255) (r_i4 : 0 ≤ i4.toInt ∧ i4.toInt ≤ 255) (x_i1_13 : ¬ i1 = (13 : Int32)) (x_i2_13 : ¬ i2 = (13 : Int32)) (x_i3_13 : ¬ i3 = (13 : Int32)) (x_i4_13 : ¬ i4 = (13 : Int32)) (S_cs : G_S_cs Z cs) (hcs : ¬ cs = 0) :
  Con w [] Z (⟨"java/lang/String", "indexOf", "(II)I"⟩ : MethodName) jdk_42_method_80_code 3 (some .int) R_indexOf_177 Ts Ts f #[.ref a1, .int 13, .int 0] h0 (Q_indexOf_177 Z h0) := by
 refine con_of f #[vR a1, vI 13, vI 0] (plainFor_of_name pn_0) (fun m => rfl) Zf ?_
 intro C H hX0
 refine r_aloadN H 1 d_j42_80_0 ?_
 refine r_virtual (z := (⟨"java/lang/String", "isLatin1", "()Z"⟩ : MethodName)) (a := a1) (argsL := []) (rest := []) (W := 0) H 4 d_j42_80_1 (tw53 hw) (tw54 hw) (nf_sel (tw56 hw)) (tw56 hw) (tw55 hw) (tw4 hw) (tw57 hw) E_a1 (lenOf pd_7 rfl) (rm_isLatin1_13 hw Ts a1 cs h0 f Zf Z0 F_coder_a1 S_cs hcs) ?_
 rintro _ _ ⟨rfl, rfl⟩
 refine r_ifeqF H 7 d_j42_80_4 rfl (by decide) ?_
 refine r_aloadN H 8 d_j42_80_7 ?_
 refine r_getf H 11 d_j42_80_8 (tw21 hw) F_value_a1 ?_
 refine r_iloadN H 12 d_j42_80_11 ?_
 refine r_iloadN H 13 d_j42_80_12 ?_
 refine r_aloadN H 14 d_j42_80_13 ?_
 refine r_virtual (z := (⟨"java/lang/String", "length", "()I"⟩ : MethodName)) (a := a1) (argsL := []) (rest := [.int 0, .int 13, .ref a2]) (W := 3) H 17 d_j42_80_14 (tw58 hw) (tw59 hw) (nf_sel (tw61 hw)) (tw61 hw) (tw60 hw) (tw4 hw) (tw62 hw) E_a1 (lenOf pd_9 rfl) (rm_length_172 hw Ts a1 a2 (cB8 i1) (cB8 i2) (cB8 i3) (cB8 i4) c1 cs h0 f Zf Z0 F_value_a1 A_a2 E_a1 F_coder_a1 S_cs hcs) ?_
 rintro _ _ ⟨rfl, rfl⟩
 refine r_static (argsL := [.ref a2, .int 13, .int 0, .int 4]) (rest := []) (W := 0) H 20 d_j42_80_17 (tw68 hw) (tw69 hw) (tw30 hw) (tw70 hw) (lenOf pd_12 rfl) (rm_indexOf_178 hw Ts a2 i1 i2 i3 i4 c1 h0 f Zf Z0 A_a2 r_i1 r_i2 r_i3 r_i4 x_i1_13 x_i2_13 x_i3_13 x_i4_13) ?_
 rintro _ _ ⟨rfl, rfl⟩
 refine r_goto H 36 d_j42_80_20 ?_
 exact r_ireturn H d_j42_80_36 (⟨rfl, rfl⟩)
def Q_indexOf_176 (Z : State) (h0 : Heap) (v : Option Value) (h : Heap) : Prop := v = some (.int (-1)) ∧ h0 = h
def R_indexOf_176 : Room := { frames := 3, cells := 0, slots := 0, locals := 46 }
theorem rm_indexOf_176 {w : Bool} {Z : State} {a0 : Array Value} (hw : HW a0 Z) (Ts : List String) (a1 : Addr) (a2 : Addr) (i1 : Int32) (i2 : Int32) (i3 : Int32) (i4 : Int32) (c1 : ClassId) (cs : Int32) (h0 : Heap) (f : Nat) (Zf : Z.heap.size ≤ f) (Z0 : f ≤ h0.size) (E_a1 : Exa Z h0 a1 "java/lang/String") (F_coder_a1 : Fld Z h0 a1 "java/lang/String" "coder" "B" (.int 0)) (F_value_a1 : Fld Z h0 a1 "java/lang/String" "value" "[B" (.ref a2)) (A_a2 : Ar Z h0 a2 c1 .byte [.int (cB8 i1), .int (cB8 i2), .int (cB8 i3), .int (cB8 i4)]) (r_i1 : 0 ≤ i1.toInt ∧ i1.toInt ≤ 255) (r_i2 : 0 ≤ i2.toInt ∧ i2.toInt ≤ 255) (r_i3 : 0 ≤ i3.toInt ∧ i3.toInt ≤ 255) (r_i4 : 0 ≤ i4.toInt ∧ i4.toInt ≤ 255) (x_i1_13 : ¬ i1 = (13 : Int32)) (x_i2_13 : ¬ i2 = (13 : Int32)) (x_i3_13 : ¬ i3 = (13 : Int32)) (x_i4_13 : ¬ i4 = (13 : Int32)) (S_cs : G_S_cs Z cs) (hcs : ¬ cs = 0) :
  Con w [] Z (⟨"java/lang/String", "indexOf", "(I)I"⟩ : MethodName) jdk_42_method_79_code 2 (some .int) R_indexOf_176 Ts Ts f #[.ref a1, .int 13] h0 (Q_indexOf_176 Z h0) := by
 refine con_of f #[vR a1, vI 13] (plainFor_of_name pn_0) (fun m => rfl) Zf ?_
 intro C H hX0
 refine r_aloadN H 1 d_j42_79_0 ?_
 refine r_iloadN H 2 d_j42_79_1 ?_
 refine r_iconst H 3 0 d_j42_79_2 ?_
 refine r_virtual (z := (⟨"java/lang/String", "indexOf", "(II)I"⟩ : MethodName)) (a := a1) (argsL := [.int 13, .int 0]) (rest := []) (W := 0) H 6 d_j42_79_3 (tw48 hw) (tw49 hw) (nf_sel (tw51 hw)) (tw51 hw) (tw50 hw) (tw4 hw) (tw52 hw) E_a1 (lenOf pd_11 rfl) (rm_indexOf_177 hw Ts a1 a2 i1 i2 i3 i4 c1 cs h0 f Zf Z0 E_a1 F_coder_a1 F_value_a1 A_a2 r_i1 r_i2 r_i3 r_i4 x_i1_13 x_i2_13 x_i3_13 x_i4_13 S_cs hcs) ?_
 rintro _ _ ⟨rfl, rfl⟩
 exact r_ireturn H d_j42_79_6 (⟨rfl, rfl⟩)
def Q_require_169 (Z : State) (a2 : Addr) (h0 : Heap) (v : Option Value) (h : Heap) : Prop := v = some (.ref a2) ∧ h0 = h
def R_require_169 : Room := { frames := 4, cells := 0, slots := 0, locals := 59 }
theorem rm_require_169 {w : Bool} {Z : State} {a0 : Array Value} (hw : HW a0 Z) (Ts : List String) (a1 : Addr) (a2 : Addr) (a4 : Addr) (i3 : Int32) (i4 : Int32) (i5 : Int32) (i6 : Int32) (c2 : ClassId) (cs : Int32) (h0 : Heap) (f : Nat) (Zf : Z.heap.size ≤ f) (Z0 : f ≤ h0.size) (E_a2 : Exa Z h0 a2 "java/lang/String") (F_coder_a2 : Fld Z h0 a2 "java/lang/String" "coder" "B" (.int 0)) (F_value_a2 : Fld Z h0 a2 "java/lang/String" "value" "[B" (.ref a4)) (A_a4 : Ar Z h0 a4 c2 .byte [.int (cB8 i3), .int (cB8 i4), .int (cB8 i5), .int (cB8 i6)]) (r_i3 : 0 ≤ i3.toInt ∧ i3.toInt ≤ 255) (r_i4 : 0 ≤ i4.toInt ∧ i4.toInt ≤ 255) (r_i5 : 0 ≤ i5.toInt ∧ i5.toInt ≤ 255) (r_i6 : 0 ≤ i6.toInt ∧ i6.toInt ≤ 255) (x_i3_10 : ¬ i3 = (10 : Int32)) (x_i3_13 : ¬ i3 = (13 : Int32)) (x_i4_10 : ¬ i4 = (10 : Int32)) (x_i4_13 : ¬ i4 = (13 : Int32)) (x_i5_10 : ¬ i5 = (10 : Int32)) (x_i5_13 : ¬ i5 = (13 : Int32)) (x_i6_10 : ¬ i6 = (10 : Int32)) (x_i6_13 : ¬ i6 = (13 : Int32)) (S_cs : G_S_cs Z cs) (hcs : ¬ cs = 0) :
  Con w [] Z (⟨"com/example/ferryline/ferryline/model/OneLine", "require", "(Ljava/lang/String;Ljava/lang/String;)Ljava/lang/String;"⟩ : MethodName) prog_70_method_2_code 2 (some (.object "java/lang/String")) R_require_169 Ts Ts f #[.ref a1, .ref a2] h0 (Q_require_169 Z a2 h0) := by
 refine con_of f #[vR a1, vR a2] (plainFor_of_name pn_3) (fun m => rfl) Zf ?_
 intro C H hX0
 refine r_aloadN H 1 d_g70_2_0 ?_
 refine r_bipush H 3 10 d_g70_2_1 ?_
 refine r_virtual (z := (⟨"java/lang/String", "indexOf", "(I)I"⟩ : MethodName)) (a := a2) (argsL := [.int 10]) (rest := []) (W := 0) H 6 d_g70_2_3 (tw43 hw) (tw44 hw) (nf_sel (tw46 hw)) (tw46 hw) (tw45 hw) (tw4 hw) (tw47 hw) E_a2 (lenOf pd_13 rfl) (rm_indexOf_170 hw Ts a2 a4 i3 i4 i5 i6 c2 cs h0 f Zf Z0 E_a2 F_coder_a2 F_value_a2 A_a4 r_i3 r_i4 r_i5 r_i6 x_i3_10 x_i4_10 x_i5_10 x_i6_10 S_cs hcs) ?_
 rintro _ _ ⟨rfl, rfl⟩
 refine r_ifgeF H 9 d_g70_2_6 ?_
 refine r_aloadN H 10 d_g70_2_9 ?_
 refine r_bipush H 12 13 d_g70_2_10 ?_
 refine r_virtual (z := (⟨"java/lang/String", "indexOf", "(I)I"⟩ : MethodName)) (a := a2) (argsL := [.int 13]) (rest := []) (W := 0) H 15 d_g70_2_12 (tw43 hw) (tw44 hw) (nf_sel (tw46 hw)) (tw46 hw) (tw45 hw) (tw4 hw) (tw47 hw) E_a2 (lenOf pd_13 rfl) (rm_indexOf_176 hw Ts a2 a4 i3 i4 i5 i6 c2 cs h0 f Zf Z0 E_a2 F_coder_a2 F_value_a2 A_a4 r_i3 r_i4 r_i5 r_i6 x_i3_13 x_i4_13 x_i5_13 x_i6_13 S_cs hcs) ?_
 rintro _ _ ⟨rfl, rfl⟩
 refine r_ifltT H 38 d_g70_2_15 ?_
 refine r_aloadN H 39 d_g70_2_38 ?_
 exact r_areturn H d_g70_2_39 (⟨rfl, rfl⟩)
def Q_length_183 (Z : State) (h0 : Heap) (v : Option Value) (h : Heap) : Prop := v = some (.int 4) ∧ h0 = h
def R_length_183 : Room := { frames := 1, cells := 0, slots := 0, locals := 13 }
theorem rm_length_183 {w : Bool} {Z : State} {a0 : Array Value} (hw : HW a0 Z) (Ts : List String) (a1 : Addr) (a2 : Addr) (i1 : Int32) (i2 : Int32) (i3 : Int32) (i4 : Int32) (i5 : Int32) (i6 : Int32) (i7 : Int32) (i8 : Int32) (c1 : ClassId) (cs : Int32) (h0 : Heap) (f : Nat) (Zf : Z.heap.size ≤ f) (Z0 : f ≤ h0.size) (F_value_a1 : Fld Z h0 a1 "java/lang/String" "value" "[B" (.ref a2)) (A_a2 : Ar Z h0 a2 c1 .byte [.int i1, .int i2, .int i3, .int i4, .int i5, .int i6, .int i7, .int i8]) (E_a1 : Exa Z h0 a1 "java/lang/String") (F_coder_a1 : Fld Z h0 a1 "java/lang/String" "coder" "B" (.int 1)) (S_cs : G_S_cs Z cs) (hcs : ¬ cs = 0) :
  Con w [] Z (⟨"java/lang/String", "length", "()I"⟩ : MethodName) jdk_42_method_54_code 1 (some .int) R_length_183 Ts Ts f #[.ref a1] h0 (Q_length_183 Z h0) := by
 refine con_of f #[vR a1] (plainFor_of_name pn_0) (fun m => rfl) Zf ?_
 intro C H hX0
 refine r_aloadN H 1 d_j42_54_0 ?_
 refine r_getf H 4 d_j42_54_1 (tw21 hw) F_value_a1 ?_
 refine r_alen H 5 8 d_j42_54_4 A_a2 ?_
 refine r_aloadN H 6 d_j42_54_5 ?_
 refine r_virtual (z := (⟨"java/lang/String", "coder", "()B"⟩ : MethodName)) (a := a1) (argsL := []) (rest := [.int 8]) (W := 1) H 9 d_j42_54_6 (tw63 hw) (tw64 hw) (nf_sel (tw66 hw)) (tw66 hw) (tw65 hw) (tw4 hw) (tw67 hw) E_a1 (lenOf pd_8 rfl) (rm_coder_51 hw Ts a1 cs h0 f Zf Z0 F_coder_a1 S_cs hcs) ?_
 rintro _ _ ⟨rfl, rfl⟩
 refine r_ishr H 10 4 d_j42_54_9 (by decide) ?_
 exact r_ireturn H d_j42_54_10 (⟨rfl, rfl⟩)
def Q_length_187 (Z : State) (h0 : Heap) (v : Option Value) (h : Heap) : Prop := v = some (.int 4) ∧ h0 = h
def R_length_187 : Room := { frames := 0, cells := 0, slots := 0, locals := 0 }
theorem rm_length_187 {w : Bool} {Z : State} {a0 : Array Value} (hw : HW a0 Z) (Ts : List String) (a1 : Addr) (i1 : Int32) (i2 : Int32) (i3 : Int32) (i4 : Int32) (i5 : Int32) (i6 : Int32) (i7 : Int32) (i8 : Int32) (c1 : ClassId) (h0 : Heap) (f : Nat) (Zf : Z.heap.size ≤ f) (Z0 : f ≤ h0.size) (A_a1 : Ar Z h0 a1 c1 .byte [.int i1, .int i2, .int i3, .int i4, .int i5, .int i6, .int i7, .int i8]) :
  Con w [] Z (⟨"java/lang/StringUTF16", "length", "([B)I"⟩ : MethodName) jdk_52_method_6_code 1 (some .int) R_length_187 Ts Ts f #[.ref a1] h0 (Q_length_187 Z h0) := by
 refine con_of f #[vR a1] (plainFor_of_name pn_2) (fun m => rfl) Zf ?_
 intro C H hX0
 refine r_aloadN H 1 d_j52_6_0 ?_
 refine r_alen H 2 8 d_j52_6_1 A_a1 ?_
 refine r_iconst H 3 1 d_j52_6_2 ?_
 refine r_ishr H 4 4 d_j52_6_3 (by decide) ?_
 exact r_ireturn H d_j52_6_4 (⟨rfl, rfl⟩)
def Q_checkFromToIndex_189 (Z : State) (h0 : Heap) (v : Option Value) (h : Heap) : Prop := v = some (.int 0) ∧ h0 = h
def R_checkFromToIndex_189 : Room := { frames := 0, cells := 0, slots := 0, locals := 0 }
theorem rm_checkFromToIndex_189 {w : Bool} {Z : State} {a0 : Array Value} (hw : HW a0 Z) (Ts : List String) (sio : Value) (h0 : Heap) (f : Nat) (Zf : Z.heap.size ≤ f) (Z0 : f ≤ h0.size) (hsio : G_hsio Z sio) :
  Con w [] Z (⟨"jdk/internal/util/Preconditions", "checkFromToIndex", "(IIILjava/util/function/BiFunction;)I"⟩ : MethodName) jdk_41_method_12_code 4 (some .int) R_checkFromToIndex_189 Ts Ts f #[.int 0, .int 4, .int 4, sio] h0 (Q_checkFromToIndex_189 Z h0) := by
 refine con_of f #[vI 0, vI 4, vI 4, .val sio] (plainFor_of_name pn_5) (fun m => by rcases hsio with hh | ⟨_, hh⟩ <;> subst hh <;> rfl) Zf ?_
 intro C H hX0
 refine r_iloadN H 1 d_j41_12_0 ?_
 refine r_ifltF H 4 d_j41_12_1 ?_
 refine r_iloadN H 5 d_j41_12_4 ?_
 refine r_iloadN H 6 d_j41_12_5 ?_
 refine r_icmpgtF H 9 d_j41_12_6 rfl (by decide) ?_
 refine r_iloadN H 10 d_j41_12_9 ?_
 refine r_iloadN H 11 d_j41_12_10 ?_
 refine r_icmpleT H 22 d_j41_12_11 (by decide) (by decide) (by decide) ?_
 refine r_iloadN H 23 d_j41_12_22 ?_
 exact r_ireturn H d_j41_12_23 (⟨rfl, rfl⟩)
def Q_checkBoundsBeginEnd_188 (Z : State) (h0 : Heap) (v : Option Value) (h : Heap) : Prop := v = none ∧ h0 = h
def R_checkBoundsBeginEnd_188 : Room := { frames := 1, cells := 0, slots := 0, locals := 15 }
theorem rm_checkBoundsBeginEnd_188 {w : Bool} {Z : State} {a0 : Array Value} (hw : HW a0 Z) (Ts : List String) (sio : Value) (h0 : Heap) (f : Nat) (Zf : Z.heap.size ≤ f) (Z0 : f ≤ h0.size) (S_sio : G_S_sio Z sio) (hsio : G_hsio Z sio) :
  Con w [] Z (⟨"java/lang/String", "checkBoundsBeginEnd", "(III)V"⟩ : MethodName) jdk_42_method_158_code 3 none R_checkBoundsBeginEnd_188 Ts Ts f #[.int 0, .int 4, .int 4] h0 (Q_checkBoundsBeginEnd_188 Z h0) := by
 refine con_of f #[vI 0, vI 4, vI 4] (plainFor_of_name pn_0) (fun m => rfl) Zf ?_
 intro C H hX0
 refine r_iloadN H 1 d_j42_158_0 ?_
 refine r_iloadN H 2 d_j42_158_1 ?_
 refine r_iloadN H 3 d_j42_158_2 ?_
 refine r_gets H 6 d_j42_158_3 (tw139 hw) S_sio ?_
 refine r_static (argsL := [.int 0, .int 4, .int 4, sio]) (rest := []) (W := 0) H 9 d_j42_158_6 (tw141 hw) (tw142 hw) (tw140 hw) (tw143 hw) (lenOf pd_22 rfl) (rm_checkFromToIndex_189 hw Ts sio h0 f Zf Z0 hsio) ?_
 rintro _ _ ⟨rfl, rfl⟩
 refine r_pop H 10 d_j42_158_9 ?_
 exact r_return H d_j42_158_10 (⟨rfl, rfl⟩)
def Q_checkBoundsBeginEnd_186 (Z : State) (h0 : Heap) (v : Option Value) (h : Heap) : Prop := v = none ∧ h0 = h
def R_checkBoundsBeginEnd_186 : Room := { frames := 2, cells := 0, slots := 0, locals := 29 }
theorem rm_checkBoundsBeginEnd_186 {w : Bool} {Z : State} {a0 : Array Value} (hw : HW a0 Z) (Ts : List String) (a1 : Addr) (i1 : Int32) (i2 : Int32) (i3 : Int32) (i4 : Int32) (c1 : ClassId) (sio : Value) (h0 : Heap) (f : Nat) (Zf : Z.heap.size ≤ f) (Z0 : f ≤ h0.size) (A_a1 : Ar Z h0 a1 c1 .byte [.int (cL8 i1), .int (cH8 i1), .int (cL8 i2), .int (cH8 i2), .int (cL8 i3), .int (cH8 i3), .int (cL8 i4), .int (cH8 i4)]) (S_sio : G_S_sio Z sio) (hsio : G_hsio Z sio) :
  Con w [] Z (⟨"java/lang/StringUTF16", "checkBoundsBeginEnd", "(II[B)V"⟩ : MethodName) jdk_52_method_93_code 3 none R_checkBoundsBeginEnd_186 Ts Ts f #[.int 0, .int 4, .ref a1] h0 (Q_checkBoundsBeginEnd_186 Z h0) := by
 refine con_of f #[vI 0, vI 4, vR a1] (plainFor_of_name pn_2) (fun m => rfl) Zf ?_
 intro C H hX0
 refine r_iloadN H 1 d_j52_93_0 ?_
 refine r_iloadN H 2 d_j52_93_1 ?_
 refine r_aloadN H 3 d_j52_93_2 ?_
 refine r_static (argsL := [.ref a1]) (rest := [.int 4, .int 0]) (W := 2) H 6 d_j52_93_3 (tw133 hw) (tw134 hw) (tw88 hw) (tw135 hw) (lenOf pd_21 rfl) (rm_length_187 hw Ts a1 (cL8 i1) (cH8 i1) (cL8 i2) (cH8 i2) (cL8 i3) (cH8 i3) (cL8 i4) (cH8 i4) c1 h0 f Zf Z0 A_a1) ?_
 rintro _ _ ⟨rfl, rfl⟩
 refine r_static (argsL := [.int 0, .int 4, .int 4]) (rest := []) (W := 0) H 9 d_j52_93_6 (tw136 hw) (tw137 hw) (tw4 hw) (tw138 hw) (lenOf pd_23 rfl) (rm_checkBoundsBeginEnd_188 hw Ts sio h0 f Zf Z0 S_sio hsio) ?_
 rintro _ _ ⟨rfl, rfl⟩
 exact r_return H d_j52_93_9 (⟨rfl, rfl⟩)
def Q_indexOfCharUnsafe_190 (Z : State) (h0 : Heap) (v : Option Value) (h : Heap) : Prop := v = some (.int (-1)) ∧ h0 = h
def R_indexOfCharUnsafe_190 : Room := { frames := 1, cells := 0, slots := 0, locals := 13 }
theorem rm_indexOfCharUnsafe_190 {w : Bool} {Z : State} {a0 : Array Value} (hw : HW a0 Z) (Ts : List String) (a1 : Addr) (i1 : Int32) (i2 : Int32) (i3 : Int32) (i4 : Int32) (c1 : ClassId) (h0 : Heap) (f : Nat) (Zf : Z.heap.size ≤ f) (Z0 : f ≤ h0.size) (A_a1 : Ar Z h0 a1 c1 .byte [.int (cL8 i1), .int (cH8 i1), .int (cL8 i2), .int (cH8 i2), .int (cL8 i3), .int (cH8 i3), .int (cL8 i4), .int (cH8 i4)]) (r_i1 : 0 ≤ i1.toInt ∧ i1.toInt ≤ 65535) (r_i2 : 0 ≤ i2.toInt ∧ i2.toInt ≤ 65535) (r_i3 : 0 ≤ i3.toInt ∧ i3.toInt ≤ 65535) (r_i4 : 0 ≤ i4.toInt ∧ i4.toInt ≤ 65535) (x_i1_10 : ¬ i1 = (10 : Int32)) (x_i2_10 : ¬ i2 = (10 : Int32)) (x_i3_10 : ¬ i3 = (10 : Int32)) (x_i4_10 : ¬ i4 = (10 : Int32)) (S__assertionsDisabled : G_S__assertionsDisabled Z) (S_HI_BYTE_SHIFT : G_S_HI_BYTE_SHIFT Z) (S_LO_BYTE_SHIFT : G_S_LO_BYTE_SHIFT Z) :
  Con w [] Z (⟨"java/lang/StringUTF16", "indexOfCharUnsafe", "([BIII)I"⟩ : MethodName) jdk_52_method_48_code 5 (some .int) R_indexOfCharUnsafe_190 Ts Ts f #[.ref a1, .int 10, .int 0, .int 4] h0 (Q_indexOfCharUnsafe_190 Z h0) := by
 refine con_of f #[vR a1, vI 10, vI 0, vI 4, .unset] (plainFor_of_name pn_2) (fun m => rfl) Zf ?_
 intro C H hX0
 refine r_iloadN H 1 d_j52_48_0 ?_
 refine r_istore H 3 #[vR a1, vI 10, vI 0, vI 4, vI 0] d_j52_48_1 ?_
 refine r_iload H 5 d_j52_48_3 ?_
 refine r_iloadN H 6 d_j52_48_5 ?_
 refine r_icmpgeF H 9 d_j52_48_6 ?_
 refine r_aloadN H 10 d_j52_48_9 ?_
 refine r_iload H 12 d_j52_48_10 ?_
 refine r_static (argsL := [.ref a1, .int 0]) (rest := []) (W := 0) H 15 d_j52_48_12 (tw115 hw) (tw116 hw) (tw88 hw) (tw117 hw) (lenOf pd_19 rfl) (rm_getChar_166 hw Ts a1 (cL8 i1) (cH8 i1) (cL8 i2) (cH8 i2) (cL8 i3) (cH8 i3) (cL8 i4) (cH8 i4) c1 h0 f Zf Z0 A_a1 S__assertionsDisabled S_HI_BYTE_SHIFT S_LO_BYTE_SHIFT) ?_
 rintro _ _ ⟨p1, rfl, ep1, rp1, rfl⟩
 have hzp1 : i1 = p1 := by rw [← ep1]; exact (own_u16 i1 (by have := r_i1; omega)).symm
 subst hzp1
 refine r_iloadN H 16 d_j52_48_15 ?_
 refine r_icmpneT H 22 d_j52_48_16 (by decide) (by decide) x_i1_10 ?_
 refine r_iinc H 25 #[vR a1, vI 10, vI 0, vI 4, vI 1] 1 d_j52_48_22 ?_
 refine r_goto H 3 d_j52_48_25 ?_
 refine r_iload H 5 d_j52_48_3 ?_
 refine r_iloadN H 6 d_j52_48_5 ?_
 refine r_icmpgeF H 9 d_j52_48_6 ?_
 refine r_aloadN H 10 d_j52_48_9 ?_
 refine r_iload H 12 d_j52_48_10 ?_
 refine r_static (argsL := [.ref a1, .int 1]) (rest := []) (W := 0) H 15 d_j52_48_12 (tw115 hw) (tw116 hw) (tw88 hw) (tw117 hw) (lenOf pd_19 rfl) (rm_getChar_164 hw Ts a1 (cL8 i1) (cH8 i1) (cL8 i2) (cH8 i2) (cL8 i3) (cH8 i3) (cL8 i4) (cH8 i4) c1 h0 f Zf Z0 A_a1 S__assertionsDisabled S_HI_BYTE_SHIFT S_LO_BYTE_SHIFT) ?_
 rintro _ _ ⟨p3, rfl, ep3, rp3, rfl⟩
 have hzp3 : i2 = p3 := by rw [← ep3]; exact (own_u16 i2 (by have := r_i2; omega)).symm
 subst hzp3
 refine r_iloadN H 16 d_j52_48_15 ?_
 refine r_icmpneT H 22 d_j52_48_16 (by decide) (by decide) x_i2_10 ?_
 refine r_iinc H 25 #[vR a1, vI 10, vI 0, vI 4, vI 2] 2 d_j52_48_22 ?_
 refine r_goto H 3 d_j52_48_25 ?_
 refine r_iload H 5 d_j52_48_3 ?_
 refine r_iloadN H 6 d_j52_48_5 ?_
 refine r_icmpgeF H 9 d_j52_48_6 ?_
 refine r_aloadN H 10 d_j52_48_9 ?_
 refine r_iload H 12 d_j52_48_10 ?_
 refine r_static (argsL := [.ref a1, .int 2]) (rest := []) (W := 0) H 15 d_j52_48_12 (tw115 hw) (tw116 hw) (tw88 hw) (tw117 hw) (lenOf pd_19 rfl) (rm_getChar_162 hw Ts a1 (cL8 i1) (cH8 i1) (cL8 i2) (cH8 i2) (cL8 i3) (cH8 i3) (cL8 i4) (cH8 i4) c1 h0 f Zf Z0 A_a1 S__assertionsDisabled S_HI_BYTE_SHIFT S_LO_BYTE_SHIFT) ?_
 rintro _ _ ⟨p5, rfl, ep5, rp5, rfl⟩
 have hzp5 : i3 = p5 := by rw [← ep5]; exact (own_u16 i3 (by have := r_i3; omega)).symm
 subst hzp5
 refine r_iloadN H 16 d_j52_48_15 ?_
 refine r_icmpneT H 22 d_j52_48_16 (by decide) (by decide) x_i3_10 ?_
 refine r_iinc H 25 #[vR a1, vI 10, vI 0, vI 4, vI 3] 3 d_j52_48_22 ?_
 refine r_goto H 3 d_j52_48_25 ?_
 refine r_iload H 5 d_j52_48_3 ?_
 refine r_iloadN H 6 d_j52_48_5 ?_
 refine r_icmpgeF H 9 d_j52_48_6 ?_
 refine r_aloadN H 10 d_j52_48_9 ?_
 refine r_iload H 12 d_j52_48_10 ?_
 refine r_static (argsL := [.ref a1, .int 3]) (rest := []) (W := 0) H 15 d_j52_48_12 (tw115 hw) (tw116 hw) (tw88 hw) (tw117 hw) (lenOf pd_19 rfl) (rm_getChar_160 hw Ts a1 (cL8 i1) (cH8 i1) (cL8 i2) (cH8 i2) (cL8 i3) (cH8 i3) (cL8 i4) (cH8 i4) c1 h0 f Zf Z0 A_a1 S__assertionsDisabled S_HI_BYTE_SHIFT S_LO_BYTE_SHIFT) ?_
 rintro _ _ ⟨p7, rfl, ep7, rp7, rfl⟩
 have hzp7 : i4 = p7 := by rw [← ep7]; exact (own_u16 i4 (by have := r_i4; omega)).symm
 subst hzp7
 refine r_iloadN H 16 d_j52_48_15 ?_
 refine r_icmpneT H 22 d_j52_48_16 (by decide) (by decide) x_i4_10 ?_
 refine r_iinc H 25 #[vR a1, vI 10, vI 0, vI 4, vI 4] 4 d_j52_48_22 ?_
 refine r_goto H 3 d_j52_48_25 ?_
 refine r_iload H 5 d_j52_48_3 ?_
 refine r_iloadN H 6 d_j52_48_5 ?_
 refine r_icmpgeT H 28 d_j52_48_6 ?_
 refine r_iconst H 29 (-1 : Int32) d_j52_48_28 ?_
 exact r_ireturn H d_j52_48_29 (⟨rfl, rfl⟩)
def Q_indexOfChar_185 (Z : State) (h0 : Heap) (v : Option Value) (h : Heap) : Prop := v = some (.int (-1)) ∧ h0 = h
def R_indexOfChar_185 : Room := { frames := 3, cells := 0, slots := 0, locals := 43 }
theorem rm_indexOfChar_185 {w : Bool} {Z : State} {a0 : Array Value} (hw : HW a0 Z) (Ts : List String) (a1 : Addr) (i1 : Int32) (i2 : Int32) (i3 : Int32) (i4 : Int32) (c1 : ClassId) (sio : Value) (h0 : Heap) (f : Nat) (Zf : Z.heap.size ≤ f) (Z0 : f ≤ h0.size) (A_a1 : Ar Z h0 a1 c1 .byte [.int (cL8 i1), .int (cH8 i1), .int (cL8 i2), .int (cH8 i2), .int (cL8 i3), .int (cH8 i3), .int (cL8 i4), .int (cH8 i4)]) (r_i1 : 0 ≤ i1.toInt ∧ i1.toInt ≤ 65535) (r_i2 : 0 ≤ i2.toInt ∧ i2.toInt ≤ 65535) (r_i3 : 0 ≤ i3.toInt ∧ i3.toInt ≤ 65535) (r_i4 : 0 ≤ i4.toInt ∧ i4.toInt ≤ 65535) (x_i1_10 : ¬ i1 = (10 : Int32)) (x_i2_10 : ¬ i2 = (10 : Int32)) (x_i3_10 : ¬ i3 = (10 : Int32)) (x_i4_10 : ¬ i4 = (10 : Int32)) (S_sio : G_S_sio Z sio) (hsio : G_hsio Z sio) (S__assertionsDisabled : G_S__assertionsDisabled Z) (S_HI_BYTE_SHIFT : G_S_HI_BYTE_SHIFT Z) (S_LO_BYTE_SHIFT : G_S_LO_BYTE_SHIFT Z) :
  Con w [] Z (⟨"java/lang/StringUTF16", "indexOfChar", "([BIII)I"⟩ : MethodName) jdk_52_method_47_code 4 (some .int) R_indexOfChar_185 Ts Ts f #[.ref a1, .int 10, .int 0, .int 4] h0 (Q_indexOfChar_185 Z h0) := by
 refine con_of f #[vR a1, vI 10, vI 0, vI 4] (plainFor_of_name pn_2) (fun m => rfl) Zf ?_
 intro C H hX0
 refine r_iloadN H 1 d_j52_47_0 ?_
 refine r_iloadN H 2 d_j52_47_1 ?_
 refine r_aloadN H 3 d_j52_47_2 ?_
 refine r_static (argsL := [.int 0, .int 4, .ref a1]) (rest := []) (W := 0) H 6 d_j52_47_3 (tw130 hw) (tw131 hw) (tw88 hw) (tw132 hw) (lenOf pd_24 rfl) (rm_checkBoundsBeginEnd_186 hw Ts a1 i1 i2 i3 i4 c1 sio h0 f Zf Z0 A_a1 S_sio hsio) ?_
 rintro _ _ ⟨rfl, rfl⟩
 refine r_aloadN H 7 d_j52_47_6 ?_
 refine r_iloadN H 8 d_j52_47_7 ?_
 refine r_iloadN H 9 d_j52_47_8 ?_
 refine r_iloadN H 10 d_j52_47_9 ?_
 refine r_static (argsL := [.ref a1, .int 10, .int 0, .int 4]) (rest := []) (W := 0) H 13 d_j52_47_10 (tw144 hw) (tw145 hw) (tw88 hw) (tw146 hw) (lenOf pd_12 rfl) (rm_indexOfCharUnsafe_190 hw Ts a1 i1 i2 i3 i4 c1 h0 f Zf Z0 A_a1 r_i1 r_i2 r_i3 r_i4 x_i1_10 x_i2_10 x_i3_10 x_i4_10 S__assertionsDisabled S_HI_BYTE_SHIFT S_LO_BYTE_SHIFT) ?_
 rintro _ _ ⟨rfl, rfl⟩
 exact r_ireturn H d_j52_47_13 (⟨rfl, rfl⟩)
def Q_indexOf_184 (Z : State) (h0 : Heap) (v : Option Value) (h : Heap) : Prop := v = some (.int (-1)) ∧ h0 = h
def R_indexOf_184 : Room := { frames := 4, cells := 0, slots := 0, locals := 58 }
theorem rm_indexOf_184 {w : Bool} {Z : State} {a0 : Array Value} (hw : HW a0 Z) (Ts : List String) (a1 : Addr) (i1 : Int32) (i2 : Int32) (i3 : Int32) (i4 : Int32) (c1 : ClassId) (sio : Value) (h0 : Heap) (f : Nat) (Zf : Z.heap.size ≤ f) (Z0 : f ≤ h0.size) (A_a1 : Ar Z h0 a1 c1 .byte [.int (cL8 i1), .int (cH8 i1), .int (cL8 i2), .int (cH8 i2), .int (cL8 i3), .int (cH8 i3), .int (cL8 i4), .int (cH8 i4)]) (r_i1 : 0 ≤ i1.toInt ∧ i1.toInt ≤ 65535) (r_i2 : 0 ≤ i2.toInt ∧ i2.toInt ≤ 65535) (r_i3 : 0 ≤ i3.toInt ∧ i3.toInt ≤ 65535) (r_i4 : 0 ≤ i4.toInt ∧ i4.toInt ≤ 65535) (x_i1_10 : ¬ i1 = (10 : Int32)) (x_i2_10 : ¬ i2 = (10 : Int32)) (x_i3_10 : ¬ i3 = (10 : Int32)) (x_i4_10 : ¬ i4 = (10 : Int32)) (S_sio : G_S_sio Z sio) (hsio : G_hsio Z sio) (S__assertionsDisabled : G_S__assertionsDisabled Z) (S_HI_BYTE_SHIFT : G_S_HI_BYTE_SHIFT Z) (S_LO_BYTE_SHIFT : G_S_LO_BYTE_SHIFT Z) :
  Con w [] Z (⟨"java/lang/StringUTF16", "indexOf", "([BIII)I"⟩ : MethodName) jdk_52_method_40_code 4 (some .int) R_indexOf_184 Ts Ts f #[.ref a1, .int 10, .int 0, .int 4] h0 (Q_indexOf_184 Z h0) := by
 refine con_of f #[vR a1, vI 10, vI 0, vI 4] (plainFor_of_name pn_2) (fun m => rfl) Zf ?_
 intro C H hX0
 refine r_iloadN H 1 d_j52_40_0 ?_
 refine r_iconst H 2 0 d_j52_40_1 ?_
 refine r_static (argsL := [.int 0, .int 0]) (rest := []) (W := 0) H 5 d_j52_40_2 (tw124 hw) (tw75 hw) (tw76 hw) (tw77 hw) (lenOf pd_11 rfl) (rm_max_18 hw Ts h0 f Zf Z0) ?_
 rintro _ _ ⟨rfl, rfl⟩
 refine r_istoreN H 6 #[vR a1, vI 10, vI 0, vI 4] d_j52_40_5 ?_
 refine r_iloadN H 7 d_j52_40_6 ?_
 refine r_aloadN H 8 d_j52_40_7 ?_
 refine r_alen H 9 8 d_j52_40_8 A_a1 ?_
 refine r_iconst H 10 1 d_j52_40_9 ?_
 refine r_ishr H 11 4 d_j52_40_10 (by decide) ?_
 refine r_static (argsL := [.int 4, .int 4]) (rest := []) (W := 0) H 14 d_j52_40_11 (tw125 hw) (tw79 hw) (tw76 hw) (tw80 hw) (lenOf pd_11 rfl) (rm_min_174 hw Ts h0 f Zf Z0) ?_
 rintro _ _ ⟨rfl, rfl⟩
 refine r_istoreN H 15 #[vR a1, vI 10, vI 0, vI 4] d_j52_40_14 ?_
 refine r_iloadN H 16 d_j52_40_15 ?_
 refine r_iloadN H 17 d_j52_40_16 ?_
 refine r_icmpltT H 22 d_j52_40_17 ?_
 refine r_iloadN H 23 d_j52_40_22 ?_
 refine r_ldcI H 25 d_j52_40_23 (tw126 hw) ?_
 refine r_icmpgeF H 28 d_j52_40_25 ?_
 refine r_aloadN H 29 d_j52_40_28 ?_
 refine r_iloadN H 30 d_j52_40_29 ?_
 refine r_iloadN H 31 d_j52_40_30 ?_
 refine r_iloadN H 32 d_j52_40_31 ?_
 refine r_static (argsL := [.ref a1, .int 10, .int 0, .int 4]) (rest := []) (W := 0) H 35 d_j52_40_32 (tw127 hw) (tw128 hw) (tw88 hw) (tw129 hw) (lenOf pd_12 rfl) (rm_indexOfChar_185 hw Ts a1 i1 i2 i3 i4 c1 sio h0 f Zf Z0 A_a1 r_i1 r_i2 r_i3 r_i4 x_i1_10 x_i2_10 x_i3_10 x_i4_10 S_sio hsio S__assertionsDisabled S_HI_BYTE_SHIFT S_LO_BYTE_SHIFT) ?_
 rintro _ _ ⟨rfl, rfl⟩
 exact r_ireturn H d_j52_40_35 (⟨rfl, rfl⟩)
def Q_indexOf_182 (Z : State) (h0 : Heap) (v : Option Value) (h : Heap) : Prop := v = some (.int (-1)) ∧ h0 = h
def R_indexOf_182 : Room := { frames := 5, cells := 0, slots := 0, locals := 73 }
theorem rm_indexOf_182 {w : Bool} {Z : State} {a0 : Array Value} (hw : HW a0 Z) (Ts : List String) (a1 : Addr) (a2 : Addr) (i1 : Int32) (i2 : Int32) (i3 : Int32) (i4 : Int32) (c1 : ClassId) (cs : Int32) (sio : Value) (h0 : Heap) (f : Nat) (Zf : Z.heap.size ≤ f) (Z0 : f ≤ h0.size) (E_a1 : Exa Z h0 a1 "java/lang/String") (F_coder_a1 : Fld Z h0 a1 "java/lang/String" "coder" "B" (.int 1)) (F_value_a1 : Fld Z h0 a1 "java/lang/String" "value" "[B" (.ref a2)) (A_a2 : Ar Z h0 a2 c1 .byte [.int (cL8 i1), .int (cH8 i1), .int (cL8 i2), .int (cH8 i2), .int (cL8 i3), .int (cH8 i3), .int (cL8 i4), .int (cH8 i4)]) (r_i1 : 0 ≤ i1.toInt ∧ i1.toInt ≤ 65535) (r_i2 : 0 ≤ i2.toInt ∧ i2.toInt ≤ 65535) (r_i3 : 0 ≤ i3.toInt ∧ i3.toInt ≤ 65535) (r_i4 : 0 ≤ i4.toInt ∧ i4.toInt ≤ 65535) (x_i1_10 : ¬ i1 = (10 : Int32)) (x_i2_10 : ¬ i2 = (10 : Int32)) (x_i3_10 : ¬ i3 = (10 : Int32)) (x_i4_10 : ¬ i4 = (10 : Int32)) (S_cs : G_S_cs Z cs) (S_sio : G_S_sio Z sio) (hsio : G_hsio Z sio) (S__assertionsDisabled : G_S__assertionsDisabled Z) (S_HI_BYTE_SHIFT : G_S_HI_BYTE_SHIFT Z) (S_LO_BYTE_SHIFT : G_S_LO_BYTE_SHIFT Z) (hcs : ¬ cs = 0) :
  Con w [] Z (⟨"java/lang/String", "indexOf", "(II)I"⟩ : MethodName) jdk_42_method_80_code 3 (some .int) R_indexOf_182 Ts Ts f #[.ref a1, .int 10, .int 0] h0 (Q_indexOf_182 Z h0) := by
 refine con_of f #[vR a1, vI 10, vI 0] (plainFor_of_name pn_0) (fun m => rfl) Zf ?_
 intro C H hX0
 refine r_aloadN H 1 d_j42_80_0 ?_
 refine r_virtual (z := (⟨"java/lang/String", "isLatin1", "()Z"⟩ : MethodName)) (a := a1) (argsL := []) (rest := []) (W := 0) H 4 d_j42_80_1 (tw53 hw) (tw54 hw) (nf_sel (tw56 hw)) (tw56 hw) (tw55 hw) (tw4 hw) (tw57 hw) E_a1 (lenOf pd_7 rfl) (rm_isLatin1_49 hw Ts a1 cs h0 f Zf Z0 F_coder_a1 S_cs hcs) ?_
 rintro _ _ ⟨rfl, rfl⟩
 refine r_ifeqT H 23 d_j42_80_4 (by decide) (by decide) (by decide) ?_
 refine r_aloadN H 24 d_j42_80_23 ?_
 refine r_getf H 27 d_j42_80_24 (tw21 hw) F_value_a1 ?_
 refine r_iloadN H 28 d_j42_80_27 ?_
 refine r_iloadN H 29 d_j42_80_28 ?_
 refine r_aloadN H 30 d_j42_80_29 ?_
 refine r_virtual (z := (⟨"java/lang/String", "length", "()I"⟩ : MethodName)) (a := a1) (argsL := []) (rest := [.int 0, .int 10, .ref a2]) (W := 3) H 33 d_j42_80_30 (tw58 hw) (tw59 hw) (nf_sel (tw61 hw)) (tw61 hw) (tw60 hw) (tw4 hw) (tw62 hw) E_a1 (lenOf pd_9 rfl) (rm_length_183 hw Ts a1 a2 (cL8 i1) (cH8 i1) (cL8 i2) (cH8 i2) (cL8 i3) (cH8 i3) (cL8 i4) (cH8 i4) c1 cs h0 f Zf Z0 F_value_a1 A_a2 E_a1 F_coder_a1 S_cs hcs) ?_
 rintro _ _ ⟨rfl, rfl⟩
 refine r_static (argsL := [.ref a2, .int 10, .int 0, .int 4]) (rest := []) (W := 0) H 36 d_j42_80_33 (tw121 hw) (tw122 hw) (tw88 hw) (tw123 hw) (lenOf pd_12 rfl) (rm_indexOf_184 hw Ts a2 i1 i2 i3 i4 c1 sio h0 f Zf Z0 A_a2 r_i1 r_i2 r_i3 r_i4 x_i1_10 x_i2_10 x_i3_10 x_i4_10 S_sio hsio S__assertionsDisabled S_HI_BYTE_SHIFT S_LO_BYTE_SHIFT) ?_
 rintro _ _ ⟨rfl, rfl⟩
 exact r_ireturn H d_j42_80_36 (⟨rfl, rfl⟩)
def Q_indexOf_181 (Z : State) (h0 : Heap) (v : Option Value) (h : Heap) : Prop := v = some (.int (-1)) ∧ h0 = h
def R_indexOf_181 : Room := { frames := 6, cells := 0, slots := 0, locals := 87 }
theorem rm_indexOf_181 {w : Bool} {Z : State} {a0 : Array Value} (hw : HW a0 Z) (Ts : List String) (a1 : Addr) (a2 : Addr) (i1 : Int32) (i2 : Int32) (i3 : Int32) (i4 : Int32) (c1 : ClassId) (cs : Int32) (sio : Value) (h0 : Heap) (f : Nat) (Zf : Z.heap.size ≤ f) (Z0 : f ≤ h0.size) (E_a1 : Exa Z h0 a1 "java/lang/String") (F_coder_a1 : Fld Z h0 a1 "java/lang/String" "coder" "B" (.int 1)) (F_value_a1 : Fld Z h0 a1 "java/lang/String" "value" "[B" (.ref a2)) (A_a2 : Ar Z h0 a2 c1 .byte [.int (cL8 i1), .int (cH8 i1), .int (cL8 i2), .int (cH8 i2), .int (cL8 i3), .int (cH8 i3), .int (cL8 i4), .int (cH8 i4)]) (r_i1 : 0 ≤ i1.toInt ∧ i1.toInt ≤ 65535) (r_i2 : 0 ≤ i2.toInt ∧ i2.toInt ≤ 65535) (r_i3 : 0 ≤ i3.toInt ∧ i3.toInt ≤ 65535) (r_i4 : 0 ≤ i4.toInt ∧ i4.toInt ≤ 65535) (x_i1_10 : ¬ i1 = (10 : Int32)) (x_i2_10 : ¬ i2 = (10 : Int32)) (x_i3_10 : ¬ i3 = (10 : Int32)) (x_i4_10 : ¬ i4 = (10 : Int32)) (S_cs : G_S_cs Z cs) (S_sio : G_S_sio Z sio) (hsio : G_hsio Z sio) (S__assertionsDisabled : G_S__assertionsDisabled Z) (S_HI_BYTE_SHIFT : G_S_HI_BYTE_SHIFT Z) (S_LO_BYTE_SHIFT : G_S_LO_BYTE_SHIFT Z) (hcs : ¬ cs = 0) :
  Con w [] Z (⟨"java/lang/String", "indexOf", "(I)I"⟩ : MethodName) jdk_42_method_79_code 2 (some .int) R_indexOf_181 Ts Ts f #[.ref a1, .int 10] h0 (Q_indexOf_181 Z h0) := by
 refine con_of f #[vR a1, vI 10] (plainFor_of_name pn_0) (fun m => rfl) Zf ?_
 intro C H hX0
 refine r_aloadN H 1 d_j42_79_0 ?_
 refine r_iloadN H 2 d_j42_79_1 ?_
 refine r_iconst H 3 0 d_j42_79_2 ?_
 refine r_virtual (z := (⟨"java/lang/String", "indexOf", "(II)I"⟩ : MethodName)) (a := a1) (argsL := [.int 10, .int 0]) (rest := []) (W := 0) H 6 d_j42_79_3 (tw48 hw) (tw49 hw) (nf_sel (tw51 hw)) (tw51 hw) (tw50 hw) (tw4 hw) (tw52 hw) E_a1 (lenOf pd_11 rfl) (rm_indexOf_182 hw Ts a1 a2 i1 i2 i3 i4 c1 cs sio h0 f Zf Z0 E_a1 F_coder_a1 F_value_a1 A_a2 r_i1 r_i2 r_i3 r_i4 x_i1_10 x_i2_10 x_i3_10 x_i4_10 S_cs S_sio hsio S__assertionsDisabled S_HI_BYTE_SHIFT S_LO_BYTE_SHIFT hcs) ?_
 rintro _ _ ⟨rfl, rfl⟩
 exact r_ireturn H d_j42_79_6 (⟨rfl, rfl⟩)
def Q_indexOfCharUnsafe_195 (Z : State) (h0 : Heap) (v : Option Value) (h : Heap) : Prop := v = some (.int (-1)) ∧ h0 = h
def R_indexOfCharUnsafe_195 : Room := { frames := 1, cells := 0, slots := 0, locals := 13 }
theorem rm_indexOfCharUnsafe_195 {w : Bool} {Z : State} {a0 : Array Value} (hw : HW a0 Z) (Ts : List String) (a1 : Addr) (i1 : Int32) (i2 : Int32) (i3 : Int32) (i4 : Int32) (c1 : ClassId) (h0 : Heap) (f : Nat) (Zf : Z.heap.size ≤ f) (Z0 : f ≤ h0.size) (A_a1 : Ar Z h0 a1 c1 .byte [.int (cL8 i1), .int (cH8 i1), .int (cL8 i2), .int (cH8 i2), .int (cL8 i3), .int (cH8 i3), .int (cL8 i4), .int (cH8 i4)]) (r_i1 : 0 ≤ i1.toInt ∧ i1.toInt ≤ 65535) (r_i2 : 0 ≤ i2.toInt ∧ i2.toInt ≤ 65535) (r_i3 : 0 ≤ i3.toInt ∧ i3.toInt ≤ 65535) (r_i4 : 0 ≤ i4.toInt ∧ i4.toInt ≤ 65535) (x_i1_13 : ¬ i1 = (13 : Int32)) (x_i2_13 : ¬ i2 = (13 : Int32)) (x_i3_13 : ¬ i3 = (13 : Int32)) (x_i4_13 : ¬ i4 = (13 : Int32)) (S__assertionsDisabled : G_S__assertionsDisabled Z) (S_HI_BYTE_SHIFT : G_S_HI_BYTE_SHIFT Z) (S_LO_BYTE_SHIFT : G_S_LO_BYTE_SHIFT Z) :
  Con w [] Z (⟨"java/lang/StringUTF16", "indexOfCharUnsafe", "([BIII)I"⟩ : MethodName) jdk_52_method_48_code 5 (some .int) R_indexOfCharUnsafe_195 Ts Ts f #[.ref a1, .int 13, .int 0, .int 4] h0 (Q_indexOfCharUnsafe_195 Z h0) := by
 refine con_of f #[vR a1, vI 13, vI 0, vI 4, .unset] (plainFor_of_name pn_2) (fun m => rfl) Zf ?_
 intro C H hX0
 refine r_iloadN H 1 d_j52_48_0 ?_
 refine r_istore H 3 #[vR a1, vI 13, vI 0, vI 4, vI 0] d_j52_48_1 ?_
 refine r_iload H 5 d_j52_48_3 ?_
 refine r_iloadN H 6 d_j52_48_5 ?_
 refine r_icmpgeF H 9 d_j52_48_6 ?_
 refine r_aloadN H 10 d_j52_48_9 ?_
 refine r_iload H 12 d_j52_48_10 ?_
 refine r_static (argsL := [.ref a1, .int 0]) (rest := []) (W := 0) H 15 d_j52_48_12 (tw115 hw) (tw116 hw) (tw88 hw) (tw117 hw) (lenOf pd_19 rfl) (rm_getChar_166 hw Ts a1 (cL8 i1) (cH8 i1) (cL8 i2) (cH8 i2) (cL8 i3) (cH8 i3) (cL8 i4) (cH8 i4) c1 h0 f Zf Z0 A_a1 S__assertionsDisabled S_HI_BYTE_SHIFT S_LO_BYTE_SHIFT) ?_
 rintro _ _ ⟨p1, rfl, ep1, rp1, rfl⟩
 have hzp1 : i1 = p1 := by rw [← ep1]; exact (own_u16 i1 (by have := r_i1; omega)).symm
 subst hzp1
 refine r_iloadN H 16 d_j52_48_15 ?_
 refine r_icmpneT H 22 d_j52_48_16 (by decide) (by decide) x_i1_13 ?_
 refine r_iinc H 25 #[vR a1, vI 13, vI 0, vI 4, vI 1] 1 d_j52_48_22 ?_
 refine r_goto H 3 d_j52_48_25 ?_
 refine r_iload H 5 d_j52_48_3 ?_
 refine r_iloadN H 6 d_j52_48_5 ?_
 refine r_icmpgeF H 9 d_j52_48_6 ?_
 refine r_aloadN H 10 d_j52_48_9 ?_
 refine r_iload H 12 d_j52_48_10 ?_
 refine r_static (argsL := [.ref a1, .int 1]) (rest := []) (W := 0) H 15 d_j52_48_12 (tw115 hw) (tw116 hw) (tw88 hw) (tw117 hw) (lenOf pd_19 rfl) (rm_getChar_164 hw Ts a1 (cL8 i1) (cH8 i1) (cL8 i2) (cH8 i2) (cL8 i3) (cH8 i3) (cL8 i4) (cH8 i4) c1 h0 f Zf Z0 A_a1 S__assertionsDisabled S_HI_BYTE_SHIFT S_LO_BYTE_SHIFT) ?_
 rintro _ _ ⟨p3, rfl, ep3, rp3, rfl⟩
 have hzp3 : i2 = p3 := by rw [← ep3]; exact (own_u16 i2 (by have := r_i2; omega)).symm
 subst hzp3
 refine r_iloadN H 16 d_j52_48_15 ?_
 refine r_icmpneT H 22 d_j52_48_16 (by decide) (by decide) x_i2_13 ?_
 refine r_iinc H 25 #[vR a1, vI 13, vI 0, vI 4, vI 2] 2 d_j52_48_22 ?_
 refine r_goto H 3 d_j52_48_25 ?_
 refine r_iload H 5 d_j52_48_3 ?_
 refine r_iloadN H 6 d_j52_48_5 ?_
 refine r_icmpgeF H 9 d_j52_48_6 ?_
 refine r_aloadN H 10 d_j52_48_9 ?_
 refine r_iload H 12 d_j52_48_10 ?_
 refine r_static (argsL := [.ref a1, .int 2]) (rest := []) (W := 0) H 15 d_j52_48_12 (tw115 hw) (tw116 hw) (tw88 hw) (tw117 hw) (lenOf pd_19 rfl) (rm_getChar_162 hw Ts a1 (cL8 i1) (cH8 i1) (cL8 i2) (cH8 i2) (cL8 i3) (cH8 i3) (cL8 i4) (cH8 i4) c1 h0 f Zf Z0 A_a1 S__assertionsDisabled S_HI_BYTE_SHIFT S_LO_BYTE_SHIFT) ?_
 rintro _ _ ⟨p5, rfl, ep5, rp5, rfl⟩
 have hzp5 : i3 = p5 := by rw [← ep5]; exact (own_u16 i3 (by have := r_i3; omega)).symm
 subst hzp5
 refine r_iloadN H 16 d_j52_48_15 ?_
 refine r_icmpneT H 22 d_j52_48_16 (by decide) (by decide) x_i3_13 ?_
 refine r_iinc H 25 #[vR a1, vI 13, vI 0, vI 4, vI 3] 3 d_j52_48_22 ?_
 refine r_goto H 3 d_j52_48_25 ?_
 refine r_iload H 5 d_j52_48_3 ?_
 refine r_iloadN H 6 d_j52_48_5 ?_
 refine r_icmpgeF H 9 d_j52_48_6 ?_
 refine r_aloadN H 10 d_j52_48_9 ?_
 refine r_iload H 12 d_j52_48_10 ?_
 refine r_static (argsL := [.ref a1, .int 3]) (rest := []) (W := 0) H 15 d_j52_48_12 (tw115 hw) (tw116 hw) (tw88 hw) (tw117 hw) (lenOf pd_19 rfl) (rm_getChar_160 hw Ts a1 (cL8 i1) (cH8 i1) (cL8 i2) (cH8 i2) (cL8 i3) (cH8 i3) (cL8 i4) (cH8 i4) c1 h0 f Zf Z0 A_a1 S__assertionsDisabled S_HI_BYTE_SHIFT S_LO_BYTE_SHIFT) ?_
 rintro _ _ ⟨p7, rfl, ep7, rp7, rfl⟩
 have hzp7 : i4 = p7 := by rw [← ep7]; exact (own_u16 i4 (by have := r_i4; omega)).symm
 subst hzp7
 refine r_iloadN H 16 d_j52_48_15 ?_
 refine r_icmpneT H 22 d_j52_48_16 (by decide) (by decide) x_i4_13 ?_
 refine r_iinc H 25 #[vR a1, vI 13, vI 0, vI 4, vI 4] 4 d_j52_48_22 ?_
 refine r_goto H 3 d_j52_48_25 ?_
 refine r_iload H 5 d_j52_48_3 ?_
 refine r_iloadN H 6 d_j52_48_5 ?_
 refine r_icmpgeT H 28 d_j52_48_6 ?_
 refine r_iconst H 29 (-1 : Int32) d_j52_48_28 ?_
 exact r_ireturn H d_j52_48_29 (⟨rfl, rfl⟩)
def Q_indexOfChar_194 (Z : State) (h0 : Heap) (v : Option Value) (h : Heap) : Prop := v = some (.int (-1)) ∧ h0 = h
def R_indexOfChar_194 : Room := { frames := 3, cells := 0, slots := 0, locals := 43 }
theorem rm_indexOfChar_194 {w : Bool} {Z : State} {a0 : Array Value} (hw : HW a0 Z) (Ts : List String) (a1 : Addr) (i1 : Int32) (i2 : Int32) (i3 : Int32) (i4 : Int32) (c1 : ClassId) (sio : Value) (h0 : Heap) (f : Nat) (Zf : Z.heap.size ≤ f) (Z0 : f ≤ h0.size) (A_a1 : Ar Z h0 a1 c1 .byte [.int (cL8 i1), .int (cH8 i1), .int (cL8 i2), .int (cH8 i2), .int (cL8 i3), .int (cH8 i3), .int (cL8 i4), .int (cH8 i4)]) (r_i1 : 0 ≤ i1.toInt ∧ i1.toInt ≤ 65535) (r_i2 : 0 ≤ i2.toInt ∧ i2.toInt ≤ 65535) (r_i3 : 0 ≤ i3.toInt ∧ i3.toInt ≤ 65535) (r_i4 : 0 ≤ i4.toInt ∧ i4.toInt ≤ 65535) (x_i1_13 : ¬ i1 = (13 : Int32)) (x_i2_13 : ¬ i2 = (13 : Int32)) (x_i3_13 : ¬ i3 = (13 : Int32)) (x_i4_13 : ¬ i4 = (13 : Int32)) (S_sio : G_S_sio Z sio) (hsio : G_hsio Z sio) (S__assertionsDisabled : G_S__assertionsDisabled Z) (S_HI_BYTE_SHIFT : G_S_HI_BYTE_SHIFT Z) (S_LO_BYTE_SHIFT : G_S_LO_BYTE_SHIFT Z) :
  Con w [] Z (⟨"java/lang/StringUTF16", "indexOfChar", "([BIII)I"⟩ : MethodName) jdk_52_method_47_code 4 (some .int) R_indexOfChar_194 Ts Ts f #[.ref a1, .int 13, .int 0, .int 4] h0 (Q_indexOfChar_194 Z h0) := by
 refine con_of f #[vR a1, vI 13, vI 0, vI 4] (plainFor_of_name pn_2) (fun m => rfl) Zf ?_
 intro C H hX0
 refine r_iloadN H 1 d_j52_47_0 ?_
 refine r_iloadN H 2 d_j52_47_1 ?_
 refine r_aloadN H 3 d_j52_47_2 ?_
 refine r_static (argsL := [.int 0, .int 4, .ref a1]) (rest := []) (W := 0) H 6 d_j52_47_3 (tw130 hw) (tw131 hw) (tw88 hw) (tw132 hw) (lenOf pd_24 rfl) (rm_checkBoundsBeginEnd_186 hw Ts a1 i1 i2 i3 i4 c1 sio h0 f Zf Z0 A_a1 S_sio hsio) ?_
 rintro _ _ ⟨rfl, rfl⟩
 refine r_aloadN H 7 d_j52_47_6 ?_
 refine r_iloadN H 8 d_j52_47_7 ?_
 refine r_iloadN H 9 d_j52_47_8 ?_
 refine r_iloadN H 10 d_j52_47_9 ?_
 refine r_static (argsL := [.ref a1, .int 13, .int 0, .int 4]) (rest := []) (W := 0) H 13 d_j52_47_10 (tw144 hw) (tw145 hw) (tw88 hw) (tw146 hw) (lenOf pd_12 rfl) (rm_indexOfCharUnsafe_195 hw Ts a1 i1 i2 i3 i4 c1 h0 f Zf Z0 A_a1 r_i1 r_i2 r_i3 r_i4 x_i1_13 x_i2_13 x_i3_13 x_i4_13 S__assertionsDisabled S_HI_BYTE_SHIFT S_LO_BYTE_SHIFT) ?_
 rintro _ _ ⟨rfl, rfl⟩
 exact r_ireturn H d_j52_47_13 (⟨rfl, rfl⟩)
def Q_indexOf_193 (Z : State) (h0 : Heap) (v : Option Value) (h : Heap) : Prop := v = some (.int (-1)) ∧ h0 = h
def R_indexOf_193 : Room := { frames := 4, cells := 0, slots := 0, locals := 58 }
theorem rm_indexOf_193 {w : Bool} {Z : State} {a0 : Array Value} (hw : HW a0 Z) (Ts : List String) (a1 : Addr) (i1 : Int32) (i2 : Int32) (i3 : Int32) (i4 : Int32) (c1 : ClassId) (sio : Value) (h0 : Heap) (f : Nat) (Zf : Z.heap.size ≤ f) (Z0 : f ≤ h0.size) (A_a1 : Ar Z h0 a1 c1 .byte [.int (cL8 i1), .int (cH8 i1), .int (cL8 i2), .int (cH8 i2), .int (cL8 i3), .int (cH8 i3), .int (cL8 i4), .int (cH8 i4)]) (r_i1 : 0 ≤ i1.toInt ∧ i1.toInt ≤ 65535) (r_i2 : 0 ≤ i2.toInt ∧ i2.toInt ≤ 65535) (r_i3 : 0 ≤ i3.toInt ∧ i3.toInt ≤ 65535) (r_i4 : 0 ≤ i4.toInt ∧ i4.toInt ≤ 65535) (x_i1_13 : ¬ i1 = (13 : Int32)) (x_i2_13 : ¬ i2 = (13 : Int32)) (x_i3_13 : ¬ i3 = (13 : Int32)) (x_i4_13 : ¬ i4 = (13 : Int32)) (S_sio : G_S_sio Z sio) (hsio : G_hsio Z sio) (S__assertionsDisabled : G_S__assertionsDisabled Z) (S_HI_BYTE_SHIFT : G_S_HI_BYTE_SHIFT Z) (S_LO_BYTE_SHIFT : G_S_LO_BYTE_SHIFT Z) :
  Con w [] Z (⟨"java/lang/StringUTF16", "indexOf", "([BIII)I"⟩ : MethodName) jdk_52_method_40_code 4 (some .int) R_indexOf_193 Ts Ts f #[.ref a1, .int 13, .int 0, .int 4] h0 (Q_indexOf_193 Z h0) := by
 refine con_of f #[vR a1, vI 13, vI 0, vI 4] (plainFor_of_name pn_2) (fun m => rfl) Zf ?_
 intro C H hX0
 refine r_iloadN H 1 d_j52_40_0 ?_
 refine r_iconst H 2 0 d_j52_40_1 ?_
 refine r_static (argsL := [.int 0, .int 0]) (rest := []) (W := 0) H 5 d_j52_40_2 (tw124 hw) (tw75 hw) (tw76 hw) (tw77 hw) (lenOf pd_11 rfl) (rm_max_18 hw Ts h0 f Zf Z0) ?_
 rintro _ _ ⟨rfl, rfl⟩
 refine r_istoreN H 6 #[vR a1, vI 13, vI 0, vI 4] d_j52_40_5 ?_
 refine r_iloadN H 7 d_j52_40_6 ?_
 refine r_aloadN H 8 d_j52_40_7 ?_
 refine r_alen H 9 8 d_j52_40_8 A_a1 ?_
 refine r_iconst H 10 1 d_j52_40_9 ?_
 refine r_ishr H 11 4 d_j52_40_10 (by decide) ?_
 refine r_static (argsL := [.int 4, .int 4]) (rest := []) (W := 0) H 14 d_j52_40_11 (tw125 hw) (tw79 hw) (tw76 hw) (tw80 hw) (lenOf pd_11 rfl) (rm_min_174 hw Ts h0 f Zf Z0) ?_
 rintro _ _ ⟨rfl, rfl⟩
 refine r_istoreN H 15 #[vR a1, vI 13, vI 0, vI 4] d_j52_40_14 ?_
 refine r_iloadN H 16 d_j52_40_15 ?_
 refine r_iloadN H 17 d_j52_40_16 ?_
 refine r_icmpltT H 22 d_j52_40_17 ?_
 refine r_iloadN H 23 d_j52_40_22 ?_
 refine r_ldcI H 25 d_j52_40_23 (tw126 hw) ?_
 refine r_icmpgeF H 28 d_j52_40_25 ?_
 refine r_aloadN H 29 d_j52_40_28 ?_
 refine r_iloadN H 30 d_j52_40_29 ?_
 refine r_iloadN H 31 d_j52_40_30 ?_
 refine r_iloadN H 32 d_j52_40_31 ?_
 refine r_static (argsL := [.ref a1, .int 13, .int 0, .int 4]) (rest := []) (W := 0) H 35 d_j52_40_32 (tw127 hw) (tw128 hw) (tw88 hw) (tw129 hw) (lenOf pd_12 rfl) (rm_indexOfChar_194 hw Ts a1 i1 i2 i3 i4 c1 sio h0 f Zf Z0 A_a1 r_i1 r_i2 r_i3 r_i4 x_i1_13 x_i2_13 x_i3_13 x_i4_13 S_sio hsio S__assertionsDisabled S_HI_BYTE_SHIFT S_LO_BYTE_SHIFT) ?_
 rintro _ _ ⟨rfl, rfl⟩
 exact r_ireturn H d_j52_40_35 (⟨rfl, rfl⟩)
def Q_indexOf_192 (Z : State) (h0 : Heap) (v : Option Value) (h : Heap) : Prop := v = some (.int (-1)) ∧ h0 = h
def R_indexOf_192 : Room := { frames := 5, cells := 0, slots := 0, locals := 73 }
theorem rm_indexOf_192 {w : Bool} {Z : State} {a0 : Array Value} (hw : HW a0 Z) (Ts : List String) (a1 : Addr) (a2 : Addr) (i1 : Int32) (i2 : Int32) (i3 : Int32) (i4 : Int32) (c1 : ClassId) (cs : Int32) (sio : Value) (h0 : Heap) (f : Nat) (Zf : Z.heap.size ≤ f) (Z0 : f ≤ h0.size) (E_a1 : Exa Z h0 a1 "java/lang/String") (F_coder_a1 : Fld Z h0 a1 "java/lang/String" "coder" "B" (.int 1)) (F_value_a1 : Fld Z h0 a1 "java/lang/String" "value" "[B" (.ref a2)) (A_a2 : Ar Z h0 a2 c1 .byte [.int (cL8 i1), .int (cH8 i1), .int (cL8 i2), .int (cH8 i2), .int (cL8 i3), .int (cH8 i3), .int (cL8 i4), .int (cH8 i4)]) (r_i1 : 0 ≤ i1.toInt ∧ i1.toInt ≤ 65535) (r_i2 : 0 ≤ i2.toInt ∧ i2.toInt ≤ 65535) (r_i3 : 0 ≤ i3.toInt ∧ i3.toInt ≤ 65535) (r_i4 : 0 ≤ i4.toInt ∧ i4.toInt ≤ 65535) (x_i1_13 : ¬ i1 = (13 : Int32)) (x_i2_13 : ¬ i2 = (13 : Int32)) (x_i3_13 : ¬ i3 = (13 : Int32)) (x_i4_13 : ¬ i4 = (13 : Int32)) (S_cs : G_S_cs Z cs) (S_sio : G_S_sio Z sio) (hsio : G_hsio Z sio) (S__assertionsDisabled : G_S__assertionsDisabled Z) (S_HI_BYTE_SHIFT : G_S_HI_BYTE_SHIFT Z) (S_LO_BYTE_SHIFT : G_S_LO_BYTE_SHIFT Z) (hcs : ¬ cs = 0) :
  Con w [] Z (⟨"java/lang/String", "indexOf", "(II)I"⟩ : MethodName) jdk_42_method_80_code 3 (some .int) R_indexOf_192 Ts Ts f #[.ref a1, .int 13, .int 0] h0 (Q_indexOf_192 Z h0) := by
 refine con_of f #[vR a1, vI 13, vI 0] (plainFor_of_name pn_0) (fun m => rfl) Zf ?_
 intro C H hX0
 refine r_aloadN H 1 d_j42_80_0 ?_
 refine r_virtual (z := (⟨"java/lang/String", "isLatin1", "()Z"⟩ : MethodName)) (a := a1) (argsL := []) (rest := []) (W := 0) H 4 d_j42_80_1 (tw53 hw) (tw54 hw) (nf_sel (tw56 hw)) (tw56 hw) (tw55 hw) (tw4 hw) (tw57 hw) E_a1 (lenOf pd_7 rfl) (rm_isLatin1_49 hw Ts a1 cs h0 f Zf Z0 F_coder_a1 S_cs hcs) ?_
 rintro _ _ ⟨rfl, rfl⟩
 refine r_ifeqT H 23 d_j42_80_4 (by decide) (by decide) (by decide) ?_
 refine r_aloadN H 24 d_j42_80_23 ?_
 refine r_getf H 27 d_j42_80_24 (tw21 hw) F_value_a1 ?_
 refine r_iloadN H 28 d_j42_80_27 ?_
 refine r_iloadN H 29 d_j42_80_28 ?_
 refine r_aloadN H 30 d_j42_80_29 ?_
 refine r_virtual (z := (⟨"java/lang/String", "length", "()I"⟩ : MethodName)) (a := a1) (argsL := []) (rest := [.int 0, .int 13, .ref a2]) (W := 3) H 33 d_j42_80_30 (tw58 hw) (tw59 hw) (nf_sel (tw61 hw)) (tw61 hw) (tw60 hw) (tw4 hw) (tw62 hw) E_a1 (lenOf pd_9 rfl) (rm_length_183 hw Ts a1 a2 (cL8 i1) (cH8 i1) (cL8 i2) (cH8 i2) (cL8 i3) (cH8 i3) (cL8 i4) (cH8 i4) c1 cs h0 f Zf Z0 F_value_a1 A_a2 E_a1 F_coder_a1 S_cs hcs) ?_
 rintro _ _ ⟨rfl, rfl⟩
 refine r_static (argsL := [.ref a2, .int 13, .int 0, .int 4]) (rest := []) (W := 0) H 36 d_j42_80_33 (tw121 hw) (tw122 hw) (tw88 hw) (tw123 hw) (lenOf pd_12 rfl) (rm_indexOf_193 hw Ts a2 i1 i2 i3 i4 c1 sio h0 f Zf Z0 A_a2 r_i1 r_i2 r_i3 r_i4 x_i1_13 x_i2_13 x_i3_13 x_i4_13 S_sio hsio S__assertionsDisabled S_HI_BYTE_SHIFT S_LO_BYTE_SHIFT) ?_
 rintro _ _ ⟨rfl, rfl⟩
 exact r_ireturn H d_j42_80_36 (⟨rfl, rfl⟩)
def Q_indexOf_191 (Z : State) (h0 : Heap) (v : Option Value) (h : Heap) : Prop := v = some (.int (-1)) ∧ h0 = h
def R_indexOf_191 : Room := { frames := 6, cells := 0, slots := 0, locals := 87 }
theorem rm_indexOf_191 {w : Bool} {Z : State} {a0 : Array Value} (hw : HW a0 Z) (Ts : List String) (a1 : Addr) (a2 : Addr) (i1 : Int32) (i2 : Int32) (i3 : Int32) (i4 : Int32) (c1 : ClassId) (cs : Int32) (sio : Value) (h0 : Heap) (f : Nat) (Zf : Z.heap.size ≤ f) (Z0 : f ≤ h0.size) (E_a1 : Exa Z h0 a1 "java/lang/String") (F_coder_a1 : Fld Z h0 a1 "java/lang/String" "coder" "B" (.int 1)) (F_value_a1 : Fld Z h0 a1 "java/lang/String" "value" "[B" (.ref a2)) (A_a2 : Ar Z h0 a2 c1 .byte [.int (cL8 i1), .int (cH8 i1), .int (cL8 i2), .int (cH8 i2), .int (cL8 i3), .int (cH8 i3), .int (cL8 i4), .int (cH8 i4)]) (r_i1 : 0 ≤ i1.toInt ∧ i1.toInt ≤ 65535) (r_i2 : 0 ≤ i2.toInt ∧ i2.toInt ≤ 65535) (r_i3 : 0 ≤ i3.toInt ∧ i3.toInt ≤ 65535) (r_i4 : 0 ≤ i4.toInt ∧ i4.toInt ≤ 65535) (x_i1_13 : ¬ i1 = (13 : Int32)) (x_i2_13 : ¬ i2 = (13 : Int32)) (x_i3_13 : ¬ i3 = (13 : Int32)) (x_i4_13 : ¬ i4 = (13 : Int32)) (S_cs : G_S_cs Z cs) (S_sio : G_S_sio Z sio) (hsio : G_hsio Z sio) (S__assertionsDisabled : G_S__assertionsDisabled Z) (S_HI_BYTE_SHIFT : G_S_HI_BYTE_SHIFT Z) (S_LO_BYTE_SHIFT : G_S_LO_BYTE_SHIFT Z) (hcs : ¬ cs = 0) :
  Con w [] Z (⟨"java/lang/String", "indexOf", "(I)I"⟩ : MethodName) jdk_42_method_79_code 2 (some .int) R_indexOf_191 Ts Ts f #[.ref a1, .int 13] h0 (Q_indexOf_191 Z h0) := by
 refine con_of f #[vR a1, vI 13] (plainFor_of_name pn_0) (fun m => rfl) Zf ?_
 intro C H hX0
 refine r_aloadN H 1 d_j42_79_0 ?_
 refine r_iloadN H 2 d_j42_79_1 ?_
 refine r_iconst H 3 0 d_j42_79_2 ?_
 refine r_virtual (z := (⟨"java/lang/String", "indexOf", "(II)I"⟩ : MethodName)) (a := a1) (argsL := [.int 13, .int 0]) (rest := []) (W := 0) H 6 d_j42_79_3 (tw48 hw) (tw49 hw) (nf_sel (tw51 hw)) (tw51 hw) (tw50 hw) (tw4 hw) (tw52 hw) E_a1 (lenOf pd_11 rfl) (rm_indexOf_192 hw Ts a1 a2 i1 i2 i3 i4 c1 cs sio h0 f Zf Z0 E_a1 F_coder_a1 F_value_a1 A_a2 r_i1 r_i2 r_i3 r_i4 x_i1_13 x_i2_13 x_i3_13 x_i4_13 S_cs S_sio hsio S__assertionsDisabled S_HI_BYTE_SHIFT S_LO_BYTE_SHIFT hcs) ?_
 rintro _ _ ⟨rfl, rfl⟩
 exact r_ireturn H d_j42_79_6 (⟨rfl, rfl⟩)
def Q_require_180 (Z : State) (a2 : Addr) (h0 : Heap) (v : Option Value) (h : Heap) : Prop := v = some (.ref a2) ∧ h0 = h
def R_require_180 : Room := { frames := 7, cells := 0, slots := 0, locals := 100 }
theorem rm_require_180 {w : Bool} {Z : State} {a0 : Array Value} (hw : HW a0 Z) (Ts : List String) (a1 : Addr) (a2 : Addr) (a4 : Addr) (i3 : Int32) (i4 : Int32) (i5 : Int32) (i6 : Int32) (c2 : ClassId) (cs : Int32) (sio : Value) (h0 : Heap) (f : Nat) (Zf : Z.heap.size ≤ f) (Z0 : f ≤ h0.size) (E_a2 : Exa Z h0 a2 "java/lang/String") (F_coder_a2 : Fld Z h0 a2 "java/lang/String" "coder" "B" (.int 1)) (F_value_a2 : Fld Z h0 a2 "java/lang/String" "value" "[B" (.ref a4)) (A_a4 : Ar Z h0 a4 c2 .byte [.int (cL8 i3), .int (cH8 i3), .int (cL8 i4), .int (cH8 i4), .int (cL8 i5), .int (cH8 i5), .int (cL8 i6), .int (cH8 i6)]) (r_i3 : 0 ≤ i3.toInt ∧ i3.toInt ≤ 65535) (r_i4 : 0 ≤ i4.toInt ∧ i4.toInt ≤ 65535) (r_i5 : 0 ≤ i5.toInt ∧ i5.toInt ≤ 65535) (r_i6 : 0 ≤ i6.toInt ∧ i6.toInt ≤ 65535) (x_i3_10 : ¬ i3 = (10 : Int32)) (x_i3_13 : ¬ i3 = (13 : Int32)) (x_i4_10 : ¬ i4 = (10 : Int32)) (x_i4_13 : ¬ i4 = (13 : Int32)) (x_i5_10 : ¬ i5 = (10 : Int32)) (x_i5_13 : ¬ i5 = (13 : Int32)) (x_i6_10 : ¬ i6 = (10 : Int32)) (x_i6_13 : ¬ i6 = (13 : Int32)) (S_cs : G_S_cs Z cs) (S_sio : G_S_sio Z sio) (hsio : G_hsio Z sio) (S__assertionsDisabled : G_S__assertionsDisabled Z) (S_HI_BYTE_SHIFT : G_S_HI_BYTE_SHIFT Z) (S_LO_BYTE_SHIFT : G_S_LO_BYTE_SHIFT Z) (hcs : ¬ cs = 0) :
  Con w [] Z (⟨"com/example/ferryline/ferryline/model/OneLine", "require", "(Ljava/lang/String;Ljava/lang/String;)Ljava/lang/String;"⟩ : MethodName) prog_70_method_2_code 2 (some (.object "java/lang/String")) R_require_180 Ts Ts f #[.ref a1, .ref a2] h0 (Q_require_180 Z a2 h0) := by
 refine con_of f #[vR a1, vR a2] (plainFor_of_name pn_3) (fun m => rfl) Zf ?_
 intro C H hX0
 refine r_aloadN H 1 d_g70_2_0 ?_
 refine r_bipush H 3 10 d_g70_2_1 ?_
 refine r_virtual (z := (⟨"java/lang/String", "indexOf", "(I)I"⟩ : MethodName)) (a := a2) (argsL := [.int 10]) (rest := []) (W := 0) H 6 d_g70_2_3 (tw43 hw) (tw44 hw) (nf_sel (tw46 hw)) (tw46 hw) (tw45 hw) (tw4 hw) (tw47 hw) E_a2 (lenOf pd_13 rfl) (rm_indexOf_181 hw Ts a2 a4 i3 i4 i5 i6 c2 cs sio h0 f Zf Z0 E_a2 F_coder_a2 F_value_a2 A_a4 r_i3 r_i4 r_i5 r_i6 x_i3_10 x_i4_10 x_i5_10 x_i6_10 S_cs S_sio hsio S__assertionsDisabled S_HI_BYTE_SHIFT S_LO_BYTE_SHIFT hcs) ?_
 rintro _ _ ⟨rfl, rfl⟩
 refine r_ifgeF H 9 d_g70_2_6 ?_
 refine r_aloadN H 10 d_g70_2_9 ?_
 refine r_bipush H 12 13 d_g70_2_10 ?_
 refine r_virtual (z := (⟨"java/lang/String", "indexOf", "(I)I"⟩ : MethodName)) (a := a2) (argsL := [.int 13]) (rest := []) (W := 0) H 15 d_g70_2_12 (tw43 hw) (tw44 hw) (nf_sel (tw46 hw)) (tw46 hw) (tw45 hw) (tw4 hw) (tw47 hw) E_a2 (lenOf pd_13 rfl) (rm_indexOf_191 hw Ts a2 a4 i3 i4 i5 i6 c2 cs sio h0 f Zf Z0 E_a2 F_coder_a2 F_value_a2 A_a4 r_i3 r_i4 r_i5 r_i6 x_i3_13 x_i4_13 x_i5_13 x_i6_13 S_cs S_sio hsio S__assertionsDisabled S_HI_BYTE_SHIFT S_LO_BYTE_SHIFT hcs) ?_
 rintro _ _ ⟨rfl, rfl⟩
 refine r_ifltT H 38 d_g70_2_15 ?_
 refine r_aloadN H 39 d_g70_2_38 ?_
 exact r_areturn H d_g70_2_39 (⟨rfl, rfl⟩)

set_option maxRecDepth 65536 in
set_option maxHeartbeats 40000000 in
theorem rm_law {Z : State} {a0 : Array Value} (hw : ∀ d ∈ tables_1, d.before a0 Z = true) (Ts : List String) (hTs : Ts = []) (x0 : Int32) (x1 : Int32) (x2 : Int32) (x3 : Int32) (x4 : Int32) (x5 : Int32) (cs : Int32) (sio : Value) (h0 : Heap) (f : Nat) (Zf : Z.heap.size ≤ f) (Z0 : f ≤ h0.size) (wS : ∀ a ∈ Bundle.stringAtoms, a.before a0 Z = true) (hcw : Jvm.Lit.compactW.before a0 Z = true) (hh0 : Jvm.Lit.constHeld Z "java/lang/String" 7) (S_cs : Sta Z Z.heap "java/lang/String" "COMPACT_STRINGS" "Z" (.int cs)) (S__assertionsDisabled : Sta Z Z.heap "java/lang/StringUTF16" "$assertionsDisabled" "Z" (.int 1)) (S_HI_BYTE_SHIFT : Sta Z Z.heap "java/lang/StringUTF16" "HI_BYTE_SHIFT" "I" (.int 0)) (S_LO_BYTE_SHIFT : Sta Z Z.heap "java/lang/StringUTF16" "LO_BYTE_SHIFT" "I" (.int 8)) (S_sio : Sta Z Z.heap "jdk/internal/util/Preconditions" "SIOOBE_FORMATTER" "Ljava/util/function/BiFunction;" sio) (hsio : sio = .null ∨ ∃ a, sio = .ref a) (hcs : ¬ cs = 0) :
  Con true tables_1 Z x code maxLocals ret room_1 Ts ("" :: Ts) f #[.int x0, .int x1, .int x2, .int x3, .int x4, .int x5] h0 (fun v _ => v = some (.int 1)) := by
 have hT_empty : "" ∉ Ts := by rw [hTs]; exact List.not_mem_nil
 refine con_of h0.size #[vI x0, vI x1, vI x2, vI x3, vI x4, vI x5, .unset, .unset, .unset, .unset, .unset] (plainFor_of_name pn_4) (fun m => by first | rfl | (simp [entryFrame, mkF, argsToLocals, Value.category, maxLocals]; done)) (nlt Zf Z0) ?_
 intro C H hX0
 refine r_iloadN H 1 at_0 ?_
 refine r_ldcI H 3 at_1 (tw0 hw) ?_
 obtain ⟨p1, ep1, rp1⟩ : ∃ p : Int32, (x0 &&& (2147483647 : Int32)) = p ∧ 0 ≤ p.toInt ∧ p.toInt ≤ 2147483647 := ⟨_, rfl, (by have h := c_and x0 (2147483647 : Int32) (by decide); have : (2147483647 : Int32).toInt = 2147483647 := (by decide); omega)⟩
 refine r_iand H 4 p1 at_3 ep1 ?_
 refine r_iconst H 5 5 at_4 ?_
 obtain ⟨p2, ep2, rp2⟩ : ∃ p : Int32, (p1 % (5 : Int32)) = p ∧ 0 ≤ p.toInt ∧ p.toInt ≤ 4 := ⟨_, rfl, (by have := rp1; have h := (c_irem p1 (5 : Int32) 5 (by decide)).1 (by omega); omega)⟩
 refine r_irem H 6 p2 at_5 ep2 ?_
 refine r_istore H 8 #[vI x0, vI x1, vI x2, vI x3, vI x4, vI x5, vI p2, .unset, .unset, .unset, .unset] at_6 ?_
 refine r_iload H 10 at_8 ?_
 have c3 : p2 = (0 : Int32) ∨ p2 = (1 : Int32) ∨ p2 = (2 : Int32) ∨ p2 = (3 : Int32) ∨ p2 = (4 : Int32) := by
  have := rp2; simp only [← Int32.toInt_inj]; have : (0 : Int32).toInt = 0 := (by decide); have : (1 : Int32).toInt = 1 := (by decide); have : (2 : Int32).toInt = 2 := (by decide); have : (3 : Int32).toInt = 3 := (by decide); have : (4 : Int32).toInt = 4 := (by decide); omega
 rcases c3 with c3 | c3 | c3 | c3 | c3
 ·
  subst c3
  refine r_newP H 12 "[C" 0 at_10 (tw1 hw) ?_
  intro h4 b4 kc4 g4 l4 K4 E4 A4
  change Ar Z h4 b4 kc4 .char [] at A4
  refine r_astore H 14 #[vI x0, vI x1, vI x2, vI x3, vI x4, vI x5, vI 0, vR b4, .unset, .unset, .unset] at_12 ?_
  refine r_iload H 16 at_14 ?_
  refine r_ifleT H 27 at_16 ?_
  refine r_iload H 29 at_27 ?_
  refine r_iconst H 30 1 at_29 ?_
  refine r_icmpleT H 41 at_30 (by decide) (by decide) (by decide) ?_
  refine r_iload H 43 at_41 ?_
  refine r_iconst H 44 2 at_43 ?_
  refine r_icmpleT H 55 at_44 (by decide) (by decide) (by decide) ?_
  refine r_iload H 57 at_55 ?_
  refine r_iconst H 58 3 at_57 ?_
  refine r_icmpleT H 70 at_58 (by decide) (by decide) (by decide) ?_
  refine r_new H 73 at_70 (tw2 hw) (tw3 hw) (tw4 hw) ?_
  intro h5 b5 g5 l5 K5 E5 D5
  refine r_dup H 74 at_73 ?_
  refine r_aload H 76 at_74 ?_
  have q6 := (A4.keep K5 nin0)
  have z7 := Nat.le_trans K4.1 K5.1
  refine r_special (a := b5) (argsL := [.ref b4]) (rest := [.ref b5]) (W := 1) H 79 at_76 (tw5 hw) (tw6 hw) (tw4 hw) (tw7 hw) (lenOf pd_1 rfl) (rm_init_1 hw Ts b5 b4 kc4 h5 h0.size (nlt Zf Z0) z7 q6 (nlt K4.1 (Nat.le_of_eq g5.symm)) E5 (show Fld Z h5 b5 "java/lang/String" "value" "[B" .null from D5 (Or.inr (tw17 hw)) (ty := (.array .byte)) (by decide)) (show Fld Z h5 b5 "java/lang/String" "coder" "B" (.int 0) from D5 (Or.inr (tw18 hw)) (ty := .byte) (by decide)) wS hcw hh0 hT_empty) ?_
  rintro _ hh15 ⟨b8, kc9, rfl, K10, q11, q12, q13, q14⟩
  refine r_astore H 81 #[vI x0, vI x1, vI x2, vI x3, vI x4, vI x5, vI 0, vR b4, vR b5, .unset, .unset] at_79 ?_
  refine r_iload H 83 at_81 ?_
  refine r_ldcI H 85 at_83 (tw23 hw) ?_
  obtain ⟨p16, ep16, rp16⟩ : ∃ p : Int32, (x5 &&& (65535 : Int32)) = p ∧ 0 ≤ p.toInt ∧ p.toInt ≤ 65535 := ⟨_, rfl, (by have h := c_and x5 (65535 : Int32) (by decide); have : (65535 : Int32).toInt = 65535 := (by decide); omega)⟩
  refine r_iand H 86 p16 at_85 ep16 ?_
  refine r_i2c H 87 p16 at_86 (i2c_id (by have := rp16; omega)) ?_
  have z17 := Nat.le_trans z7 K10.1
  refine r_static (argsL := [.int p16]) (rest := []) (W := 0) H 90 at_87 (tw24 hw) (tw25 hw) (tw4 hw) (tw26 hw) (lenOf pd_6 rfl) (rm_valueOf_3 hw ("" :: Ts) p16 cs hh15 h0.size (nlt Zf Z0) z17 rp16 S_cs S__assertionsDisabled S_HI_BYTE_SHIFT S_LO_BYTE_SHIFT hcs) ?_
  rintro _ hh44 (⟨b18, b19, kc20, rfl, c22, K21, g23, g24, g25, q26, q27, q28, q29, q30⟩ | ⟨b31, b32, kc33, rfl, c35, K34, g36, g37, g38, q39, q40, q41, q42, q43⟩)
  ·
   refine r_astore H 92 #[vI x0, vI x1, vI x2, vI x3, vI x4, vI x5, vI 0, vR b4, vR b5, vR b18, .unset] at_90 ?_
   refine r_aload H 94 at_92 ?_
   refine r_aload H 96 at_94 ?_
   have q45 := (q11.keep K21)
   have q46 := (q12.keep K21 nin0)
   have q47 := (q13.keep K21 nin0)
   have q48 := (q14.keep K21 nin0)
   have z49 := Nat.le_trans z17 K21.1
   refine r_static (argsL := [.ref b18, .ref b5]) (rest := []) (W := 0) H 99 at_96 (tw39 hw) (tw40 hw) (tw41 hw) (tw42 hw) (lenOf pd_14 rfl) (rm_require_10 hw ("" :: Ts) b18 b5 b8 kc9 cs hh44 h0.size (nlt Zf Z0) z49 q45 q46 q47 q48 S_cs hcs) ?_
   rintro _ _ ⟨rfl, rfl⟩
   refine r_astore H 101 #[vI x0, vI x1, vI x2, vI x3, vI x4, vI x5, vI 0, vR b4, vR b5, vR b18, vR b5] at_99 ?_
   refine r_aload H 103 at_101 ?_
   refine r_aload H 105 at_103 ?_
   refine r_acmp H 108 true at_105 (decide_eq_true rfl) ?_
   refine r_aload H 110 at_108 ?_
   refine r_virtual (z := (⟨"java/lang/String", "length", "()I"⟩ : MethodName)) (a := b5) (argsL := []) (rest := []) (W := 0) H 113 at_110 (tw81 hw) (tw59 hw) (nf_sel (tw61 hw)) (tw61 hw) (tw60 hw) (tw4 hw) (tw62 hw) q45 (lenOf pd_9 rfl) (rm_length_14 hw ("" :: Ts) b5 b8 kc9 cs hh44 h0.size (nlt Zf Z0) z49 q47 q48 q45 q46 S_cs hcs) ?_
   rintro _ _ ⟨rfl, rfl⟩
   refine r_iload H 115 at_113 ?_
   refine r_icmpneF H 118 at_115 rfl (by decide) ?_
   refine r_iconst H 119 1 at_118 ?_
   refine r_goto H 123 at_119 ?_
   exact r_nreturn (1 : Int32) H at_123 (by decide) Z0 (fun _ t => t) rfl
  ·
   refine r_astore H 92 #[vI x0, vI x1, vI x2, vI x3, vI x4, vI x5, vI 0, vR b4, vR b5, vR b31, .unset] at_90 ?_
   refine r_aload H 94 at_92 ?_
   refine r_aload H 96 at_94 ?_
   have q52 := (q11.keep K34)
   have q53 := (q12.keep K34 nin0)
   have q54 := (q13.keep K34 nin0)
   have q55 := (q14.keep K34 nin0)
   have z56 := Nat.le_trans z17 K34.1
   refine r_static (argsL := [.ref b31, .ref b5]) (rest := []) (W := 0) H 99 at_96 (tw39 hw) (tw40 hw) (tw41 hw) (tw42 hw) (lenOf pd_14 rfl) (rm_require_10 hw ("" :: Ts) b31 b5 b8 kc9 cs hh44 h0.size (nlt Zf Z0) z56 q52 q53 q54 q55 S_cs hcs) ?_
   rintro _ _ ⟨rfl, rfl⟩
   refine r_astore H 101 #[vI x0, vI x1, vI x2, vI x3, vI x4, vI x5, vI 0, vR b4, vR b5, vR b31, vR b5] at_99 ?_
   refine r_aload H 103 at_101 ?_
   refine r_aload H 105 at_103 ?_
   refine r_acmp H 108 true at_105 (decide_eq_true rfl) ?_
   refine r_aload H 110 at_108 ?_
   refine r_virtual (z := (⟨"java/lang/String", "length", "()I"⟩ : MethodName)) (a := b5) (argsL := []) (rest := []) (W := 0) H 113 at_110 (tw81 hw) (tw59 hw) (nf_sel (tw61 hw)) (tw61 hw) (tw60 hw) (tw4 hw) (tw62 hw) q52 (lenOf pd_9 rfl) (rm_length_14 hw ("" :: Ts) b5 b8 kc9 cs hh44 h0.size (nlt Zf Z0) z56 q54 q55 q52 q53 S_cs hcs) ?_
   rintro _ _ ⟨rfl, rfl⟩
   refine r_iload H 115 at_113 ?_
   refine r_icmpneF H 118 at_115 rfl (by decide) ?_
   refine r_iconst H 119 1 at_118 ?_
   refine r_goto H 123 at_119 ?_
   exact r_nreturn (1 : Int32) H at_123 (by decide) Z0 (fun _ t => t) rfl
 ·
  subst c3
  refine r_newP H 12 "[C" 1 at_10 (tw1 hw) ?_
  intro h59 b59 kc59 g59 l59 K59 E59 A59
  change Ar Z h59 b59 kc59 .char [.int 0] at A59
  refine r_astore H 14 #[vI x0, vI x1, vI x2, vI x3, vI x4, vI x5, vI 1, vR b59, .unset, .unset, .unset] at_12 ?_
  refine r_iload H 16 at_14 ?_
  refine r_ifleF H 19 at_16 ?_
  refine r_aload H 21 at_19 ?_
  refine r_iconst H 22 0 at_21 ?_
  refine r_iloadN H 23 at_22 ?_
  refine r_static (argsL := [.int x1]) (rest := [.int 0, .ref b59]) (W := 2) H 26 at_23 (tw82 hw) (tw83 hw) (tw84 hw) (tw85 hw) (lenOf pd_15 rfl) (rm_safe_24 hw Ts x1 h59 h0.size (nlt Zf Z0) K59.1) ?_
  rintro _ _ ⟨p60, rfl, rfl, ep60, rp60, xp60_10, xp60_13⟩
  refine r_castore H 27 p60 at_26 A59 (nlt nlr (Nat.le_of_eq g59.symm)) (nar_char_id (by have := rp60; omega)) ?_
  intro h62 K62 A62
  change Ar Z h62 b59 kc59 .char [.int p60] at A62
  refine r_iload H 29 at_27 ?_
  refine r_iconst H 30 1 at_29 ?_
  refine r_icmpleT H 41 at_30 (by decide) (by decide) (by decide) ?_
  refine r_iload H 43 at_41 ?_
  refine r_iconst H 44 2 at_43 ?_
  refine r_icmpleT H 55 at_44 (by decide) (by decide) (by decide) ?_
  refine r_iload H 57 at_55 ?_
  refine r_iconst H 58 3 at_57 ?_
  refine r_icmpleT H 70 at_58 (by decide) (by decide) (by decide) ?_
  refine r_new H 73 at_70 (tw2 hw) (tw3 hw) (tw4 hw) ?_
  intro h63 b63 g63 l63 K63 E63 D63
  refine r_dup H 74 at_73 ?_
  refine r_aload H 76 at_74 ?_
  have z64 := Nat.le_trans K59.1 K62.1
  have q65 := (A62.keep K63 nin0)
  have z66 := Nat.le_trans z64 K63.1
  refine r_special (a := b63) (argsL := [.ref b59]) (rest := [.ref b63]) (W := 1) H 79 at_76 (tw5 hw) (tw6 hw) (tw4 hw) (tw7 hw) (lenOf pd_1 rfl) (rm_init_25 hw Ts b63 b59 p60 kc59 cs h63 h0.size (nlt Zf Z0) z66 q65 (nlt z64 (Nat.le_of_eq g63.symm)) E63 (show Fld Z h63 b63 "java/lang/String" "coder" "B" (.int 0) from D63 (Or.inr (tw18 hw)) (ty := .byte) (by decide)) (show Fld Z h63 b63 "java/lang/String" "value" "[B" .null from D63 (Or.inr (tw17 hw)) (ty := (.array .byte)) (by decide)) rp60 S_cs S__assertionsDisabled S_HI_BYTE_SHIFT S_LO_BYTE_SHIFT hcs) ?_
  rintro _ hh87 (⟨b67, kc68, rfl, c70, K69, g71, q72, q73, q74, q75, q76⟩ | ⟨b77, kc78, rfl, c80, K79, g81, q82, q83, q84, q85, q86⟩)
  ·
   have rr88 : 0 ≤ p60.toInt ∧ p60.toInt ≤ 255 := by have := rp60; have : (255 : Int32).toInt = 255 := (by decide); have hc_ := c70; simp only [Int32.lt_iff_toInt_lt, ← Int32.toInt_inj] at hc_; omega
   refine r_astore H 81 #[vI x0, vI x1, vI x2, vI x3, vI x4, vI x5, vI 1, vR b59, vR b63, .unset, .unset] at_79 ?_
   refine r_iload H 83 at_81 ?_
   refine r_ldcI H 85 at_83 (tw23 hw) ?_
   obtain ⟨p89, ep89, rp89⟩ : ∃ p : Int32, (x5 &&& (65535 : Int32)) = p ∧ 0 ≤ p.toInt ∧ p.toInt ≤ 65535 := ⟨_, rfl, (by have h := c_and x5 (65535 : Int32) (by decide); have : (65535 : Int32).toInt = 65535 := (by decide); omega)⟩
   refine r_iand H 86 p89 at_85 ep89 ?_
   refine r_i2c H 87 p89 at_86 (i2c_id (by have := rp89; omega)) ?_
   have z90 := Nat.le_trans z66 K69.1
   refine r_static (argsL := [.int p89]) (rest := []) (W := 0) H 90 at_87 (tw24 hw) (tw25 hw) (tw4 hw) (tw26 hw) (lenOf pd_6 rfl) (rm_valueOf_3 hw Ts p89 cs hh87 h0.size (nlt Zf Z0) z90 rp89 S_cs S__assertionsDisabled S_HI_BYTE_SHIFT S_LO_BYTE_SHIFT hcs) ?_
   rintro _ hh117 (⟨b91, b92, kc93, rfl, c95, K94, g96, g97, g98, q99, q100, q101, q102, q103⟩ | ⟨b104, b105, kc106, rfl, c108, K107, g109, g110, g111, q112, q113, q114, q115, q116⟩)
   ·
    refine r_astore H 92 #[vI x0, vI x1, vI x2, vI x3, vI x4, vI x5, vI 1, vR b59, vR b63, vR b91, .unset] at_90 ?_
    refine r_aload H 94 at_92 ?_
    refine r_aload H 96 at_94 ?_
    have q118 := (q72.keep K94)
    have q119 := (q73.keep K94 nin0)
    have q120 := (q74.keep K94 nin0)
    have q121 := (q75.keep K94 nin0)
    have z122 := Nat.le_trans z90 K94.1
    refine r_static (argsL := [.ref b91, .ref b63]) (rest := []) (W := 0) H 99 at_96 (tw39 hw) (tw40 hw) (tw41 hw) (tw42 hw) (lenOf pd_14 rfl) (rm_require_35 hw Ts b91 b63 b67 p60 kc68 cs hh117 h0.size (nlt Zf Z0) z122 q118 q119 q120 q121 rr88 xp60_10 xp60_13 S_cs hcs) ?_
    rintro _ _ ⟨rfl, rfl⟩
    refine r_astore H 101 #[vI x0, vI x1, vI x2, vI x3, vI x4, vI x5, vI 1, vR b59, vR b63, vR b91, vR b63] at_99 ?_
    refine r_aload H 103 at_101 ?_
    refine r_aload H 105 at_103 ?_
    refine r_acmp H 108 true at_105 (decide_eq_true rfl) ?_
    refine r_aload H 110 at_108 ?_
    refine r_virtual (z := (⟨"java/lang/String", "length", "()I"⟩ : MethodName)) (a := b63) (argsL := []) (rest := []) (W := 0) H 113 at_110 (tw81 hw) (tw59 hw) (nf_sel (tw61 hw)) (tw61 hw) (tw60 hw) (tw4 hw) (tw62 hw) q118 (lenOf pd_9 rfl) (rm_length_38 hw Ts b63 b67 (cB8 p60) kc68 cs hh117 h0.size (nlt Zf Z0) z122 q120 q121 q118 q119 S_cs hcs) ?_
    rintro _ _ ⟨rfl, rfl⟩
    refine r_iload H 115 at_113 ?_
    refine r_icmpneF H 118 at_115 rfl (by decide) ?_
    refine r_iconst H 119 1 at_118 ?_
    refine r_goto H 123 at_119 ?_
    exact r_nreturn (1 : Int32) H at_123 (by decide) Z0 (fun _ t => (.tail _ t)) rfl
   ·
    refine r_astore H 92 #[vI x0, vI x1, vI x2, vI x3, vI x4, vI x5, vI 1, vR b59, vR b63, vR b104, .unset] at_90 ?_
    refine r_aload H 94 at_92 ?_
    refine r_aload H 96 at_94 ?_
    have q125 := (q72.keep K107)
    have q126 := (q73.keep K107 nin0)
    have q127 := (q74.keep K107 nin0)
    have q128 := (q75.keep K107 nin0)
    have z129 := Nat.le_trans z90 K107.1
    refine r_static (argsL := [.ref b104, .ref b63]) (rest := []) (W := 0) H 99 at_96 (tw39 hw) (tw40 hw) (tw41 hw) (tw42 hw) (lenOf pd_14 rfl) (rm_require_35 hw Ts b104 b63 b67 p60 kc68 cs hh117 h0.size (nlt Zf Z0) z129 q125 q126 q127 q128 rr88 xp60_10 xp60_13 S_cs hcs) ?_
    rintro _ _ ⟨rfl, rfl⟩
    refine r_astore H 101 #[vI x0, vI x1, vI x2, vI x3, vI x4, vI x5, vI 1, vR b59, vR b63, vR b104, vR b63] at_99 ?_
    refine r_aload H 103 at_101 ?_
    refine r_aload H 105 at_103 ?_
    refine r_acmp H 108 true at_105 (decide_eq_true rfl) ?_
    refine r_aload H 110 at_108 ?_
    refine r_virtual (z := (⟨"java/lang/String", "length", "()I"⟩ : MethodName)) (a := b63) (argsL := []) (rest := []) (W := 0) H 113 at_110 (tw81 hw) (tw59 hw) (nf_sel (tw61 hw)) (tw61 hw) (tw60 hw) (tw4 hw) (tw62 hw) q125 (lenOf pd_9 rfl) (rm_length_38 hw Ts b63 b67 (cB8 p60) kc68 cs hh117 h0.size (nlt Zf Z0) z129 q127 q128 q125 q126 S_cs hcs) ?_
    rintro _ _ ⟨rfl, rfl⟩
    refine r_iload H 115 at_113 ?_
    refine r_icmpneF H 118 at_115 rfl (by decide) ?_
    refine r_iconst H 119 1 at_118 ?_
    refine r_goto H 123 at_119 ?_
    exact r_nreturn (1 : Int32) H at_123 (by decide) Z0 (fun _ t => (.tail _ t)) rfl
  ·
   have rr132 : 256 ≤ p60.toInt ∧ p60.toInt ≤ 65535 := by have := rp60; have : (255 : Int32).toInt = 255 := (by decide); have hc_ := c80; simp only [Int32.lt_iff_toInt_lt, ← Int32.toInt_inj] at hc_; omega
   refine r_astore H 81 #[vI x0, vI x1, vI x2, vI x3, vI x4, vI x5, vI 1, vR b59, vR b63, .unset, .unset] at_79 ?_
   refine r_iload H 83 at_81 ?_
   refine r_ldcI H 85 at_83 (tw23 hw) ?_
   obtain ⟨p133, ep133, rp133⟩ : ∃ p : Int32, (x5 &&& (65535 : Int32)) = p ∧ 0 ≤ p.toInt ∧ p.toInt ≤ 65535 := ⟨_, rfl, (by have h := c_and x5 (65535 : Int32) (by decide); have : (65535 : Int32).toInt = 65535 := (by decide); omega)⟩
   refine r_iand H 86 p133 at_85 ep133 ?_
   refine r_i2c H 87 p133 at_86 (i2c_id (by have := rp133; omega)) ?_
   have z134 := Nat.le_trans z66 K79.1
   refine r_static (argsL := [.int p133]) (rest := []) (W := 0) H 90 at_87 (tw24 hw) (tw25 hw) (tw4 hw) (tw26 hw) (lenOf pd_6 rfl) (rm_valueOf_3 hw Ts p133 cs hh87 h0.size (nlt Zf Z0) z134 rp133 S_cs S__assertionsDisabled S_HI_BYTE_SHIFT S_LO_BYTE_SHIFT hcs) ?_
   rintro _ hh161 (⟨b135, b136, kc137, rfl, c139, K138, g140, g141, g142, q143, q144, q145, q146, q147⟩ | ⟨b148, b149, kc150, rfl, c152, K151, g153, g154, g155, q156, q157, q158, q159, q160⟩)
   ·
    refine r_astore H 92 #[vI x0, vI x1, vI x2, vI x3, vI x4, vI x5, vI 1, vR b59, vR b63, vR b135, .unset] at_90 ?_
    refine r_aload H 94 at_92 ?_
    refine r_aload H 96 at_94 ?_
    have q162 := (q82.keep K138)
    have q163 := (q83.keep K138 nin0)
    have q164 := (q84.keep K138 nin0)
    have q165 := (q85.keep K138 nin0)
    have z166 := Nat.le_trans z134 K138.1
    refine r_static (argsL := [.ref b135, .ref b63]) (rest := []) (W := 0) H 99 at_96 (tw39 hw) (tw40 hw) (tw41 hw) (tw42 hw) (lenOf pd_14 rfl) (rm_require_46 hw Ts b135 b63 b77 p60 kc78 cs sio hh161 h0.size (nlt Zf Z0) z166 q162 q163 q164 q165 rr132 xp60_10 xp60_13 S_cs S_sio hsio S__assertionsDisabled S_HI_BYTE_SHIFT S_LO_BYTE_SHIFT hcs) ?_
    rintro _ _ ⟨rfl, rfl⟩
    refine r_astore H 101 #[vI x0, vI x1, vI x2, vI x3, vI x4, vI x5, vI 1, vR b59, vR b63, vR b135, vR b63] at_99 ?_
    refine r_aload H 103 at_101 ?_
    refine r_aload H 105 at_103 ?_
    refine r_acmp H 108 true at_105 (decide_eq_true rfl) ?_
    refine r_aload H 110 at_108 ?_
    refine r_virtual (z := (⟨"java/lang/String", "length", "()I"⟩ : MethodName)) (a := b63) (argsL := []) (rest := []) (W := 0) H 113 at_110 (tw81 hw) (tw59 hw) (nf_sel (tw61 hw)) (tw61 hw) (tw60 hw) (tw4 hw) (tw62 hw) q162 (lenOf pd_9 rfl) (rm_length_50 hw Ts b63 b77 (cL8 p60) (cH8 p60) kc78 cs hh161 h0.size (nlt Zf Z0) z166 q164 q165 q162 q163 S_cs hcs) ?_
    rintro _ _ ⟨rfl, rfl⟩
    refine r_iload H 115 at_113 ?_
    refine r_icmpneF H 118 at_115 rfl (by decide) ?_
    refine r_iconst H 119 1 at_118 ?_
    refine r_goto H 123 at_119 ?_
    exact r_nreturn (1 : Int32) H at_123 (by decide) Z0 (fun _ t => (.tail _ t)) rfl
   ·
    refine r_astore H 92 #[vI x0, vI x1, vI x2, vI x3, vI x4, vI x5, vI 1, vR b59, vR b63, vR b148, .unset] at_90 ?_
    refine r_aload H 94 at_92 ?_
    refine r_aload H 96 at_94 ?_
    have q169 := (q82.keep K151)
    have q170 := (q83.keep K151 nin0)
    have q171 := (q84.keep K151 nin0)
    have q172 := (q85.keep K151 nin0)
    have z173 := Nat.le_trans z134 K151.1
    refine r_static (argsL := [.ref b148, .ref b63]) (rest := []) (W := 0) H 99 at_96 (tw39 hw) (tw40 hw) (tw41 hw) (tw42 hw) (lenOf pd_14 rfl) (rm_require_46 hw Ts b148 b63 b77 p60 kc78 cs sio hh161 h0.size (nlt Zf Z0) z173 q169 q170 q171 q172 rr132 xp60_10 xp60_13 S_cs S_sio hsio S__assertionsDisabled S_HI_BYTE_SHIFT S_LO_BYTE_SHIFT hcs) ?_
    rintro _ _ ⟨rfl, rfl⟩
    refine r_astore H 101 #[vI x0, vI x1, vI x2, vI x3, vI x4, vI x5, vI 1, vR b59, vR b63, vR b148, vR b63] at_99 ?_
    refine r_aload H 103 at_101 ?_
    refine r_aload H 105 at_103 ?_
    refine r_acmp H 108 true at_105 (decide_eq_true rfl) ?_
    refine r_aload H 110 at_108 ?_
    refine r_virtual (z := (⟨"java/lang/String", "length", "()I"⟩ : MethodName)) (a := b63) (argsL := []) (rest := []) (W := 0) H 113 at_110 (tw81 hw) (tw59 hw) (nf_sel (tw61 hw)) (tw61 hw) (tw60 hw) (tw4 hw) (tw62 hw) q169 (lenOf pd_9 rfl) (rm_length_50 hw Ts b63 b77 (cL8 p60) (cH8 p60) kc78 cs hh161 h0.size (nlt Zf Z0) z173 q171 q172 q169 q170 S_cs hcs) ?_
    rintro _ _ ⟨rfl, rfl⟩
    refine r_iload H 115 at_113 ?_
    refine r_icmpneF H 118 at_115 rfl (by decide) ?_
    refine r_iconst H 119 1 at_118 ?_
    refine r_goto H 123 at_119 ?_
    exact r_nreturn (1 : Int32) H at_123 (by decide) Z0 (fun _ t => (.tail _ t)) rfl
 ·
  subst c3
  refine r_newP H 12 "[C" 2 at_10 (tw1 hw) ?_
  intro h176 b176 kc176 g176 l176 K176 E176 A176
  change Ar Z h176 b176 kc176 .char [.int 0, .int 0] at A176
  refine r_astore H 14 #[vI x0, vI x1, vI x2, vI x3, vI x4, vI x5, vI 2, vR b176, .unset, .unset, .unset] at_12 ?_
  refine r_iload H 16 at_14 ?_
  refine r_ifleF H 19 at_16 ?_
  refine r_aload H 21 at_19 ?_
  refine r_iconst H 22 0 at_21 ?_
  refine r_iloadN H 23 at_22 ?_
  refine r_static (argsL := [.int x1]) (rest := [.int 0, .ref b176]) (W := 2) H 26 at_23 (tw82 hw) (tw83 hw) (tw84 hw) (tw85 hw) (lenOf pd_15 rfl) (rm_safe_24 hw Ts x1 h176 h0.size (nlt Zf Z0) K176.1) ?_
  rintro _ _ ⟨p177, rfl, rfl, ep177, rp177, xp177_10, xp177_13⟩
  refine r_castore H 27 p177 at_26 A176 (nlt nlr (Nat.le_of_eq g176.symm)) (nar_char_id (by have := rp177; omega)) ?_
  intro h179 K179 A179
  change Ar Z h179 b176 kc176 .char [.int p177, .int 0] at A179
  refine r_iload H 29 at_27 ?_
  refine r_iconst H 30 1 at_29 ?_
  refine r_icmpleF H 33 at_30 rfl (by decide) ?_
  refine r_aload H 35 at_33 ?_
  refine r_iconst H 36 1 at_35 ?_
  refine r_iloadN H 37 at_36 ?_
  have z180 := Nat.le_trans K176.1 K179.1
  refine r_static (argsL := [.int x2]) (rest := [.int 1, .ref b176]) (W := 2) H 40 at_37 (tw82 hw) (tw83 hw) (tw84 hw) (tw85 hw) (lenOf pd_15 rfl) (rm_safe_24 hw Ts x2 h179 h0.size (nlt Zf Z0) z180) ?_
  rintro _ _ ⟨p181, rfl, rfl, ep181, rp181, xp181_10, xp181_13⟩
  refine r_castore H 41 p181 at_40 A179 (nlt nlr (Nat.le_of_eq g176.symm)) (nar_char_id (by have := rp181; omega)) ?_
  intro h183 K183 A183
  have q184 := (E176.keep K179)
  change Ar Z h183 b176 kc176 .char [.int p177, .int p181] at A183
  refine r_iload H 43 at_41 ?_
  refine r_iconst H 44 2 at_43 ?_
  refine r_icmpleT H 55 at_44 (by decide) (by decide) (by decide) ?_
  refine r_iload H 57 at_55 ?_
  refine r_iconst H 58 3 at_57 ?_
  refine r_icmpleT H 70 at_58 (by decide) (by decide) (by decide) ?_
  refine r_new H 73 at_70 (tw2 hw) (tw3 hw) (tw4 hw) ?_
  intro h185 b185 g185 l185 K185 E185 D185
  refine r_dup H 74 at_73 ?_
  refine r_aload H 76 at_74 ?_
  have z186 := Nat.le_trans z180 K183.1
  have q187 := (A183.keep K185 nin0)
  have q188 := ((q184.keep K183).keep K185)
  have z189 := Nat.le_trans z186 K185.1
  refine r_special (a := b185) (argsL := [.ref b176]) (rest := [.ref b185]) (W := 1) H 79 at_76 (tw5 hw) (tw6 hw) (tw4 hw) (tw7 hw) (lenOf pd_1 rfl) (rm_init_64 hw Ts b185 b176 p177 p181 kc176 cs h185 h0.size (nlt Zf Z0) z189 q187 (nlt z186 (Nat.le_of_eq g185.symm)) q188 E185 (show Fld Z h185 b185 "java/lang/String" "coder" "B" (.int 0) from D185 (Or.inr (tw18 hw)) (ty := .byte) (by decide)) (show Fld Z h185 b185 "java/lang/String" "value" "[B" .null from D185 (Or.inr (tw17 hw)) (ty := (.array .byte)) (by decide)) rp177 rp181 S_cs S__assertionsDisabled S_HI_BYTE_SHIFT S_LO_BYTE_SHIFT hcs) ?_
  rintro _ hh210 (⟨b190, kc191, rfl, c193, c194, K192, g195, q196, q197, q198, q199, q200⟩ | ⟨b201, kc202, rfl, K203, g204, q205, q206, q207, q208, q209⟩)
  ·
   have rr211 : 0 ≤ p177.toInt ∧ p177.toInt ≤ 255 := by have := rp177; have : (255 : Int32).toInt = 255 := (by decide); have hc_ := c193; simp only [Int32.lt_iff_toInt_lt, ← Int32.toInt_inj] at hc_; omega
   have rr212 : 0 ≤ p181.toInt ∧ p181.toInt ≤ 255 := by have := rp181; have : (255 : Int32).toInt = 255 := (by decide); have hc_ := c194; simp only [Int32.lt_iff_toInt_lt, ← Int32.toInt_inj] at hc_; omega
   refine r_astore H 81 #[vI x0, vI x1, vI x2, vI x3, vI x4, vI x5, vI 2, vR b176, vR b185, .unset, .unset] at_79 ?_
   refine r_iload H 83 at_81 ?_
   refine r_ldcI H 85 at_83 (tw23 hw) ?_
   obtain ⟨p213, ep213, rp213⟩ : ∃ p : Int32, (x5 &&& (65535 : Int32)) = p ∧ 0 ≤ p.toInt ∧ p.toInt ≤ 65535 := ⟨_, rfl, (by have h := c_and x5 (65535 : Int32) (by decide); have : (65535 : Int32).toInt = 65535 := (by decide); omega)⟩
   refine r_iand H 86 p213 at_85 ep213 ?_
   refine r_i2c H 87 p213 at_86 (i2c_id (by have := rp213; omega)) ?_
   have z214 := Nat.le_trans z189 K192.1
   refine r_static (argsL := [.int p213]) (rest := []) (W := 0) H 90 at_87 (tw24 hw) (tw25 hw) (tw4 hw) (tw26 hw) (lenOf pd_6 rfl) (rm_valueOf_3 hw Ts p213 cs hh210 h0.size (nlt Zf Z0) z214 rp213 S_cs S__assertionsDisabled S_HI_BYTE_SHIFT S_LO_BYTE_SHIFT hcs) ?_
   rintro _ hh241 (⟨b215, b216, kc217, rfl, c219, K218, g220, g221, g222, q223, q224, q225, q226, q227⟩ | ⟨b228, b229, kc230, rfl, c232, K231, g233, g234, g235, q236, q237, q238, q239, q240⟩)
   ·
    refine r_astore H 92 #[vI x0, vI x1, vI x2, vI x3, vI x4, vI x5, vI 2, vR b176, vR b185, vR b215, .unset] at_90 ?_
    refine r_aload H 94 at_92 ?_
    refine r_aload H 96 at_94 ?_
    have q242 := (q196.keep K218)
    have q243 := (q197.keep K218 nin0)
    have q244 := (q198.keep K218 nin0)
    have q245 := (q199.keep K218 nin0)
    have z246 := Nat.le_trans z214 K218.1
    refine r_static (argsL := [.ref b215, .ref b185]) (rest := []) (W := 0) H 99 at_96 (tw39 hw) (tw40 hw) (tw41 hw) (tw42 hw) (lenOf pd_14 rfl) (rm_require_78 hw Ts b215 b185 b190 p177 p181 kc191 cs hh241 h0.size (nlt Zf Z0) z246 q242 q243 q244 q245 rr211 rr212 xp177_10 xp177_13 xp181_10 xp181_13 S_cs hcs) ?_
    rintro _ _ ⟨rfl, rfl⟩
    refine r_astore H 101 #[vI x0, vI x1, vI x2, vI x3, vI x4, vI x5, vI 2, vR b176, vR b185, vR b215, vR b185] at_99 ?_
    refine r_aload H 103 at_101 ?_
    refine r_aload H 105 at_103 ?_
    refine r_acmp H 108 true at_105 (decide_eq_true rfl) ?_
    refine r_aload H 110 at_108 ?_
    refine r_virtual (z := (⟨"java/lang/String", "length", "()I"⟩ : MethodName)) (a := b185) (argsL := []) (rest := []) (W := 0) H 113 at_110 (tw81 hw) (tw59 hw) (nf_sel (tw61 hw)) (tw61 hw) (tw60 hw) (tw4 hw) (tw62 hw) q242 (lenOf pd_9 rfl) (rm_length_81 hw Ts b185 b190 (cB8 p177) (cB8 p181) kc191 cs hh241 h0.size (nlt Zf Z0) z246 q244 q245 q242 q243 S_cs hcs) ?_
    rintro _ _ ⟨rfl, rfl⟩
    refine r_iload H 115 at_113 ?_
    refine r_icmpneF H 118 at_115 rfl (by decide) ?_
    refine r_iconst H 119 1 at_118 ?_
    refine r_goto H 123 at_119 ?_
    exact r_nreturn (1 : Int32) H at_123 (by decide) Z0 (fun _ t => (.tail _ t)) rfl
   ·
    refine r_astore H 92 #[vI x0, vI x1, vI x2, vI x3, vI x4, vI x5, vI 2, vR b176, vR b185, vR b228, .unset] at_90 ?_
    refine r_aload H 94 at_92 ?_
    refine r_aload H 96 at_94 ?_
    have q249 := (q196.keep K231)
    have q250 := (q197.keep K231 nin0)
    have q251 := (q198.keep K231 nin0)
    have q252 := (q199.keep K231 nin0)
    have z253 := Nat.le_trans z214 K231.1
    refine r_static (argsL := [.ref b228, .ref b185]) (rest := []) (W := 0) H 99 at_96 (tw39 hw) (tw40 hw) (tw41 hw) (tw42 hw) (lenOf pd_14 rfl) (rm_require_78 hw Ts b228 b185 b190 p177 p181 kc191 cs hh241 h0.size (nlt Zf Z0) z253 q249 q250 q251 q252 rr211 rr212 xp177_10 xp177_13 xp181_10 xp181_13 S_cs hcs) ?_
    rintro _ _ ⟨rfl, rfl⟩
    refine r_astore H 101 #[vI x0, vI x1, vI x2, vI x3, vI x4, vI x5, vI 2, vR b176, vR b185, vR b228, vR b185] at_99 ?_
    refine r_aload H 103 at_101 ?_
    refine r_aload H 105 at_103 ?_
    refine r_acmp H 108 true at_105 (decide_eq_true rfl) ?_
    refine r_aload H 110 at_108 ?_
    refine r_virtual (z := (⟨"java/lang/String", "length", "()I"⟩ : MethodName)) (a := b185) (argsL := []) (rest := []) (W := 0) H 113 at_110 (tw81 hw) (tw59 hw) (nf_sel (tw61 hw)) (tw61 hw) (tw60 hw) (tw4 hw) (tw62 hw) q249 (lenOf pd_9 rfl) (rm_length_81 hw Ts b185 b190 (cB8 p177) (cB8 p181) kc191 cs hh241 h0.size (nlt Zf Z0) z253 q251 q252 q249 q250 S_cs hcs) ?_
    rintro _ _ ⟨rfl, rfl⟩
    refine r_iload H 115 at_113 ?_
    refine r_icmpneF H 118 at_115 rfl (by decide) ?_
    refine r_iconst H 119 1 at_118 ?_
    refine r_goto H 123 at_119 ?_
    exact r_nreturn (1 : Int32) H at_123 (by decide) Z0 (fun _ t => (.tail _ t)) rfl
  ·
   refine r_astore H 81 #[vI x0, vI x1, vI x2, vI x3, vI x4, vI x5, vI 2, vR b176, vR b185, .unset, .unset] at_79 ?_
   refine r_iload H 83 at_81 ?_
   refine r_ldcI H 85 at_83 (tw23 hw) ?_
   obtain ⟨p256, ep256, rp256⟩ : ∃ p : Int32, (x5 &&& (65535 : Int32)) = p ∧ 0 ≤ p.toInt ∧ p.toInt ≤ 65535 := ⟨_, rfl, (by have h := c_and x5 (65535 : Int32) (by decide); have : (65535 : Int32).toInt = 65535 := (by decide); omega)⟩
   refine r_iand H 86 p256 at_85 ep256 ?_
   refine r_i2c H 87 p256 at_86 (i2c_id (by have := rp256; omega)) ?_
   have z257 := Nat.le_trans z189 K203.1
   refine r_static (argsL := [.int p256]) (rest := []) (W := 0) H 90 at_87 (tw24 hw) (tw25 hw) (tw4 hw) (tw26 hw) (lenOf pd_6 rfl) (rm_valueOf_3 hw Ts p256 cs hh210 h0.size (nlt Zf Z0) z257 rp256 S_cs S__assertionsDisabled S_HI_BYTE_SHIFT S_LO_BYTE_SHIFT hcs) ?_
   rintro _ hh284 (⟨b258, b259, kc260, rfl, c262, K261, g263, g264, g265, q266, q267, q268, q269, q270⟩ | ⟨b271, b272, kc273, rfl, c275, K274, g276, g277, g278, q279, q280, q281, q282, q283⟩)
   ·
    refine r_astore H 92 #[vI x0, vI x1, vI x2, vI x3, vI x4, vI x5, vI 2, vR b176, vR b185, vR b258, .unset] at_90 ?_
    refine r_aload H 94 at_92 ?_
    refine r_aload H 96 at_94 ?_
    have q285 := (q205.keep K261)
    have q286 := (q206.keep K261 nin0)
    have q287 := (q207.keep K261 nin0)
    have q288 := (q208.keep K261 nin0)
    have z289 := Nat.le_trans z257 K261.1
    refine r_static (argsL := [.ref b258, .ref b185]) (rest := []) (W := 0) H 99 at_96 (tw39 hw) (tw40 hw) (tw41 hw) (tw42 hw) (lenOf pd_14 rfl) (rm_require_89 hw Ts b258 b185 b201 p177 p181 kc202 cs sio hh284 h0.size (nlt Zf Z0) z289 q285 q286 q287 q288 rp177 rp181 xp177_10 xp177_13 xp181_10 xp181_13 S_cs S_sio hsio S__assertionsDisabled S_HI_BYTE_SHIFT S_LO_BYTE_SHIFT hcs) ?_
    rintro _ _ ⟨rfl, rfl⟩
    refine r_astore H 101 #[vI x0, vI x1, vI x2, vI x3, vI x4, vI x5, vI 2, vR b176, vR b185, vR b258, vR b185] at_99 ?_
    refine r_aload H 103 at_101 ?_
    refine r_aload H 105 at_103 ?_
    refine r_acmp H 108 true at_105 (decide_eq_true rfl) ?_
    refine r_aload H 110 at_108 ?_
    refine r_virtual (z := (⟨"java/lang/String", "length", "()I"⟩ : MethodName)) (a := b185) (argsL := []) (rest := []) (W := 0) H 113 at_110 (tw81 hw) (tw59 hw) (nf_sel (tw61 hw)) (tw61 hw) (tw60 hw) (tw4 hw) (tw62 hw) q285 (lenOf pd_9 rfl) (rm_length_92 hw Ts b185 b201 (cL8 p177) (cH8 p177) (cL8 p181) (cH8 p181) kc202 cs hh284 h0.size (nlt Zf Z0) z289 q287 q288 q285 q286 S_cs hcs) ?_
    rintro _ _ ⟨rfl, rfl⟩
    refine r_iload H 115 at_113 ?_
    refine r_icmpneF H 118 at_115 rfl (by decide) ?_
    refine r_iconst H 119 1 at_118 ?_
    refine r_goto H 123 at_119 ?_
    exact r_nreturn (1 : Int32) H at_123 (by decide) Z0 (fun _ t => (.tail _ t)) rfl
   ·
    refine r_astore H 92 #[vI x0, vI x1, vI x2, vI x3, vI x4, vI x5, vI 2, vR b176, vR b185, vR b271, .unset] at_90 ?_
    refine r_aload H 94 at_92 ?_
    refine r_aload H 96 at_94 ?_
    have q292 := (q205.keep K274)
    have q293 := (q206.keep K274 nin0)
    have q294 := (q207.keep K274 nin0)
    have q295 := (q208.keep K274 nin0)
    have z296 := Nat.le_trans z257 K274.1
    refine r_static (argsL := [.ref b271, .ref b185]) (rest := []) (W := 0) H 99 at_96 (tw39 hw) (tw40 hw) (tw41 hw) (tw42 hw) (lenOf pd_14 rfl) (rm_require_89 hw Ts b271 b185 b201 p177 p181 kc202 cs sio hh284 h0.size (nlt Zf Z0) z296 q292 q293 q294 q295 rp177 rp181 xp177_10 xp177_13 xp181_10 xp181_13 S_cs S_sio hsio S__assertionsDisabled S_HI_BYTE_SHIFT S_LO_BYTE_SHIFT hcs) ?_
    rintro _ _ ⟨rfl, rfl⟩
    refine r_astore H 101 #[vI x0, vI x1, vI x2, vI x3, vI x4, vI x5, vI 2, vR b176, vR b185, vR b271, vR b185] at_99 ?_
    refine r_aload H 103 at_101 ?_
    refine r_aload H 105 at_103 ?_
    refine r_acmp H 108 true at_105 (decide_eq_true rfl) ?_
    refine r_aload H 110 at_108 ?_
    refine r_virtual (z := (⟨"java/lang/String", "length", "()I"⟩ : MethodName)) (a := b185) (argsL := []) (rest := []) (W := 0) H 113 at_110 (tw81 hw) (tw59 hw) (nf_sel (tw61 hw)) (tw61 hw) (tw60 hw) (tw4 hw) (tw62 hw) q292 (lenOf pd_9 rfl) (rm_length_92 hw Ts b185 b201 (cL8 p177) (cH8 p177) (cL8 p181) (cH8 p181) kc202 cs hh284 h0.size (nlt Zf Z0) z296 q294 q295 q292 q293 S_cs hcs) ?_
    rintro _ _ ⟨rfl, rfl⟩
    refine r_iload H 115 at_113 ?_
    refine r_icmpneF H 118 at_115 rfl (by decide) ?_
    refine r_iconst H 119 1 at_118 ?_
    refine r_goto H 123 at_119 ?_
    exact r_nreturn (1 : Int32) H at_123 (by decide) Z0 (fun _ t => (.tail _ t)) rfl
 ·
  subst c3
  refine r_newP H 12 "[C" 3 at_10 (tw1 hw) ?_
  intro h299 b299 kc299 g299 l299 K299 E299 A299
  change Ar Z h299 b299 kc299 .char [.int 0, .int 0, .int 0] at A299
  refine r_astore H 14 #[vI x0, vI x1, vI x2, vI x3, vI x4, vI x5, vI 3, vR b299, .unset, .unset, .unset] at_12 ?_
  refine r_iload H 16 at_14 ?_
  refine r_ifleF H 19 at_16 ?_
  refine r_aload H 21 at_19 ?_
  refine r_iconst H 22 0 at_21 ?_
  refine r_iloadN H 23 at_22 ?_
  refine r_static (argsL := [.int x1]) (rest := [.int 0, .ref b299]) (W := 2) H 26 at_23 (tw82 hw) (tw83 hw) (tw84 hw) (tw85 hw) (lenOf pd_15 rfl) (rm_safe_24 hw Ts x1 h299 h0.size (nlt Zf Z0) K299.1) ?_
  rintro _ _ ⟨p300, rfl, rfl, ep300, rp300, xp300_10, xp300_13⟩
  refine r_castore H 27 p300 at_26 A299 (nlt nlr (Nat.le_of_eq g299.symm)) (nar_char_id (by have := rp300; omega)) ?_
  intro h302 K302 A302
  change Ar Z h302 b299 kc299 .char [.int p300, .int 0, .int 0] at A302
  refine r_iload H 29 at_27 ?_
  refine r_iconst H 30 1 at_29 ?_
  refine r_icmpleF H 33 at_30 rfl (by decide) ?_
  refine r_aload H 35 at_33 ?_
  refine r_iconst H 36 1 at_35 ?_
  refine r_iloadN H 37 at_36 ?_
  have z303 := Nat.le_trans K299.1 K302.1
  refine r_static (argsL := [.int x2]) (rest := [.int 1, .ref b299]) (W := 2) H 40 at_37 (tw82 hw) (tw83 hw) (tw84 hw) (tw85 hw) (lenOf pd_15 rfl) (rm_safe_24 hw Ts x2 h302 h0.size (nlt Zf Z0) z303) ?_
  rintro _ _ ⟨p304, rfl, rfl, ep304, rp304, xp304_10, xp304_13⟩
  refine r_castore H 41 p304 at_40 A302 (nlt nlr (Nat.le_of_eq g299.symm)) (nar_char_id (by have := rp304; omega)) ?_
  intro h306 K306 A306
  have q307 := (E299.keep K302)
  change Ar Z h306 b299 kc299 .char [.int p300, .int p304, .int 0] at A306
  refine r_iload H 43 at_41 ?_
  refine r_iconst H 44 2 at_43 ?_
  refine r_icmpleF H 47 at_44 rfl (by decide) ?_
  refine r_aload H 49 at_47 ?_
  refine r_iconst H 50 2 at_49 ?_
  refine r_iloadN H 51 at_50 ?_
  have z308 := Nat.le_trans z303 K306.1
  refine r_static (argsL := [.int x3]) (rest := [.int 2, .ref b299]) (W := 2) H 54 at_51 (tw82 hw) (tw83 hw) (tw84 hw) (tw85 hw) (lenOf pd_15 rfl) (rm_safe_24 hw Ts x3 h306 h0.size (nlt Zf Z0) z308) ?_
  rintro _ _ ⟨p309, rfl, rfl, ep309, rp309, xp309_10, xp309_13⟩
  refine r_castore H 55 p309 at_54 A306 (nlt nlr (Nat.le_of_eq g299.symm)) (nar_char_id (by have := rp309; omega)) ?_
  intro h311 K311 A311
  have q312 := (q307.keep K306)
  change Ar Z h311 b299 kc299 .char [.int p300, .int p304, .int p309] at A311
  refine r_iload H 57 at_55 ?_
  refine r_iconst H 58 3 at_57 ?_
  refine r_icmpleT H 70 at_58 (by decide) (by decide) (by decide) ?_
  refine r_new H 73 at_70 (tw2 hw) (tw3 hw) (tw4 hw) ?_
  intro h313 b313 g313 l313 K313 E313 D313
  refine r_dup H 74 at_73 ?_
  refine r_aload H 76 at_74 ?_
  have z314 := Nat.le_trans z308 K311.1
  have q315 := (A311.keep K313 nin0)
  have q316 := ((q312.keep K311).keep K313)
  have z317 := Nat.le_trans z314 K313.1
  refine r_special (a := b313) (argsL := [.ref b299]) (rest := [.ref b313]) (W := 1) H 79 at_76 (tw5 hw) (tw6 hw) (tw4 hw) (tw7 hw) (lenOf pd_1 rfl) (rm_init_105 hw Ts b313 b299 p300 p304 p309 kc299 cs h313 h0.size (nlt Zf Z0) z317 q315 (nlt z314 (Nat.le_of_eq g313.symm)) q316 E313 (show Fld Z h313 b313 "java/lang/String" "coder" "B" (.int 0) from D313 (Or.inr (tw18 hw)) (ty := .byte) (by decide)) (show Fld Z h313 b313 "java/lang/String" "value" "[B" .null from D313 (Or.inr (tw17 hw)) (ty := (.array .byte)) (by decide)) rp300 rp304 rp309 S_cs S__assertionsDisabled S_HI_BYTE_SHIFT S_LO_BYTE_SHIFT hcs) ?_
  rintro _ hh339 (⟨b318, kc319, rfl, c321, c322, c323, K320, g324, q325, q326, q327, q328, q329⟩ | ⟨b330, kc331, rfl, K332, g333, q334, q335, q336, q337, q338⟩)
  ·
   have rr340 : 0 ≤ p300.toInt ∧ p300.toInt ≤ 255 := by have := rp300; have : (255 : Int32).toInt = 255 := (by decide); have hc_ := c321; simp only [Int32.lt_iff_toInt_lt, ← Int32.toInt_inj] at hc_; omega
   have rr341 : 0 ≤ p304.toInt ∧ p304.toInt ≤ 255 := by have := rp304; have : (255 : Int32).toInt = 255 := (by decide); have hc_ := c322; simp only [Int32.lt_iff_toInt_lt, ← Int32.toInt_inj] at hc_; omega
   have rr342 : 0 ≤ p309.toInt ∧ p309.toInt ≤ 255 := by have := rp309; have : (255 : Int32).toInt = 255 := (by decide); have hc_ := c323; simp only [Int32.lt_iff_toInt_lt, ← Int32.toInt_inj] at hc_; omega
   refine r_astore H 81 #[vI x0, vI x1, vI x2, vI x3, vI x4, vI x5, vI 3, vR b299, vR b313, .unset, .unset] at_79 ?_
   refine r_iload H 83 at_81 ?_
   refine r_ldcI H 85 at_83 (tw23 hw) ?_
   obtain ⟨p343, ep343, rp343⟩ : ∃ p : Int32, (x5 &&& (65535 : Int32)) = p ∧ 0 ≤ p.toInt ∧ p.toInt ≤ 65535 := ⟨_, rfl, (by have h := c_and x5 (65535 : Int32) (by decide); have : (65535 : Int32).toInt = 65535 := (by decide); omega)⟩
   refine r_iand H 86 p343 at_85 ep343 ?_
   refine r_i2c H 87 p343 at_86 (i2c_id (by have := rp343; omega)) ?_
   have z344 := Nat.le_trans z317 K320.1
   refine r_static (argsL := [.int p343]) (rest := []) (W := 0) H 90 at_87 (tw24 hw) (tw25 hw) (tw4 hw) (tw26 hw) (lenOf pd_6 rfl) (rm_valueOf_3 hw Ts p343 cs hh339 h0.size (nlt Zf Z0) z344 rp343 S_cs S__assertionsDisabled S_HI_BYTE_SHIFT S_LO_BYTE_SHIFT hcs) ?_
   rintro _ hh371 (⟨b345, b346, kc347, rfl, c349, K348, g350, g351, g352, q353, q354, q355, q356, q357⟩ | ⟨b358, b359, kc360, rfl, c362, K361, g363, g364, g365, q366, q367, q368, q369, q370⟩)
   ·
    refine r_astore H 92 #[vI x0, vI x1, vI x2, vI x3, vI x4, vI x5, vI 3, vR b299, vR b313, vR b345, .unset] at_90 ?_
    refine r_aload H 94 at_92 ?_
    refine r_aload H 96 at_94 ?_
    have q372 := (q325.keep K348)
    have q373 := (q326.keep K348 nin0)
    have q374 := (q327.keep K348 nin0)
    have q375 := (q328.keep K348 nin0)
    have z376 := Nat.le_trans z344 K348.1
    refine r_static (argsL := [.ref b345, .ref b313]) (rest := []) (W := 0) H 99 at_96 (tw39 hw) (tw40 hw) (tw41 hw) (tw42 hw) (lenOf pd_14 rfl) (rm_require_122 hw Ts b345 b313 b318 p300 p304 p309 kc319 cs hh371 h0.size (nlt Zf Z0) z376 q372 q373 q374 q375 rr340 rr341 rr342 xp300_10 xp300_13 xp304_10 xp304_13 xp309_10 xp309_13 S_cs hcs) ?_
    rintro _ _ ⟨rfl, rfl⟩
    refine r_astore H 101 #[vI x0, vI x1, vI x2, vI x3, vI x4, vI x5, vI 3, vR b299, vR b313, vR b345, vR b313] at_99 ?_
    refine r_aload H 103 at_101 ?_
    refine r_aload H 105 at_103 ?_
    refine r_acmp H 108 true at_105 (decide_eq_true rfl) ?_
    refine r_aload H 110 at_108 ?_
    refine r_virtual (z := (⟨"java/lang/String", "length", "()I"⟩ : MethodName)) (a := b313) (argsL := []) (rest := []) (W := 0) H 113 at_110 (tw81 hw) (tw59 hw) (nf_sel (tw61 hw)) (tw61 hw) (tw60 hw) (tw4 hw) (tw62 hw) q372 (lenOf pd_9 rfl) (rm_length_125 hw Ts b313 b318 (cB8 p300) (cB8 p304) (cB8 p309) kc319 cs hh371 h0.size (nlt Zf Z0) z376 q374 q375 q372 q373 S_cs hcs) ?_
    rintro _ _ ⟨rfl, rfl⟩
    refine r_iload H 115 at_113 ?_
    refine r_icmpneF H 118 at_115 rfl (by decide) ?_
    refine r_iconst H 119 1 at_118 ?_
    refine r_goto H 123 at_119 ?_
    exact r_nreturn (1 : Int32) H at_123 (by decide) Z0 (fun _ t => (.tail _ t)) rfl
   ·
    refine r_astore H 92 #[vI x0, vI x1, vI x2, vI x3, vI x4, vI x5, vI 3, vR b299, vR b313, vR b358, .unset] at_90 ?_
    refine r_aload H 94 at_92 ?_
    refine r_aload H 96 at_94 ?_
    have q379 := (q325.keep K361)
    have q380 := (q326.keep K361 nin0)
    have q381 := (q327.keep K361 nin0)
    have q382 := (q328.keep K361 nin0)
    have z383 := Nat.le_trans z344 K361.1
    refine r_static (argsL := [.ref b358, .ref b313]) (rest := []) (W := 0) H 99 at_96 (tw39 hw) (tw40 hw) (tw41 hw) (tw42 hw) (lenOf pd_14 rfl) (rm_require_122 hw Ts b358 b313 b318 p300 p304 p309 kc319 cs hh371 h0.size (nlt Zf Z0) z383 q379 q380 q381 q382 rr340 rr341 rr342 xp300_10 xp300_13 xp304_10 xp304_13 xp309_10 xp309_13 S_cs hcs) ?_
    rintro _ _ ⟨rfl, rfl⟩
    refine r_astore H 101 #[vI x0, vI x1, vI x2, vI x3, vI x4, vI x5, vI 3, vR b299, vR b313, vR b358, vR b313] at_99 ?_
    refine r_aload H 103 at_101 ?_
    refine r_aload H 105 at_103 ?_
    refine r_acmp H 108 true at_105 (decide_eq_true rfl) ?_
    refine r_aload H 110 at_108 ?_
    refine r_virtual (z := (⟨"java/lang/String", "length", "()I"⟩ : MethodName)) (a := b313) (argsL := []) (rest := []) (W := 0) H 113 at_110 (tw81 hw) (tw59 hw) (nf_sel (tw61 hw)) (tw61 hw) (tw60 hw) (tw4 hw) (tw62 hw) q379 (lenOf pd_9 rfl) (rm_length_125 hw Ts b313 b318 (cB8 p300) (cB8 p304) (cB8 p309) kc319 cs hh371 h0.size (nlt Zf Z0) z383 q381 q382 q379 q380 S_cs hcs) ?_
    rintro _ _ ⟨rfl, rfl⟩
    refine r_iload H 115 at_113 ?_
    refine r_icmpneF H 118 at_115 rfl (by decide) ?_
    refine r_iconst H 119 1 at_118 ?_
    refine r_goto H 123 at_119 ?_
    exact r_nreturn (1 : Int32) H at_123 (by decide) Z0 (fun _ t => (.tail _ t)) rfl
  ·
   refine r_astore H 81 #[vI x0, vI x1, vI x2, vI x3, vI x4, vI x5, vI 3, vR b299, vR b313, .unset, .unset] at_79 ?_
   refine r_iload H 83 at_81 ?_
   refine r_ldcI H 85 at_83 (tw23 hw) ?_
   obtain ⟨p386, ep386, rp386⟩ : ∃ p : Int32, (x5 &&& (65535 : Int32)) = p ∧ 0 ≤ p.toInt ∧ p.toInt ≤ 65535 := ⟨_, rfl, (by have h := c_and x5 (65535 : Int32) (by decide); have : (65535 : Int32).toInt = 65535 := (by decide); omega)⟩
   refine r_iand H 86 p386 at_85 ep386 ?_
   refine r_i2c H 87 p386 at_86 (i2c_id (by have := rp386; omega)) ?_
   have z387 := Nat.le_trans z317 K332.1
   refine r_static (argsL := [.int p386]) (rest := []) (W := 0) H 90 at_87 (tw24 hw) (tw25 hw) (tw4 hw) (tw26 hw) (lenOf pd_6 rfl) (rm_valueOf_3 hw Ts p386 cs hh339 h0.size (nlt Zf Z0) z387 rp386 S_cs S__assertionsDisabled S_HI_BYTE_SHIFT S_LO_BYTE_SHIFT hcs) ?_
   rintro _ hh414 (⟨b388, b389, kc390, rfl, c392, K391, g393, g394, g395, q396, q397, q398, q399, q400⟩ | ⟨b401, b402, kc403, rfl, c405, K404, g406, g407, g408, q409, q410, q411, q412, q413⟩)
   ·
    refine r_astore H 92 #[vI x0, vI x1, vI x2, vI x3, vI x4, vI x5, vI 3, vR b299, vR b313, vR b388, .unset] at_90 ?_
    refine r_aload H 94 at_92 ?_
    refine r_aload H 96 at_94 ?_
    have q415 := (q334.keep K391)
    have q416 := (q335.keep K391 nin0)
    have q417 := (q336.keep K391 nin0)
    have q418 := (q337.keep K391 nin0)
    have z419 := Nat.le_trans z387 K391.1
    refine r_static (argsL := [.ref b388, .ref b313]) (rest := []) (W := 0) H 99 at_96 (tw39 hw) (tw40 hw) (tw41 hw) (tw42 hw) (lenOf pd_14 rfl) (rm_require_133 hw Ts b388 b313 b330 p300 p304 p309 kc331 cs sio hh414 h0.size (nlt Zf Z0) z419 q415 q416 q417 q418 rp300 rp304 rp309 xp300_10 xp300_13 xp304_10 xp304_13 xp309_10 xp309_13 S_cs S_sio hsio S__assertionsDisabled S_HI_BYTE_SHIFT S_LO_BYTE_SHIFT hcs) ?_
    rintro _ _ ⟨rfl, rfl⟩
    refine r_astore H 101 #[vI x0, vI x1, vI x2, vI x3, vI x4, vI x5, vI 3, vR b299, vR b313, vR b388, vR b313] at_99 ?_
    refine r_aload H 103 at_101 ?_
    refine r_aload H 105 at_103 ?_
    refine r_acmp H 108 true at_105 (decide_eq_true rfl) ?_
    refine r_aload H 110 at_108 ?_
    refine r_virtual (z := (⟨"java/lang/String", "length", "()I"⟩ : MethodName)) (a := b313) (argsL := []) (rest := []) (W := 0) H 113 at_110 (tw81 hw) (tw59 hw) (nf_sel (tw61 hw)) (tw61 hw) (tw60 hw) (tw4 hw) (tw62 hw) q415 (lenOf pd_9 rfl) (rm_length_136 hw Ts b313 b330 (cL8 p300) (cH8 p300) (cL8 p304) (cH8 p304) (cL8 p309) (cH8 p309) kc331 cs hh414 h0.size (nlt Zf Z0) z419 q417 q418 q415 q416 S_cs hcs) ?_
    rintro _ _ ⟨rfl, rfl⟩
    refine r_iload H 115 at_113 ?_
    refine r_icmpneF H 118 at_115 rfl (by decide) ?_
    refine r_iconst H 119 1 at_118 ?_
    refine r_goto H 123 at_119 ?_
    exact r_nreturn (1 : Int32) H at_123 (by decide) Z0 (fun _ t => (.tail _ t)) rfl
   ·
    refine r_astore H 92 #[vI x0, vI x1, vI x2, vI x3, vI x4, vI x5, vI 3, vR b299, vR b313, vR b401, .unset] at_90 ?_
    refine r_aload H 94 at_92 ?_
    refine r_aload H 96 at_94 ?_
    have q422 := (q334.keep K404)
    have q423 := (q335.keep K404 nin0)
    have q424 := (q336.keep K404 nin0)
    have q425 := (q337.keep K404 nin0)
    have z426 := Nat.le_trans z387 K404.1
    refine r_static (argsL := [.ref b401, .ref b313]) (rest := []) (W := 0) H 99 at_96 (tw39 hw) (tw40 hw) (tw41 hw) (tw42 hw) (lenOf pd_14 rfl) (rm_require_133 hw Ts b401 b313 b330 p300 p304 p309 kc331 cs sio hh414 h0.size (nlt Zf Z0) z426 q422 q423 q424 q425 rp300 rp304 rp309 xp300_10 xp300_13 xp304_10 xp304_13 xp309_10 xp309_13 S_cs S_sio hsio S__assertionsDisabled S_HI_BYTE_SHIFT S_LO_BYTE_SHIFT hcs) ?_
    rintro _ _ ⟨rfl, rfl⟩
    refine r_astore H 101 #[vI x0, vI x1, vI x2, vI x3, vI x4, vI x5, vI 3, vR b299, vR b313, vR b401, vR b313] at_99 ?_
    refine r_aload H 103 at_101 ?_
    refine r_aload H 105 at_103 ?_
    refine r_acmp H 108 true at_105 (decide_eq_true rfl) ?_
    refine r_aload H 110 at_108 ?_
    refine r_virtual (z := (⟨"java/lang/String", "length", "()I"⟩ : MethodName)) (a := b313) (argsL := []) (rest := []) (W := 0) H 113 at_110 (tw81 hw) (tw59 hw) (nf_sel (tw61 hw)) (tw61 hw) (tw60 hw) (tw4 hw) (tw62 hw) q422 (lenOf pd_9 rfl) (rm_length_136 hw Ts b313 b330 (cL8 p300) (cH8 p300) (cL8 p304) (cH8 p304) (cL8 p309) (cH8 p309) kc331 cs hh414 h0.size (nlt Zf Z0) z426 q424 q425 q422 q423 S_cs hcs) ?_
    rintro _ _ ⟨rfl, rfl⟩
    refine r_iload H 115 at_113 ?_
    refine r_icmpneF H 118 at_115 rfl (by decide) ?_
    refine r_iconst H 119 1 at_118 ?_
    refine r_goto H 123 at_119 ?_
    exact r_nreturn (1 : Int32) H at_123 (by decide) Z0 (fun _ t => (.tail _ t)) rfl
 ·
  subst c3
  refine r_newP H 12 "[C" 4 at_10 (tw1 hw) ?_
  intro h429 b429 kc429 g429 l429 K429 E429 A429
  change Ar Z h429 b429 kc429 .char [.int 0, .int 0, .int 0, .int 0] at A429
  refine r_astore H 14 #[vI x0, vI x1, vI x2, vI x3, vI x4, vI x5, vI 4, vR b429, .unset, .unset, .unset] at_12 ?_
  refine r_iload H 16 at_14 ?_
  refine r_ifleF H 19 at_16 ?_
  refine r_aload H 21 at_19 ?_
  refine r_iconst H 22 0 at_21 ?_
  refine r_iloadN H 23 at_22 ?_
  refine r_static (argsL := [.int x1]) (rest := [.int 0, .ref b429]) (W := 2) H 26 at_23 (tw82 hw) (tw83 hw) (tw84 hw) (tw85 hw) (lenOf pd_15 rfl) (rm_safe_24 hw Ts x1 h429 h0.size (nlt Zf Z0) K429.1) ?_
  rintro _ _ ⟨p430, rfl, rfl, ep430, rp430, xp430_10, xp430_13⟩
  refine r_castore H 27 p430 at_26 A429 (nlt nlr (Nat.le_of_eq g429.symm)) (nar_char_id (by have := rp430; omega)) ?_
  intro h432 K432 A432
  change Ar Z h432 b429 kc429 .char [.int p430, .int 0, .int 0, .int 0] at A432
  refine r_iload H 29 at_27 ?_
  refine r_iconst H 30 1 at_29 ?_
  refine r_icmpleF H 33 at_30 rfl (by decide) ?_
  refine r_aload H 35 at_33 ?_
  refine r_iconst H 36 1 at_35 ?_
  refine r_iloadN H 37 at_36 ?_
  have z433 := Nat.le_trans K429.1 K432.1
  refine r_static (argsL := [.int x2]) (rest := [.int 1, .ref b429]) (W := 2) H 40 at_37 (tw82 hw) (tw83 hw) (tw84 hw) (tw85 hw) (lenOf pd_15 rfl) (rm_safe_24 hw Ts x2 h432 h0.size (nlt Zf Z0) z433) ?_
  rintro _ _ ⟨p434, rfl, rfl, ep434, rp434, xp434_10, xp434_13⟩
  refine r_castore H 41 p434 at_40 A432 (nlt nlr (Nat.le_of_eq g429.symm)) (nar_char_id (by have := rp434; omega)) ?_
  intro h436 K436 A436
  have q437 := (E429.keep K432)
  change Ar Z h436 b429 kc429 .char [.int p430, .int p434, .int 0, .int 0] at A436
  refine r_iload H 43 at_41 ?_
  refine r_iconst H 44 2 at_43 ?_
  refine r_icmpleF H 47 at_44 rfl (by decide) ?_
  refine r_aload H 49 at_47 ?_
  refine r_iconst H 50 2 at_49 ?_
  refine r_iloadN H 51 at_50 ?_
  have z438 := Nat.le_trans z433 K436.1
  refine r_static (argsL := [.int x3]) (rest := [.int 2, .ref b429]) (W := 2) H 54 at_51 (tw82 hw) (tw83 hw) (tw84 hw) (tw85 hw) (lenOf pd_15 rfl) (rm_safe_24 hw Ts x3 h436 h0.size (nlt Zf Z0) z438) ?_
  rintro _ _ ⟨p439, rfl, rfl, ep439, rp439, xp439_10, xp439_13⟩
  refine r_castore H 55 p439 at_54 A436 (nlt nlr (Nat.le_of_eq g429.symm)) (nar_char_id (by have := rp439; omega)) ?_
  intro h441 K441 A441
  have q442 := (q437.keep K436)
  change Ar Z h441 b429 kc429 .char [.int p430, .int p434, .int p439, .int 0] at A441
  refine r_iload H 57 at_55 ?_
  refine r_iconst H 58 3 at_57 ?_
  refine r_icmpleF H 61 at_58 rfl (by decide) ?_
  refine r_aload H 63 at_61 ?_
  refine r_iconst H 64 3 at_63 ?_
  refine r_iload H 66 at_64 ?_
  have z443 := Nat.le_trans z438 K441.1
  refine r_static (argsL := [.int x4]) (rest := [.int 3, .ref b429]) (W := 2) H 69 at_66 (tw82 hw) (tw83 hw) (tw84 hw) (tw85 hw) (lenOf pd_15 rfl) (rm_safe_24 hw Ts x4 h441 h0.size (nlt Zf Z0) z443) ?_
  rintro _ _ ⟨p444, rfl, rfl, ep444, rp444, xp444_10, xp444_13⟩
  refine r_castore H 70 p444 at_69 A441 (nlt nlr (Nat.le_of_eq g429.symm)) (nar_char_id (by have := rp444; omega)) ?_
  intro h446 K446 A446
  have q447 := (q442.keep K441)
  change Ar Z h446 b429 kc429 .char [.int p430, .int p434, .int p439, .int p444] at A446
  refine r_new H 73 at_70 (tw2 hw) (tw3 hw) (tw4 hw) ?_
  intro h448 b448 g448 l448 K448 E448 D448
  refine r_dup H 74 at_73 ?_
  refine r_aload H 76 at_74 ?_
  have z449 := Nat.le_trans z443 K446.1
  have q450 := (A446.keep K448 nin0)
  have q451 := ((q447.keep K446).keep K448)
  have z452 := Nat.le_trans z449 K448.1
  refine r_special (a := b448) (argsL := [.ref b429]) (rest := [.ref b448]) (W := 1) H 79 at_76 (tw5 hw) (tw6 hw) (tw4 hw) (tw7 hw) (lenOf pd_1 rfl) (rm_init_149 hw Ts b448 b429 p430 p434 p439 p444 kc429 cs h448 h0.size (nlt Zf Z0) z452 q450 (nlt z449 (Nat.le_of_eq g448.symm)) q451 E448 (show Fld Z h448 b448 "java/lang/String" "coder" "B" (.int 0) from D448 (Or.inr (tw18 hw)) (ty := .byte) (by decide)) (show Fld Z h448 b448 "java/lang/String" "value" "[B" .null from D448 (Or.inr (tw17 hw)) (ty := (.array .byte)) (by decide)) rp430 rp434 rp439 rp444 S_cs S__assertionsDisabled S_HI_BYTE_SHIFT S_LO_BYTE_SHIFT hcs) ?_
  rintro _ hh475 (⟨b453, kc454, rfl, c456, c457, c458, c459, K455, g460, q461, q462, q463, q464, q465⟩ | ⟨b466, kc467, rfl, K468, g469, q470, q471, q472, q473, q474⟩)
  ·
   have rr476 : 0 ≤ p430.toInt ∧ p430.toInt ≤ 255 := by have := rp430; have : (255 : Int32).toInt = 255 := (by decide); have hc_ := c456; simp only [Int32.lt_iff_toInt_lt, ← Int32.toInt_inj] at hc_; omega
   have rr477 : 0 ≤ p434.toInt ∧ p434.toInt ≤ 255 := by have := rp434; have : (255 : Int32).toInt = 255 := (by decide); have hc_ := c457; simp only [Int32.lt_iff_toInt_lt, ← Int32.toInt_inj] at hc_; omega
   have rr478 : 0 ≤ p439.toInt ∧ p439.toInt ≤ 255 := by have := rp439; have : (255 : Int32).toInt = 255 := (by decide); have hc_ := c458; simp only [Int32.lt_iff_toInt_lt, ← Int32.toInt_inj] at hc_; omega
   have rr479 : 0 ≤ p444.toInt ∧ p444.toInt ≤ 255 := by have := rp444; have : (255 : Int32).toInt = 255 := (by decide); have hc_ := c459; simp only [Int32.lt_iff_toInt_lt, ← Int32.toInt_inj] at hc_; omega
   refine r_astore H 81 #[vI x0, vI x1, vI x2, vI x3, vI x4, vI x5, vI 4, vR b429, vR b448, .unset, .unset] at_79 ?_
   refine r_iload H 83 at_81 ?_
   refine r_ldcI H 85 at_83 (tw23 hw) ?_
   obtain ⟨p480, ep480, rp480⟩ : ∃ p : Int32, (x5 &&& (65535 : Int32)) = p ∧ 0 ≤ p.toInt ∧ p.toInt ≤ 65535 := ⟨_, rfl, (by have h := c_and x5 (65535 : Int32) (by decide); have : (65535 : Int32).toInt = 65535 := (by decide); omega)⟩
   refine r_iand H 86 p480 at_85 ep480 ?_
   refine r_i2c H 87 p480 at_86 (i2c_id (by have := rp480; omega)) ?_
   have z481 := Nat.le_trans z452 K455.1
   refine r_static (argsL := [.int p480]) (rest := []) (W := 0) H 90 at_87 (tw24 hw) (tw25 hw) (tw4 hw) (tw26 hw) (lenOf pd_6 rfl) (rm_valueOf_3 hw Ts p480 cs hh475 h0.size (nlt Zf Z0) z481 rp480 S_cs S__assertionsDisabled S_HI_BYTE_SHIFT S_LO_BYTE_SHIFT hcs) ?_
   rintro _ hh508 (⟨b482, b483, kc484, rfl, c486, K485, g487, g488, g489, q490, q491, q492, q493, q494⟩ | ⟨b495, b496, kc497, rfl, c499, K498, g500, g501, g502, q503, q504, q505, q506, q507⟩)
   ·
    refine r_astore H 92 #[vI x0, vI x1, vI x2, vI x3, vI x4, vI x5, vI 4, vR b429, vR b448, vR b482, .unset] at_90 ?_
    refine r_aload H 94 at_92 ?_
    refine r_aload H 96 at_94 ?_
    have q509 := (q461.keep K485)
    have q510 := (q462.keep K485 nin0)
    have q511 := (q463.keep K485 nin0)
    have q512 := (q464.keep K485 nin0)
    have z513 := Nat.le_trans z481 K485.1
    refine r_static (argsL := [.ref b482, .ref b448]) (rest := []) (W := 0) H 99 at_96 (tw39 hw) (tw40 hw) (tw41 hw) (tw42 hw) (lenOf pd_14 rfl) (rm_require_169 hw Ts b482 b448 b453 p430 p434 p439 p444 kc454 cs hh508 h0.size (nlt Zf Z0) z513 q509 q510 q511 q512 rr476 rr477 rr478 rr479 xp430_10 xp430_13 xp434_10 xp434_13 xp439_10 xp439_13 xp444_10 xp444_13 S_cs hcs) ?_
    rintro _ _ ⟨rfl, rfl⟩
    refine r_astore H 101 #[vI x0, vI x1, vI x2, vI x3, vI x4, vI x5, vI 4, vR b429, vR b448, vR b482, vR b448] at_99 ?_
    refine r_aload H 103 at_101 ?_
    refine r_aload H 105 at_103 ?_
    refine r_acmp H 108 true at_105 (decide_eq_true rfl) ?_
    refine r_aload H 110 at_108 ?_
    refine r_virtual (z := (⟨"java/lang/String", "length", "()I"⟩ : MethodName)) (a := b448) (argsL := []) (rest := []) (W := 0) H 113 at_110 (tw81 hw) (tw59 hw) (nf_sel (tw61 hw)) (tw61 hw) (tw60 hw) (tw4 hw) (tw62 hw) q509 (lenOf pd_9 rfl) (rm_length_172 hw Ts b448 b453 (cB8 p430) (cB8 p434) (cB8 p439) (cB8 p444) kc454 cs hh508 h0.size (nlt Zf Z0) z513 q511 q512 q509 q510 S_cs hcs) ?_
    rintro _ _ ⟨rfl, rfl⟩
    refine r_iload H 115 at_113 ?_
    refine r_icmpneF H 118 at_115 rfl (by decide) ?_
    refine r_iconst H 119 1 at_118 ?_
    refine r_goto H 123 at_119 ?_
    exact r_nreturn (1 : Int32) H at_123 (by decide) Z0 (fun _ t => (.tail _ t)) rfl
   ·
    refine r_astore H 92 #[vI x0, vI x1, vI x2, vI x3, vI x4, vI x5, vI 4, vR b429, vR b448, vR b495, .unset] at_90 ?_
    refine r_aload H 94 at_92 ?_
    refine r_aload H 96 at_94 ?_
    have q516 := (q461.keep K498)
    have q517 := (q462.keep K498 nin0)
    have q518 := (q463.keep K498 nin0)
    have q519 := (q464.keep K498 nin0)
    have z520 := Nat.le_trans z481 K498.1
    refine r_static (argsL := [.ref b495, .ref b448]) (rest := []) (W := 0) H 99 at_96 (tw39 hw) (tw40 hw) (tw41 hw) (tw42 hw) (lenOf pd_14 rfl) (rm_require_169 hw Ts b495 b448 b453 p430 p434 p439 p444 kc454 cs hh508 h0.size (nlt Zf Z0) z520 q516 q517 q518 q519 rr476 rr477 rr478 rr479 xp430_10 xp430_13 xp434_10 xp434_13 xp439_10 xp439_13 xp444_10 xp444_13 S_cs hcs) ?_
    rintro _ _ ⟨rfl, rfl⟩
    refine r_astore H 101 #[vI x0, vI x1, vI x2, vI x3, vI x4, vI x5, vI 4, vR b429, vR b448, vR b495, vR b448] at_99 ?_
    refine r_aload H 103 at_101 ?_
    refine r_aload H 105 at_103 ?_
    refine r_acmp H 108 true at_105 (decide_eq_true rfl) ?_
    refine r_aload H 110 at_108 ?_
    refine r_virtual (z := (⟨"java/lang/String", "length", "()I"⟩ : MethodName)) (a := b448) (argsL := []) (rest := []) (W := 0) H 113 at_110 (tw81 hw) (tw59 hw) (nf_sel (tw61 hw)) (tw61 hw) (tw60 hw) (tw4 hw) (tw62 hw) q516 (lenOf pd_9 rfl) (rm_length_172 hw Ts b448 b453 (cB8 p430) (cB8 p434) (cB8 p439) (cB8 p444) kc454 cs hh508 h0.size (nlt Zf Z0) z520 q518 q519 q516 q517 S_cs hcs) ?_
    rintro _ _ ⟨rfl, rfl⟩
    refine r_iload H 115 at_113 ?_
    refine r_icmpneF H 118 at_115 rfl (by decide) ?_
    refine r_iconst H 119 1 at_118 ?_
    refine r_goto H 123 at_119 ?_
    exact r_nreturn (1 : Int32) H at_123 (by decide) Z0 (fun _ t => (.tail _ t)) rfl
  ·
   refine r_astore H 81 #[vI x0, vI x1, vI x2, vI x3, vI x4, vI x5, vI 4, vR b429, vR b448, .unset, .unset] at_79 ?_
   refine r_iload H 83 at_81 ?_
   refine r_ldcI H 85 at_83 (tw23 hw) ?_
   obtain ⟨p523, ep523, rp523⟩ : ∃ p : Int32, (x5 &&& (65535 : Int32)) = p ∧ 0 ≤ p.toInt ∧ p.toInt ≤ 65535 := ⟨_, rfl, (by have h := c_and x5 (65535 : Int32) (by decide); have : (65535 : Int32).toInt = 65535 := (by decide); omega)⟩
   refine r_iand H 86 p523 at_85 ep523 ?_
   refine r_i2c H 87 p523 at_86 (i2c_id (by have := rp523; omega)) ?_
   have z524 := Nat.le_trans z452 K468.1
   refine r_static (argsL := [.int p523]) (rest := []) (W := 0) H 90 at_87 (tw24 hw) (tw25 hw) (tw4 hw) (tw26 hw) (lenOf pd_6 rfl) (rm_valueOf_3 hw Ts p523 cs hh475 h0.size (nlt Zf Z0) z524 rp523 S_cs S__assertionsDisabled S_HI_BYTE_SHIFT S_LO_BYTE_SHIFT hcs) ?_
   rintro _ hh551 (⟨b525, b526, kc527, rfl, c529, K528, g530, g531, g532, q533, q534, q535, q536, q537⟩ | ⟨b538, b539, kc540, rfl, c542, K541, g543, g544, g545, q546, q547, q548, q549, q550⟩)
   ·
    refine r_astore H 92 #[vI x0, vI x1, vI x2, vI x3, vI x4, vI x5, vI 4, vR b429, vR b448, vR b525, .unset] at_90 ?_
    refine r_aload H 94 at_92 ?_
    refine r_aload H 96 at_94 ?_
    have q552 := (q470.keep K528)
    have q553 := (q471.keep K528 nin0)
    have q554 := (q472.keep K528 nin0)
    have q555 := (q473.keep K528 nin0)
    have z556 := Nat.le_trans z524 K528.1
    refine r_static (argsL := [.ref b525, .ref b448]) (rest := []) (W := 0) H 99 at_96 (tw39 hw) (tw40 hw) (tw41 hw) (tw42 hw) (lenOf pd_14 rfl) (rm_require_180 hw Ts b525 b448 b466 p430 p434 p439 p444 kc467 cs sio hh551 h0.size (nlt Zf Z0) z556 q552 q553 q554 q555 rp430 rp434 rp439 rp444 xp430_10 xp430_13 xp434_10 xp434_13 xp439_10 xp439_13 xp444_10 xp444_13 S_cs S_sio hsio S__assertionsDisabled S_HI_BYTE_SHIFT S_LO_BYTE_SHIFT hcs) ?_
    rintro _ _ ⟨rfl, rfl⟩
    refine r_astore H 101 #[vI x0, vI x1, vI x2, vI x3, vI x4, vI x5, vI 4, vR b429, vR b448, vR b525, vR b448] at_99 ?_
    refine r_aload H 103 at_101 ?_
    refine r_aload H 105 at_103 ?_
    refine r_acmp H 108 true at_105 (decide_eq_true rfl) ?_
    refine r_aload H 110 at_108 ?_
    refine r_virtual (z := (⟨"java/lang/String", "length", "()I"⟩ : MethodName)) (a := b448) (argsL := []) (rest := []) (W := 0) H 113 at_110 (tw81 hw) (tw59 hw) (nf_sel (tw61 hw)) (tw61 hw) (tw60 hw) (tw4 hw) (tw62 hw) q552 (lenOf pd_9 rfl) (rm_length_183 hw Ts b448 b466 (cL8 p430) (cH8 p430) (cL8 p434) (cH8 p434) (cL8 p439) (cH8 p439) (cL8 p444) (cH8 p444) kc467 cs hh551 h0.size (nlt Zf Z0) z556 q554 q555 q552 q553 S_cs hcs) ?_
    rintro _ _ ⟨rfl, rfl⟩
    refine r_iload H 115 at_113 ?_
    refine r_icmpneF H 118 at_115 rfl (by decide) ?_
    refine r_iconst H 119 1 at_118 ?_
    refine r_goto H 123 at_119 ?_
    exact r_nreturn (1 : Int32) H at_123 (by decide) Z0 (fun _ t => (.tail _ t)) rfl
   ·
    refine r_astore H 92 #[vI x0, vI x1, vI x2, vI x3, vI x4, vI x5, vI 4, vR b429, vR b448, vR b538, .unset] at_90 ?_
    refine r_aload H 94 at_92 ?_
    refine r_aload H 96 at_94 ?_
    have q559 := (q470.keep K541)
    have q560 := (q471.keep K541 nin0)
    have q561 := (q472.keep K541 nin0)
    have q562 := (q473.keep K541 nin0)
    have z563 := Nat.le_trans z524 K541.1
    refine r_static (argsL := [.ref b538, .ref b448]) (rest := []) (W := 0) H 99 at_96 (tw39 hw) (tw40 hw) (tw41 hw) (tw42 hw) (lenOf pd_14 rfl) (rm_require_180 hw Ts b538 b448 b466 p430 p434 p439 p444 kc467 cs sio hh551 h0.size (nlt Zf Z0) z563 q559 q560 q561 q562 rp430 rp434 rp439 rp444 xp430_10 xp430_13 xp434_10 xp434_13 xp439_10 xp439_13 xp444_10 xp444_13 S_cs S_sio hsio S__assertionsDisabled S_HI_BYTE_SHIFT S_LO_BYTE_SHIFT hcs) ?_
    rintro _ _ ⟨rfl, rfl⟩
    refine r_astore H 101 #[vI x0, vI x1, vI x2, vI x3, vI x4, vI x5, vI 4, vR b429, vR b448, vR b538, vR b448] at_99 ?_
    refine r_aload H 103 at_101 ?_
    refine r_aload H 105 at_103 ?_
    refine r_acmp H 108 true at_105 (decide_eq_true rfl) ?_
    refine r_aload H 110 at_108 ?_
    refine r_virtual (z := (⟨"java/lang/String", "length", "()I"⟩ : MethodName)) (a := b448) (argsL := []) (rest := []) (W := 0) H 113 at_110 (tw81 hw) (tw59 hw) (nf_sel (tw61 hw)) (tw61 hw) (tw60 hw) (tw4 hw) (tw62 hw) q559 (lenOf pd_9 rfl) (rm_length_183 hw Ts b448 b466 (cL8 p430) (cH8 p430) (cL8 p434) (cH8 p434) (cL8 p439) (cH8 p439) (cL8 p444) (cH8 p444) kc467 cs hh551 h0.size (nlt Zf Z0) z563 q561 q562 q559 q560 S_cs hcs) ?_
    rintro _ _ ⟨rfl, rfl⟩
    refine r_iload H 115 at_113 ?_
    refine r_icmpneF H 118 at_115 rfl (by decide) ?_
    refine r_iconst H 119 1 at_118 ?_
    refine r_goto H 123 at_119 ?_
    exact r_nreturn (1 : Int32) H at_123 (by decide) Z0 (fun _ t => (.tail _ t)) rfl
set_option maxRecDepth 65536 in
set_option maxHeartbeats 40000000 in
theorem comes_1 {Post : Tables → Env → Array Value → State → Outcome → State → Prop} (hpost : ∀ tb e args s v u, (limb_1_1.after args s (.returned v) u = true ∧ limb_1_2.after args s (.returned v) u = true ∧ True) → ReturnedEndW s (.returned v) u (Jvm.fieldLocs frame_1_writes args s ++ Jvm.arrayLocs frame_1_arrays args s ++ Jvm.staticLocs frame_1_statics s) 24 1152 → Post tb e args s (.returned v) u) :
    ArmFor flags0 classFile x code maxLocals ret World_1 tables_1 room_1 Calls_1 rest_1 Pre_1 Post := by
  intro l hfl _ _ p e ha hc hk s m args below hf hA hF happ hP
  obtain ⟨hcalls, hrest, hpre⟩ := hP
  obtain ⟨-, -, -, hnamed, -, -, -, hat⟩ := (Spec.applies_iff hf).mp happ
  obtain ⟨hg, hn⟩ := and_e (Cond.before_iff.mp (show (Jvm.Cond.and given_1 narrow_1).before args s = true from hpre))
  obtain ⟨hcnt, hg0⟩ := and_e hg
  obtain ⟨ga0, hg1⟩ := and_e hg0
  obtain ⟨ga1, hg2⟩ := and_e hg1
  obtain ⟨ga2, hg3⟩ := and_e hg2
  obtain ⟨ga3, hg4⟩ := and_e hg3
  obtain ⟨ga4, hg5⟩ := and_e hg4
  obtain ⟨w0, w1, w2, w3, w4, w5, rfl⟩ : ∃ w0 w1 w2 w3 w4 w5 : Value, args = #[w0, w1, w2, w3, w4, w5] := by
    have hs : args.size = 6 := by simpa [Cond.value, given_1] using hcnt
    obtain ⟨L⟩ := args
    match L, hs with
    | [w0, w1, w2, w3, w4, w5], _ => exact ⟨w0, w1, w2, w3, w4, w5, rfl⟩
  have hw := fun d (hd : d ∈ tables_1) => atoms_spec (ws := Jvm.Cond.code x code maxLocals ret :: tables_1) hat d (List.mem_cons_of_mem _ hd)
  obtain ⟨hsets, hown0⟩ := atoms_of _ (rest_1_c_eq ▸ (show rest_1_c.before _ s = true from hrest))
  obtain ⟨i0, ei0⟩ := is_v ga0
  obtain rfl : w0 = (.int i0) := Option.some.inj ei0
  obtain ⟨i1, ei1⟩ := is_v ga1
  obtain rfl : w1 = (.int i1) := Option.some.inj ei1
  obtain ⟨i2, ei2⟩ := is_v ga2
  obtain rfl : w2 = (.int i2) := Option.some.inj ei2
  obtain ⟨i3, ei3⟩ := is_v ga3
  obtain rfl : w3 = (.int i3) := Option.some.inj ei3
  obtain ⟨i4, ei4⟩ := is_v ga4
  obtain rfl : w4 = (.int i4) := Option.some.inj ei4
  obtain ⟨i5, ei5⟩ := is_v hg5
  obtain rfl : w5 = (.int i5) := Option.some.inj ei5
  have ncs := not_v (Cond.before_iff.mp (hsets _ (List.mem_of_getElem? (i := 2) rfl)))
  obtain ⟨cs, ecs⟩ := is_v (Cond.before_iff.mp (hsets _ (List.mem_of_getElem? (i := 1) rfl)))
  have S_cs : Sta s s.heap "java/lang/String" "COMPACT_STRINGS" "Z" (.int cs) := Sta.start ecs (Or.inl (hsets _ (List.mem_of_getElem? (i := 0) rfl)))
  have hcs : ¬ (cs = (0 : Int32)) := gotF (Cond.eq_ints ecs (Term.int_eval (0))) ncs
  obtain ⟨sio, esio, rsio⟩ := isR_v (Cond.before_iff.mp (hsets _ (List.mem_of_getElem? (i := 8) rfl)))
  have S_sio : Sta s s.heap "jdk/internal/util/Preconditions" "SIOOBE_FORMATTER" "Ljava/util/function/BiFunction;" sio := Sta.start esio (Or.inl (hsets _ (List.mem_of_getElem? (i := 7) rfl)))
  have hsio := ref_cases rsio
  have S__assertionsDisabled : Sta s s.heap "java/lang/StringUTF16" "$assertionsDisabled" "Z" (.int (1 : Int32)) := Sta.start (Cond.eq_int (hsets _ (List.mem_of_getElem? (i := 12) rfl)) rfl) (Or.inl (hsets _ (List.mem_of_getElem? (i := 11) rfl)))
  have S_HI_BYTE_SHIFT : Sta s s.heap "java/lang/StringUTF16" "HI_BYTE_SHIFT" "I" (.int (0 : Int32)) := Sta.start (Cond.eq_int (hsets _ (List.mem_of_getElem? (i := 15) rfl)) rfl) (Or.inl (hsets _ (List.mem_of_getElem? (i := 14) rfl)))
  have S_LO_BYTE_SHIFT : Sta s s.heap "java/lang/StringUTF16" "LO_BYTE_SHIFT" "I" (.int (8 : Int32)) := Sta.start (Cond.eq_int (hsets _ (List.mem_of_getElem? (i := 18) rfl)) rfl) (Or.inl (hsets _ (List.mem_of_getElem? (i := 17) rfl)))
  have wS : ∀ a ∈ Bundle.stringAtoms, a.before #[.int i0, .int i1, .int i2, .int i3, .int i4, .int i5] s = true := by
    intro a ha'
    simp only [Bundle.stringAtoms, List.mem_cons, List.not_mem_nil, or_false] at ha'
    rcases ha' with rfl | rfl | rfl | rfl | rfl | rfl | rfl
    · exact (tw4 hw)
    · exact (tw3 hw)
    · exact (tw16 hw)
    · exact (tw17 hw)
    · exact (tw18 hw)
    · exact (tw19 hw)
    · exact (tw20 hw)
  have hcw : Jvm.Lit.compactW.before #[.int i0, .int i1, .int i2, .int i3, .int i4, .int i5] s = true := (hsets _ (List.mem_of_getElem? (i := 2) rfl))
  have hh0 : Jvm.Lit.constHeld s "java/lang/String" 7 := hcalls.1 _ (List.mem_of_getElem? (i := 0) rfl)
  obtain ⟨n, o, h1, h2, h3, _, L, rfl, ⟨rfl, N, -, -⟩, hq⟩ := rm_law hw [] rfl i0 i1 i2 i3 i4 i5 cs sio s.heap s.heap.size (Nat.le_refl _) (Nat.le_refl _) wS hcw hh0 S_cs S__assertionsDisabled S_HI_BYTE_SHIFT S_LO_BYTE_SHIFT S_sio hsio hcs l p e ha hc hk s m _ below hf ((Spec.applies_iff_loose hf).mp happ).1 ⟨rfl, State.Warmed39.refl s, rfl, IB.start, ⟨Nat.le_refl _, fun _ _ q => q⟩⟩ trivial
  refine ⟨n, _, h1, h2, h3, hpost _ _ _ _ _ _ ⟨Cond.after_iff.mpr rfl, Cond.after_iff.mpr (eq_i res_at (Term.int_eval (1)) rfl), trivial⟩ ⟨hq.1, hq.2.1, hq.2.2.1, (hq.2.2.2.sift fun y hy => Or.inr (N y hy)).mono (by decide) (by decide)⟩⟩
theorem main_1_1 : Claimed_1_1 := comes_1 fun _ _ _ _ _ _ h hF => ⟨h.1, hF⟩
theorem main_1_2 : Claimed_1_2 := comes_1 fun _ _ _ _ _ _ h hF => ⟨h.2.1, hF⟩
end Jvm.Pilot.@@N@@
namespace Jvm.Pilot.@@N@@
open Jvm Jvm.ClassFile Sem Op Lib Jvm.Free Jvm.Stand Jvm.Pilot.@@N@@.Jvm.D
/-! MADE BY PROGRAM (witnessworld.py) out of the Statement's table words and the real class files: 21 classes; the members and pool entries that the words name. The judged class is class 1, her method 2. -/
namespace start1
open Jvm.ClassFile
def u (s : String) : CpInfo := .utf8 (stringToUtf16 s)
/-- a pool by its gaps: so many unusable entries, then the entry; so many at the end -/
def gap : Nat → List CpInfo → List CpInfo
  | 0, r => r
  | n + 1, r => .unusable :: gap n r
def poolList (es : List (Nat × CpInfo)) (last : Nat) : List CpInfo := es.foldr (fun e r => gap e.1 (e.2 :: r)) (gap last [])
def pool (es : List (Nat × CpInfo)) (last : Nat) : Array CpInfo := ⟨poolList es last⟩
def fileOf (pool : Array CpInfo) (this : Nat) (attrs : Array Attribute := #[]) (ms : Array MethodInfo := #[]) (fl : Nat := 33) (sup : Nat := 0) (ifs : Array Nat := #[]) (fds : Array FieldInfo := #[]) : ClassFile where
  minorVersion := 0
  majorVersion := 65
  constantPool := pool
  accessFlags := fl
  thisClass := this
  superClass := sup
  interfaces := ifs
  fields := fds
  methods := ms
  attributes := attrs
def plain (name : String) (sup : Option ClassId) : Class where
  name := name
  kind := .ordinary
  loader := none
  accessFlags := 33
  super := sup
  interfaces := #[]
  cf := none
  fields := #[]
  methods := #[]
  instanceTypes := #[]
  staticTypes := #[]
  resolved := #[]
  callSites := []
  init := .initialized
  statics := none
  mirror := none

def pool0 : Array CpInfo := pool [(5, u "<init>"), (0, u "()V"), (1, .class_ 10), (1, u "java/lang/Object")] 113

def k0c0 : Code := { maxStack := 0, maxLocals := 1, code := object_method_1_code, exceptionTable := #[], attributes := #[] }
def k0m0 : Method := { name := "<init>", desc := "()V", sig := { parameters := [], returnType := none }, accessFlags := 1, code := some k0c0 }
/-- java/lang/Object -/
def k0 : Class := { plain "java/lang/Object" none with
  accessFlags := 33
  interfaces := #[]
  cf := some (fileOf pool0 8 #[] #[{ accessFlags := 1, nameIndex := 5, descriptorIndex := 6, attributes := #[] }] 33 0 #[] #[])
  fields := #[]
  methods := #[k0m0]
  instanceTypes := #[]
  staticTypes := #[]
  resolved := Array.replicate 124 none
  statics := none }

def pool1 : Array CpInfo := pool [(2, .class_ 4), (1, u "java/lang/Object"), (0, u "<init>"), (0, u "()V"), (0, .integer 65535), (0, .integer 2147483647), (0, .methodref 10 11), (0, .class_ 12), (0, .nameAndType 13 14), (0, u "com/example/ferryline/ferryline/model/OneLineRequirePinLaw"), (0, u "safe"), (0, u "(I)C"), (0, .class_ 16), (0, u "java/lang/String"), (0, .methodref 15 18), (0, .nameAndType 5 19), (0, u "([C)V"), (0, .methodref 15 21), (0, .nameAndType 22 23), (0, u "valueOf"), (0, u "(C)Ljava/lang/String;"), (0, .methodref 25 26), (0, .class_ 27), (0, .nameAndType 28 29), (0, u "com/example/ferryline/ferryline/model/OneLine"), (0, u "require"), (0, u "(Ljava/lang/String;Ljava/lang/String;)Ljava/lang/String;"), (0, .methodref 15 31), (0, .nameAndType 32 33), (0, u "length"), (0, u "()I"), (3, u "law"), (0, u "(IIIIII)Z")] 7

def k1m0 : Method := { name := "<init>", desc := "()V", sig := { parameters := [], returnType := none }, accessFlags := 2, code := none }
def k1c1 : Code := { maxStack := 2, maxLocals := 2, code := method_2_code, exceptionTable := #[], attributes := #[] }
def k1m1 : Method := { name := "safe", desc := "(I)C", sig := { parameters := [.int], returnType := some .char }, accessFlags := 10, code := some k1c1 }
def k1c2 : Code := { maxStack := 3, maxLocals := 11, code := code, exceptionTable := #[], attributes := #[] }
def k1m2 : Method := { name := "law", desc := "(IIIIII)Z", sig := { parameters := [.int, .int, .int, .int, .int, .int], returnType := some .boolean }, accessFlags := 9, code := some k1c2 }
/-- com/example/ferryline/ferryline/model/OneLineRequirePinLaw -/
def k1 : Class := { plain "com/example/ferryline/ferryline/model/OneLineRequirePinLaw" (some 0) with
  accessFlags := 49
  interfaces := #[]
  cf := some (fileOf pool1 10 #[] #[{ accessFlags := 2, nameIndex := 5, descriptorIndex := 6, attributes := #[] }, { accessFlags := 10, nameIndex := 13, descriptorIndex := 14, attributes := #[] }, { accessFlags := 9, nameIndex := 37, descriptorIndex := 38, attributes := #[] }] 49 2 #[] #[])
  fields := #[]
  methods := #[k1m0, k1m1, k1m2]
  instanceTypes := #[]
  staticTypes := #[]
  resolved := Array.replicate 46 none
  statics := none }

def pool2 : Array CpInfo := pool [(1, .class_ 2), (0, u "java/io/Serializable"), (0, .class_ 4), (0, u "java/lang/Object")] 2

/-- java/io/Serializable -/
def k2 : Class := { plain "java/io/Serializable" (some 0) with
  accessFlags := 1537
  interfaces := #[]
  cf := some (fileOf pool2 1 #[] #[] 1537 3 #[] #[])
  fields := #[]
  methods := #[]
  instanceTypes := #[]
  staticTypes := #[]
  resolved := Array.replicate 7 none
  statics := none }

def pool3 : Array CpInfo := pool [(1, .class_ 2), (0, u "java/lang/Comparable"), (0, .class_ 4), (0, u "java/lang/Object")] 7

/-- java/lang/Comparable -/
def k3 : Class := { plain "java/lang/Comparable" (some 0) with
  accessFlags := 1537
  interfaces := #[]
  cf := some (fileOf pool3 1 #[] #[] 1537 3 #[] #[])
  fields := #[]
  methods := #[]
  instanceTypes := #[]
  staticTypes := #[]
  resolved := Array.replicate 12 none
  statics := none }

def pool4 : Array CpInfo := pool [(2, .class_ 4), (1, u "java/lang/CharSequence"), (42, .class_ 48), (0, u "java/lang/CharSequence$1CodePointIterator"), (10, .class_ 60), (0, u "java/lang/CharSequence$1CharIterator"), (5, .class_ 67), (0, u "java/lang/Object")] 63

/-- java/lang/CharSequence -/
def k4 : Class := { plain "java/lang/CharSequence" (some 0) with
  accessFlags := 1537
  interfaces := #[]
  cf := some (fileOf pool4 2 #[.nestMembers #[47, 59]] #[] 1537 66 #[] #[])
  fields := #[]
  methods := #[]
  instanceTypes := #[]
  staticTypes := #[]
  resolved := Array.replicate 131 none
  statics := none }

def pool5 : Array CpInfo := pool [(1, .class_ 2), (0, u "java/lang/constant/Constable"), (0, .class_ 4), (0, u "java/lang/Object")] 6

/-- java/lang/constant/Constable -/
def k5 : Class := { plain "java/lang/constant/Constable" (some 0) with
  accessFlags := 1537
  interfaces := #[]
  cf := some (fileOf pool5 1 #[] #[] 1537 3 #[] #[])
  fields := #[]
  methods := #[]
  instanceTypes := #[]
  staticTypes := #[]
  resolved := Array.replicate 11 none
  statics := none }

def pool6 : Array CpInfo := pool [(1, .class_ 2), (0, u "java/lang/constant/ConstantDesc"), (0, .class_ 4), (0, u "java/lang/Object")] 32

/-- java/lang/constant/ConstantDesc -/
def k6 : Class := { plain "java/lang/constant/ConstantDesc" (some 0) with
  accessFlags := 1537
  interfaces := #[]
  cf := some (fileOf pool6 1 #[] #[] 1537 3 #[] #[])
  fields := #[]
  methods := #[]
  instanceTypes := #[]
  staticTypes := #[]
  resolved := Array.replicate 37 none
  statics := none }

def pool7 : Array CpInfo := pool [(1, .methodref 2 3), (0, .class_ 4), (0, .nameAndType 5 6), (0, u "java/lang/Object"), (0, u "<init>"), (0, u "()V"), (0, .string 8), (0, u ""), (0, .fieldref 10 11), (0, .class_ 12), (0, .nameAndType 13 14), (0, u "java/lang/String"), (0, u "value"), (0, u "[B"), (0, .fieldref 10 16), (0, .nameAndType 17 18), (0, u "coder"), (0, u "B"), (2, u "hash"), (0, u "I"), (2, u "hashIsZero"), (0, u "Z"), (0, .methodref 10 28), (0, .nameAndType 5 29), (0, u "([CIILjava/lang/Void;)V"), (8, .fieldref 10 39), (0, .nameAndType 40 26), (0, u "COMPACT_STRINGS"), (1, .class_ 44), (1, u "java/lang/StringUTF16"), (0, u "compress"), (1, .methodref 42 48), (0, .nameAndType 49 50), (0, u "coderFromArrayLen"), (0, u "([BI)B"), (2, u "toBytes"), (53, .class_ 109), (1, u "java/lang/StringLatin1"), (32, u "()Z"), (34, .methodref 42 178), (0, .nameAndType 45 179), (0, u "([CII)[B"), (29, .methodref 10 210), (0, .nameAndType 5 211), (0, u "([BB)V"), (122, u "()I"), (0, .methodref 10 336), (0, .nameAndType 17 337), (0, u "()B"), (31, u "(C)Z"), (122, .methodref 10 493), (0, .nameAndType 494 142), (0, u "isLatin1"), (10, .methodref 10 506), (0, .nameAndType 507 334), (0, u "length"), (5, u "checkFromToIndex"), (9, u "checkBoundsBeginEnd"), (0, u "(III)V"), (50, .class_ 576), (0, u "java/lang/CharSequence"), (22, u "CASE_INSENSITIVE_ORDER"), (0, u "Ljava/util/Comparator;"), (32, .methodref 10 634), (0, .nameAndType 635 636), (0, u "indexOf"), (0, u "(II)I"), (0, .methodref 107 638), (0, .nameAndType 635 639), (0, u "([BIII)I"), (0, .methodref 42 638), (124, u "(I)I"), (16, u "valueOf"), (0, u "(C)Ljava/lang/String;"), (226, u "([C)V"), (4, .methodref 107 1016), (0, .nameAndType 1017 369), (0, u "canEncode"), (0, .methodref 107 1019), (0, .nameAndType 53 1020), (0, u "(C)[B"), (0, .methodref 42 1019), (31, .fieldref 1054 1055), (0, .class_ 1056), (0, .nameAndType 1057 1058), (0, u "jdk/internal/util/Preconditions"), (0, u "SIOOBE_FORMATTER"), (0, u "Ljava/util/function/BiFunction;"), (3, .methodref 1054 1063), (0, .nameAndType 513 1064), (0, u "(IIILjava/util/function/BiFunction;)I"), (36, u "serialPersistentFields"), (0, u "[Ljava/io/ObjectStreamField;"), (0, .class_ 1104), (0, u "java/lang/String$CaseInsensitiveComparator"), (1, .class_ 1107), (0, u "java/io/Serializable"), (0, .class_ 1109), (0, u "java/lang/Comparable"), (0, .class_ 1111), (0, u "java/lang/constant/Constable"), (0, .class_ 1113), (0, u "java/lang/constant/ConstantDesc"), (2, u "serialVersionUID"), (0, u "J"), (3, u "REPL"), (0, u "C"), (2, u "LATIN1"), (1, u "UTF16")] 323

def k7m0 : Method := { name := "<init>", desc := "()V", sig := { parameters := [], returnType := none }, accessFlags := 1, code := none }
def k7c1 : Code := { maxStack := 5, maxLocals := 2, code := jdk_42_method_3_code, exceptionTable := #[], attributes := #[] }
def k7m1 : Method := { name := "<init>", desc := "([C)V", sig := { parameters := [(.array .char)], returnType := none }, accessFlags := 1, code := some k7c1 }
def k7c2 : Code := { maxStack := 2, maxLocals := 1, code := jdk_42_method_54_code, exceptionTable := #[], attributes := #[] }
def k7m2 : Method := { name := "length", desc := "()I", sig := { parameters := [], returnType := some .int }, accessFlags := 1, code := some k7c2 }
def k7c3 : Code := { maxStack := 3, maxLocals := 2, code := jdk_42_method_79_code, exceptionTable := #[], attributes := #[] }
def k7m3 : Method := { name := "indexOf", desc := "(I)I", sig := { parameters := [.int], returnType := some .int }, accessFlags := 1, code := some k7c3 }
def k7c4 : Code := { maxStack := 4, maxLocals := 3, code := jdk_42_method_80_code, exceptionTable := #[], attributes := #[] }
def k7m4 : Method := { name := "indexOf", desc := "(II)I", sig := { parameters := [.int, .int], returnType := some .int }, accessFlags := 1, code := some k7c4 }
def k7c5 : Code := { maxStack := 4, maxLocals := 1, code := jdk_42_method_139_code, exceptionTable := #[], attributes := #[] }
def k7m5 : Method := { name := "valueOf", desc := "(C)Ljava/lang/String;", sig := { parameters := [.char], returnType := some (.object "java/lang/String") }, accessFlags := 9, code := some k7c5 }
def k7c6 : Code := { maxStack := 4, maxLocals := 6, code := jdk_42_method_149_code, exceptionTable := #[], attributes := #[] }
def k7m6 : Method := { name := "<init>", desc := "([CIILjava/lang/Void;)V", sig := { parameters := [(.array .char), .int, .int, (.object "java/lang/Void")], returnType := none }, accessFlags := 2, code := some k7c6 }
def k7c7 : Code := { maxStack := 2, maxLocals := 3, code := jdk_42_method_151_code, exceptionTable := #[], attributes := #[] }
def k7m7 : Method := { name := "<init>", desc := "([BB)V", sig := { parameters := [(.array .byte), .byte], returnType := none }, accessFlags := 0, code := some k7c7 }
def k7c8 : Code := { maxStack := 1, maxLocals := 1, code := jdk_42_method_152_code, exceptionTable := #[], attributes := #[] }
def k7m8 : Method := { name := "coder", desc := "()B", sig := { parameters := [], returnType := some .byte }, accessFlags := 0, code := some k7c8 }
def k7c9 : Code := { maxStack := 1, maxLocals := 1, code := jdk_42_method_154_code, exceptionTable := #[], attributes := #[] }
def k7m9 : Method := { name := "isLatin1", desc := "()Z", sig := { parameters := [], returnType := some .boolean }, accessFlags := 0, code := some k7c9 }
def k7c10 : Code := { maxStack := 4, maxLocals := 3, code := jdk_42_method_158_code, exceptionTable := #[], attributes := #[] }
def k7m10 : Method := { name := "checkBoundsBeginEnd", desc := "(III)V", sig := { parameters := [.int, .int, .int], returnType := none }, accessFlags := 8, code := some k7c10 }
/-- java/lang/String -/
def k7 : Class := { plain "java/lang/String" (some 0) with
  accessFlags := 49
  interfaces := #[2, 3, 4, 5, 6]
  cf := some (fileOf pool7 10 #[.nestMembers #[1103]] #[{ accessFlags := 1, nameIndex := 5, descriptorIndex := 6, attributes := #[] }, { accessFlags := 1, nameIndex := 5, descriptorIndex := 1010, attributes := #[] }, { accessFlags := 1, nameIndex := 507, descriptorIndex := 334, attributes := #[] }, { accessFlags := 1, nameIndex := 635, descriptorIndex := 765, attributes := #[] }, { accessFlags := 1, nameIndex := 635, descriptorIndex := 636, attributes := #[] }, { accessFlags := 9, nameIndex := 782, descriptorIndex := 783, attributes := #[] }, { accessFlags := 2, nameIndex := 5, descriptorIndex := 29, attributes := #[] }, { accessFlags := 0, nameIndex := 5, descriptorIndex := 211, attributes := #[] }, { accessFlags := 0, nameIndex := 17, descriptorIndex := 337, attributes := #[] }, { accessFlags := 0, nameIndex := 494, descriptorIndex := 142, attributes := #[] }, { accessFlags := 8, nameIndex := 523, descriptorIndex := 524, attributes := #[] }] 49 2 #[1106, 1108, 575, 1110, 1112] #[{ accessFlags := 18, nameIndex := 13, descriptorIndex := 14, attributes := #[] }, { accessFlags := 18, nameIndex := 17, descriptorIndex := 18, attributes := #[] }, { accessFlags := 2, nameIndex := 21, descriptorIndex := 22, attributes := #[] }, { accessFlags := 2, nameIndex := 25, descriptorIndex := 26, attributes := #[] }, { accessFlags := 26, nameIndex := 1116, descriptorIndex := 1117, attributes := #[] }, { accessFlags := 24, nameIndex := 40, descriptorIndex := 26, attributes := #[] }, { accessFlags := 26, nameIndex := 1101, descriptorIndex := 1102, attributes := #[] }, { accessFlags := 26, nameIndex := 1121, descriptorIndex := 1122, attributes := #[] }, { accessFlags := 25, nameIndex := 599, descriptorIndex := 600, attributes := #[] }, { accessFlags := 24, nameIndex := 1125, descriptorIndex := 18, attributes := #[] }, { accessFlags := 24, nameIndex := 1127, descriptorIndex := 18, attributes := #[] }])
  fields := #[{ name := "value", type := (.array .byte), accessFlags := 18, slot := 0, constantValue := 0 }, { name := "coder", type := .byte, accessFlags := 18, slot := 1, constantValue := 0 }, { name := "hash", type := .int, accessFlags := 2, slot := 2, constantValue := 0 }, { name := "hashIsZero", type := .boolean, accessFlags := 2, slot := 3, constantValue := 0 }, { name := "serialVersionUID", type := .long, accessFlags := 26, slot := 0, constantValue := 0 }, { name := "COMPACT_STRINGS", type := .boolean, accessFlags := 24, slot := 1, constantValue := 0 }, { name := "serialPersistentFields", type := (.array (.object "java/io/ObjectStreamField")), accessFlags := 26, slot := 2, constantValue := 0 }, { name := "REPL", type := .char, accessFlags := 26, slot := 3, constantValue := 0 }, { name := "CASE_INSENSITIVE_ORDER", type := (.object "java/util/Comparator"), accessFlags := 25, slot := 4, constantValue := 0 }, { name := "LATIN1", type := .byte, accessFlags := 24, slot := 5, constantValue := 0 }, { name := "UTF16", type := .byte, accessFlags := 24, slot := 6, constantValue := 0 }]
  methods := #[k7m0, k7m1, k7m2, k7m3, k7m4, k7m5, k7m6, k7m7, k7m8, k7m9, k7m10]
  instanceTypes := #[(.array .byte), .byte, .int, .boolean]
  staticTypes := #[.long, .boolean, (.array (.object "java/io/ObjectStreamField")), .char, (.object "java/util/Comparator"), .byte, .byte]
  resolved := Array.replicate 1451 none
  statics := some 0 }

def pool8 : Array CpInfo := pool [(4, .class_ 6), (1, u "java/lang/Object"), (0, u "<init>"), (0, u "()V"), (5, .class_ 16), (1, u "java/lang/StringLatin1"), (21, .methodref 39 40), (0, .class_ 41), (0, .nameAndType 42 43), (0, u "java/lang/Math"), (0, u "min"), (0, u "(II)I"), (44, .methodref 14 89), (0, .nameAndType 90 91), (0, u "canEncode"), (0, u "(I)Z"), (0, .methodref 39 93), (0, .nameAndType 94 43), (0, u "max"), (0, .methodref 14 96), (0, .nameAndType 97 98), (0, u "indexOfChar"), (0, u "([BIII)I"), (2, u "indexOf"), (3, u "(C)Z"), (15, u "$assertionsDisabled"), (0, u "Z"), (98, .class_ 223), (1, u "java/lang/StringLatin1$LinesSpliterator"), (156, u "toBytes"), (1, u "(C)[B"), (7, .class_ 391), (0, u "java/lang/StringLatin1$CharsSpliterator")] 3

def k8m0 : Method := { name := "<init>", desc := "()V", sig := { parameters := [], returnType := none }, accessFlags := 0, code := none }
def k8c1 : Code := { maxStack := 2, maxLocals := 1, code := jdk_43_method_3_code, exceptionTable := #[], attributes := #[] }
def k8m1 : Method := { name := "canEncode", desc := "(C)Z", sig := { parameters := [.char], returnType := some .boolean }, accessFlags := 9, code := some k8c1 }
def k8c2 : Code := { maxStack := 2, maxLocals := 1, code := jdk_43_method_4_code, exceptionTable := #[], attributes := #[] }
def k8m2 : Method := { name := "canEncode", desc := "(I)Z", sig := { parameters := [.int], returnType := some .boolean }, accessFlags := 9, code := some k8c2 }
def k8c3 : Code := { maxStack := 4, maxLocals := 4, code := jdk_43_method_22_code, exceptionTable := #[], attributes := #[] }
def k8m3 : Method := { name := "indexOf", desc := "([BIII)I", sig := { parameters := [(.array .byte), .int, .int, .int], returnType := some .int }, accessFlags := 9, code := some k8c3 }
def k8c4 : Code := { maxStack := 2, maxLocals := 6, code := jdk_43_method_23_code, exceptionTable := #[], attributes := #[] }
def k8m4 : Method := { name := "indexOfChar", desc := "([BIII)I", sig := { parameters := [(.array .byte), .int, .int, .int], returnType := some .int }, accessFlags := 10, code := some k8c4 }
def k8c5 : Code := { maxStack := 4, maxLocals := 1, code := jdk_43_method_46_code, exceptionTable := #[], attributes := #[] }
def k8m5 : Method := { name := "toBytes", desc := "(C)[B", sig := { parameters := [.char], returnType := some (.array .byte) }, accessFlags := 9, code := some k8c5 }
/-- java/lang/StringLatin1 -/
def k8 : Class := { plain "java/lang/StringLatin1" (some 0) with
  accessFlags := 48
  interfaces := #[]
  cf := some (fileOf pool8 14 #[.nestMembers #[390, 221]] #[{ accessFlags := 0, nameIndex := 7, descriptorIndex := 8, attributes := #[] }, { accessFlags := 9, nameIndex := 90, descriptorIndex := 105, attributes := #[] }, { accessFlags := 9, nameIndex := 90, descriptorIndex := 91, attributes := #[] }, { accessFlags := 9, nameIndex := 101, descriptorIndex := 98, attributes := #[] }, { accessFlags := 10, nameIndex := 97, descriptorIndex := 98, attributes := #[] }, { accessFlags := 9, nameIndex := 380, descriptorIndex := 382, attributes := #[] }] 48 4 #[] #[{ accessFlags := 4120, nameIndex := 121, descriptorIndex := 122, attributes := #[] }])
  fields := #[{ name := "$assertionsDisabled", type := .boolean, accessFlags := 4120, slot := 0, constantValue := 0 }]
  methods := #[k8m0, k8m1, k8m2, k8m3, k8m4, k8m5]
  instanceTypes := #[]
  staticTypes := #[.boolean]
  resolved := Array.replicate 395 none
  statics := none }

def pool9 : Array CpInfo := pool [(2, .class_ 4), (1, u "java/lang/Object"), (0, u "<init>"), (0, u "()V"), (0, .methodref 8 9), (0, .class_ 10), (0, .nameAndType 11 12), (0, u "java/lang/String"), (0, u "indexOf"), (0, u "(I)I"), (2, .class_ 16), (0, u "com/example/ferryline/ferryline/model/OneLine"), (9, u "(Ljava/lang/String;Ljava/lang/String;)Ljava/lang/String;"), (13, u "require"), (2, u "RULE"), (0, u "Ljava/lang/String;")] 27

def k9m0 : Method := { name := "<init>", desc := "()V", sig := { parameters := [], returnType := none }, accessFlags := 2, code := none }
def k9c1 : Code := { maxStack := 5, maxLocals := 2, code := prog_70_method_2_code, exceptionTable := #[], attributes := #[] }
def k9m1 : Method := { name := "require", desc := "(Ljava/lang/String;Ljava/lang/String;)Ljava/lang/String;", sig := { parameters := [(.object "java/lang/String"), (.object "java/lang/String")], returnType := some (.object "java/lang/String") }, accessFlags := 9, code := some k9c1 }
/-- com/example/ferryline/ferryline/model/OneLine -/
def k9 : Class := { plain "com/example/ferryline/ferryline/model/OneLine" (some 0) with
  accessFlags := 49
  interfaces := #[]
  cf := some (fileOf pool9 15 #[] #[{ accessFlags := 2, nameIndex := 5, descriptorIndex := 6, attributes := #[] }, { accessFlags := 9, nameIndex := 40, descriptorIndex := 26, attributes := #[] }] 49 2 #[] #[{ accessFlags := 25, nameIndex := 43, descriptorIndex := 44, attributes := #[] }])
  fields := #[{ name := "RULE", type := (.object "java/lang/String"), accessFlags := 25, slot := 0, constantValue := 0 }]
  methods := #[k9m0, k9m1]
  instanceTypes := #[]
  staticTypes := #[(.object "java/lang/String")]
  resolved := Array.replicate 72 none
  statics := none }

def pool10 : Array CpInfo := pool [(1, .class_ 2), (0, u "java/lang/Math"), (1, .class_ 6), (1, u "java/lang/Object"), (0, u "<init>"), (0, u "()V"), (89, .class_ 100), (1, u "java/lang/Math$RandomNumberGeneratorHolder"), (71, u "negativeZeroFloatBits"), (0, u "J"), (2, u "negativeZeroDoubleBits"), (21, u "max"), (2, u "min"), (43, u "$assertionsDisabled"), (0, u "Z"), (88, u "(II)I"), (2, u "twoToTheDoubleScaleDown"), (0, u "D"), (4, u "twoToTheDoubleScaleUp"), (9, u "E"), (3, u "PI"), (2, u "TAU"), (2, u "DEGREES_TO_RADIANS"), (0, u "RADIANS_TO_DEGREES")] 94

def k10m0 : Method := { name := "<init>", desc := "()V", sig := { parameters := [], returnType := none }, accessFlags := 2, code := none }
def k10c1 : Code := { maxStack := 2, maxLocals := 2, code := jdk_29_method_65_code, exceptionTable := #[], attributes := #[] }
def k10m1 : Method := { name := "max", desc := "(II)I", sig := { parameters := [.int, .int], returnType := some .int }, accessFlags := 9, code := some k10c1 }
def k10c2 : Code := { maxStack := 2, maxLocals := 2, code := jdk_29_method_69_code, exceptionTable := #[], attributes := #[] }
def k10m2 : Method := { name := "min", desc := "(II)I", sig := { parameters := [.int, .int], returnType := some .int }, accessFlags := 9, code := some k10c2 }
/-- java/lang/Math -/
def k10 : Class := { plain "java/lang/Math" (some 0) with
  accessFlags := 49
  interfaces := #[]
  cf := some (fileOf pool10 1 #[.nestMembers #[98]] #[{ accessFlags := 2, nameIndex := 7, descriptorIndex := 8, attributes := #[] }, { accessFlags := 9, nameIndex := 198, descriptorIndex := 335, attributes := #[] }, { accessFlags := 9, nameIndex := 201, descriptorIndex := 335, attributes := #[] }] 49 4 #[] #[{ accessFlags := 25, nameIndex := 354, descriptorIndex := 339, attributes := #[] }, { accessFlags := 25, nameIndex := 358, descriptorIndex := 339, attributes := #[] }, { accessFlags := 25, nameIndex := 361, descriptorIndex := 339, attributes := #[] }, { accessFlags := 26, nameIndex := 364, descriptorIndex := 339, attributes := #[] }, { accessFlags := 26, nameIndex := 365, descriptorIndex := 339, attributes := #[] }, { accessFlags := 26, nameIndex := 172, descriptorIndex := 173, attributes := #[] }, { accessFlags := 26, nameIndex := 176, descriptorIndex := 173, attributes := #[] }, { accessFlags := 8, nameIndex := 344, descriptorIndex := 339, attributes := #[] }, { accessFlags := 8, nameIndex := 338, descriptorIndex := 339, attributes := #[] }, { accessFlags := 4120, nameIndex := 245, descriptorIndex := 246, attributes := #[] }])
  fields := #[{ name := "E", type := .double, accessFlags := 25, slot := 0, constantValue := 0 }, { name := "PI", type := .double, accessFlags := 25, slot := 1, constantValue := 0 }, { name := "TAU", type := .double, accessFlags := 25, slot := 2, constantValue := 0 }, { name := "DEGREES_TO_RADIANS", type := .double, accessFlags := 26, slot := 3, constantValue := 0 }, { name := "RADIANS_TO_DEGREES", type := .double, accessFlags := 26, slot := 4, constantValue := 0 }, { name := "negativeZeroFloatBits", type := .long, accessFlags := 26, slot := 5, constantValue := 0 }, { name := "negativeZeroDoubleBits", type := .long, accessFlags := 26, slot := 6, constantValue := 0 }, { name := "twoToTheDoubleScaleUp", type := .double, accessFlags := 8, slot := 7, constantValue := 0 }, { name := "twoToTheDoubleScaleDown", type := .double, accessFlags := 8, slot := 8, constantValue := 0 }, { name := "$assertionsDisabled", type := .boolean, accessFlags := 4120, slot := 9, constantValue := 0 }]
  methods := #[k10m0, k10m1, k10m2]
  instanceTypes := #[]
  staticTypes := #[.double, .double, .double, .double, .double, .long, .long, .double, .double, .boolean]
  resolved := Array.replicate 460 none
  statics := none }

def pool11 : Array CpInfo := pool [(3, .class_ 4), (0, u "java/lang/String"), (1, .class_ 8), (1, u "java/lang/Object"), (0, u "<init>"), (0, u "()V"), (0, .methodref 12 13), (0, .class_ 14), (0, .nameAndType 15 16), (0, u "java/lang/StringUTF16"), (0, u "newBytesLength"), (0, u "(I)I"), (3, .integer 1073741823), (23, .fieldref 12 45), (0, .nameAndType 46 47), (0, u "$assertionsDisabled"), (0, u "Z"), (0, .methodref 12 49), (0, .nameAndType 50 51), (0, u "length"), (0, u "([B)I"), (7, .fieldref 12 60), (0, .nameAndType 61 62), (0, u "HI_BYTE_SHIFT"), (0, u "I"), (0, .fieldref 12 64), (0, .nameAndType 65 62), (0, u "LO_BYTE_SHIFT"), (5, .methodref 12 72), (0, .nameAndType 73 74), (0, u "getChar"), (0, u "([BI)C"), (21, .methodref 12 97), (0, .nameAndType 98 99), (0, u "checkBoundsBeginEnd"), (0, u "(II[B)V"), (7, .methodref 12 108), (0, .nameAndType 109 110), (0, u "newBytesFor"), (0, u "(I)[B"), (0, .methodref 12 112), (0, .nameAndType 113 114), (0, u "putChar"), (0, u "([BII)V"), (0, .methodref 12 116), (0, .nameAndType 117 118), (0, u "compress"), (0, u "([CI[BII)I"), (0, .methodref 12 120), (0, .nameAndType 121 122), (0, u "toBytes"), (0, u "([CII)[B"), (60, .methodref 184 185), (0, .class_ 186), (0, .nameAndType 187 188), (0, u "java/lang/Math"), (0, u "min"), (0, u "(II)I"), (35, .methodref 184 225), (0, .nameAndType 226 188), (0, u "max"), (0, .integer 65536), (0, .methodref 12 229), (0, .nameAndType 230 231), (0, u "indexOfChar"), (0, u "([BIII)I"), (9, .methodref 3 242), (0, .nameAndType 98 243), (0, u "(III)V"), (0, .methodref 12 245), (0, .nameAndType 246 231), (0, u "indexOfCharUnsafe"), (14, u "coderFromArrayLen"), (0, u "([BI)B"), (5, u "indexOf"), (100, .class_ 371), (1, u "java/lang/StringUTF16$LinesSpliterator"), (58, u "MAX_LENGTH"), (44, u "(C)[B"), (151, .class_ 628), (0, u "java/lang/StringUTF16$CodePointsSpliterator"), (0, .class_ 630), (0, u "java/lang/StringUTF16$CharsSpliterator")] 4

def k11m0 : Method := { name := "<init>", desc := "()V", sig := { parameters := [], returnType := none }, accessFlags := 0, code := none }
def k11c1 : Code := { maxStack := 1, maxLocals := 1, code := jdk_52_method_2_code, exceptionTable := #[], attributes := #[] }
def k11m1 : Method := { name := "newBytesFor", desc := "(I)[B", sig := { parameters := [.int], returnType := some (.array .byte) }, accessFlags := 9, code := some k11c1 }
def k11c2 : Code := { maxStack := 4, maxLocals := 1, code := jdk_52_method_3_code, exceptionTable := #[], attributes := #[] }
def k11m2 : Method := { name := "newBytesLength", desc := "(I)I", sig := { parameters := [.int], returnType := some .int }, accessFlags := 9, code := some k11c2 }
def k11c3 : Code := { maxStack := 4, maxLocals := 3, code := jdk_52_method_4_code, exceptionTable := #[], attributes := #[] }
def k11m3 : Method := { name := "putChar", desc := "([BII)V", sig := { parameters := [(.array .byte), .int, .int], returnType := none }, accessFlags := 8, code := some k11c3 }
def k11c4 : Code := { maxStack := 3, maxLocals := 2, code := jdk_52_method_5_code, exceptionTable := #[], attributes := #[] }
def k11m4 : Method := { name := "getChar", desc := "([BI)C", sig := { parameters := [(.array .byte), .int], returnType := some .char }, accessFlags := 8, code := some k11c4 }
def k11c5 : Code := { maxStack := 2, maxLocals := 1, code := jdk_52_method_6_code, exceptionTable := #[], attributes := #[] }
def k11m5 : Method := { name := "length", desc := "([B)I", sig := { parameters := [(.array .byte)], returnType := some .int }, accessFlags := 9, code := some k11c5 }
def k11c6 : Code := { maxStack := 4, maxLocals := 5, code := jdk_52_method_14_code, exceptionTable := #[], attributes := #[] }
def k11m6 : Method := { name := "toBytes", desc := "([CII)[B", sig := { parameters := [(.array .char), .int, .int], returnType := some (.array .byte) }, accessFlags := 9, code := some k11c6 }
def k11c7 : Code := { maxStack := 2, maxLocals := 2, code := jdk_52_method_15_code, exceptionTable := #[], attributes := #[] }
def k11m7 : Method := { name := "coderFromArrayLen", desc := "([BI)B", sig := { parameters := [(.array .byte), .int], returnType := some .byte }, accessFlags := 8, code := some k11c7 }
def k11c8 : Code := { maxStack := 5, maxLocals := 6, code := jdk_52_method_16_code, exceptionTable := #[], attributes := #[] }
def k11m8 : Method := { name := "compress", desc := "([CII)[B", sig := { parameters := [(.array .char), .int, .int], returnType := some (.array .byte) }, accessFlags := 9, code := some k11c8 }
def k11c9 : Code := { maxStack := 3, maxLocals := 7, code := jdk_52_method_21_code, exceptionTable := #[], attributes := #[] }
def k11m9 : Method := { name := "compress", desc := "([CI[BII)I", sig := { parameters := [(.array .char), .int, (.array .byte), .int, .int], returnType := some .int }, accessFlags := 9, code := some k11c9 }
def k11c10 : Code := { maxStack := 3, maxLocals := 2, code := jdk_52_method_24_code, exceptionTable := #[], attributes := #[] }
def k11m10 : Method := { name := "toBytes", desc := "(C)[B", sig := { parameters := [.char], returnType := some (.array .byte) }, accessFlags := 9, code := some k11c10 }
def k11c11 : Code := { maxStack := 4, maxLocals := 4, code := jdk_52_method_40_code, exceptionTable := #[], attributes := #[] }
def k11m11 : Method := { name := "indexOf", desc := "([BIII)I", sig := { parameters := [(.array .byte), .int, .int, .int], returnType := some .int }, accessFlags := 9, code := some k11c11 }
def k11c12 : Code := { maxStack := 4, maxLocals := 4, code := jdk_52_method_47_code, exceptionTable := #[], attributes := #[] }
def k11m12 : Method := { name := "indexOfChar", desc := "([BIII)I", sig := { parameters := [(.array .byte), .int, .int, .int], returnType := some .int }, accessFlags := 10, code := some k11c12 }
def k11c13 : Code := { maxStack := 2, maxLocals := 5, code := jdk_52_method_48_code, exceptionTable := #[], attributes := #[] }
def k11m13 : Method := { name := "indexOfCharUnsafe", desc := "([BIII)I", sig := { parameters := [(.array .byte), .int, .int, .int], returnType := some .int }, accessFlags := 10, code := some k11c13 }
def k11c14 : Code := { maxStack := 3, maxLocals := 3, code := jdk_52_method_93_code, exceptionTable := #[], attributes := #[] }
def k11m14 : Method := { name := "checkBoundsBeginEnd", desc := "(II[B)V", sig := { parameters := [.int, .int, (.array .byte)], returnType := none }, accessFlags := 9, code := some k11c14 }
/-- java/lang/StringUTF16 -/
def k11 : Class := { plain "java/lang/StringUTF16" (some 0) with
  accessFlags := 48
  interfaces := #[]
  cf := some (fileOf pool11 12 #[.nestMembers #[627, 629, 369]] #[{ accessFlags := 0, nameIndex := 9, descriptorIndex := 10, attributes := #[] }, { accessFlags := 9, nameIndex := 109, descriptorIndex := 110, attributes := #[] }, { accessFlags := 9, nameIndex := 15, descriptorIndex := 16, attributes := #[] }, { accessFlags := 8, nameIndex := 113, descriptorIndex := 114, attributes := #[] }, { accessFlags := 8, nameIndex := 73, descriptorIndex := 74, attributes := #[] }, { accessFlags := 9, nameIndex := 50, descriptorIndex := 51, attributes := #[] }, { accessFlags := 9, nameIndex := 121, descriptorIndex := 122, attributes := #[] }, { accessFlags := 8, nameIndex := 261, descriptorIndex := 262, attributes := #[] }, { accessFlags := 9, nameIndex := 117, descriptorIndex := 122, attributes := #[] }, { accessFlags := 9, nameIndex := 117, descriptorIndex := 118, attributes := #[] }, { accessFlags := 9, nameIndex := 121, descriptorIndex := 475, attributes := #[] }, { accessFlags := 9, nameIndex := 268, descriptorIndex := 231, attributes := #[] }, { accessFlags := 10, nameIndex := 230, descriptorIndex := 231, attributes := #[] }, { accessFlags := 10, nameIndex := 246, descriptorIndex := 231, attributes := #[] }, { accessFlags := 9, nameIndex := 98, descriptorIndex := 99, attributes := #[] }] 48 6 #[] #[{ accessFlags := 26, nameIndex := 61, descriptorIndex := 62, attributes := #[] }, { accessFlags := 26, nameIndex := 65, descriptorIndex := 62, attributes := #[] }, { accessFlags := 24, nameIndex := 430, descriptorIndex := 62, attributes := #[] }, { accessFlags := 4120, nameIndex := 46, descriptorIndex := 47, attributes := #[] }])
  fields := #[{ name := "HI_BYTE_SHIFT", type := .int, accessFlags := 26, slot := 0, constantValue := 0 }, { name := "LO_BYTE_SHIFT", type := .int, accessFlags := 26, slot := 1, constantValue := 0 }, { name := "MAX_LENGTH", type := .int, accessFlags := 24, slot := 2, constantValue := 0 }, { name := "$assertionsDisabled", type := .boolean, accessFlags := 4120, slot := 3, constantValue := 0 }]
  methods := #[k11m0, k11m1, k11m2, k11m3, k11m4, k11m5, k11m6, k11m7, k11m8, k11m9, k11m10, k11m11, k11m12, k11m13, k11m14]
  instanceTypes := #[]
  staticTypes := #[.int, .int, .int, .boolean]
  resolved := Array.replicate 635 none
  statics := some 1 }

def pool12 : Array CpInfo := pool [(2, .class_ 4), (1, u "java/lang/Object"), (0, u "<init>"), (0, u "()V"), (17, .class_ 26), (1, u "jdk/internal/util/Preconditions"), (20, u "checkFromToIndex"), (7, .class_ 56), (0, u "jdk/internal/util/Preconditions$4"), (57, .class_ 115), (0, u "jdk/internal/util/Preconditions$1"), (7, u "SIOOBE_FORMATTER"), (0, u "Ljava/util/function/BiFunction;"), (0, .class_ 126), (0, u "jdk/internal/util/Preconditions$2"), (3, u "AIOOBE_FORMATTER"), (0, .class_ 132), (0, u "jdk/internal/util/Preconditions$3"), (3, u "IOOBE_FORMATTER"), (46, u "(IIILjava/util/function/BiFunction;)I")] 10

def k12m0 : Method := { name := "<init>", desc := "()V", sig := { parameters := [], returnType := none }, accessFlags := 1, code := none }
def k12c1 : Code := { maxStack := 4, maxLocals := 4, code := jdk_41_method_12_code, exceptionTable := #[], attributes := #[] }
def k12m1 : Method := { name := "checkFromToIndex", desc := "(IIILjava/util/function/BiFunction;)I", sig := { parameters := [.int, .int, .int, (.object "java/util/function/BiFunction")], returnType := some .int }, accessFlags := 9, code := some k12c1 }
/-- jdk/internal/util/Preconditions -/
def k12 : Class := { plain "jdk/internal/util/Preconditions" (some 0) with
  accessFlags := 33
  interfaces := #[]
  cf := some (fileOf pool12 24 #[.nestMembers #[55, 131, 125, 114]] #[{ accessFlags := 1, nameIndex := 5, descriptorIndex := 6, attributes := #[] }, { accessFlags := 9, nameIndex := 47, descriptorIndex := 183, attributes := #[] }] 33 2 #[] #[{ accessFlags := 25, nameIndex := 123, descriptorIndex := 124, attributes := #[] }, { accessFlags := 25, nameIndex := 130, descriptorIndex := 124, attributes := #[] }, { accessFlags := 25, nameIndex := 136, descriptorIndex := 124, attributes := #[] }])
  fields := #[{ name := "SIOOBE_FORMATTER", type := (.object "java/util/function/BiFunction"), accessFlags := 25, slot := 0, constantValue := 0 }, { name := "AIOOBE_FORMATTER", type := (.object "java/util/function/BiFunction"), accessFlags := 25, slot := 1, constantValue := 0 }, { name := "IOOBE_FORMATTER", type := (.object "java/util/function/BiFunction"), accessFlags := 25, slot := 2, constantValue := 0 }]
  methods := #[k12m0, k12m1]
  instanceTypes := #[]
  staticTypes := #[(.object "java/util/function/BiFunction"), (.object "java/util/function/BiFunction"), (.object "java/util/function/BiFunction")]
  resolved := Array.replicate 194 none
  statics := some 2 }

def pool13 : Array CpInfo := pool [(9, u "<init>"), (6, .class_ 18), (1, u "java/lang/Object"), (0, u "()V"), (1, .class_ 23), (1, u "jdk/internal/util/ArraysSupport"), (0, u "LOG2_ARRAY_LONG_INDEX_SCALE"), (0, u "I"), (2, u "U"), (0, u "Ljdk/internal/misc/Unsafe;"), (8, u "BIG_ENDIAN"), (0, u "Z"), (8, u "LOG2_BYTE_BIT_SIZE"), (4, u "LOG2_ARRAY_INT_INDEX_SCALE"), (54, u "JLA"), (0, u "Ljdk/internal/access/JavaLangAccess;"), (11, u "LOG2_ARRAY_BOOLEAN_INDEX_SCALE"), (9, u "LOG2_ARRAY_BYTE_INDEX_SCALE"), (5, u "LOG2_ARRAY_CHAR_INDEX_SCALE"), (5, u "LOG2_ARRAY_SHORT_INDEX_SCALE"), (18, u "LOG2_ARRAY_FLOAT_INDEX_SCALE"), (24, u "LOG2_ARRAY_DOUBLE_INDEX_SCALE"), (89, u "T_BOOLEAN"), (2, u "T_CHAR"), (1, u "T_FLOAT"), (1, u "T_DOUBLE"), (1, u "T_BYTE"), (1, u "T_SHORT"), (1, u "T_INT"), (1, u "T_LONG"), (1, u "SOFT_MAX_ARRAY_LENGTH")] 83

def k13m0 : Method := { name := "<init>", desc := "()V", sig := { parameters := [], returnType := none }, accessFlags := 2, code := none }
/-- jdk/internal/util/ArraysSupport -/
def k13 : Class := { plain "jdk/internal/util/ArraysSupport" (some 0) with
  accessFlags := 33
  interfaces := #[]
  cf := some (fileOf pool13 21 #[] #[{ accessFlags := 2, nameIndex := 9, descriptorIndex := 19, attributes := #[] }] 33 16 #[] #[{ accessFlags := 24, nameIndex := 28, descriptorIndex := 29, attributes := #[] }, { accessFlags := 26, nameIndex := 38, descriptorIndex := 39, attributes := #[] }, { accessFlags := 25, nameIndex := 121, descriptorIndex := 25, attributes := #[] }, { accessFlags := 25, nameIndex := 131, descriptorIndex := 25, attributes := #[] }, { accessFlags := 25, nameIndex := 137, descriptorIndex := 25, attributes := #[] }, { accessFlags := 25, nameIndex := 143, descriptorIndex := 25, attributes := #[] }, { accessFlags := 25, nameIndex := 53, descriptorIndex := 25, attributes := #[] }, { accessFlags := 25, nameIndex := 24, descriptorIndex := 25, attributes := #[] }, { accessFlags := 25, nameIndex := 162, descriptorIndex := 25, attributes := #[] }, { accessFlags := 25, nameIndex := 187, descriptorIndex := 25, attributes := #[] }, { accessFlags := 26, nameIndex := 48, descriptorIndex := 25, attributes := #[] }, { accessFlags := 25, nameIndex := 277, descriptorIndex := 25, attributes := #[] }, { accessFlags := 25, nameIndex := 280, descriptorIndex := 25, attributes := #[] }, { accessFlags := 25, nameIndex := 282, descriptorIndex := 25, attributes := #[] }, { accessFlags := 25, nameIndex := 284, descriptorIndex := 25, attributes := #[] }, { accessFlags := 25, nameIndex := 286, descriptorIndex := 25, attributes := #[] }, { accessFlags := 25, nameIndex := 288, descriptorIndex := 25, attributes := #[] }, { accessFlags := 25, nameIndex := 290, descriptorIndex := 25, attributes := #[] }, { accessFlags := 25, nameIndex := 292, descriptorIndex := 25, attributes := #[] }, { accessFlags := 26, nameIndex := 108, descriptorIndex := 109, attributes := #[] }, { accessFlags := 25, nameIndex := 294, descriptorIndex := 25, attributes := #[] }])
  fields := #[{ name := "U", type := (.object "jdk/internal/misc/Unsafe"), accessFlags := 24, slot := 0, constantValue := 0 }, { name := "BIG_ENDIAN", type := .boolean, accessFlags := 26, slot := 1, constantValue := 0 }, { name := "LOG2_ARRAY_BOOLEAN_INDEX_SCALE", type := .int, accessFlags := 25, slot := 2, constantValue := 0 }, { name := "LOG2_ARRAY_BYTE_INDEX_SCALE", type := .int, accessFlags := 25, slot := 3, constantValue := 0 }, { name := "LOG2_ARRAY_CHAR_INDEX_SCALE", type := .int, accessFlags := 25, slot := 4, constantValue := 0 }, { name := "LOG2_ARRAY_SHORT_INDEX_SCALE", type := .int, accessFlags := 25, slot := 5, constantValue := 0 }, { name := "LOG2_ARRAY_INT_INDEX_SCALE", type := .int, accessFlags := 25, slot := 6, constantValue := 0 }, { name := "LOG2_ARRAY_LONG_INDEX_SCALE", type := .int, accessFlags := 25, slot := 7, constantValue := 0 }, { name := "LOG2_ARRAY_FLOAT_INDEX_SCALE", type := .int, accessFlags := 25, slot := 8, constantValue := 0 }, { name := "LOG2_ARRAY_DOUBLE_INDEX_SCALE", type := .int, accessFlags := 25, slot := 9, constantValue := 0 }, { name := "LOG2_BYTE_BIT_SIZE", type := .int, accessFlags := 26, slot := 10, constantValue := 0 }, { name := "T_BOOLEAN", type := .int, accessFlags := 25, slot := 11, constantValue := 0 }, { name := "T_CHAR", type := .int, accessFlags := 25, slot := 12, constantValue := 0 }, { name := "T_FLOAT", type := .int, accessFlags := 25, slot := 13, constantValue := 0 }, { name := "T_DOUBLE", type := .int, accessFlags := 25, slot := 14, constantValue := 0 }, { name := "T_BYTE", type := .int, accessFlags := 25, slot := 15, constantValue := 0 }, { name := "T_SHORT", type := .int, accessFlags := 25, slot := 16, constantValue := 0 }, { name := "T_INT", type := .int, accessFlags := 25, slot := 17, constantValue := 0 }, { name := "T_LONG", type := .int, accessFlags := 25, slot := 18, constantValue := 0 }, { name := "JLA", type := (.object "jdk/internal/access/JavaLangAccess"), accessFlags := 26, slot := 19, constantValue := 0 }, { name := "SOFT_MAX_ARRAY_LENGTH", type := .int, accessFlags := 25, slot := 20, constantValue := 0 }]
  methods := #[k13m0]
  instanceTypes := #[]
  staticTypes := #[(.object "jdk/internal/misc/Unsafe"), .boolean, .int, .int, .int, .int, .int, .int, .int, .int, .int, .int, .int, .int, .int, .int, .int, .int, .int, (.object "jdk/internal/access/JavaLangAccess"), .int]
  resolved := Array.replicate 378 none
  statics := none }

def pool14 : Array CpInfo := pool [(1, u "java/lang/Cloneable"), (0, .class_ 1), (0, u "java/lang/Object"), (0, .class_ 3)] 3

/-- java/lang/Cloneable -/
def k14 : Class := { plain "java/lang/Cloneable" (some 0) with
  accessFlags := 1537
  interfaces := #[]
  cf := some (fileOf pool14 2 #[] #[] 1537 4 #[] #[])
  fields := #[]
  methods := #[]
  instanceTypes := #[]
  staticTypes := #[]
  resolved := Array.replicate 8 none
  statics := none }

/-- the primitive byte -/
def k15 : Class := { plain "byte" none with kind := .primitive 'B', accessFlags := 0x411 }
/-- [B -/
def k16 : Class := { plain "[B" (some 0) with kind := .array 15 .byte, interfaces := #[14, 2], accessFlags := 1041 }

/-- the primitive char -/
def k17 : Class := { plain "char" none with kind := .primitive 'C', accessFlags := 0x411 }
/-- [C -/
def k18 : Class := { plain "[C" (some 0) with kind := .array 17 .char, interfaces := #[14, 2], accessFlags := 1041 }

/-- the primitive int -/
def k19 : Class := { plain "int" none with kind := .primitive 'I', accessFlags := 0x411 }
/-- [I -/
def k20 : Class := { plain "[I" (some 0) with kind := .array 19 .int, interfaces := #[14, 2], accessFlags := 1041 }

def heap : Heap := #[{ cls := 7, slots := #[.long 0, .int 1, .null, .int 0, .null, .int 0, .int 0], vm := .statics 7 },
  { cls := 11, slots := #[.int 0, .int 8, .int 0, .int 1], vm := .statics 11 },
  { cls := 12, slots := #[.null, .null, .null], vm := .statics 12 }]
def classes : Array Class := #[k0, k1, k2, k3, k4, k5, k6, k7, k8, k9, k10, k11, k12, k13, k14, k15, k16, k17, k18, k19, k20]
def interned : List (Array UInt16 × Addr) := []
def slotsUsed : Nat := 14
def theMethod : MethodId := ⟨1, 2⟩
def args0 : Array Value := #[.int 65, .int 66, .int 67, .int 68, .int 69, .int 2]
def aboutOver (below : List Frame) : State where
  vm := { classes := classes, interned := interned.toArray }
  heap := heap
  slotsUsed := slotsUsed
  threads := #[{ frames := .invoking theMethod args0 :: below }]
def below0 : List Frame := [.native { method := ⟨0, 0⟩, args := #[] }]
def about1 : State := aboutOver below0
def p0 : Program := .bare "" "" ""
def e0 : Env := launch0.env 0 0 0
theorem w_frames : about1.frames = Frame.invoking theMethod args0 :: below0 := rfl
set_option maxRecDepth 65536 in
theorem w_args : argsFit about1.vm theMethod args0 = true := by decide +kernel
set_option maxRecDepth 65536 in
theorem w_heap : heapFits about1 = true := by decide +kernel
set_option maxRecDepth 65536 in
theorem w_runnable : about1.curStatus? = some .runnable := by decide +kernel
set_option maxRecDepth 65536 in
theorem w_alone : about1.alone = true := by decide +kernel
set_option maxRecDepth 65536 in
theorem w_named : about1.methodNamed? x = some theMethod := by decide +kernel
set_option maxRecDepth 65536 in
theorem w_hears : about1.hears theMethod below0 = true := by decide +kernel
set_option maxRecDepth 65536 in
theorem w_ripe : about1.ripe theMethod args0 below0 = true := by decide +kernel
theorem w_running : about1.status = .running := rfl
set_option maxRecDepth 65536 in
theorem w_room : about1.hasRoom e0.platform room_1 = true :=
  launch0.hasRoom_least _ room_1 (by decide +kernel) (by decide +kernel) (by decide +kernel) (by decide +kernel) (by decide +kernel) (by decide +kernel)
theorem allAtoms_all (ts : List Jvm.Cond) (a : Array Jvm.Value) (st : Jvm.State) : (allAtoms ts).before a st = ts.all (fun c => c.before a st) := by
  induction ts with
  | nil => rfl
  | cons c t ih =>
    show (Jvm.Cond.and c (allAtoms t)).before a st = _
    rw [Jvm.Cond.before_and, ih, List.all_cons]
def words1 : List Jvm.Cond := Jvm.Cond.code x code maxLocals ret :: tables_1
/-- a 'code' word, met by the world's own term for the bytes: nothing is compared byte by byte -/
theorem code_word {y : MethodName} {bytes : ByteArray} {mx : Nat} {rt : Option FieldType} {a : Array Value} {s : State} {m : MethodId} {meth : Method} {c : Code} (h1 : s.methodNamed? y = some m) (h2 : s.vm.method? m = some meth) (h3 : meth.code = some c) (h4 : c.code = bytes)
    (h5 : (c.maxLocals == mx && c.exceptionTable.isEmpty && decide (c.maxStack ≤ mostOperands) && decide (meth.sig.returnType = rt) && !meth.locks && decide (parseMethodDescriptor y.desc = some meth.sig)) = true) : (Jvm.Cond.code y bytes mx rt).before a s = true := by
  simp only [Bool.and_eq_true, beq_iff_eq, Bool.not_eq_true', decide_eq_true_eq] at h5
  obtain ⟨⟨⟨⟨⟨g1, g2⟩, g3⟩, g4⟩, g5⟩, g6⟩ := h5
  simp [Cond.before, Cond.holds, Cond.value, h1, h2, h3, h4, g1, g2, g3, g4, g5, g6]
def isCode : Jvm.Cond → Bool
  | .code _ _ _ _ => true
  | _ => false
theorem all_split {L : List Jvm.Cond} {P : Jvm.Cond → Bool} (h1 : L.all (fun c => isCode c || P c) = true) (h2 : ∀ c ∈ L.filter isCode, P c = true) : L.all P = true := by
  refine List.all_eq_true.mpr fun c hc => ?_
  have h := List.all_eq_true.mp h1 c hc
  rcases Bool.eq_false_or_eq_true (isCode c) with hi | hi
  · exact h2 c (List.mem_filter.mpr ⟨hc, hi⟩)
  · simpa [hi] using h
set_option maxRecDepth 65536 in
theorem w_c0 : (Jvm.Cond.code x code maxLocals ret).before args0 about1 = true := code_word (m := ⟨1, 2⟩) (meth := k1m2) (c := k1c2) (by decide +kernel) rfl rfl rfl (by decide +kernel)
set_option maxRecDepth 65536 in
theorem w_c1 : (Jvm.Cond.code ({ cls := "java/lang/String", name := "<init>", desc := "([C)V" } : Jvm.MethodName) jdk_42_method_3_code (2 : Nat) (Option.none : Option Jvm.ClassFile.FieldType)).before args0 about1 = true := code_word (m := ⟨7, 1⟩) (meth := k7m1) (c := k7c1) (by decide +kernel) rfl rfl rfl (by decide +kernel)
set_option maxRecDepth 65536 in
theorem w_c2 : (Jvm.Cond.code ({ cls := "java/lang/String", name := "<init>", desc := "([CIILjava/lang/Void;)V" } : Jvm.MethodName) jdk_42_method_149_code (6 : Nat) (Option.none : Option Jvm.ClassFile.FieldType)).before args0 about1 = true := code_word (m := ⟨7, 6⟩) (meth := k7m6) (c := k7c6) (by decide +kernel) rfl rfl rfl (by decide +kernel)
set_option maxRecDepth 65536 in
theorem w_c3 : (Jvm.Cond.code ({ cls := "java/lang/Object", name := "<init>", desc := "()V" } : Jvm.MethodName) object_method_1_code (1 : Nat) (Option.none : Option Jvm.ClassFile.FieldType)).before args0 about1 = true := code_word (m := ⟨0, 0⟩) (meth := k0m0) (c := k0c0) (by decide +kernel) rfl rfl rfl (by decide +kernel)
set_option maxRecDepth 65536 in
theorem w_c4 : (Jvm.Cond.code ({ cls := "java/lang/String", name := "valueOf", desc := "(C)Ljava/lang/String;" } : Jvm.MethodName) jdk_42_method_139_code (1 : Nat) (Option.some (Jvm.ClassFile.FieldType.object "java/lang/String"))).before args0 about1 = true := code_word (m := ⟨7, 5⟩) (meth := k7m5) (c := k7c5) (by decide +kernel) rfl rfl rfl (by decide +kernel)
set_option maxRecDepth 65536 in
theorem w_c5 : (Jvm.Cond.code ({ cls := "java/lang/StringLatin1", name := "canEncode", desc := "(C)Z" } : Jvm.MethodName) jdk_43_method_3_code (1 : Nat) (Option.some Jvm.ClassFile.FieldType.boolean)).before args0 about1 = true := code_word (m := ⟨8, 1⟩) (meth := k8m1) (c := k8c1) (by decide +kernel) rfl rfl rfl (by decide +kernel)
set_option maxRecDepth 65536 in
theorem w_c6 : (Jvm.Cond.code ({ cls := "java/lang/StringLatin1", name := "toBytes", desc := "(C)[B" } : Jvm.MethodName) jdk_43_method_46_code (1 : Nat) (Option.some (Jvm.ClassFile.FieldType.array Jvm.ClassFile.FieldType.byte))).before args0 about1 = true := code_word (m := ⟨8, 5⟩) (meth := k8m5) (c := k8c5) (by decide +kernel) rfl rfl rfl (by decide +kernel)
set_option maxRecDepth 65536 in
theorem w_c7 : (Jvm.Cond.code ({ cls := "java/lang/String", name := "<init>", desc := "([BB)V" } : Jvm.MethodName) jdk_42_method_151_code (3 : Nat) (Option.none : Option Jvm.ClassFile.FieldType)).before args0 about1 = true := code_word (m := ⟨7, 7⟩) (meth := k7m7) (c := k7c7) (by decide +kernel) rfl rfl rfl (by decide +kernel)
set_option maxRecDepth 65536 in
theorem w_c8 : (Jvm.Cond.code ({ cls := "com/example/ferryline/ferryline/model/OneLine", name := "require", desc := "(Ljava/lang/String;Ljava/lang/String;)Ljava/lang/String;" } : Jvm.MethodName) prog_70_method_2_code (2 : Nat) (Option.some (Jvm.ClassFile.FieldType.object "java/lang/String"))).before args0 about1 = true := code_word (m := ⟨9, 1⟩) (meth := k9m1) (c := k9c1) (by decide +kernel) rfl rfl rfl (by decide +kernel)
set_option maxRecDepth 65536 in
theorem w_c9 : (Jvm.Cond.code ({ cls := "java/lang/String", name := "indexOf", desc := "(I)I" } : Jvm.MethodName) jdk_42_method_79_code (2 : Nat) (Option.some Jvm.ClassFile.FieldType.int)).before args0 about1 = true := code_word (m := ⟨7, 3⟩) (meth := k7m3) (c := k7c3) (by decide +kernel) rfl rfl rfl (by decide +kernel)
set_option maxRecDepth 65536 in
theorem w_c10 : (Jvm.Cond.code ({ cls := "java/lang/String", name := "indexOf", desc := "(II)I" } : Jvm.MethodName) jdk_42_method_80_code (3 : Nat) (Option.some Jvm.ClassFile.FieldType.int)).before args0 about1 = true := code_word (m := ⟨7, 4⟩) (meth := k7m4) (c := k7c4) (by decide +kernel) rfl rfl rfl (by decide +kernel)
set_option maxRecDepth 65536 in
theorem w_c11 : (Jvm.Cond.code ({ cls := "java/lang/String", name := "isLatin1", desc := "()Z" } : Jvm.MethodName) jdk_42_method_154_code (1 : Nat) (Option.some Jvm.ClassFile.FieldType.boolean)).before args0 about1 = true := code_word (m := ⟨7, 9⟩) (meth := k7m9) (c := k7c9) (by decide +kernel) rfl rfl rfl (by decide +kernel)
set_option maxRecDepth 65536 in
theorem w_c12 : (Jvm.Cond.code ({ cls := "java/lang/String", name := "length", desc := "()I" } : Jvm.MethodName) jdk_42_method_54_code (1 : Nat) (Option.some Jvm.ClassFile.FieldType.int)).before args0 about1 = true := code_word (m := ⟨7, 2⟩) (meth := k7m2) (c := k7c2) (by decide +kernel) rfl rfl rfl (by decide +kernel)
set_option maxRecDepth 65536 in
theorem w_c13 : (Jvm.Cond.code ({ cls := "java/lang/String", name := "coder", desc := "()B" } : Jvm.MethodName) jdk_42_method_152_code (1 : Nat) (Option.some Jvm.ClassFile.FieldType.byte)).before args0 about1 = true := code_word (m := ⟨7, 8⟩) (meth := k7m8) (c := k7c8) (by decide +kernel) rfl rfl rfl (by decide +kernel)
set_option maxRecDepth 65536 in
theorem w_c14 : (Jvm.Cond.code ({ cls := "java/lang/StringLatin1", name := "indexOf", desc := "([BIII)I" } : Jvm.MethodName) jdk_43_method_22_code (4 : Nat) (Option.some Jvm.ClassFile.FieldType.int)).before args0 about1 = true := code_word (m := ⟨8, 3⟩) (meth := k8m3) (c := k8c3) (by decide +kernel) rfl rfl rfl (by decide +kernel)
set_option maxRecDepth 65536 in
theorem w_c15 : (Jvm.Cond.code ({ cls := "java/lang/StringLatin1", name := "canEncode", desc := "(I)Z" } : Jvm.MethodName) jdk_43_method_4_code (1 : Nat) (Option.some Jvm.ClassFile.FieldType.boolean)).before args0 about1 = true := code_word (m := ⟨8, 2⟩) (meth := k8m2) (c := k8c2) (by decide +kernel) rfl rfl rfl (by decide +kernel)
set_option maxRecDepth 65536 in
theorem w_c16 : (Jvm.Cond.code ({ cls := "java/lang/Math", name := "max", desc := "(II)I" } : Jvm.MethodName) jdk_29_method_65_code (2 : Nat) (Option.some Jvm.ClassFile.FieldType.int)).before args0 about1 = true := code_word (m := ⟨10, 1⟩) (meth := k10m1) (c := k10c1) (by decide +kernel) rfl rfl rfl (by decide +kernel)
set_option maxRecDepth 65536 in
theorem w_c17 : (Jvm.Cond.code ({ cls := "java/lang/Math", name := "min", desc := "(II)I" } : Jvm.MethodName) jdk_29_method_69_code (2 : Nat) (Option.some Jvm.ClassFile.FieldType.int)).before args0 about1 = true := code_word (m := ⟨10, 2⟩) (meth := k10m2) (c := k10c2) (by decide +kernel) rfl rfl rfl (by decide +kernel)
set_option maxRecDepth 65536 in
theorem w_c18 : (Jvm.Cond.code ({ cls := "com/example/ferryline/ferryline/model/OneLineRequirePinLaw", name := "safe", desc := "(I)C" } : Jvm.MethodName) method_2_code (2 : Nat) (Option.some Jvm.ClassFile.FieldType.char)).before args0 about1 = true := code_word (m := ⟨1, 1⟩) (meth := k1m1) (c := k1c1) (by decide +kernel) rfl rfl rfl (by decide +kernel)
set_option maxRecDepth 65536 in
theorem w_c19 : (Jvm.Cond.code ({ cls := "java/lang/StringUTF16", name := "compress", desc := "([CII)[B" } : Jvm.MethodName) jdk_52_method_16_code (6 : Nat) (Option.some (Jvm.ClassFile.FieldType.array Jvm.ClassFile.FieldType.byte))).before args0 about1 = true := code_word (m := ⟨11, 8⟩) (meth := k11m8) (c := k11c8) (by decide +kernel) rfl rfl rfl (by decide +kernel)
set_option maxRecDepth 65536 in
theorem w_c20 : (Jvm.Cond.code ({ cls := "java/lang/StringUTF16", name := "compress", desc := "([CI[BII)I" } : Jvm.MethodName) jdk_52_method_21_code (7 : Nat) (Option.some Jvm.ClassFile.FieldType.int)).before args0 about1 = true := code_word (m := ⟨11, 9⟩) (meth := k11m9) (c := k11c9) (by decide +kernel) rfl rfl rfl (by decide +kernel)
set_option maxRecDepth 65536 in
theorem w_c21 : (Jvm.Cond.code ({ cls := "java/lang/StringUTF16", name := "coderFromArrayLen", desc := "([BI)B" } : Jvm.MethodName) jdk_52_method_15_code (2 : Nat) (Option.some Jvm.ClassFile.FieldType.byte)).before args0 about1 = true := code_word (m := ⟨11, 7⟩) (meth := k11m7) (c := k11c7) (by decide +kernel) rfl rfl rfl (by decide +kernel)
set_option maxRecDepth 65536 in
theorem w_c22 : (Jvm.Cond.code ({ cls := "java/lang/StringLatin1", name := "indexOfChar", desc := "([BIII)I" } : Jvm.MethodName) jdk_43_method_23_code (6 : Nat) (Option.some Jvm.ClassFile.FieldType.int)).before args0 about1 = true := code_word (m := ⟨8, 4⟩) (meth := k8m4) (c := k8c4) (by decide +kernel) rfl rfl rfl (by decide +kernel)
set_option maxRecDepth 65536 in
theorem w_c23 : (Jvm.Cond.code ({ cls := "java/lang/StringUTF16", name := "toBytes", desc := "([CII)[B" } : Jvm.MethodName) jdk_52_method_14_code (5 : Nat) (Option.some (Jvm.ClassFile.FieldType.array Jvm.ClassFile.FieldType.byte))).before args0 about1 = true := code_word (m := ⟨11, 6⟩) (meth := k11m6) (c := k11c6) (by decide +kernel) rfl rfl rfl (by decide +kernel)
set_option maxRecDepth 65536 in
theorem w_c24 : (Jvm.Cond.code ({ cls := "java/lang/StringUTF16", name := "newBytesFor", desc := "(I)[B" } : Jvm.MethodName) jdk_52_method_2_code (1 : Nat) (Option.some (Jvm.ClassFile.FieldType.array Jvm.ClassFile.FieldType.byte))).before args0 about1 = true := code_word (m := ⟨11, 1⟩) (meth := k11m1) (c := k11c1) (by decide +kernel) rfl rfl rfl (by decide +kernel)
set_option maxRecDepth 65536 in
theorem w_c25 : (Jvm.Cond.code ({ cls := "java/lang/StringUTF16", name := "newBytesLength", desc := "(I)I" } : Jvm.MethodName) jdk_52_method_3_code (1 : Nat) (Option.some Jvm.ClassFile.FieldType.int)).before args0 about1 = true := code_word (m := ⟨11, 2⟩) (meth := k11m2) (c := k11c2) (by decide +kernel) rfl rfl rfl (by decide +kernel)
set_option maxRecDepth 65536 in
theorem w_c26 : (Jvm.Cond.code ({ cls := "java/lang/StringUTF16", name := "putChar", desc := "([BII)V" } : Jvm.MethodName) jdk_52_method_4_code (3 : Nat) (Option.none : Option Jvm.ClassFile.FieldType)).before args0 about1 = true := code_word (m := ⟨11, 3⟩) (meth := k11m3) (c := k11c3) (by decide +kernel) rfl rfl rfl (by decide +kernel)
set_option maxRecDepth 65536 in
theorem w_c27 : (Jvm.Cond.code ({ cls := "java/lang/StringUTF16", name := "getChar", desc := "([BI)C" } : Jvm.MethodName) jdk_52_method_5_code (2 : Nat) (Option.some Jvm.ClassFile.FieldType.char)).before args0 about1 = true := code_word (m := ⟨11, 4⟩) (meth := k11m4) (c := k11c4) (by decide +kernel) rfl rfl rfl (by decide +kernel)
set_option maxRecDepth 65536 in
theorem w_c28 : (Jvm.Cond.code ({ cls := "java/lang/StringUTF16", name := "toBytes", desc := "(C)[B" } : Jvm.MethodName) jdk_52_method_24_code (2 : Nat) (Option.some (Jvm.ClassFile.FieldType.array Jvm.ClassFile.FieldType.byte))).before args0 about1 = true := code_word (m := ⟨11, 10⟩) (meth := k11m10) (c := k11c10) (by decide +kernel) rfl rfl rfl (by decide +kernel)
set_option maxRecDepth 65536 in
theorem w_c29 : (Jvm.Cond.code ({ cls := "java/lang/StringUTF16", name := "indexOf", desc := "([BIII)I" } : Jvm.MethodName) jdk_52_method_40_code (4 : Nat) (Option.some Jvm.ClassFile.FieldType.int)).before args0 about1 = true := code_word (m := ⟨11, 11⟩) (meth := k11m11) (c := k11c11) (by decide +kernel) rfl rfl rfl (by decide +kernel)
set_option maxRecDepth 65536 in
theorem w_c30 : (Jvm.Cond.code ({ cls := "java/lang/StringUTF16", name := "indexOfChar", desc := "([BIII)I" } : Jvm.MethodName) jdk_52_method_47_code (4 : Nat) (Option.some Jvm.ClassFile.FieldType.int)).before args0 about1 = true := code_word (m := ⟨11, 12⟩) (meth := k11m12) (c := k11c12) (by decide +kernel) rfl rfl rfl (by decide +kernel)
set_option maxRecDepth 65536 in
theorem w_c31 : (Jvm.Cond.code ({ cls := "java/lang/StringUTF16", name := "checkBoundsBeginEnd", desc := "(II[B)V" } : Jvm.MethodName) jdk_52_method_93_code (3 : Nat) (Option.none : Option Jvm.ClassFile.FieldType)).before args0 about1 = true := code_word (m := ⟨11, 14⟩) (meth := k11m14) (c := k11c14) (by decide +kernel) rfl rfl rfl (by decide +kernel)
set_option maxRecDepth 65536 in
theorem w_c32 : (Jvm.Cond.code ({ cls := "java/lang/StringUTF16", name := "length", desc := "([B)I" } : Jvm.MethodName) jdk_52_method_6_code (1 : Nat) (Option.some Jvm.ClassFile.FieldType.int)).before args0 about1 = true := code_word (m := ⟨11, 5⟩) (meth := k11m5) (c := k11c5) (by decide +kernel) rfl rfl rfl (by decide +kernel)
set_option maxRecDepth 65536 in
theorem w_c33 : (Jvm.Cond.code ({ cls := "java/lang/String", name := "checkBoundsBeginEnd", desc := "(III)V" } : Jvm.MethodName) jdk_42_method_158_code (3 : Nat) (Option.none : Option Jvm.ClassFile.FieldType)).before args0 about1 = true := code_word (m := ⟨7, 10⟩) (meth := k7m10) (c := k7c10) (by decide +kernel) rfl rfl rfl (by decide +kernel)
set_option maxRecDepth 65536 in
theorem w_c34 : (Jvm.Cond.code ({ cls := "jdk/internal/util/Preconditions", name := "checkFromToIndex", desc := "(IIILjava/util/function/BiFunction;)I" } : Jvm.MethodName) jdk_41_method_12_code (4 : Nat) (Option.some Jvm.ClassFile.FieldType.int)).before args0 about1 = true := code_word (m := ⟨12, 1⟩) (meth := k12m1) (c := k12c1) (by decide +kernel) rfl rfl rfl (by decide +kernel)
set_option maxRecDepth 65536 in
theorem w_c35 : (Jvm.Cond.code ({ cls := "java/lang/StringUTF16", name := "indexOfCharUnsafe", desc := "([BIII)I" } : Jvm.MethodName) jdk_52_method_48_code (5 : Nat) (Option.some Jvm.ClassFile.FieldType.int)).before args0 about1 = true := code_word (m := ⟨11, 13⟩) (meth := k11m13) (c := k11c13) (by decide +kernel) rfl rfl rfl (by decide +kernel)
def codes1 : List Jvm.Cond := [Jvm.Cond.code x code maxLocals ret, Jvm.Cond.code ({ cls := "java/lang/String", name := "<init>", desc := "([C)V" } : Jvm.MethodName) jdk_42_method_3_code (2 : Nat) (Option.none : Option Jvm.ClassFile.FieldType), Jvm.Cond.code ({ cls := "java/lang/String", name := "<init>", desc := "([CIILjava/lang/Void;)V" } : Jvm.MethodName) jdk_42_method_149_code (6 : Nat) (Option.none : Option Jvm.ClassFile.FieldType), Jvm.Cond.code ({ cls := "java/lang/Object", name := "<init>", desc := "()V" } : Jvm.MethodName) object_method_1_code (1 : Nat) (Option.none : Option Jvm.ClassFile.FieldType), Jvm.Cond.code ({ cls := "java/lang/String", name := "valueOf", desc := "(C)Ljava/lang/String;" } : Jvm.MethodName) jdk_42_method_139_code (1 : Nat) (Option.some (Jvm.ClassFile.FieldType.object "java/lang/String")), Jvm.Cond.code ({ cls := "java/lang/StringLatin1", name := "canEncode", desc := "(C)Z" } : Jvm.MethodName) jdk_43_method_3_code (1 : Nat) (Option.some Jvm.ClassFile.FieldType.boolean), Jvm.Cond.code ({ cls := "java/lang/StringLatin1", name := "toBytes", desc := "(C)[B" } : Jvm.MethodName) jdk_43_method_46_code (1 : Nat) (Option.some (Jvm.ClassFile.FieldType.array Jvm.ClassFile.FieldType.byte)), Jvm.Cond.code ({ cls := "java/lang/String", name := "<init>", desc := "([BB)V" } : Jvm.MethodName) jdk_42_method_151_code (3 : Nat) (Option.none : Option Jvm.ClassFile.FieldType), Jvm.Cond.code ({ cls := "com/example/ferryline/ferryline/model/OneLine", name := "require", desc := "(Ljava/lang/String;Ljava/lang/String;)Ljava/lang/String;" } : Jvm.MethodName) prog_70_method_2_code (2 : Nat) (Option.some (Jvm.ClassFile.FieldType.object "java/lang/String")), Jvm.Cond.code ({ cls := "java/lang/String", name := "indexOf", desc := "(I)I" } : Jvm.MethodName) jdk_42_method_79_code (2 : Nat) (Option.some Jvm.ClassFile.FieldType.int), Jvm.Cond.code ({ cls := "java/lang/String", name := "indexOf", desc := "(II)I" } : Jvm.MethodName) jdk_42_method_80_code (3 : Nat) (Option.some Jvm.ClassFile.FieldType.int), Jvm.Cond.code ({ cls := "java/lang/String", name := "isLatin1", desc := "()Z" } : Jvm.MethodName) jdk_42_method_154_code (1 : Nat) (Option.some Jvm.ClassFile.FieldType.boolean), Jvm.Cond.code ({ cls := "java/lang/String", name := "length", desc := "()I" } : Jvm.MethodName) jdk_42_method_54_code (1 : Nat) (Option.some Jvm.ClassFile.FieldType.int), Jvm.Cond.code ({ cls := "java/lang/String", name := "coder", desc := "()B" } : Jvm.MethodName) jdk_42_method_152_code (1 : Nat) (Option.some Jvm.ClassFile.FieldType.byte), Jvm.Cond.code ({ cls := "java/lang/StringLatin1", name := "indexOf", desc := "([BIII)I" } : Jvm.MethodName) jdk_43_method_22_code (4 : Nat) (Option.some Jvm.ClassFile.FieldType.int), Jvm.Cond.code ({ cls := "java/lang/StringLatin1", name := "canEncode", desc := "(I)Z" } : Jvm.MethodName) jdk_43_method_4_code (1 : Nat) (Option.some Jvm.ClassFile.FieldType.boolean), Jvm.Cond.code ({ cls := "java/lang/Math", name := "max", desc := "(II)I" } : Jvm.MethodName) jdk_29_method_65_code (2 : Nat) (Option.some Jvm.ClassFile.FieldType.int), Jvm.Cond.code ({ cls := "java/lang/Math", name := "min", desc := "(II)I" } : Jvm.MethodName) jdk_29_method_69_code (2 : Nat) (Option.some Jvm.ClassFile.FieldType.int), Jvm.Cond.code ({ cls := "com/example/ferryline/ferryline/model/OneLineRequirePinLaw", name := "safe", desc := "(I)C" } : Jvm.MethodName) method_2_code (2 : Nat) (Option.some Jvm.ClassFile.FieldType.char), Jvm.Cond.code ({ cls := "java/lang/StringUTF16", name := "compress", desc := "([CII)[B" } : Jvm.MethodName) jdk_52_method_16_code (6 : Nat) (Option.some (Jvm.ClassFile.FieldType.array Jvm.ClassFile.FieldType.byte)), Jvm.Cond.code ({ cls := "java/lang/StringUTF16", name := "compress", desc := "([CI[BII)I" } : Jvm.MethodName) jdk_52_method_21_code (7 : Nat) (Option.some Jvm.ClassFile.FieldType.int), Jvm.Cond.code ({ cls := "java/lang/StringUTF16", name := "coderFromArrayLen", desc := "([BI)B" } : Jvm.MethodName) jdk_52_method_15_code (2 : Nat) (Option.some Jvm.ClassFile.FieldType.byte), Jvm.Cond.code ({ cls := "java/lang/StringLatin1", name := "indexOfChar", desc := "([BIII)I" } : Jvm.MethodName) jdk_43_method_23_code (6 : Nat) (Option.some Jvm.ClassFile.FieldType.int), Jvm.Cond.code ({ cls := "java/lang/StringUTF16", name := "toBytes", desc := "([CII)[B" } : Jvm.MethodName) jdk_52_method_14_code (5 : Nat) (Option.some (Jvm.ClassFile.FieldType.array Jvm.ClassFile.FieldType.byte)), Jvm.Cond.code ({ cls := "java/lang/StringUTF16", name := "newBytesFor", desc := "(I)[B" } : Jvm.MethodName) jdk_52_method_2_code (1 : Nat) (Option.some (Jvm.ClassFile.FieldType.array Jvm.ClassFile.FieldType.byte)), Jvm.Cond.code ({ cls := "java/lang/StringUTF16", name := "newBytesLength", desc := "(I)I" } : Jvm.MethodName) jdk_52_method_3_code (1 : Nat) (Option.some Jvm.ClassFile.FieldType.int), Jvm.Cond.code ({ cls := "java/lang/StringUTF16", name := "putChar", desc := "([BII)V" } : Jvm.MethodName) jdk_52_method_4_code (3 : Nat) (Option.none : Option Jvm.ClassFile.FieldType), Jvm.Cond.code ({ cls := "java/lang/StringUTF16", name := "getChar", desc := "([BI)C" } : Jvm.MethodName) jdk_52_method_5_code (2 : Nat) (Option.some Jvm.ClassFile.FieldType.char), Jvm.Cond.code ({ cls := "java/lang/StringUTF16", name := "toBytes", desc := "(C)[B" } : Jvm.MethodName) jdk_52_method_24_code (2 : Nat) (Option.some (Jvm.ClassFile.FieldType.array Jvm.ClassFile.FieldType.byte)), Jvm.Cond.code ({ cls := "java/lang/StringUTF16", name := "indexOf", desc := "([BIII)I" } : Jvm.MethodName) jdk_52_method_40_code (4 : Nat) (Option.some Jvm.ClassFile.FieldType.int), Jvm.Cond.code ({ cls := "java/lang/StringUTF16", name := "indexOfChar", desc := "([BIII)I" } : Jvm.MethodName) jdk_52_method_47_code (4 : Nat) (Option.some Jvm.ClassFile.FieldType.int), Jvm.Cond.code ({ cls := "java/lang/StringUTF16", name := "checkBoundsBeginEnd", desc := "(II[B)V" } : Jvm.MethodName) jdk_52_method_93_code (3 : Nat) (Option.none : Option Jvm.ClassFile.FieldType), Jvm.Cond.code ({ cls := "java/lang/StringUTF16", name := "length", desc := "([B)I" } : Jvm.MethodName) jdk_52_method_6_code (1 : Nat) (Option.some Jvm.ClassFile.FieldType.int), Jvm.Cond.code ({ cls := "java/lang/String", name := "checkBoundsBeginEnd", desc := "(III)V" } : Jvm.MethodName) jdk_42_method_158_code (3 : Nat) (Option.none : Option Jvm.ClassFile.FieldType), Jvm.Cond.code ({ cls := "jdk/internal/util/Preconditions", name := "checkFromToIndex", desc := "(IIILjava/util/function/BiFunction;)I" } : Jvm.MethodName) jdk_41_method_12_code (4 : Nat) (Option.some Jvm.ClassFile.FieldType.int), Jvm.Cond.code ({ cls := "java/lang/StringUTF16", name := "indexOfCharUnsafe", desc := "([BIII)I" } : Jvm.MethodName) jdk_52_method_48_code (5 : Nat) (Option.some Jvm.ClassFile.FieldType.int)]
set_option maxRecDepth 65536 in
theorem codes_eq : words1.filter isCode = codes1 := rfl
theorem w_codes : ∀ c ∈ words1.filter isCode, c.before args0 about1 = true := by
  rw [codes_eq]
  intro c hc
  simp only [codes1, List.mem_cons, List.not_mem_nil, or_false] at hc
  rcases hc with rfl | rfl | rfl | rfl | rfl | rfl | rfl | rfl | rfl | rfl | rfl | rfl | rfl | rfl | rfl | rfl | rfl | rfl | rfl | rfl | rfl | rfl | rfl | rfl | rfl | rfl | rfl | rfl | rfl | rfl | rfl | rfl | rfl | rfl | rfl | rfl
  · exact w_c0
  · exact w_c1
  · exact w_c2
  · exact w_c3
  · exact w_c4
  · exact w_c5
  · exact w_c6
  · exact w_c7
  · exact w_c8
  · exact w_c9
  · exact w_c10
  · exact w_c11
  · exact w_c12
  · exact w_c13
  · exact w_c14
  · exact w_c15
  · exact w_c16
  · exact w_c17
  · exact w_c18
  · exact w_c19
  · exact w_c20
  · exact w_c21
  · exact w_c22
  · exact w_c23
  · exact w_c24
  · exact w_c25
  · exact w_c26
  · exact w_c27
  · exact w_c28
  · exact w_c29
  · exact w_c30
  · exact w_c31
  · exact w_c32
  · exact w_c33
  · exact w_c34
  · exact w_c35
set_option maxRecDepth 65536 in
theorem w_t1 : (words1.take 24).all (fun c => isCode c || c.before args0 about1) = true := by decide +kernel
set_option maxRecDepth 65536 in
theorem w_t2 : ((words1.drop 24).take 24).all (fun c => isCode c || c.before args0 about1) = true := by decide +kernel
set_option maxRecDepth 65536 in
theorem w_t3 : (((words1.drop 24).drop 24).take 24).all (fun c => isCode c || c.before args0 about1) = true := by decide +kernel
set_option maxRecDepth 65536 in
theorem w_t4 : ((((words1.drop 24).drop 24).drop 24).take 24).all (fun c => isCode c || c.before args0 about1) = true := by decide +kernel
set_option maxRecDepth 65536 in
theorem w_t5 : (((((words1.drop 24).drop 24).drop 24).drop 24).take 24).all (fun c => isCode c || c.before args0 about1) = true := by decide +kernel
set_option maxRecDepth 65536 in
theorem w_t6 : ((((((words1.drop 24).drop 24).drop 24).drop 24).drop 24).take 24).all (fun c => isCode c || c.before args0 about1) = true := by decide +kernel
set_option maxRecDepth 65536 in
theorem w_t7 : ((((((words1.drop 24).drop 24).drop 24).drop 24).drop 24).drop 24).all (fun c => isCode c || c.before args0 about1) = true := by decide +kernel
theorem w_tables : (allAtoms (Jvm.Cond.code x code maxLocals ret :: tables_1)).before args0 about1 = true := by
  rw [allAtoms_all]
  show words1.all (fun c => c.before args0 about1) = true
  refine all_split ?_ w_codes
  rw [← List.take_append_drop 24 words1, List.all_append, w_t1, ← List.take_append_drop 24 (words1.drop 24), List.all_append, w_t2, ← List.take_append_drop 24 ((words1.drop 24).drop 24), List.all_append, w_t3, ← List.take_append_drop 24 (((words1.drop 24).drop 24).drop 24), List.all_append, w_t4, ← List.take_append_drop 24 ((((words1.drop 24).drop 24).drop 24).drop 24), List.all_append, w_t5, ← List.take_append_drop 24 (((((words1.drop 24).drop 24).drop 24).drop 24).drop 24), List.all_append, w_t6, w_t7]
  rfl
set_option maxRecDepth 65536 in
theorem w_rest : rest_1_c.before args0 about1 = true := by decide +kernel
set_option maxRecDepth 65536 in
theorem w_case : (Jvm.Cond.and given_1 narrow_1).before args0 about1 = true := by decide +kernel
set_option maxRecDepth 65536 in
theorem w_consts : constsHeld consts_1 about1 := Jvm.Lit.constsHeldB_iff.mp (by decide +kernel)
theorem w_applies : (headSpec (Jvm.Cond.code x code maxLocals ret :: tables_1) room_1).applies x e0.platform about1 = true :=
  (Spec.applies_iff w_frames).mpr ⟨w_running, w_runnable, w_alone, w_named, w_hears, w_ripe, w_room, w_tables⟩
theorem atStart : AtStart classFile x code maxLocals ret World_1 tables_1 room_1 Calls_1 rest_1 Pre_1 launch0 p0 e0 about1 theMethod args0 below0 :=
  ⟨lists_1, trivial, launch0.admits_env _ _ _, launch0.least_env, fairChoices_fair.cas, fairChoices_fair.clock, w_frames, w_args, w_heap, w_applies, ⟨w_consts, trivial⟩, w_rest, w_case⟩
end start1
theorem witness_1 : WitnessClaimed_1 := ⟨start1.p0, start1.e0, start1.about1, start1.theMethod, start1.args0, start1.below0, start1.atStart⟩
end Jvm.Pilot.@@N@@
