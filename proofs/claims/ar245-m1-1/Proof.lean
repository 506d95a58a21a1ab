import JvmDerived
import JvmDerived.Pilot.@@N@@Statement
import JvmDerived.Pilot.@@N@@Code
set_option linter.unusedVariables false
set_option linter.unusedSimpArgs false
set_option maxRecDepth 65536
set_option maxHeartbeats 4000000
namespace Jvm.Pilot.@@N@@
open Jvm Jvm.ClassFile Sem Op Lib Jvm.Free Jvm.Stand Jvm.LawKit Jvm.RoadKit Bundle Jvm.Pilot.@@N@@.Jvm.D
abbrev ush32 (x y : Int32) : Int32 := (x.toUInt32 >>> (y &&& 31).toUInt32).toInt32
abbrev ush64 (x : Int64) (y : Int32) : Int64 := (x.toUInt64 >>> (y &&& 63).toInt64.toUInt64).toInt64
abbrev Cx : Type := Program × Launch × Env × State × MethodId × Array Value × List Frame × Method × ClassFile.Code
abbrev Cx.p (C : Cx) : Program := C.1
abbrev Cx.l (C : Cx) : Launch := C.2.1
abbrev Cx.e (C : Cx) : Env := C.2.2.1
abbrev Cx.s (C : Cx) : State := C.2.2.2.1
abbrev Cx.m (C : Cx) : MethodId := C.2.2.2.2.1
abbrev Cx.a (C : Cx) : Array Value := C.2.2.2.2.2.1
abbrev Cx.bl (C : Cx) : List Frame := C.2.2.2.2.2.2.1
abbrev Cx.mt (C : Cx) : Method := C.2.2.2.2.2.2.2.1
abbrev Cx.c (C : Cx) : ClassFile.Code := C.2.2.2.2.2.2.2.2
def EndK (w : Bool) (s : State) (o : Outcome) (t : State) (L : List Loc) (k n : Nat) : Prop := match w with
  | true => ReturnedEndW s o t L k n
  | false => FrameEnd s o t L k n
def Stn (C : Cx) (Z : State) (own : String) (by_ : ByteArray) (mL : Nat) (rt : Option FieldType) (nm : String) (q : Nat) : Prop :=
  C.p.tables.exec = Jvm.exec ∧ C.c.code = by_ ∧ C.c.maxLocals = mL ∧ C.mt.sig.returnType = rt ∧ C.mt.locks = false ∧ C.mt.name = nm ∧ C.s.heap.size = q ∧ Ext Z.heap C.s.heap ∧ C.s.vm.findClass own = some C.m.cls
def Pos (C : Cx) (Z : State) (R : Room) (w : Bool) (b : Nat) (Ts : List String) (Li : List (String × Nat × Addr)) (h : Heap) (k n : Nat) (T : State) (vm0 : Vm) (locs : List Loc) : Prop :=
  Stand C.p C.l C.e R (C.s.setVm vm0) C.m C.a C.bl C.mt C.c T locs k n ∧ Z.Warmed39 vm0 ∧ T.heap = h ∧ C.s.Since vm0 h.size ∧ IB Z vm0 Ts ∧ (w = false → vm0 = C.s.vm) ∧ Fr b locs ∧ Z.heap.size ≤ b ∧ Ext Z.heap h ∧ C.s.heap.size ≤ h.size ∧ ∀ x ∈ Li, Lit (C.s.setVm vm0) x.1 x.2.1 x.2.2
def Gl (C : Cx) (Z : State) (R : Room) (w : Bool) (To : List String) (f : Nat) (Q : Option Value → Heap → Prop) (st : State) : Prop :=
  ∃ s₂ o, Steps C.p.tables C.e C.bl st s₂ ∧ s₂.status = .running ∧ Ended s₂ C.bl o ∧ ∃ v L, o = .returned v ∧ (Q v s₂.heap ∧ Fr f L ∧ Ext Z.heap s₂.heap ∧ IB Z s₂.vm To) ∧ EndK w C.s o s₂ L R.cells R.slots
def Run (C : Cx) (Z : State) (R : Room) (w : Bool) (To : List String) (f : Nat) (Q : Option Value → Heap → Prop) (b : Nat) (Ts : List String) (Li : List (String × Nat × Addr)) (h : Heap) (k n : Nat) (pc : Nat) (L : Array Slot) (S : List Value) : Prop :=
  ∀ T vm0 locs, Pos C Z R w b Ts Li h k n T vm0 locs → Gl C Z R w To f Q (T.setTop (mkF C.m pc L S))
def Con (w : Bool) (ws : List Jvm.Cond) (Z : State) (y : MethodName) (yb : ByteArray) (ymL : Nat) (yrt : Option FieldType) (Ry : Room) (Ti To : List String) (f : Nat) (as : Array Value) (h : Heap) (Q : Option Value → Heap → Prop) : Prop :=
  ∀ l, MetFree l y (head1 (Jvm.Cond.code y yb ymL yrt :: ws) Ry) (fun a U => a = as ∧ Z.Warmed39 U.vm ∧ U.heap = h ∧ IB Z U.vm Ti ∧ Ext Z.heap h) (fun _ _ _ _ _ => True)
    (fun _ U o U' => ∃ v L, o = .returned v ∧ (Q v U'.heap ∧ Fr f L ∧ Ext Z.heap U'.heap ∧ IB Z U'.vm To) ∧ EndK w U o U' L Ry.cells Ry.slots)
theorem ib_same {Z : State} {vm0 vm1 : Vm} {Ts : List String} (I : IB Z vm0 Ts) (h : vm1.interned = vm0.interned) : IB Z vm1 Ts := by
  obtain ⟨m, h1, h2⟩ := I; exact ⟨m, h.trans h1, h2⟩
theorem ib_mono {Z : State} {vm0 : Vm} {Ts To : List String} (I : IB Z vm0 Ts) (h : ∀ t ∈ Ts, t ∈ To) : IB Z vm0 To := by
  obtain ⟨m, h1, h2⟩ := I; exact ⟨m, h1, fun q hq => by obtain ⟨t, a, c⟩ := h2 q hq; exact ⟨t, h t a, c⟩⟩
theorem fr_low {k k' : Nat} {L : List Loc} (N : Fr k L) (h : k' ≤ k) : Fr k' L := fun y hy => Nat.le_trans h (N y hy)
theorem since_same {s : State} {vm : Vm} {n n' : Nat} (h : s.Since vm n) (hn : n ≤ n') : s.Since vm n' := ⟨h.1, fun j p hj hp => ⟨(h.2 j p hj hp).1, Nat.lt_of_lt_of_le (h.2 j p hj hp).2 hn⟩⟩
section Walk
variable {C : Cx} {Z : State} {a0 : Array Value} {own : String} {by_ : ByteArray} {mL : Nat} {rt : Option FieldType} {nm : String} {q : Nat} {R : Room} {w : Bool} {To : List String} {f : Nat} {Q : Option Value → Heap → Prop} {b : Nat} {Ts : List String} {Li : List (String × Nat × Addr)} {h : Heap} {k n pc : Nat} {L : Array Slot} {S : List Value}
theorem Run.one {pc' : Nat} {L' : Array Slot} {S' : List Value} (g : ∀ T vm0 locs t, Stand C.p C.l C.e R (C.s.setVm vm0) C.m C.a C.bl C.mt C.c T locs k n → Steps C.p.tables C.e C.bl (T.setTop (mkF C.m pc' L' S')) t → Steps C.p.tables C.e C.bl (T.setTop (mkF C.m pc L S)) t)
    (kk : Run C Z R w To f Q b Ts Li h k n pc' L' S') : Run C Z R w To f Q b Ts Li h k n pc L S := fun T vm0 locs P => by
  obtain ⟨s₂, o, h1, r⟩ := kk T vm0 locs P
  exact ⟨s₂, o, g T vm0 locs _ P.1 h1, r⟩
theorem Stn.dec (H : Stn C Z own by_ mL rt nm q) {pc : Nat} {r : Except ClassFile.DecodeError (Instr × Nat)} (hd : decode by_ pc = r) : decode C.c.code pc = r := by rw [H.2.1]; exact hd
theorem Stn.cl (H : Stn C Z own by_ mL rt nm q) {vm0 : Vm} (hS : C.s.Since vm0 k) : (C.s.setVm vm0).vm.findClass own = some C.m.cls := by
  show vm0.findClass own = _
  rw [hS.1.alike.findClass]; exact H.2.2.2.2.2.2.2.2
theorem Run.low {b' : Nat} (hb : b' ≤ b) (hz : Z.heap.size ≤ b') (kk : Run C Z R w To f Q b' Ts Li h k n pc L S) : Run C Z R w To f Q b Ts Li h k n pc L S := fun T vm0 locs P => by
  obtain ⟨P1, P2, P3, P4, P5, P6, P7, P8, P9⟩ := P
  exact kk T vm0 locs ⟨P1, P2, P3, P4, P5, P6, fr_low P7 hb, hz, P9⟩
theorem r_iloadN (H : Stn C Z own by_ mL rt nm q) (pc' : Nat) {i : Fin 4} {v : Int32} (hd : decode by_ pc = .ok (.iload_n i, 1)) (kk : Run C Z R w To f Q b Ts Li h k n pc' L (.int v :: S)) (hv : L[i.val]? = some (.val (.int v)) := by exact rfl) (hp : pc' = pc + 1 := by exact rfl) : Run C Z R w To f Q b Ts Li h k n pc L (S) := by
  subst hp
  exact kk.one fun T vm0 locs t X kt => XS.iloadN X.here H.1 rfl (H.dec hd) hv kt
theorem r_iload (H : Stn C Z own by_ mL rt nm q) (pc' : Nat) {i : Nat} {v : Int32} (hd : decode by_ pc = .ok (.iload i, 2)) (kk : Run C Z R w To f Q b Ts Li h k n pc' L (.int v :: S)) (hv : L[i]? = some (.val (.int v)) := by exact rfl) (hp : pc' = pc + 2 := by exact rfl) : Run C Z R w To f Q b Ts Li h k n pc L (S) := by
  subst hp
  exact kk.one fun T vm0 locs t X kt => XS.iload X.here H.1 rfl (H.dec hd) hv kt
theorem r_lloadN (H : Stn C Z own by_ mL rt nm q) (pc' : Nat) {i : Fin 4} {v : Int64} (hd : decode by_ pc = .ok (.lload_n i, 1)) (kk : Run C Z R w To f Q b Ts Li h k n pc' L (.long v :: S)) (hv : L[i.val]? = some (.val (.long v)) := by exact rfl) (hp : pc' = pc + 1 := by exact rfl) : Run C Z R w To f Q b Ts Li h k n pc L (S) := by
  subst hp
  exact kk.one fun T vm0 locs t X kt => XS.lloadN X.here H.1 rfl (H.dec hd) hv kt
theorem r_aloadN (H : Stn C Z own by_ mL rt nm q) (pc' : Nat) {i : Fin 4} {v : Value} (hd : decode by_ pc = .ok (.aload_n i, 1)) (kk : Run C Z R w To f Q b Ts Li h k n pc' L (v :: S)) (hv : L[i.val]? = some (.val v) := by exact rfl) (hr : v.isRef = true := by exact rfl) (hp : pc' = pc + 1 := by exact rfl) : Run C Z R w To f Q b Ts Li h k n pc L (S) := by
  subst hp
  exact kk.one fun T vm0 locs t X kt => XS.aloadN X.here H.1 rfl (H.dec hd) hv hr kt
theorem r_aload (H : Stn C Z own by_ mL rt nm q) (pc' : Nat) {i : Nat} {v : Value} (hd : decode by_ pc = .ok (.aload i, 2)) (kk : Run C Z R w To f Q b Ts Li h k n pc' L (v :: S)) (hv : L[i]? = some (.val v) := by exact rfl) (hr : v.isRef = true := by exact rfl) (hp : pc' = pc + 2 := by exact rfl) : Run C Z R w To f Q b Ts Li h k n pc L (S) := by
  subst hp
  exact kk.one fun T vm0 locs t X kt => XS.aload X.here H.1 rfl (H.dec hd) hv hr kt
theorem r_istoreN (H : Stn C Z own by_ mL rt nm q) (pc' : Nat) (L' : Array Slot) {i : Fin 4} {x : Int32} (hd : decode by_ pc = .ok (.istore_n i, 1)) (kk : Run C Z R w To f Q b Ts Li h k n pc' L' (S)) (hl : storeLocals L i.val (.int x) = some L' := by exact rfl) (hp : pc' = pc + 1 := by exact rfl) : Run C Z R w To f Q b Ts Li h k n pc L (.int x :: S) := by
  subst hp
  exact kk.one fun T vm0 locs t X kt => XS.istoreN X.here H.1 rfl (H.dec hd) rfl hl kt
theorem r_istore (H : Stn C Z own by_ mL rt nm q) (pc' : Nat) (L' : Array Slot) {i : Nat} {x : Int32} (hd : decode by_ pc = .ok (.istore i, 2)) (kk : Run C Z R w To f Q b Ts Li h k n pc' L' (S)) (hl : storeLocals L i (.int x) = some L' := by exact rfl) (hp : pc' = pc + 2 := by exact rfl) : Run C Z R w To f Q b Ts Li h k n pc L (.int x :: S) := by
  subst hp
  exact kk.one fun T vm0 locs t X kt => XS.istore X.here H.1 rfl (H.dec hd) rfl hl kt
theorem r_astoreN (H : Stn C Z own by_ mL rt nm q) (pc' : Nat) (L' : Array Slot) {i : Fin 4} {x : Value} (hd : decode by_ pc = .ok (.astore_n i, 1)) (kk : Run C Z R w To f Q b Ts Li h k n pc' L' (S)) (hr : x.isRef = true := by exact rfl) (hl : storeLocals L i.val x = some L' := by exact rfl) (hp : pc' = pc + 1 := by exact rfl) : Run C Z R w To f Q b Ts Li h k n pc L (x :: S) := by
  subst hp
  exact kk.one fun T vm0 locs t X kt => XS.astoreN X.here H.1 rfl (H.dec hd) rfl hr hl kt
theorem r_astore (H : Stn C Z own by_ mL rt nm q) (pc' : Nat) (L' : Array Slot) {i : Nat} {x : Value} (hd : decode by_ pc = .ok (.astore i, 2)) (kk : Run C Z R w To f Q b Ts Li h k n pc' L' (S)) (hr : x.isRef = true := by exact rfl) (hl : storeLocals L i x = some L' := by exact rfl) (hp : pc' = pc + 2 := by exact rfl) : Run C Z R w To f Q b Ts Li h k n pc L (x :: S) := by
  subst hp
  exact kk.one fun T vm0 locs t X kt => XS.astore X.here H.1 rfl (H.dec hd) rfl hr hl kt
theorem r_iinc (H : Stn C Z own by_ mL rt nm q) (pc' : Nat) (L' : Array Slot) {i : Nat} {cst : Int} {x : Int32} (y : Int32) (hd : decode by_ pc = .ok (.iinc i cst, 3)) (kk : Run C Z R w To f Q b Ts Li h k n pc' L' (S)) (hv : L[i]? = some (.val (.int x)) := by exact rfl) (hy : x + Int32.ofInt cst = y := by decide) (hl : storeLocals L i (.int y) = some L' := by exact rfl) (hp : pc' = pc + 3 := by exact rfl) : Run C Z R w To f Q b Ts Li h k n pc L (S) := by
  subst hp
  subst hy
  exact kk.one fun T vm0 locs t X kt => XS.iinc X.here H.1 rfl (H.dec hd) hv hl kt
theorem r_iconst (H : Stn C Z own by_ mL rt nm q) (pc' : Nat) (x : Int32) {i : Int} (hd : decode by_ pc = .ok (.iconst i, 1)) (kk : Run C Z R w To f Q b Ts Li h k n pc' L (.int x :: S)) (hv : Int32.ofInt i = x := by decide) (hp : pc' = pc + 1 := by exact rfl) : Run C Z R w To f Q b Ts Li h k n pc L (S) := by
  subst hp
  subst hv
  exact kk.one fun T vm0 locs t X kt => XS.iconst X.here H.1 rfl (H.dec hd)  kt
theorem r_bipush (H : Stn C Z own by_ mL rt nm q) (pc' : Nat) (x : Int32) {i : Int} (hd : decode by_ pc = .ok (.bipush i, 2)) (kk : Run C Z R w To f Q b Ts Li h k n pc' L (.int x :: S)) (hv : (Int8.ofInt i).toInt32 = x := by decide) (hp : pc' = pc + 2 := by exact rfl) : Run C Z R w To f Q b Ts Li h k n pc L (S) := by
  subst hp
  subst hv
  exact kk.one fun T vm0 locs t X kt => XS.bipush X.here H.1 rfl (H.dec hd)  kt
theorem r_sipush (H : Stn C Z own by_ mL rt nm q) (pc' : Nat) (x : Int32) {i : Int} (hd : decode by_ pc = .ok (.sipush i, 3)) (kk : Run C Z R w To f Q b Ts Li h k n pc' L (.int x :: S)) (hv : (Int16.ofInt i).toInt32 = x := by decide) (hp : pc' = pc + 3 := by exact rfl) : Run C Z R w To f Q b Ts Li h k n pc L (S) := by
  subst hp
  subst hv
  exact kk.one fun T vm0 locs t X kt => XS.sipush X.here H.1 rfl (H.dec hd)  kt
theorem r_null (H : Stn C Z own by_ mL rt nm q) (pc' : Nat) (hd : decode by_ pc = .ok (.aconst_null, 1)) (kk : Run C Z R w To f Q b Ts Li h k n pc' L (.null :: S)) (hp : pc' = pc + 1 := by exact rfl) : Run C Z R w To f Q b Ts Li h k n pc L (S) := by
  subst hp
  exact kk.one fun T vm0 locs t X kt => XS.aconstNull X.here H.1 rfl (H.dec hd)  kt
theorem r_iadd (H : Stn C Z own by_ mL rt nm q) (pc' : Nat) (z : Int32) {x y : Int32} (hd : decode by_ pc = .ok (.iadd, 1)) (hz : (x + y) = z) (kk : Run C Z R w To f Q b Ts Li h k n pc' L (.int z :: S)) (hp : pc' = pc + 1 := by exact rfl) : Run C Z R w To f Q b Ts Li h k n pc L (.int y :: .int x :: S) := by
  subst hp
  subst hz
  exact kk.one fun T vm0 locs t X kt => XS.iadd X.here H.1 rfl (H.dec hd) rfl kt
theorem r_isub (H : Stn C Z own by_ mL rt nm q) (pc' : Nat) (z : Int32) {x y : Int32} (hd : decode by_ pc = .ok (.isub, 1)) (kk : Run C Z R w To f Q b Ts Li h k n pc' L (.int z :: S)) (hz : (x - y) = z := by decide) (hp : pc' = pc + 1 := by exact rfl) : Run C Z R w To f Q b Ts Li h k n pc L (.int y :: .int x :: S) := by
  subst hp
  subst hz
  exact kk.one fun T vm0 locs t X kt => XS.isub X.here H.1 rfl (H.dec hd) rfl kt
theorem r_iand (H : Stn C Z own by_ mL rt nm q) (pc' : Nat) (z : Int32) {x y : Int32} (hd : decode by_ pc = .ok (.iand, 1)) (hz : (x &&& y) = z) (kk : Run C Z R w To f Q b Ts Li h k n pc' L (.int z :: S)) (hp : pc' = pc + 1 := by exact rfl) : Run C Z R w To f Q b Ts Li h k n pc L (.int y :: .int x :: S) := by
  subst hp
  subst hz
  exact kk.one fun T vm0 locs t X kt => XS.iand X.here H.1 rfl (H.dec hd) rfl kt
theorem r_ior (H : Stn C Z own by_ mL rt nm q) (pc' : Nat) (z : Int32) {x y : Int32} (hd : decode by_ pc = .ok (.ior, 1)) (kk : Run C Z R w To f Q b Ts Li h k n pc' L (.int z :: S)) (hz : (x ||| y) = z := by exact rfl) (hp : pc' = pc + 1 := by exact rfl) : Run C Z R w To f Q b Ts Li h k n pc L (.int y :: .int x :: S) := by
  subst hp
  subst hz
  exact kk.one fun T vm0 locs t X kt => XS.ior X.here H.1 rfl (H.dec hd) rfl kt
theorem r_ishl (H : Stn C Z own by_ mL rt nm q) (pc' : Nat) (z : Int32) {x y : Int32} (hd : decode by_ pc = .ok (.ishl, 1)) (kk : Run C Z R w To f Q b Ts Li h k n pc' L (.int z :: S)) (hz : (x <<< (y &&& 31)) = z := by decide) (hp : pc' = pc + 1 := by exact rfl) : Run C Z R w To f Q b Ts Li h k n pc L (.int y :: .int x :: S) := by
  subst hp
  subst hz
  exact kk.one fun T vm0 locs t X kt => XS.ishl X.here H.1 rfl (H.dec hd) rfl kt
theorem r_ishr (H : Stn C Z own by_ mL rt nm q) (pc' : Nat) (z : Int32) {x y : Int32} (hd : decode by_ pc = .ok (.ishr, 1)) (hz : (x >>> (y &&& 31)) = z) (kk : Run C Z R w To f Q b Ts Li h k n pc' L (.int z :: S)) (hp : pc' = pc + 1 := by exact rfl) : Run C Z R w To f Q b Ts Li h k n pc L (.int y :: .int x :: S) := by
  subst hp
  subst hz
  exact kk.one fun T vm0 locs t X kt => XS.ishr X.here H.1 rfl (H.dec hd) rfl kt
theorem r_iushr (H : Stn C Z own by_ mL rt nm q) (pc' : Nat) (z : Int32) {x y : Int32} (hd : decode by_ pc = .ok (.iushr, 1)) (hz : (ush32 x y) = z) (kk : Run C Z R w To f Q b Ts Li h k n pc' L (.int z :: S)) (hp : pc' = pc + 1 := by exact rfl) : Run C Z R w To f Q b Ts Li h k n pc L (.int y :: .int x :: S) := by
  subst hp
  subst hz
  exact kk.one fun T vm0 locs t X kt => XS.iushr X.here H.1 rfl (H.dec hd) rfl kt
theorem r_lushr (H : Stn C Z own by_ mL rt nm q) (pc' : Nat) (z : Int64) {x : Int64} {y : Int32} (hd : decode by_ pc = .ok (.lushr, 1)) (kk : Run C Z R w To f Q b Ts Li h k n pc' L (.long z :: S)) (hz : (ush64 x y) = z := by exact rfl) (hp : pc' = pc + 1 := by exact rfl) : Run C Z R w To f Q b Ts Li h k n pc L (.int y :: .long x :: S) := by
  subst hp
  subst hz
  exact kk.one fun T vm0 locs t X kt => XS.lushr X.here H.1 rfl (H.dec hd) rfl kt
theorem r_irem (H : Stn C Z own by_ mL rt nm q) (pc' : Nat) (z : Int32) {x y : Int32} (hd : decode by_ pc = .ok (.irem, 1)) (hz : x % y = z) (kk : Run C Z R w To f Q b Ts Li h k n pc' L (.int z :: S)) (hy : y ≠ 0 := by decide) (hp : pc' = pc + 1 := by exact rfl) : Run C Z R w To f Q b Ts Li h k n pc L (.int y :: .int x :: S) := by
  subst hp hz
  exact kk.one fun T vm0 locs t X kt => iremM X H.1 rfl (H.dec hd) rfl hy kt
theorem r_l2i (H : Stn C Z own by_ mL rt nm q) (pc' : Nat) (z : Int32) {x : Int64} (hd : decode by_ pc = .ok (.l2i, 1)) (kk : Run C Z R w To f Q b Ts Li h k n pc' L (.int z :: S)) (hz : (x.toInt32) = z := by exact rfl) (hp : pc' = pc + 1 := by exact rfl) : Run C Z R w To f Q b Ts Li h k n pc L (.long x :: S) := by
  subst hp
  subst hz
  exact kk.one fun T vm0 locs t X kt => XS.l2i X.here H.1 rfl (H.dec hd) rfl kt
theorem r_i2b (H : Stn C Z own by_ mL rt nm q) (pc' : Nat) (z : Int32) {x : Int32} (hd : decode by_ pc = .ok (.i2b, 1)) (hz : (x.toInt8.toInt32) = z) (kk : Run C Z R w To f Q b Ts Li h k n pc' L (.int z :: S)) (hp : pc' = pc + 1 := by exact rfl) : Run C Z R w To f Q b Ts Li h k n pc L (.int x :: S) := by
  subst hp
  subst hz
  exact kk.one fun T vm0 locs t X kt => XS.i2b X.here H.1 rfl (H.dec hd) rfl kt
theorem r_i2c (H : Stn C Z own by_ mL rt nm q) (pc' : Nat) (z : Int32) {x : Int32} (hd : decode by_ pc = .ok (.i2c, 1)) (hz : (x.toUInt32.toUInt16.toUInt32.toInt32) = z) (kk : Run C Z R w To f Q b Ts Li h k n pc' L (.int z :: S)) (hp : pc' = pc + 1 := by exact rfl) : Run C Z R w To f Q b Ts Li h k n pc L (.int x :: S) := by
  subst hp
  subst hz
  exact kk.one fun T vm0 locs t X kt => XS.i2c X.here H.1 rfl (H.dec hd) rfl kt
theorem r_dup (H : Stn C Z own by_ mL rt nm q) (pc' : Nat) {x : Value} (hd : decode by_ pc = .ok (.dup, 1)) (kk : Run C Z R w To f Q b Ts Li h k n pc' L (x :: x :: S)) (hc : x.category = 1 := by exact rfl) (hp : pc' = pc + 1 := by exact rfl) : Run C Z R w To f Q b Ts Li h k n pc L (x :: S) := by
  subst hp
  exact kk.one fun T vm0 locs t X kt => XS.dup X.here H.1 rfl (H.dec hd) rfl hc kt
theorem r_pop (H : Stn C Z own by_ mL rt nm q) (pc' : Nat) {x : Value} (hd : decode by_ pc = .ok (.pop, 1)) (kk : Run C Z R w To f Q b Ts Li h k n pc' L (S)) (hc : x.category = 1 := by exact rfl) (hp : pc' = pc + 1 := by exact rfl) : Run C Z R w To f Q b Ts Li h k n pc L (x :: S) := by
  subst hp
  exact kk.one fun T vm0 locs t X kt => XS.pop X.here H.1 rfl (H.dec hd) rfl hc kt
theorem r_goto (H : Stn C Z own by_ mL rt nm q) (pc' : Nat) {o : Int} (hd : decode by_ pc = .ok (.goto o, 3)) (kk : Run C Z R w To f Q b Ts Li h k n pc' L S) (ho : 0 ≤ (pc : Int) + o := by decide) (hp : ((pc : Int) + o).toNat = pc' := by decide) : Run C Z R w To f Q b Ts Li h k n pc L S := by
  exact kk.one fun T vm0 locs t X kt => XS.goto X.here H.1 rfl rfl (H.dec hd) ho hp kt
theorem r_icmpltT (H : Stn C Z own by_ mL rt nm q) (pc' : Nat) {x y : Int32} {o : Int} (hd : decode by_ pc = .ok (.if_icmp .lt o, 3)) (kk : Run C Z R w To f Q b Ts Li h k n pc' L S) (ho : 0 ≤ (pc : Int) + o := by decide) (hp : ((pc : Int) + o).toNat = pc' := by decide) (c : x < y := by decide) : Run C Z R w To f Q b Ts Li h k n pc L (.int y :: .int x :: S) := by
  exact kk.one fun T vm0 locs t X kt => XS.icmpYes X.here H.1 rfl rfl (H.dec hd) rfl (tlt c).1 ho hp kt
theorem r_ifltF (H : Stn C Z own by_ mL rt nm q) (pc' : Nat) {x : Int32} {o : Int} (hd : decode by_ pc = .ok (.ifCond .lt o, 3)) (c : ¬ x < 0) (kk : Run C Z R w To f Q b Ts Li h k n pc' L S) (hp : pc' = pc + 3 := by exact rfl) : Run C Z R w To f Q b Ts Li h k n pc L (.int x :: S) := by
  subst hp
  exact kk.one fun T vm0 locs t X kt => XS.ifNo X.here H.1 rfl (H.dec hd) rfl ((if0 _ _).trans (flt c).1) kt
theorem r_icmpgeT (H : Stn C Z own by_ mL rt nm q) (pc' : Nat) {x y : Int32} {o : Int} (hd : decode by_ pc = .ok (.if_icmp .ge o, 3)) (kk : Run C Z R w To f Q b Ts Li h k n pc' L S) (ho : 0 ≤ (pc : Int) + o := by decide) (hp : ((pc : Int) + o).toNat = pc' := by decide) (c : ¬ x < y := by decide) : Run C Z R w To f Q b Ts Li h k n pc L (.int y :: .int x :: S) := by
  exact kk.one fun T vm0 locs t X kt => XS.icmpYes X.here H.1 rfl rfl (H.dec hd) rfl (flt c).2.1 ho hp kt
theorem r_icmpgeF (H : Stn C Z own by_ mL rt nm q) (pc' : Nat) {x y : Int32} {o : Int} (hd : decode by_ pc = .ok (.if_icmp .ge o, 3)) (kk : Run C Z R w To f Q b Ts Li h k n pc' L S) (hp : pc' = pc + 3 := by exact rfl) (c : x < y := by decide) : Run C Z R w To f Q b Ts Li h k n pc L (.int y :: .int x :: S) := by
  subst hp
  exact kk.one fun T vm0 locs t X kt => XS.icmpNo X.here H.1 rfl (H.dec hd) rfl (tlt c).2.1 kt
theorem r_ifgeT (H : Stn C Z own by_ mL rt nm q) (pc' : Nat) {x : Int32} {o : Int} (hd : decode by_ pc = .ok (.ifCond .ge o, 3)) (kk : Run C Z R w To f Q b Ts Li h k n pc' L S) (ho : 0 ≤ (pc : Int) + o := by decide) (hp : ((pc : Int) + o).toNat = pc' := by decide) (c : ¬ x < 0 := by decide) : Run C Z R w To f Q b Ts Li h k n pc L (.int x :: S) := by
  exact kk.one fun T vm0 locs t X kt => XS.ifYes X.here H.1 rfl rfl (H.dec hd) rfl ((if0 _ _).trans (flt c).2.1) ho hp kt
theorem r_icmpgtT (H : Stn C Z own by_ mL rt nm q) (pc' : Nat) {x y : Int32} {o : Int} (hd : decode by_ pc = .ok (.if_icmp .gt o, 3)) (c : y < x) (kk : Run C Z R w To f Q b Ts Li h k n pc' L S) (ho : 0 ≤ (pc : Int) + o := by decide) (hp : ((pc : Int) + o).toNat = pc' := by decide) : Run C Z R w To f Q b Ts Li h k n pc L (.int y :: .int x :: S) := by
  exact kk.one fun T vm0 locs t X kt => XS.icmpYes X.here H.1 rfl rfl (H.dec hd) rfl (tlt c).2.2.1 ho hp kt
theorem r_icmpleT (H : Stn C Z own by_ mL rt nm q) (pc' : Nat) {x y : Int32} {o : Int} (hd : decode by_ pc = .ok (.if_icmp .le o, 3)) (ho : 0 ≤ (pc : Int) + o) (hp : ((pc : Int) + o).toNat = pc') (c : ¬ y < x) (kk : Run C Z R w To f Q b Ts Li h k n pc' L S) : Run C Z R w To f Q b Ts Li h k n pc L (.int y :: .int x :: S) := by
  exact kk.one fun T vm0 locs t X kt => XS.icmpYes X.here H.1 rfl rfl (H.dec hd) rfl (flt c).2.2.2 ho hp kt
theorem r_icmpleF (H : Stn C Z own by_ mL rt nm q) (pc' : Nat) {x y : Int32} {o : Int} (hd : decode by_ pc = .ok (.if_icmp .le o, 3)) (hp : pc' = pc + 3) (c : y < x) (kk : Run C Z R w To f Q b Ts Li h k n pc' L S) : Run C Z R w To f Q b Ts Li h k n pc L (.int y :: .int x :: S) := by
  subst hp
  exact kk.one fun T vm0 locs t X kt => XS.icmpNo X.here H.1 rfl (H.dec hd) rfl (tlt c).2.2.2 kt
theorem r_icmple (H : Stn C Z own by_ mL rt nm q) (pt : Nat) (pf : Nat) {x y : Int32} {o : Int} (hd : decode by_ pc = .ok (.if_icmp .le o, 3)) (kt : ¬ y < x → Run C Z R w To f Q b Ts Li h k n pt L S) (kf : y < x → Run C Z R w To f Q b Ts Li h k n pf L S) (ho : 0 ≤ (pc : Int) + o := by decide) (hp : ((pc : Int) + o).toNat = pt := by decide) (hf : pf = pc + 3 := by exact rfl) : Run C Z R w To f Q b Ts Li h k n pc L (.int y :: .int x :: S) := by
  by_cases c : ¬ y < x
  · exact r_icmpleT H pt hd ho hp c (kt c)
  · exact r_icmpleF H pf hd hf (Decidable.not_not.mp c) (kf (Decidable.not_not.mp c))
theorem r_ifleT (H : Stn C Z own by_ mL rt nm q) (pc' : Nat) {x : Int32} {o : Int} (hd : decode by_ pc = .ok (.ifCond .le o, 3)) (kk : Run C Z R w To f Q b Ts Li h k n pc' L S) (ho : 0 ≤ (pc : Int) + o := by decide) (hp : ((pc : Int) + o).toNat = pc' := by decide) (c : ¬ 0 < x := by decide) : Run C Z R w To f Q b Ts Li h k n pc L (.int x :: S) := by
  exact kk.one fun T vm0 locs t X kt => XS.ifYes X.here H.1 rfl rfl (H.dec hd) rfl ((if0 _ _).trans (flt c).2.2.2) ho hp kt
theorem r_ifleF (H : Stn C Z own by_ mL rt nm q) (pc' : Nat) {x : Int32} {o : Int} (hd : decode by_ pc = .ok (.ifCond .le o, 3)) (kk : Run C Z R w To f Q b Ts Li h k n pc' L S) (hp : pc' = pc + 3 := by exact rfl) (c : 0 < x := by decide) : Run C Z R w To f Q b Ts Li h k n pc L (.int x :: S) := by
  subst hp
  exact kk.one fun T vm0 locs t X kt => XS.ifNo X.here H.1 rfl (H.dec hd) rfl ((if0 _ _).trans (tlt c).2.2.2) kt
theorem r_icmpeqT (H : Stn C Z own by_ mL rt nm q) (pc' : Nat) {x y : Int32} {o : Int} (hd : decode by_ pc = .ok (.if_icmp .eq o, 3)) (kk : Run C Z R w To f Q b Ts Li h k n pc' L S) (ho : 0 ≤ (pc : Int) + o := by decide) (hp : ((pc : Int) + o).toNat = pc' := by decide) (c : x = y := by decide) : Run C Z R w To f Q b Ts Li h k n pc L (.int y :: .int x :: S) := by
  exact kk.one fun T vm0 locs t X kt => XS.icmpYes X.here H.1 rfl rfl (H.dec hd) rfl (teq c).1 ho hp kt
theorem r_icmpeqF (H : Stn C Z own by_ mL rt nm q) (pc' : Nat) {x y : Int32} {o : Int} (hd : decode by_ pc = .ok (.if_icmp .eq o, 3)) (kk : Run C Z R w To f Q b Ts Li h k n pc' L S) (hp : pc' = pc + 3 := by exact rfl) (c : ¬ x = y := by decide) : Run C Z R w To f Q b Ts Li h k n pc L (.int y :: .int x :: S) := by
  subst hp
  exact kk.one fun T vm0 locs t X kt => XS.icmpNo X.here H.1 rfl (H.dec hd) rfl (feq c).1 kt
theorem r_ifeqT (H : Stn C Z own by_ mL rt nm q) (pc' : Nat) {x : Int32} {o : Int} (hd : decode by_ pc = .ok (.ifCond .eq o, 3)) (ho : 0 ≤ (pc : Int) + o) (hp : ((pc : Int) + o).toNat = pc') (c : x = 0) (kk : Run C Z R w To f Q b Ts Li h k n pc' L S) : Run C Z R w To f Q b Ts Li h k n pc L (.int x :: S) := by
  exact kk.one fun T vm0 locs t X kt => XS.ifYes X.here H.1 rfl rfl (H.dec hd) rfl ((if0 _ _).trans (teq c).1) ho hp kt
theorem r_ifeqF (H : Stn C Z own by_ mL rt nm q) (pc' : Nat) {x : Int32} {o : Int} (hd : decode by_ pc = .ok (.ifCond .eq o, 3)) (hp : pc' = pc + 3) (c : ¬ x = 0) (kk : Run C Z R w To f Q b Ts Li h k n pc' L S) : Run C Z R w To f Q b Ts Li h k n pc L (.int x :: S) := by
  subst hp
  exact kk.one fun T vm0 locs t X kt => XS.ifNo X.here H.1 rfl (H.dec hd) rfl ((if0 _ _).trans (feq c).1) kt
theorem r_ifeq (H : Stn C Z own by_ mL rt nm q) (pt : Nat) (pf : Nat) {x : Int32} {o : Int} (hd : decode by_ pc = .ok (.ifCond .eq o, 3)) (kt : x = 0 → Run C Z R w To f Q b Ts Li h k n pt L S) (kf : ¬ x = 0 → Run C Z R w To f Q b Ts Li h k n pf L S) (ho : 0 ≤ (pc : Int) + o := by decide) (hp : ((pc : Int) + o).toNat = pt := by decide) (hf : pf = pc + 3 := by exact rfl) : Run C Z R w To f Q b Ts Li h k n pc L (.int x :: S) := by
  by_cases c : x = 0
  · exact r_ifeqT H pt hd ho hp c (kt c)
  · exact r_ifeqF H pf hd hf c (kf c)
theorem r_icmpneT (H : Stn C Z own by_ mL rt nm q) (pc' : Nat) {x y : Int32} {o : Int} (hd : decode by_ pc = .ok (.if_icmp .ne o, 3)) (ho : 0 ≤ (pc : Int) + o) (hp : ((pc : Int) + o).toNat = pc') (c : ¬ x = y) (kk : Run C Z R w To f Q b Ts Li h k n pc' L S) : Run C Z R w To f Q b Ts Li h k n pc L (.int y :: .int x :: S) := by
  exact kk.one fun T vm0 locs t X kt => XS.icmpYes X.here H.1 rfl rfl (H.dec hd) rfl (feq c).2 ho hp kt
theorem r_icmpneF (H : Stn C Z own by_ mL rt nm q) (pc' : Nat) {x y : Int32} {o : Int} (hd : decode by_ pc = .ok (.if_icmp .ne o, 3)) (hp : pc' = pc + 3) (c : x = y) (kk : Run C Z R w To f Q b Ts Li h k n pc' L S) : Run C Z R w To f Q b Ts Li h k n pc L (.int y :: .int x :: S) := by
  subst hp
  exact kk.one fun T vm0 locs t X kt => XS.icmpNo X.here H.1 rfl (H.dec hd) rfl (teq c).2 kt
theorem r_icmpne (H : Stn C Z own by_ mL rt nm q) (pt : Nat) (pf : Nat) {x y : Int32} {o : Int} (hd : decode by_ pc = .ok (.if_icmp .ne o, 3)) (kt : ¬ x = y → Run C Z R w To f Q b Ts Li h k n pt L S) (kf : x = y → Run C Z R w To f Q b Ts Li h k n pf L S) (ho : 0 ≤ (pc : Int) + o := by decide) (hp : ((pc : Int) + o).toNat = pt := by decide) (hf : pf = pc + 3 := by exact rfl) : Run C Z R w To f Q b Ts Li h k n pc L (.int y :: .int x :: S) := by
  by_cases c : ¬ x = y
  · exact r_icmpneT H pt hd ho hp c (kt c)
  · exact r_icmpneF H pf hd hf (Decidable.not_not.mp c) (kf (Decidable.not_not.mp c))
theorem r_ifneT (H : Stn C Z own by_ mL rt nm q) (pc' : Nat) {x : Int32} {o : Int} (hd : decode by_ pc = .ok (.ifCond .ne o, 3)) (ho : 0 ≤ (pc : Int) + o) (hp : ((pc : Int) + o).toNat = pc') (c : ¬ x = 0) (kk : Run C Z R w To f Q b Ts Li h k n pc' L S) : Run C Z R w To f Q b Ts Li h k n pc L (.int x :: S) := by
  exact kk.one fun T vm0 locs t X kt => XS.ifYes X.here H.1 rfl rfl (H.dec hd) rfl ((if0 _ _).trans (feq c).2) ho hp kt
theorem r_ifneF (H : Stn C Z own by_ mL rt nm q) (pc' : Nat) {x : Int32} {o : Int} (hd : decode by_ pc = .ok (.ifCond .ne o, 3)) (hp : pc' = pc + 3) (c : x = 0) (kk : Run C Z R w To f Q b Ts Li h k n pc' L S) : Run C Z R w To f Q b Ts Li h k n pc L (.int x :: S) := by
  subst hp
  exact kk.one fun T vm0 locs t X kt => XS.ifNo X.here H.1 rfl (H.dec hd) rfl ((if0 _ _).trans (teq c).2) kt
theorem r_ifne (H : Stn C Z own by_ mL rt nm q) (pt : Nat) (pf : Nat) {x : Int32} {o : Int} (hd : decode by_ pc = .ok (.ifCond .ne o, 3)) (kt : ¬ x = 0 → Run C Z R w To f Q b Ts Li h k n pt L S) (kf : x = 0 → Run C Z R w To f Q b Ts Li h k n pf L S) (ho : 0 ≤ (pc : Int) + o := by decide) (hp : ((pc : Int) + o).toNat = pt := by decide) (hf : pf = pc + 3 := by exact rfl) : Run C Z R w To f Q b Ts Li h k n pc L (.int x :: S) := by
  by_cases c : ¬ x = 0
  · exact r_ifneT H pt hd ho hp c (kt c)
  · exact r_ifneF H pf hd hf (Decidable.not_not.mp c) (kf (Decidable.not_not.mp c))
theorem Pos.done {T : State} {vm0 : Vm} {locs : List Loc} (H : Stn C Z own by_ mL rt nm q) (P : Pos C Z R w b Ts Li h k n T vm0 locs) {v : Option Value} (hv : rt = none → v = none) (hk : k ≤ R.cells) (hn : n ≤ R.slots) (hf : f ≤ b) (hT : ∀ t ∈ Ts, t ∈ To) (hQ : Q v h) {g : JFrame}
    (st : ∀ fs, (∀ (f : JFrame) (acts : List Action), f.method = C.m → f.locked = none → f.entered = [] → (doReturn C.e (T.setTop f) acts v).1 = T.setFrames fs) → Steps C.p.tables C.e C.bl (T.setTop g) (T.setFrames fs)) : Gl C Z R w To f Q (T.setTop g) := by
  obtain ⟨X, hZ, eT, hS, hI, hw, N, hz, hE, hq, hL⟩ := P
  have hlk : C.mt.locks = false := H.2.2.2.2.1
  have hv' : C.mt.sig.returnType = none → v = none := fun e => hv (by rw [← H.2.2.2.1]; exact e)
  have hin : T.vm.interned = vm0.interned := X.warmed.interned_eq
  cases w with
  | false =>
    have e0 := hw rfl
    subst e0
    obtain ⟨fs, hr, hrun, hended, hW, hsame⟩ := Stand.leave (s := C.s) X (v := v) hv' hlk
    exact ⟨_, _, st fs hr, hrun, hended, v, locs, rfl, ⟨by show Q v T.heap; rw [eT]; exact hQ, fr_low N hf, by show Ext Z.heap T.heap; rw [eT]; exact hE, ib_mono (ib_same hI hin) hT⟩, ⟨v, rfl⟩, hW, hsame.mono hk hn⟩
  | true =>
    obtain ⟨fs, hr, hrun, hended, h1, h2, h3, hsame⟩ := Stand.leaveW X (v := v) hS (Nat.le_of_eq (by rw [eT])) hv' hlk
    exact ⟨_, _, st fs hr, hrun, hended, v, locs, rfl, ⟨by show Q v T.heap; rw [eT]; exact hQ, fr_low N hf, by show Ext Z.heap T.heap; rw [eT]; exact hE, ib_mono (ib_same hI hin) hT⟩, h1, h2, h3, hsame.mono hk hn⟩
theorem r_return (H : Stn C Z own by_ mL none nm q) (hd : decode by_ pc = .ok (.return_, 1)) (hQ : Q none h) (hk : k ≤ R.cells := by decide) (hn : n ≤ R.slots := by decide) (hf : f ≤ b := by exact Nat.le_refl _) (hT : ∀ t ∈ Ts, t ∈ To := by exact fun _ t => t) : Run C Z R w To f Q b Ts Li h k n pc L [] := fun T vm0 locs P =>
  P.done H (v := none) (fun _ => rfl) hk hn hf hT hQ fun fs hr => P.1.returnOut H.1 H.2.2.2.1 (H.dec hd) hr
theorem retI' {p : Program} {l : Launch} {e : Env} {R : Room} {s : State} {m : MethodId} {args : Array Value} {below : List Frame} {meth : Method} {c : ClassFile.Code} {T : State} {locs : List Loc} {cells slots : Nat} (X : Stand p l e R s m args below meth c T locs cells slots) (hx : p.tables.exec = Jvm.exec) {pc : Nat} {Ls : Array Slot} {z : Int32} {rest : List Value} (hret : meth.sig.returnType = some .int) (hd : decode c.code pc = .ok (.ireturn, 1)) {fs : List Frame}
    (hl : ∀ (f : JFrame) (acts : List Action), f.method = m → f.locked = none → f.entered = [] → (doReturn e (T.setTop f) acts (some (.int z))).1 = T.setFrames fs) : Steps p.tables e below (T.setTop (mkF m pc Ls (.int z :: rest))) (T.setFrames fs) := retOut X hx hret rfl (Or.inl ⟨rfl, Or.inl rfl, z, rfl⟩) hd hl
theorem r_ireturn {z : Int32} (H : Stn C Z own by_ mL (some .int) nm q) (hd : decode by_ pc = .ok (.ireturn, 1)) (hQ : Q (some (.int z)) h) (hk : k ≤ R.cells := by decide) (hn : n ≤ R.slots := by decide) (hf : f ≤ b := by exact Nat.le_refl _) (hT : ∀ t ∈ Ts, t ∈ To := by exact fun _ t => t) : Run C Z R w To f Q b Ts Li h k n pc L (.int z :: S) := fun T vm0 locs P =>
  P.done H (v := some (.int z)) (fun e => by cases e) hk hn hf hT hQ fun fs hr => retI' P.1 H.1 H.2.2.2.1 (H.dec hd) hr
theorem r_nreturn {z : Int32} (z' : Int32) {t : FieldType} (H : Stn C Z own by_ mL (some t) nm q) (hd : decode by_ pc = .ok (.ireturn, 1)) (hz : nar t z = z') (hQ : Q (some (.int z')) h) (ht : t = .boolean ∨ t = .byte ∨ t = .char ∨ t = .short := by simp) (hk : k ≤ R.cells := by decide) (hn : n ≤ R.slots := by decide) (hf : f ≤ b := by exact Nat.le_refl _) (hT : ∀ t ∈ Ts, t ∈ To := by exact fun _ t => t) : Run C Z R w To f Q b Ts Li h k n pc L (.int z :: S) := fun T vm0 locs P => by
  subst hz
  exact P.done H (v := some (.int (nar t z))) (fun e => by cases e) hk hn hf hT hQ fun fs hr => retN P.1 H.1 H.2.2.2.1 ht (H.dec hd) hr
theorem r_areturn {v : Value} {t : FieldType} (H : Stn C Z own by_ mL (some t) nm q) (hd : decode by_ pc = .ok (.areturn, 1)) (hQ : Q (some v) h) (ht : t.isReference = true := by exact rfl) (hv : v.isRef = true := by exact rfl) (hk : k ≤ R.cells := by decide) (hn : n ≤ R.slots := by decide) (hf : f ≤ b := by exact Nat.le_refl _) (hT : ∀ t ∈ Ts, t ∈ To := by exact fun _ t => t) : Run C Z R w To f Q b Ts Li h k n pc L (v :: S) := fun T vm0 locs P =>
  P.done H (v := some v) (fun e => by cases e) hk hn hf hT hQ fun fs hr => retOut P.1 H.1 H.2.2.2.1 (by rcases ref_cases hv with rfl | ⟨a, rfl⟩ <;> cases t <;> first | rfl | simp [FieldType.isReference] at ht) (Or.inr (Or.inr (Or.inr (Or.inr ⟨rfl, ht, hv⟩)))) (H.dec hd) hr
theorem Run.hold {pc' : Nat} {L' : Array Slot} {S' : List Value} (g : ∀ T vm0 locs, Pos C Z R w b Ts Li h k n T vm0 locs → ∃ T', Stand C.p C.l C.e R (C.s.setVm vm0) C.m C.a C.bl C.mt C.c T' locs k n ∧ T'.heap = h ∧ ∀ t, Steps C.p.tables C.e C.bl (T'.setTop (mkF C.m pc' L' S')) t → Steps C.p.tables C.e C.bl (T.setTop (mkF C.m pc L S)) t)
    (kk : Run C Z R w To f Q b Ts Li h k n pc' L' S') : Run C Z R w To f Q b Ts Li h k n pc L S := fun T vm0 locs P => by
  obtain ⟨T', X', e', st⟩ := g T vm0 locs P
  obtain ⟨X, hZ, eT, r⟩ := P
  obtain ⟨s₂, o, h1, r'⟩ := kk T' vm0 locs ⟨X', hZ, e', r⟩
  exact ⟨s₂, o, st _ h1, r'⟩
theorem Pos.cl {T : State} {vm0 : Vm} {locs : List Loc} (P : Pos C Z R w b Ts Li h k n T vm0 locs) (H : Stn C Z own by_ mL rt nm q) : (C.s.setVm vm0).vm.findClass own = some C.m.cls := H.cl P.2.2.2.1
theorem r_getf (H : Stn C Z own by_ mL rt nm q) (pc' : Nat) {idx : Nat} {R0 O fn d : String} {a : Addr} {v : Value} (hd : decode by_ pc = .ok (.getfield idx, 3)) (w1 : (Cond.fieldLink own idx R0 fn d).before a0 Z = true) (F : Fld Z h a O fn d v) (kk : Run C Z R w To f Q b Ts Li h k n pc' L (v :: S)) (via : Via Z R0 O fn d := by exact Via.refl) (hp : pc' = pc + 3 := by exact rfl) : Run C Z R w To f Q b Ts Li h k n pc L (.ref a :: S) := by
  subst hp
  exact kk.hold fun T vm0 locs P => getF (host := "") P.1 H.1 P.2.1 (P.cl H) (Or.inl w1) via P.2.2.1 F (g := mkF C.m pc L (.ref a :: S)) rfl rfl (H.dec hd)
theorem r_gets (H : Stn C Z own by_ mL rt nm q) (pc' : Nat) {idx : Nat} {R0 O fn d : String} {v : Value} (hd : decode by_ pc = .ok (.getstatic idx, 3)) (w1 : (Cond.fieldLink own idx R0 fn d).before a0 Z = true) (F : Sta Z Z.heap O fn d v) (kk : Run C Z R w To f Q b Ts Li h k n pc' L (v :: S)) (via : Via Z R0 O fn d := by exact Via.refl) (hp : pc' = pc + 3 := by exact rfl) : Run C Z R w To f Q b Ts Li h k n pc L S := by
  subst hp
  exact kk.hold fun T vm0 locs P => getS2 (host := "") P.1 H.1 P.2.1 (P.cl H) (Or.inl w1) via P.2.2.1 (F.ext P.2.2.2.2.2.2.2.2.1) (g := mkF C.m pc L S) rfl (H.dec hd)
theorem r_initO (H : Stn C Z own by_ mL rt nm q) (pc' : Nat) {idx : Nat} {a : Addr} (hd : decode by_ pc = .ok (.invokespecial idx, 3)) (w1 : (Cond.methodLink own idx Lib.objectInit).before a0 Z = true) (w2 : (Cond.instanceMethod Lib.objectInit).before a0 Z = true) (w3 : (Cond.code Lib.objectInit ⟨#[0xb1]⟩ 1 none).before a0 Z = true) {W : Nat} (kk : Run C Z R w To f Q b Ts Li h k n pc' L S) (hL : L.size = mL := by exact rfl) (hf : 1 ≤ R.frames := by decide) (hW : (S.map fun v => v.category).sum ≤ W := by exact Nat.le_of_eq rfl) (hl : W + 12 ≤ R.locals := by decide) (hp : pc' = pc + 3 := by exact rfl) : Run C Z R w To f Q b Ts Li h k n pc L (.ref a :: S) := by
  subst hp
  exact kk.hold fun T vm0 locs P => initO P.1 H.1 P.2.1 (P.cl H) w1 w2 w3 P.2.2.1 (g := mkF C.m pc L (.ref a :: S)) rfl (by rw [H.2.2.1]; exact hL) rfl (H.dec hd) hf (W := W) (by show 2 * 0 + _ ≤ _; omega) hl
theorem r_ldcI (H : Stn C Z own by_ mL rt nm q) (pc' : Nat) {idx : Nat} {v : Int32} (hd : decode by_ pc = .ok (.ldc idx, 2)) (w1 : (Cond.constant own idx v).before a0 Z = true) (kk : Run C Z R w To f Q b Ts Li h k n pc' L (.int v :: S)) (hp : pc' = pc + 2 := by exact rfl) : Run C Z R w To f Q b Ts Li h k n pc L S := by
  subst hp
  exact kk.hold fun T vm0 locs P => ⟨T, P.1, P.2.2.1, P.1.ldcInt H.1 (P.cl H) (mvT (s := C.s.setVm vm0) P.2.1 w1) (g := mkF C.m pc L S) rfl (H.dec hd)⟩
def Ar (Z : State) (h : Heap) (a : Addr) (kc : ClassId) (ty : FieldType) (vs : List Value) : Prop := ∃ c : Cell, Arr Z h a c ty ∧ c.cls = kc ∧ c.slots = vs.toArray ∧ vs.length < 2 ^ 31 ∧ ∀ v ∈ vs, fits ty v = true
theorem Ar.lt {a : Addr} {kc : ClassId} {ty : FieldType} {vs : List Value} (F : Ar Z h a kc ty vs) : a < h.size := by obtain ⟨c, A, -⟩ := F; exact A.lt
theorem Ar.ext {h' : Heap} {a : Addr} {kc : ClassId} {ty : FieldType} {vs : List Value} (F : Ar Z h a kc ty vs) (E : Ext h h') : Ar Z h' a kc ty vs := by obtain ⟨c, A, r⟩ := F; exact ⟨c, A.ext E, r⟩
theorem Ar.keep {h' : Heap} {a : Addr} {kc : ClassId} {ty : FieldType} {vs : List Value} {ws : List Addr} (F : Ar Z h a kc ty vs) (K : Keep h h' ws) (hn : a ∉ ws) : Ar Z h' a kc ty vs := by obtain ⟨c, A, r⟩ := F; exact ⟨c, ⟨K.2.1 a c A.1 hn, A.2⟩, r⟩
theorem Ar.of_arv {a : Addr} {kc : ClassId} {ty : FieldType} {vs : List Value} {z : Int32} {dv : Value} (F : Arv Z h a kc ty z vs dv) (hz : z.toNatClampNeg = vs.length) : Ar Z h a kc ty vs := by
  obtain ⟨c, A, h1, h2, h3, h4, h5⟩ := F
  have hs : c.slots.size = vs.length := by rw [h2, hz]
  refine ⟨c, A, h1, ?_, by rw [← hz]; exact (back32 h3).2, fun v hv => ?_⟩
  · apply Array.ext
    · simpa using hs
    · intro i q1 q2
      have e := h4 i q1
      rw [Array.getElem?_eq_getElem q1] at e
      have hi : i < vs.length := by omega
      rw [List.getD_eq_getElem?_getD, List.getElem?_eq_getElem hi] at e
      simpa using e
  · obtain ⟨i, hi, e⟩ := List.mem_iff_getElem.mp hv
    have := h5 i (by omega)
    rw [List.getD_eq_getElem?_getD, List.getElem?_eq_getElem hi] at this
    rw [← e]; exact this
theorem Ar.new {a : Addr} {kc : ClassId} {ty : FieldType} {z : Int32} (A : Arr Z h a (newA kc ty z) ty) (hn : ¬ z < 0) : Ar Z h a kc ty (List.replicate z.toNatClampNeg (defaultValue ty)) :=
  ⟨_, A, rfl, by simp [newA], by simpa using (back32 hn).2, fun v hv => by rw [List.eq_of_mem_replicate hv]; cases ty <;> rfl⟩
theorem Ar.put {h' : Heap} {a : Addr} {kc : ClassId} {ty : FieldType} {vs : List Value} {i : Nat} {v : Value} (F : Ar Z h a kc ty vs) (W : Wr h h' a i v) (hv : fits ty v = true) : Ar Z h' a kc ty (vs.set i v) := by
  obtain ⟨c, A, h1, h2, h3, h4⟩ := F
  refine ⟨_, A.same W, h1, ?_, by simpa using h3, fun u hu => ?_⟩
  · simp [Cell.setSlot, h2]
  · rcases List.mem_or_eq_of_mem_set hu with q | q
    · exact h4 u q
    · rw [q]; exact hv
theorem Ar.size {a : Addr} {kc : ClassId} {ty : FieldType} {vs : List Value} {c : Cell} (A : Arr Z h a c ty) (F : Ar Z h a kc ty vs) : c.slots = vs.toArray ∧ vs.length < 2 ^ 31 := by
  obtain ⟨c', A', h1, h2, h3, h4⟩ := F
  cases A.1.symm.trans A'.1
  exact ⟨h2, h3⟩
theorem ld_in {vs : List Value} {j : Int32} {v : Value} {c : Cell} (hs : c.slots = vs.toArray) (hj : ¬ j < 0) (hv : vs[j.toNatClampNeg]? = some v) : ¬ (j < 0 ∨ c.slots.size ≤ j.toNatClampNeg) ∧ c.slots[j.toNatClampNeg]? = some v := by
  refine ⟨fun q => q.elim hj fun u => ?_, by rw [hs]; simpa using hv⟩
  rw [hs] at u
  have := (List.getElem?_eq_some_iff.mp hv).1
  simp at u; omega
theorem r_alen (H : Stn C Z own by_ mL rt nm q) (pc' : Nat) {a : Addr} {kc : ClassId} {ty : FieldType} {vs : List Value} (z : Int32) (hd : decode by_ pc = .ok (.arraylength, 1)) (F : Ar Z h a kc ty vs) (kk : Run C Z R w To f Q b Ts Li h k n pc' L (.int z :: S)) (hz : vs.length.toInt32 = z := by exact rfl) (hp : pc' = pc + 1 := by exact rfl) : Run C Z R w To f Q b Ts Li h k n pc L (.ref a :: S) := by
  subst hp hz
  refine kk.hold fun T vm0 locs P => ?_
  obtain ⟨c, A, h1, h2, h3, h4⟩ := F
  refine ⟨T, P.1, P.2.2.1, fun t kt => ?_⟩
  refine P.1.arraylength H.1 (by rw [P.2.2.1]; exact A.1) (State.isArrayOf_alike P.2.1.alike A.2.1) (g := mkF C.m pc L (.ref a :: S)) rfl rfl (H.dec hd) _ ?_
  have e : c.slots.size.toInt32 = vs.length.toInt32 := by rw [h2]; simp
  rw [e]; exact kt
theorem r_caload (H : Stn C Z own by_ mL rt nm q) (pc' : Nat) {a : Addr} {kc : ClassId} {vs : List Value} {j : Int32} (v : Int32) (hd : decode by_ pc = .ok (.caload, 1)) (F : Ar Z h a kc .char vs) (kk : Run C Z R w To f Q b Ts Li h k n pc' L (.int v :: S)) (hj : ¬ j < 0 := by decide) (hv : vs[j.toNatClampNeg]? = some (.int v) := by exact rfl) (hp : pc' = pc + 1 := by exact rfl) : Run C Z R w To f Q b Ts Li h k n pc L (.int j :: .ref a :: S) := by
  subst hp
  refine kk.hold fun T vm0 locs P => ?_
  obtain ⟨c, A, h1, h2, h3, h4⟩ := F
  obtain ⟨q1, q2⟩ := ld_in h2 hj hv
  exact ⟨T, P.1, P.2.2.1, P.1.caload H.1 (by rw [P.2.2.1]; exact A.1) (State.isArrayOf_alike P.2.1.alike A.2.1) A.2.2 q1 q2 (g := mkF C.m pc L (.int j :: .ref a :: S)) rfl rfl (H.dec hd)⟩
theorem r_baload (H : Stn C Z own by_ mL rt nm q) (pc' : Nat) {a : Addr} {kc : ClassId} {vs : List Value} {j : Int32} (v : Int32) (hd : decode by_ pc = .ok (.baload, 1)) (F : Ar Z h a kc .byte vs) (hj : ¬ j < 0) (hv : vs[j.toNatClampNeg]? = some (.int v)) (kk : Run C Z R w To f Q b Ts Li h k n pc' L (.int v :: S)) (hp : pc' = pc + 1 := by exact rfl) : Run C Z R w To f Q b Ts Li h k n pc L (.int j :: .ref a :: S) := by
  subst hp
  refine kk.hold fun T vm0 locs P => ?_
  obtain ⟨c, A, h1, h2, h3, h4⟩ := F
  obtain ⟨q1, q2⟩ := ld_in h2 hj hv
  exact ⟨T, P.1, P.2.2.1, P.1.baloadBytes H.1 (by rw [P.2.2.1]; exact A.1) (State.isArrayOf_alike P.2.1.alike A.2.1) A.2.2 q1 q2 (g := mkF C.m pc L (.int j :: .ref a :: S)) rfl rfl (H.dec hd)⟩
theorem Run.write {pc' : Nat} {L' : Array Slot} {S' : List Value} {a : Addr} {sl : Nat} {v : Value} (hb : b ≤ a) (g : ∀ T vm0 locs, Pos C Z R w b Ts Li h k n T vm0 locs → ∃ T' h', Stand C.p C.l C.e R (C.s.setVm vm0) C.m C.a C.bl C.mt C.c T' (locs ++ [⟨a, sl⟩]) k n ∧ T'.heap = h' ∧ Wr h h' a sl v ∧ ∀ t, Steps C.p.tables C.e C.bl (T'.setTop (mkF C.m pc' L' S')) t → Steps C.p.tables C.e C.bl (T.setTop (mkF C.m pc L S)) t)
    (kk : ∀ h', Wr h h' a sl v → Keep h h' [a] → Run C Z R w To f Q b Ts Li h' k n pc' L' S') : Run C Z R w To f Q b Ts Li h k n pc L S := fun T vm0 locs P => by
  obtain ⟨T', h', X', e', W, st⟩ := g T vm0 locs P
  obtain ⟨X, hZ, eT, hS, hI, hw, N, hz, hE, hq, hL⟩ := P
  have K := Keep.of_wr W
  have hE' : Ext Z.heap h' := (Old.wr (n0 := Z.heap.size) ⟨rfl, hE⟩ W (Nat.le_trans hz hb)).2
  obtain ⟨s₂, o, h1, r'⟩ := kk h' W K T' vm0 _ ⟨X', hZ, e', since_same hS K.1, hI, hw, Fr.snoc X' N hb, hz, hE', Nat.le_trans hq K.1, hL⟩
  exact ⟨s₂, o, st _ h1, r'⟩
theorem r_castore (H : Stn C Z own by_ mL rt nm q) (pc' : Nat) {a : Addr} {kc : ClassId} {vs : List Value} {j x : Int32} (y : Int32) (hd : decode by_ pc = .ok (.castore, 1)) (F : Ar Z h a kc .char vs) (hb : b ≤ a) (hy : (nar .char x) = y) (kk : ∀ h', Keep h h' [a] → Ar Z h' a kc .char (vs.set j.toNatClampNeg (.int y)) → Run C Z R w To f Q b Ts Li h' k n pc' L S) (hj : ¬ j < 0 := by decide) (hi : j.toNatClampNeg < vs.length := by exact Nat.le_of_ble_eq_true rfl) (hp : pc' = pc + 1 := by exact rfl) : Run C Z R w To f Q b Ts Li h k n pc L (.int x :: .int j :: .ref a :: S) := by
  subst hp hy
  obtain ⟨c, A, h1, h2, h3, h4⟩ := id F
  have hin : ¬ (j < 0 ∨ c.slots.size ≤ j.toNatClampNeg) := fun q => q.elim hj fun u => by rw [h2] at u; simp at u; omega
  exact Run.write hb (fun T vm0 locs P => stC P.1 H.1 P.2.1 P.2.2.1 A hin (g := mkF C.m pc L (.int x :: .int j :: .ref a :: S)) rfl rfl (H.dec hd)) fun h' W K => kk h' K (F.put W (fits_nar_char _))
theorem r_bastore (H : Stn C Z own by_ mL rt nm q) (pc' : Nat) {a : Addr} {kc : ClassId} {vs : List Value} {j x : Int32} (y : Int32) (hd : decode by_ pc = .ok (.bastore, 1)) (F : Ar Z h a kc .byte vs) (hb : b ≤ a) (hy : (nar .byte x) = y) (kk : ∀ h', Keep h h' [a] → Ar Z h' a kc .byte (vs.set j.toNatClampNeg (.int y)) → Run C Z R w To f Q b Ts Li h' k n pc' L S) (hj : ¬ j < 0 := by decide) (hi : j.toNatClampNeg < vs.length := by exact Nat.le_of_ble_eq_true rfl) (hp : pc' = pc + 1 := by exact rfl) : Run C Z R w To f Q b Ts Li h k n pc L (.int x :: .int j :: .ref a :: S) := by
  subst hp hy
  obtain ⟨c, A, h1, h2, h3, h4⟩ := id F
  have hin : ¬ (j < 0 ∨ c.slots.size ≤ j.toNatClampNeg) := fun q => q.elim hj fun u => by rw [h2] at u; simp at u; omega
  exact Run.write hb (fun T vm0 locs P => stB P.1 H.1 P.2.1 P.2.2.1 A hin (g := mkF C.m pc L (.int x :: .int j :: .ref a :: S)) rfl rfl (H.dec hd)) fun h' W K => kk h' K (F.put W (fits_nar_byte _))
theorem r_putf (H : Stn C Z own by_ mL rt nm q) (pc' : Nat) {idx kk0 : Nat} {R0 O fn d CC : String} {ty : FieldType} {a : Addr} {v old : Value} (hd : decode by_ pc = .ok (.putfield idx, 3)) (w1 : (Cond.fieldLink own idx R0 fn d).before a0 Z = true) (F : Fld Z h a O fn d old) (E : Exa Z h a CC) (wl : (Cond.lays CC O fn d).before a0 Z = true ∨ ((Cond.laysFinal CC O fn d).before a0 Z = true ∧ own = O ∧ nm = "<init>")) (wi : (Cond.instantiable CC kk0).before a0 Z = true) (hb : b ≤ a) (kk : ∀ h', Wr h h' a (Jvm.RoadKit.slotOf Z O fn d) v → Keep h h' [a] → Exa Z h' a CC → Fld Z h' a O fn d v → Run C Z R w To f Q b Ts Li h' k n pc' L S) (via : Via Z R0 O fn d := by exact Via.refl) (hty : parseFieldDescriptor d = some ty := by decide) (hn : narrow ty v = v := by exact rfl) (hf' : fits ty v = true := by exact rfl) (hp : pc' = pc + 3 := by exact rfl) : Run C Z R w To f Q b Ts Li h k n pc L (v :: .ref a :: S) := by
  subst hp
  exact Run.write hb (fun T vm0 locs P => putF (host := "") P.1 H.1 P.2.1 (P.cl H) (Or.inl w1) via P.2.2.1 F E (wl.imp id fun z => ⟨z.1, z.2.1, H.2.2.2.2.2.1.trans z.2.2⟩) wi hty hn hf' (g := mkF C.m pc L (v :: .ref a :: S)) rfl rfl (H.dec hd)) fun h' W K => kk h' W K (E.wr W) (F.same W)
theorem r_putn (H : Stn C Z own by_ mL rt nm q) (pc' : Nat) {idx kk0 : Nat} {R0 O fn d CC : String} {ty : FieldType} {a : Addr} {v old : Value} (v' : Value) (hd : decode by_ pc = .ok (.putfield idx, 3)) (w1 : (Cond.fieldLink own idx R0 fn d).before a0 Z = true) (F : Fld Z h a O fn d old) (E : Exa Z h a CC) (wl : (Cond.lays CC O fn d).before a0 Z = true ∨ ((Cond.laysFinal CC O fn d).before a0 Z = true ∧ own = O ∧ nm = "<init>")) (wi : (Cond.instantiable CC kk0).before a0 Z = true) (hb : b ≤ a) (kk : ∀ h', Wr h h' a (Jvm.RoadKit.slotOf Z O fn d) v' → Keep h h' [a] → Exa Z h' a CC → Fld Z h' a O fn d v' → Run C Z R w To f Q b Ts Li h' k n pc' L S) (via : Via Z R0 O fn d := by exact Via.refl) (hty : parseFieldDescriptor d = some ty := by decide) (hn : narrow ty v = v' := by exact rfl) (hf' : fits ty v' = true := by decide) (hp : pc' = pc + 3 := by exact rfl) : Run C Z R w To f Q b Ts Li h k n pc L (v :: .ref a :: S) := by
  subst hp
  exact Run.write hb (fun T vm0 locs P => putFN P.1 H.1 P.2.1 (P.cl H) w1 via P.2.2.1 F E (wl.imp id fun z => ⟨z.1, z.2.1, H.2.2.2.2.2.1.trans z.2.2⟩) wi hty hn hf' (g := mkF C.m pc L (v :: .ref a :: S)) rfl rfl (H.dec hd)) fun h' W K => kk h' W K (E.wr W) (F.same W)
theorem Run.make {pc' k' n' : Nat} {L' : Array Slot} {S' : List Value} {P' : Heap → Prop} (hkk : k ≤ k') (g : ∀ T vm0 locs, Pos C Z R w b Ts Li h k n T vm0 locs → ∃ T' h', Stand C.p C.l C.e R (C.s.setVm vm0) C.m C.a C.bl C.mt C.c T' locs k' n' ∧ T'.heap = h' ∧ Ext h h' ∧ P' h' ∧ ∀ t, Steps C.p.tables C.e C.bl (T'.setTop (mkF C.m pc' L' S')) t → Steps C.p.tables C.e C.bl (T.setTop (mkF C.m pc L S)) t)
    (kk : ∀ h', Ext h h' → P' h' → Run C Z R w To f Q b Ts Li h' k' n' pc' L' S') : Run C Z R w To f Q b Ts Li h k n pc L S := fun T vm0 locs P => by
  obtain ⟨T', h', X', e', E, hP, st⟩ := g T vm0 locs P
  obtain ⟨X, hZ, eT, hS, hI, hw, N, hz, hE, hq, hL⟩ := P
  obtain ⟨s₂, o, h1, r'⟩ := kk h' E hP T' vm0 locs ⟨X', hZ, e', since_same hS E.1, hI, hw, N, hz, ⟨Nat.le_trans hE.1 E.1, fun x c r => E.2 x c (hE.2 x c r)⟩, Nat.le_trans hq E.1, hL⟩
  exact ⟨s₂, o, st _ h1, r'⟩
theorem Keep.of_ext {h h' : Heap} (E : Ext h h') : Keep h h' [] := (Keep.refl h []).ext E
theorem r_new (H : Stn C Z own by_ mL rt nm q) (pc' : Nat) {idx ns : Nat} {CC : String} (hd : decode by_ pc = .ok (.new idx, 3)) (w1 : (Cond.classLink own idx CC).before a0 Z = true) (wi : (Cond.instantiable CC ns).before a0 Z = true) (wz : (Cond.initialized CC).before a0 Z = true) (kk : ∀ h' a, a = h.size → a < h'.size → Keep h h' [] → Exa Z h' a CC → (∀ {O nm d : String} {ty : FieldType}, Laid Z a0 CC O nm d → parseFieldDescriptor d = some ty → Fld Z h' a O nm d (defaultValue ty)) → Run C Z R w To f Q b Ts Li h' (k + 1) (n + ns) pc' L (.ref a :: S)) (hc : k + 1 ≤ R.cells := by decide) (hl : n + ns ≤ R.slots := by decide) (hp : pc' = pc + 3 := by exact rfl) : Run C Z R w To f Q b Ts Li h k n pc L S := by
  subst hp
  refine Run.make (P' := fun h' => Exa Z h' h.size CC ∧ (∀ {O nm d : String} {ty : FieldType}, Laid Z a0 CC O nm d → parseFieldDescriptor d = some ty → Fld Z h' h.size O nm d (defaultValue ty))) (Nat.le_succ k) (fun T vm0 locs P => ?_) fun h' E hP => kk h' _ rfl hP.1.lt (Keep.of_ext E) hP.1 hP.2
  obtain ⟨T', h', X', e', E, A, D, -, st⟩ := newO P.1 H.1 P.2.1 (P.cl H) w1 wi wz P.2.2.1 (g := mkF C.m pc L S) rfl (H.dec hd) hc hl
  exact ⟨T', h', X', e', E, ⟨A, D⟩, st⟩
theorem r_newP (H : Stn C Z own by_ mL rt nm q) (pc' : Nat) {aty : ArrayType} {z : Int32} (ad : String) (cap : Nat) (hd : decode by_ pc = .ok (.newarray aty, 2)) (w1 : (Cond.arrayClass (newarray.typeOf aty)).before a0 Z = true) (kk : ∀ h' a kc, a = h.size → a < h'.size → Keep h h' [] → Exa Z h' a ad → Ar Z h' a kc (newarray.typeOf aty) (List.replicate z.toNatClampNeg (defaultValue (newarray.typeOf aty))) → Run C Z R w To f Q b Ts Li h' (k + 1) (n + cap) pc' L (.ref a :: S)) (had : "[" ++ (newarray.typeOf aty).toString = ad := by exact rfl) (hn : ¬ z < 0 := by decide) (hcap : z.toNatClampNeg ≤ cap := by decide) (hb : cap * 8 ≤ 536870912 := by decide) (hc : k + 1 ≤ R.cells := by decide) (hl : n + cap ≤ R.slots := by decide) (hp : pc' = pc + 2 := by exact rfl) : Run C Z R w To f Q b Ts Li h k n pc L (.int z :: S) := by
  subst hp
  refine Run.make (P' := fun h' => ∃ kc, Exa Z h' h.size ad ∧ Ar Z h' h.size kc (newarray.typeOf aty) (List.replicate z.toNatClampNeg (defaultValue (newarray.typeOf aty)))) (Nat.le_succ k) (fun T vm0 locs P => ?_) fun h' E hP => by obtain ⟨kc, h1, h2⟩ := hP; exact kk h' _ kc rfl h2.lt (Keep.of_ext E) h1 h2
  obtain ⟨T', h', cA, X', e', E, A, A2, st⟩ := newPE P.1 H.1 P.2.1 w1 P.2.2.1 (g := mkF C.m pc L (.int z :: S)) rfl (H.dec hd) rfl hn hcap hb hc hl had
  exact ⟨T', h', X', e', E, ⟨cA, A2, Ar.new A hn⟩, st⟩
section Contract
variable {y : MethodName} {yb : ByteArray} {ymL : Nat} {yrt : Option FieldType} {Ry : Room} {Ti To' : List String} {f' : Nat} {as : Array Value} {Qy Qy' : Option Value → Heap → Prop} {ws : List Jvm.Cond}
theorem Con.mono (hc : Con w ws Z y yb ymL yrt Ry Ti To' f' as h Qy) (hq : ∀ v h', Qy v h' → Qy' v h') : Con w ws Z y yb ymL yrt Ry Ti To' f' as h Qy' := by
  intro l p e ha hca hk s m args below hf happ hP hK
  obtain ⟨n, o, h1, h2, h3, v, L, e1, hQ, hE⟩ := hc l p e ha hca hk s m args below hf happ hP hK
  exact ⟨n, o, h1, h2, h3, v, L, e1, ⟨hq _ _ hQ.1, hQ.2⟩, hE⟩
theorem con_of (bb : Nat) (L0 : Array Slot) (hpl : plainFor y = true) (hef : ∀ m, entryFrame m as ymL = mkF m 0 L0 []) (hz : Z.heap.size ≤ bb)
    (body : ∀ C : Cx, Stn C Z y.cls yb ymL yrt y.name h.size → Ext Z.heap h → Run C Z Ry w To' f' Qy bb Ti [] h 0 0 0 L0 []) : Con w ws Z y yb ymL yrt Ry Ti To' f' as h Qy := by
  intro l
  refine MetFree.of_bodySF hpl hisR ?_
  intro p e s m args below meth c s₁ Bd hml0 hP hK
  obtain ⟨rfl, hZ, hh, hI, hE⟩ := hP
  have X0 : Stand p l e Ry s m args below meth c s₁ [] 0 0 := Stand.of_body Bd
  have e0 : s₁.heap = h := by rw [← hh, Bd.state]; rfl
  have H : Stn (p, l, e, s, m, args, below, meth, c) Z y.cls yb ymL yrt y.name h.size := ⟨Bd.exec, Bd.bytes, hml0, Bd.returns, Bd.notSynchronized, (name_of_methodNamed Bd.named Bd.method).1, (by show s.heap.size = _; rw [hh]), (by show Ext Z.heap s.heap; rw [hh]; exact hE), findClass_of_methodNamed Bd.named⟩
  obtain ⟨s₂, o, h1, h2, h3, r⟩ := body (p, l, e, s, m, args, below, meth, c) H hE s₁ s.vm [] ⟨X0, hZ, e0, (State.WarmedH.refl s).since _, hI, fun _ => rfl, Fr.nil _, hz, hE, Nat.le_of_eq (by show s.heap.size = _; rw [hh]), fun _ q => by cases q⟩
  exact ⟨s₂, o, castTop (hef m) h1, h2, h3, r⟩
theorem Con.back {p : Program} {l : Launch} {e : Env} {R : Room} {below : List Frame} {s : State} {args : Array Value} {len W : Nat} (hc : Con false [] Z y yb ymL yrt Ry Ti To' f' as h Qy) (hZ : Z.Warmed39 s.vm) (hI : IB Z s.vm Ti) (hE : Ext Z.heap h)
    (wc : (Cond.code y yb ymL yrt).before a0 Z = true) (wz : (Cond.initialized y.cls).before a0 Z = true) (hf : Ry.frames + 1 ≤ R.frames) (hl : W + (ymL + 11) + Ry.locals ≤ R.locals) :
    Back l R p e below s args y len W (fun A a => a = as ∧ A.U.heap = h ∧ A.cells + Ry.cells ≤ R.cells ∧ A.slots + Ry.slots ≤ R.slots)
      (fun A _ v B => ∃ L, (Qy v B.U.heap ∧ Fr f' L ∧ Ext Z.heap B.U.heap ∧ IB Z B.U.vm To') ∧ B.locs = A.locs ++ L ∧ B.cells = A.cells + Ry.cells ∧ B.slots = A.slots + Ry.slots) :=
  Back.of_free (bytes := yb) (maxL := ymL) (ret := yrt) (E := fun _ _ o t L k n => k = Ry.cells ∧ n = Ry.slots ∧ ∃ v, o = .returned v ∧ (Qy v t.heap ∧ Fr f' L ∧ Ext Z.heap t.heap ∧ IB Z t.vm To')) (hc l) hf hl
    (fun m meth c A a Y hp => have hU : Z.Warmed39 A.U.vm := wtrans hZ Y.warmed
      ⟨by show (Cond.and _ .tt).before a A.U = true; rw [Cond.before_and, mv hU wc]; rfl, mv hU wc, mv hU wz, hp.2.2.1, hp.2.2.2⟩)
    (fun m meth c A a g mk Y hp => ⟨hp.1, wtrans hZ Y.warmed, hp.2.1, ib_same hI Y.warmed.interned_eq, hE⟩) (fun _ _ _ _ _ _ _ _ _ => trivial)
    (fun _ _ _ _ ⟨v, L, h1, h2, h3⟩ => ⟨L, _, _, h3, rfl, rfl, v, h1, h2⟩)
    (fun m meth c A a g mk v t L k n Y hp _ _ ⟨e1, e2, v', e3, e4⟩ => by cases e3; subst e1 e2; exact ⟨L, e4, rfl, rfl, rfl⟩)
theorem Con.backS {p : Program} {l : Launch} {e : Env} {R : Room} {below : List Frame} {s : State} {args : Array Value} {len W : Nat} (hc : Con true [] Z y yb ymL yrt Ry Ti To' f' as h Qy) (hZ : Z.Warmed39 s.vm) (hI : IB Z s.vm Ti) (hE : Ext Z.heap h)
    (wc : (Cond.code y yb ymL yrt).before a0 Z = true) (wz : (Cond.initialized y.cls).before a0 Z = true) (hf : Ry.frames + 1 ≤ R.frames) (hl : W + (ymL + 11) + Ry.locals ≤ R.locals) :
    BackS l R p e below s args y len W (fun A a => a = as ∧ A.U.heap = h ∧ A.cells + Ry.cells ≤ R.cells ∧ A.slots + Ry.slots ≤ R.slots)
      (fun A _ v B => ∃ L, (Qy v B.U.heap ∧ Fr f' L ∧ Ext Z.heap B.U.heap ∧ IB Z B.U.vm To') ∧ B.locs = A.locs ++ L ∧ B.cells = A.cells + Ry.cells ∧ B.slots = A.slots + Ry.slots) :=
  BackS.of_freeW (bytes := yb) (maxL := ymL) (ret := yrt) (E := fun _ _ o t L k n => k = Ry.cells ∧ n = Ry.slots ∧ ∃ v, o = .returned v ∧ (Qy v t.heap ∧ Fr f' L ∧ Ext Z.heap t.heap ∧ IB Z t.vm To')) (hc l) hf hl
    (fun m meth c A a Y hp => have hU : Z.Warmed39 A.U.vm := wtrans hZ Y.warmed
      ⟨by show (Cond.and _ .tt).before a A.U = true; rw [Cond.before_and, mv hU wc]; rfl, mv hU wc, mv hU wz, hp.2.2.1, hp.2.2.2⟩)
    (fun m meth c A a g mk Y hp => ⟨hp.1, wtrans hZ Y.warmed, hp.2.1, ib_same hI Y.warmed.interned_eq, hE⟩) (fun _ _ _ _ _ _ _ _ _ => trivial)
    (fun _ _ _ _ ⟨v, L, h1, h2, h3⟩ => ⟨L, _, _, h3, rfl, rfl, v, h1, h2⟩)
    (fun m meth c A a g mk v t L k n Y hp _ _ ⟨e1, e2, v', e3, e4⟩ => by cases e3; subst e1 e2; exact ⟨L, e4, rfl, rfl, rfl⟩)
theorem Pos.afterN {T : State} {vm0 : Vm} {locs : List Loc} {U : State} {ls : List Loc} {ce sl : Nat} {Lc : List Loc} (P : Pos C Z R false b Ts Li h k n T vm0 locs) (X' : Stand C.p C.l C.e R (C.s.setVm vm0) C.m C.a C.bl C.mt C.c U ls ce sl)
    (hF : Fr f' Lc) (hE' : Ext Z.heap U.heap) (hI' : IB Z U.vm To') (l1 : ls = locs ++ Lc) (c1 : ce = k + Ry.cells) (s1 : sl = n + Ry.slots) (hb : b ≤ f') : Pos C Z R false b To' Li U.heap (k + Ry.cells) (n + Ry.slots) U vm0 (locs ++ Lc) := by
  obtain ⟨X, hZ, eT, hS, hI, hw, N, hz, hE, hq, hL⟩ := P
  subst l1 c1 s1
  have e0 := hw rfl
  subst e0
  exact ⟨X', hZ, rfl, (State.WarmedH.refl C.s).since _, ib_same hI' X'.warmed.interned_eq.symm, fun _ => rfl, N.app (fr_low hF hb), hz, hE', X'.same.2.1, hL⟩
theorem Pos.afterS {T : State} {vm0 : Vm} {locs : List Loc} {U : State} {ls : List Loc} {ce sl : Nat} {Lc : List Loc} (P : Pos C Z R true b Ts Li h k n T vm0 locs) (X' : Stand C.p C.l C.e R ((C.s.setVm vm0).setVm U.vm) C.m C.a C.bl C.mt C.c U ls ce sl)
    (hS' : (C.s.setVm vm0).Since U.vm U.heap.size) (hg : T.heap.size ≤ U.heap.size) (hF : Fr f' Lc) (hE' : Ext Z.heap U.heap) (hI' : IB Z U.vm To') (l1 : ls = locs ++ Lc) (c1 : ce = k + Ry.cells) (s1 : sl = n + Ry.slots) (hb : b ≤ f') : Pos C Z R true b To' Li U.heap (k + Ry.cells) (n + Ry.slots) U U.vm (locs ++ Lc) := by
  obtain ⟨X, hZ, eT, hS, hI, hw, N, hz, hE, hq, hL⟩ := P
  subst l1 c1 s1
  exact ⟨X', State.Warmed39.trans (t := C.s.setVm vm0) hZ hS'.1, rfl, hS.trans hS' (by rw [← eT]; exact hg), hI', fun e => (by cases e), N.app (fr_low hF hb), hz, hE', Nat.le_trans hq (by rw [← eT]; exact hg), fun x hx => (hL x hx).stays hS'.1⟩
end Contract
theorem r_static (H : Stn C Z own by_ mL rt nm q) (pc' : Nat) {idx : Nat} {y : MethodName} {yb : ByteArray} {ymL : Nat} {yrt : Option FieldType} {Ry : Room} {To' : List String} {f' : Nat} {Qy : Option Value → Heap → Prop} {argsL rest : List Value} {W : Nat} (hd : decode by_ pc = .ok (.invokestatic idx, 3)) (w1 : (Cond.methodLink own idx y).before a0 Z = true) (w2 : (Cond.static y).before a0 Z = true) (w3 : (Cond.initialized y.cls).before a0 Z = true) (w4 : (Cond.code y yb ymL yrt).before a0 Z = true) (hlen : ∀ sig, parseMethodDescriptor y.desc = some sig → argsL.length = sig.parameters.length) (hc : Con w [] Z y yb ymL yrt Ry Ts To' f' argsL.toArray h Qy) (kk : ∀ v h', Qy v h' → Run C Z R w To f Q b To' Li h' (k + Ry.cells) (n + Ry.slots) pc' L (v.toList ++ rest)) (hy : y.cls ≠ "java/lang/invoke/MethodHandle" ∧ y.cls ≠ "java/lang/invoke/VarHandle" := by decide) (hs : S = argsL.reverse ++ rest := by exact rfl) (hW : (rest.map fun v => v.category).sum ≤ W := by exact Nat.le_of_eq rfl) (hL : L.size = mL := by exact rfl) (hf : Ry.frames + 1 ≤ R.frames := by decide) (hl : W + (ymL + 11) + Ry.locals ≤ R.locals := by decide) (hk : k + Ry.cells ≤ R.cells := by decide) (hn : n + Ry.slots ≤ R.slots := by decide) (hb : b ≤ f' := by exact Nat.le_refl _) (hp : pc' = pc + 3 := by exact rfl) : Run C Z R w To f Q b Ts Li h k n pc L S := by
  subst hp hs
  intro T vm0 locs P
  cases w with
  | false =>
    obtain ⟨v, vm₁, ⟨U, ls, ce, sl⟩, -, X', ⟨Lc, ⟨hQ, hF, hE', hI'⟩, l1, c1, s1⟩, st⟩ := Jvm.LawKit.callS P.1 H.1 (P.cl H) (mvT (s := C.s.setVm vm0) P.2.1 w1) (mvT (s := C.s.setVm vm0) P.2.1 w2) (mvT (s := C.s.setVm vm0) P.2.1 w3) (mvT (s := C.s.setVm vm0) P.2.1 w4) hy (hc.back P.2.1 P.2.2.2.2.1 P.2.2.2.2.2.2.2.2.1 w4 w3 hf hl) (g := mkF C.m pc L (argsL.reverse ++ rest)) rfl (by rw [H.2.2.1]; exact hL) hlen rfl (by show 2 * 0 + _ ≤ _; omega) (H.dec hd) (fun _ _ => ⟨rfl, P.2.2.1, hk, hn⟩)
    obtain ⟨s₂, o, h1, r⟩ := kk v U.heap hQ U vm0 _ (P.afterN X' hF hE' hI' l1 c1 s1 hb)
    exact ⟨s₂, o, st _ h1, r⟩
  | true =>
    obtain ⟨v, vm₁, ⟨U, ls, ce, sl⟩, -, X', hS', hg, ⟨Lc, ⟨hQ, hF, hE', hI'⟩, l1, c1, s1⟩, st⟩ := callSS P.1 H.1 (P.cl H) (mvT (s := C.s.setVm vm0) P.2.1 w1) (mvT (s := C.s.setVm vm0) P.2.1 w2) (mvT (s := C.s.setVm vm0) P.2.1 w3) (mvT (s := C.s.setVm vm0) P.2.1 w4) hy (hc.backS P.2.1 P.2.2.2.2.1 P.2.2.2.2.2.2.2.2.1 w4 w3 hf hl) (g := mkF C.m pc L (argsL.reverse ++ rest)) rfl (by rw [H.2.2.1]; exact hL) hlen rfl (by show 2 * 0 + _ ≤ _; omega) (H.dec hd) (fun _ _ => ⟨rfl, P.2.2.1, hk, hn⟩)
    obtain ⟨s₂, o, h1, r⟩ := kk v U.heap hQ U U.vm _ (P.afterS X' hS' hg hF hE' hI' l1 c1 s1 hb)
    exact ⟨s₂, o, st.trans h1, r⟩
theorem r_special (H : Stn C Z own by_ mL rt nm q) (pc' : Nat) {idx : Nat} {y : MethodName} {yb : ByteArray} {ymL : Nat} {Ry : Room} {To' : List String} {f' : Nat} {Qy : Option Value → Heap → Prop} {a : Addr} {argsL rest : List Value} {W : Nat} (hd : decode by_ pc = .ok (.invokespecial idx, 3)) (w1 : (Cond.methodLink own idx y).before a0 Z = true) (w2 : (Cond.instanceMethod y).before a0 Z = true) (w3 : (Cond.initialized y.cls).before a0 Z = true) (w4 : (Cond.code y yb ymL none).before a0 Z = true) (hlen : ∀ sig, parseMethodDescriptor y.desc = some sig → argsL.length = sig.parameters.length) (hc : Con w [] Z y yb ymL none Ry Ts To' f' (.ref a :: argsL).toArray h Qy) (kk : ∀ v h', Qy v h' → Run C Z R w To f Q b To' Li h' (k + Ry.cells) (n + Ry.slots) pc' L (v.toList ++ rest)) (hy : y.cls ≠ "java/lang/invoke/MethodHandle" ∧ y.cls ≠ "java/lang/invoke/VarHandle" := by decide) (hy1 : y.name = "<init>" := by exact rfl) (hs : S = argsL.reverse ++ .ref a :: rest := by exact rfl) (hW : (rest.map fun v => v.category).sum ≤ W := by exact Nat.le_of_eq rfl) (hL : L.size = mL := by exact rfl) (hf : Ry.frames + 1 ≤ R.frames := by decide) (hl : W + (ymL + 11) + Ry.locals ≤ R.locals := by decide) (hk : k + Ry.cells ≤ R.cells := by decide) (hn : n + Ry.slots ≤ R.slots := by decide) (hb : b ≤ f' := by exact Nat.le_refl _) (hp : pc' = pc + 3 := by exact rfl) : Run C Z R w To f Q b Ts Li h k n pc L S := by
  subst hp hs
  intro T vm0 locs P
  cases w with
  | false =>
    obtain ⟨v, vm₁, ⟨U, ls, ce, sl⟩, -, X', ⟨Lc, ⟨hQ, hF, hE', hI'⟩, l1, c1, s1⟩, st⟩ := P.1.specialBack H.1 hy1 (P.cl H) (mvT (s := C.s.setVm vm0) P.2.1 w1) (mvT (s := C.s.setVm vm0) P.2.1 w2) (mvT (s := C.s.setVm vm0) P.2.1 w4) hy (hc.back P.2.1 P.2.2.2.2.1 P.2.2.2.2.2.2.2.2.1 w4 w3 hf hl) (g := mkF C.m pc L (argsL.reverse ++ .ref a :: rest)) rfl (by rw [H.2.2.1]; exact hL) (Steps.refl _) (a := a) hlen rfl (by show 2 * 0 + _ ≤ _; omega) (H.dec hd) (fun _ _ => ⟨rfl, P.2.2.1, hk, hn⟩)
    obtain ⟨s₂, o, h1, r⟩ := kk v U.heap hQ U vm0 _ (P.afterN X' hF hE' hI' l1 c1 s1 hb)
    exact ⟨s₂, o, st.trans h1, r⟩
  | true =>
    obtain ⟨v, vm₁, ⟨U, ls, ce, sl⟩, -, X', hS', hg, ⟨Lc, ⟨hQ, hF, hE', hI'⟩, l1, c1, s1⟩, st⟩ := P.1.specialBackS H.1 hy1 (P.cl H) (mvT (s := C.s.setVm vm0) P.2.1 w1) (mvT (s := C.s.setVm vm0) P.2.1 w2) (mvT (s := C.s.setVm vm0) P.2.1 w4) hy (hc.backS P.2.1 P.2.2.2.2.1 P.2.2.2.2.2.2.2.2.1 w4 w3 hf hl) (g := mkF C.m pc L (argsL.reverse ++ .ref a :: rest)) rfl (by rw [H.2.2.1]; exact hL) (Steps.refl _) (a := a) hlen rfl (by show 2 * 0 + _ ≤ _; omega) (H.dec hd) (fun _ _ => ⟨rfl, P.2.2.1, hk, hn⟩)
    obtain ⟨s₂, o, h1, r⟩ := kk v U.heap hQ U U.vm _ (P.afterS X' hS' hg hF hE' hI' l1 c1 s1 hb)
    exact ⟨s₂, o, st.trans h1, r⟩
theorem r_virtual (H : Stn C Z own by_ mL rt nm q) (pc' : Nat) {idx : Nat} {y : MethodName} {yb : ByteArray} {ymL : Nat} {yrt : Option FieldType} {Ry : Room} {To' : List String} {f' : Nat} {Qy : Option Value → Heap → Prop} {z : MethodName} {CC : String} {a : Addr} {argsL rest : List Value} {W : Nat} (hd : decode by_ pc = .ok (.invokevirtual idx, 3)) (w1 : (Cond.methodLink own idx y).before a0 Z = true) (wd : (Cond.declares y).before a0 Z = true) (hnf : ∀ vm0, Z.Warmed39 vm0 → NotFace (C.s.setVm vm0) y) (w2 : (Cond.selects CC y z).before a0 Z = true) (w5 : (Cond.instanceMethod z).before a0 Z = true) (w3 : (Cond.initialized z.cls).before a0 Z = true) (w4 : (Cond.code z yb ymL yrt).before a0 Z = true) (E : Exa Z h a CC) (hlen : ∀ sig, parseMethodDescriptor y.desc = some sig → argsL.length = sig.parameters.length) (hc : Con w [] Z z yb ymL yrt Ry Ts To' f' (.ref a :: argsL).toArray h Qy) (kk : ∀ v h', Qy v h' → Run C Z R w To f Q b To' Li h' (k + Ry.cells) (n + Ry.slots) pc' L (v.toList ++ rest)) (hy : y.cls ≠ "java/lang/invoke/MethodHandle" ∧ y.cls ≠ "java/lang/invoke/VarHandle" := by decide) (hs : S = argsL.reverse ++ .ref a :: rest := by exact rfl) (hW : (rest.map fun v => v.category).sum ≤ W := by exact Nat.le_of_eq rfl) (hL : L.size = mL := by exact rfl) (hf : Ry.frames + 1 ≤ R.frames := by decide) (hl : W + (ymL + 11) + Ry.locals ≤ R.locals := by decide) (hk : k + Ry.cells ≤ R.cells := by decide) (hn : n + Ry.slots ≤ R.slots := by decide) (hb : b ≤ f' := by exact Nat.le_refl _) (hp : pc' = pc + 3 := by exact rfl) : Run C Z R w To f Q b Ts Li h k n pc L S := by
  subst hp hs
  intro T vm0 locs P
  obtain ⟨cB, kB, q1, q2, q3⟩ := isOf (T := T) (s := C.s.setVm vm0) P.2.1 P.2.2.1 E
  cases w with
  | false =>
    obtain ⟨v, vm₁, ⟨U, ls, ce, sl⟩, -, X', ⟨Lc, ⟨hQ, hF, hE', hI'⟩, l1, c1, s1⟩, st⟩ := P.1.virtualBack H.1 (P.cl H) (mvT (s := C.s.setVm vm0) P.2.1 w1) (mvT (s := C.s.setVm vm0) P.2.1 wd) (hnf vm0 P.2.1) (mvT (s := C.s.setVm vm0) P.2.1 w2) (mvT (s := C.s.setVm vm0) P.2.1 w5) hy (hc.back P.2.1 P.2.2.2.2.1 P.2.2.2.2.2.2.2.2.1 w4 w3 hf hl) q1 q3 (g := mkF C.m pc L (argsL.reverse ++ .ref a :: rest)) rfl (by rw [H.2.2.1]; exact hL) (Steps.refl _) hlen rfl (by show 2 * 0 + _ ≤ _; omega) (H.dec hd) (fun _ _ => ⟨rfl, P.2.2.1, hk, hn⟩)
    obtain ⟨s₂, o, h1, r⟩ := kk v U.heap hQ U vm0 _ (P.afterN X' hF hE' hI' l1 c1 s1 hb)
    exact ⟨s₂, o, st.trans h1, r⟩
  | true =>
    obtain ⟨v, vm₁, ⟨U, ls, ce, sl⟩, -, X', hS', hg, ⟨Lc, ⟨hQ, hF, hE', hI'⟩, l1, c1, s1⟩, st⟩ := P.1.virtualBackS H.1 (P.cl H) (mvT (s := C.s.setVm vm0) P.2.1 w1) (mvT (s := C.s.setVm vm0) P.2.1 wd) (hnf vm0 P.2.1) (mvT (s := C.s.setVm vm0) P.2.1 w2) (mvT (s := C.s.setVm vm0) P.2.1 w5) hy (hc.backS P.2.1 P.2.2.2.2.1 P.2.2.2.2.2.2.2.2.1 w4 w3 hf hl) q1 q3 (g := mkF C.m pc L (argsL.reverse ++ .ref a :: rest)) rfl (by rw [H.2.2.1]; exact hL) (Steps.refl _) hlen rfl (by show 2 * 0 + _ ≤ _; omega) (H.dec hd) (fun _ _ => ⟨rfl, P.2.2.1, hk, hn⟩)
    obtain ⟨s₂, o, h1, r⟩ := kk v U.heap hQ U U.vm _ (P.afterS X' hS' hg hF hE' hI' l1 c1 s1 hb)
    exact ⟨s₂, o, st.trans h1, r⟩
theorem nf_sel {vmS : State} {CC : String} {y : MethodName} (w2 : (Cond.selects CC y y).before a0 Z = true) : ∀ vm0, Z.Warmed39 vm0 → NotFace (vmS.setVm vm0) y := fun vm0 hZ => notFace_of_selects (args := #[]) (mvT (s := vmS.setVm vm0) hZ w2)
theorem r_ldcS (H : Stn C Z own by_ mL rt nm b) (pc' : Nat) {idx : Nat} {text : String} {vs : List Value} {z : Int32} (ns : Nat) (hd : decode by_ pc = .ok (.ldc idx, 2)) (w1 : (Cond.stringLink own idx text).before a0 Z = true) (wS : ∀ a ∈ Bundle.stringAtoms, a.before a0 Z = true) (hnot : text ∉ Ts) (hh : Jvm.Lit.constHeld Z own idx) (hcw : Jvm.Lit.compactW.before a0 Z = true) (ht : (∀ c ∈ text.toList, c.toNat < 256) ∧ text.toList.map (fun c => Value.int (Jvm.Lit.byteI c.toNat.toUInt16)) = vs) (kk : ∀ h' a v kc, Keep h h' [] → Exa Z h' a "java/lang/String" → Fld Z h' a "java/lang/String" "coder" "B" (.int 0) → Fld Z h' a "java/lang/String" "value" "[B" (.ref v) → Ar Z h' v kc .byte vs → ((a < b ∧ v < b) ∨ (h.size ≤ a ∧ h.size ≤ v)) → Run C Z R true To f Q b (text :: Ts) [(own, idx, a)] h' (k + 2) (n + (ns + 4)) pc' L (.ref a :: S)) (hz : ¬ z < 0 := by decide) (hl : z.toNatClampNeg = vs.length := by decide) (hns : 4 * text.toList.length ≤ ns := by decide) (hbig : ns ≤ 536870912 := by decide) (hc : k + 2 ≤ R.cells := by decide) (hsl : n + (ns + 4) ≤ R.slots := by decide) (hp : pc' = pc + 2 := by exact rfl) : Run C Z R true To f Q b Ts Li h k n pc L S := by
  subst hp
  intro T vm0 locs P
  obtain ⟨X, hZ, eT, hS, hI, hw, N, hzz, hE, hq, hL⟩ := P
  obtain ⟨a, T', h', k1, v, kc, X', e', E, hS', hk1, hW', ho', x1, x2, x3, x4, x5, x6, hI', hLit, hwh, st⟩ := ldcSVd X H.1 hZ (H.cl hS) w1 wS eT hS (Nat.le_refl _) (by rw [H.2.2.2.2.2.2.1]; exact N) (fun bb cl r => H.2.2.2.2.2.2.2.1.2 bb cl r) hI hnot hh hcw ht hz hl (g := mkF C.m pc L S) rfl (H.dec hd) hns hbig hc hsl
  subst e'
  obtain ⟨s₂, o, h1, r⟩ := kk T'.heap a v kc (Keep.of_ext E) x1 x2 x3 (Ar.of_arv x4 hl) (by rw [← H.2.2.2.2.2.2.1]; exact hwh) T' T'.vm locs ⟨X', hW', rfl, since_same hS' hk1, hI', fun e => (by cases e), N, hzz, ⟨Nat.le_trans hE.1 E.1, fun x c r => E.2 x c (hE.2 x c r)⟩, Nat.le_trans hq E.1, fun x hx => (by cases List.mem_singleton.mp hx; exact hLit)⟩
  exact ⟨s₂, o, st _ h1, r⟩
theorem r_ldcA (H : Stn C Z own by_ mL rt nm q) (pc' : Nat) {idx : Nat} {text : String} {a : Addr} (hd : decode by_ pc = .ok (.ldc idx, 2)) (w1 : (Cond.stringLink own idx text).before a0 Z = true) (hm : (own, idx, a) ∈ Li) (kk : Run C Z R w To f Q b Ts Li h k n pc' L (.ref a :: S)) (hp : pc' = pc + 2 := by exact rfl) : Run C Z R w To f Q b Ts Li h k n pc L S := by
  subst hp
  exact kk.hold fun T vm0 locs P => ⟨T, P.1, P.2.2.1, ldcAgain P.1 H.1 P.2.1 (P.cl H) w1 (P.2.2.2.2.2.2.2.2.2.2 _ hm) (g := mkF C.m pc L S) rfl (H.dec hd)⟩

theorem Run.join {P : Int32 → Prop} {pcB : Nat} {LB : Int32 → Array Slot} {SB : Int32 → List Value} (k2 : (∀ z, P z → Run C Z R w To f Q b Ts Li h k n pcB (LB z) (SB z)) → Run C Z R w To f Q b Ts Li h k n pc L S)
    (k1 : ∀ z, P z → Run C Z R w To f Q b Ts Li h k n pcB (LB z) (SB z)) : Run C Z R w To f Q b Ts Li h k n pc L S := k2 k1
end Walk
theorem ushr_eq (x y : Int32) (k : Nat) (hk : y.toBitVec.toNat % 32 = k) (h0 : 0 < k) : (ush32 x y).toInt = (x.toInt % 4294967296) / (2 ^ k : Nat) := c_iushr x y k hk h0
theorem i2c_id {x : Int32} (h : 0 ≤ x.toInt ∧ x.toInt ≤ 65535) : x.toUInt32.toUInt16.toUInt32.toInt32 = x := by
  apply Int32.toInt_inj.mp; have := c_i2c x; omega
theorem i2b_id {x : Int32} (h : -128 ≤ x.toInt ∧ x.toInt ≤ 127) : x.toInt8.toInt32 = x := by
  apply Int32.toInt_inj.mp; have := c_i2b x; omega
theorem and1_id {x : Int32} (h : 0 ≤ x.toInt ∧ x.toInt ≤ 1) : x &&& 1 = x := by
  apply Int32.toInt_inj.mp; have h1 := c_mask x 1 1 (by decide) (by decide); rw [h1]; omega
theorem nar_char_id {x : Int32} (h : 0 ≤ x.toInt ∧ x.toInt ≤ 65535) : nar .char x = x := i2c_id h
theorem nar_byte_id {x : Int32} (h : -128 ≤ x.toInt ∧ x.toInt ≤ 127) : nar .byte x = x := i2b_id h
theorem nar_bool_id {x : Int32} (h : 0 ≤ x.toInt ∧ x.toInt ≤ 1) : nar .boolean x = x := and1_id h
theorem ne_ar {Z : State} {h : Heap} {a0 : Array Value} {a b : Addr} {CC : String} {k : Nat} {kc : ClassId} {ty : FieldType} {vs : List Value} (E : Exa Z h a CC) (wi : (Cond.instantiable CC k).before a0 Z = true) (F : Ar Z h b kc ty vs) : a ≠ b := by
  obtain ⟨c, A, -⟩ := F; exact ne_arr E wi A
abbrev cL8 (c : Int32) : Int32 := (c >>> ((0 : Int32) &&& 31)).toInt8.toInt32
abbrev cH8 (c : Int32) : Int32 := (c >>> ((8 : Int32) &&& 31)).toInt8.toInt32
abbrev cB8 (c : Int32) : Int32 := c.toInt8.toInt32

abbrev vI (x : Int32) : Slot := .val (.int x)
abbrev vR (x : Addr) : Slot := .val (.ref x)
theorem nlr {n : Nat} : n ≤ n := Nat.le_refl n
theorem nlt {a b c : Nat} (h : a ≤ b) (g : b ≤ c) : a ≤ c := Nat.le_trans h g
theorem nlq {a b : Nat} (h : a = b) : a ≤ b := Nat.le_of_eq h
theorem own_u16 (c : Int32) (h : 0 ≤ c.toInt ∧ c.toInt ≤ 65535) : (((((((c >>> ((0 : Int32) &&& 31)).toInt8.toInt32) &&& (255 : Int32)) <<< ((0 : Int32) &&& 31)) ||| (((((c >>> ((8 : Int32) &&& 31)).toInt8.toInt32) &&& (255 : Int32)) <<< ((8 : Int32) &&& 31))))).toUInt32.toUInt16.toUInt32.toInt32) = c := by
  have s0 := c_ishr c 0 0 (by decide)
  have s8 := c_ishr c 8 8 (by decide)
  generalize (c >>> ((0 : Int32) &&& 31)) = a at *
  generalize (c >>> ((8 : Int32) &&& 31)) = b at *
  have b0 := c_i2b a
  have b8 := c_i2b b
  generalize a.toInt8.toInt32 = a' at *
  generalize b.toInt8.toInt32 = b' at *
  have m0 := c_mask a' 255 8 (by decide) (by decide)
  have m8 := c_mask b' 255 8 (by decide) (by decide)
  generalize (a' &&& (255 : Int32)) = p at *
  generalize (b' &&& (255 : Int32)) = r at *
  have l0 := c_ishl p 0 0 (by decide)
  have l8 := c_ishl r 8 8 (by decide)
  have q0 := rng32 (p <<< ((0 : Int32) &&& 31))
  have q8 := rng32 (r <<< ((8 : Int32) &&& 31))
  generalize (p <<< ((0 : Int32) &&& 31)) = x at *
  generalize (r <<< ((8 : Int32) &&& 31)) = y at *
  have o := c_or' x y 8 (by decide) 256 (by decide) (by omega) (by omega) (by omega)
  have qo := rng32 (x ||| y)
  have i := c_i2c (x ||| y)
  apply Int32.toInt_inj.mp
  omega
theorem own_l8 (c : Int32) (h : 0 ≤ c.toInt ∧ c.toInt ≤ 255) : ((cB8 c) &&& (255 : Int32)) = c := by
  have b := c_i2b c
  show (c.toInt8.toInt32 &&& (255 : Int32)) = c
  generalize c.toInt8.toInt32 = a at *
  have m := c_mask a 255 8 (by decide) (by decide)
  apply Int32.toInt_inj.mp; omega
abbrev HW (a0 : Array Value) (Z : State) : Prop := ∀ d ∈ tables_1, d.before a0 Z = true
abbrev G_wS (Z : State) (a0 : Array Value) : Prop := ∀ a ∈ Bundle.stringAtoms, a.before a0 Z = true
abbrev G_hcw (Z : State) (a0 : Array Value) : Prop := Jvm.Lit.compactW.before a0 Z = true
abbrev G_hh0 (Z : State) : Prop := Jvm.Lit.constHeld Z "java/lang/String" 7
abbrev G_S_cs (Z : State) (cs : Int32) : Prop := Sta Z Z.heap "java/lang/String" "COMPACT_STRINGS" "Z" (.int cs)
abbrev G_S__assertionsDisabled (Z : State) : Prop := Sta Z Z.heap "java/lang/StringUTF16" "$assertionsDisabled" "Z" (.int (1 : Int32))
abbrev G_S_HI_BYTE_SHIFT (Z : State) : Prop := Sta Z Z.heap "java/lang/StringUTF16" "HI_BYTE_SHIFT" "I" (.int (0 : Int32))
abbrev G_S_LO_BYTE_SHIFT (Z : State) : Prop := Sta Z Z.heap "java/lang/StringUTF16" "LO_BYTE_SHIFT" "I" (.int (8 : Int32))
abbrev G_hsio (Z : State) (sio : Value) : Prop := sio = .null ∨ ∃ a, sio = .ref a
abbrev G_S_sio (Z : State) (sio : Value) : Prop := Sta Z Z.heap "jdk/internal/util/Preconditions" "SIOOBE_FORMATTER" "Ljava/util/function/BiFunction;" sio
theorem tw0 {Z : State} {a0 : Array Value} (hw : HW a0 Z) : ((Jvm.Cond.methodLink "com/example/held_scope/heldscope/jdbc/TransactionSqlReadAlikeByEitherSettingPinLaw" (7 : Nat) ({ cls := "com/example/held_scope/heldscope/jdbc/TransactionSqlReadAlikeByEitherSettingPinLaw", name := "pick", desc := "(II)C" } : Jvm.MethodName))).before a0 Z = true := hw _ (List.mem_of_getElem? (i := 0) rfl)
theorem tw1 {Z : State} {a0 : Array Value} (hw : HW a0 Z) : ((Jvm.Cond.static ({ cls := "com/example/held_scope/heldscope/jdbc/TransactionSqlReadAlikeByEitherSettingPinLaw", name := "pick", desc := "(II)C" } : Jvm.MethodName))).before a0 Z = true := hw _ (List.mem_of_getElem? (i := 1) rfl)
theorem tw2 {Z : State} {a0 : Array Value} (hw : HW a0 Z) : ((Jvm.Cond.initialized "com/example/held_scope/heldscope/jdbc/TransactionSqlReadAlikeByEitherSettingPinLaw")).before a0 Z = true := hw _ (List.mem_of_getElem? (i := 2) rfl)
theorem tw3 {Z : State} {a0 : Array Value} (hw : HW a0 Z) : ((Jvm.Cond.code ({ cls := "com/example/held_scope/heldscope/jdbc/TransactionSqlReadAlikeByEitherSettingPinLaw", name := "pick", desc := "(II)C" } : Jvm.MethodName) method_3_code (3 : Nat) (Option.some Jvm.ClassFile.FieldType.char))).before a0 Z = true := hw _ (List.mem_of_getElem? (i := 3) rfl)
theorem tw4 {Z : State} {a0 : Array Value} (hw : HW a0 Z) : ((Jvm.Cond.arrayClass Jvm.ClassFile.FieldType.char)).before a0 Z = true := hw _ (List.mem_of_getElem? (i := 4) rfl)
theorem tw5 {Z : State} {a0 : Array Value} (hw : HW a0 Z) : ((Jvm.Cond.classLink "com/example/held_scope/heldscope/jdbc/TransactionSqlReadAlikeByEitherSettingPinLaw" (13 : Nat) "java/lang/String")).before a0 Z = true := hw _ (List.mem_of_getElem? (i := 5) rfl)
theorem tw6 {Z : State} {a0 : Array Value} (hw : HW a0 Z) : ((Jvm.Cond.instantiable "java/lang/String" (4 : Nat))).before a0 Z = true := hw _ (List.mem_of_getElem? (i := 6) rfl)
theorem tw7 {Z : State} {a0 : Array Value} (hw : HW a0 Z) : ((Jvm.Cond.initialized "java/lang/String")).before a0 Z = true := hw _ (List.mem_of_getElem? (i := 7) rfl)
theorem tw8 {Z : State} {a0 : Array Value} (hw : HW a0 Z) : ((Jvm.Cond.methodLink "com/example/held_scope/heldscope/jdbc/TransactionSqlReadAlikeByEitherSettingPinLaw" (15 : Nat) ({ cls := "java/lang/String", name := "<init>", desc := "([C)V" } : Jvm.MethodName))).before a0 Z = true := hw _ (List.mem_of_getElem? (i := 8) rfl)
theorem tw9 {Z : State} {a0 : Array Value} (hw : HW a0 Z) : ((Jvm.Cond.instanceMethod ({ cls := "java/lang/String", name := "<init>", desc := "([C)V" } : Jvm.MethodName))).before a0 Z = true := hw _ (List.mem_of_getElem? (i := 9) rfl)
theorem tw10 {Z : State} {a0 : Array Value} (hw : HW a0 Z) : ((Jvm.Cond.code ({ cls := "java/lang/String", name := "<init>", desc := "([C)V" } : Jvm.MethodName) jdk_42_method_3_code (2 : Nat) (Option.none : Option Jvm.ClassFile.FieldType))).before a0 Z = true := hw _ (List.mem_of_getElem? (i := 10) rfl)
theorem tw11 {Z : State} {a0 : Array Value} (hw : HW a0 Z) : ((Jvm.Cond.methodLink "java/lang/String" (27 : Nat) ({ cls := "java/lang/String", name := "<init>", desc := "([CIILjava/lang/Void;)V" } : Jvm.MethodName))).before a0 Z = true := hw _ (List.mem_of_getElem? (i := 11) rfl)
theorem tw12 {Z : State} {a0 : Array Value} (hw : HW a0 Z) : ((Jvm.Cond.instanceMethod ({ cls := "java/lang/String", name := "<init>", desc := "([CIILjava/lang/Void;)V" } : Jvm.MethodName))).before a0 Z = true := hw _ (List.mem_of_getElem? (i := 12) rfl)
theorem tw14 {Z : State} {a0 : Array Value} (hw : HW a0 Z) : ((Jvm.Cond.code ({ cls := "java/lang/String", name := "<init>", desc := "([CIILjava/lang/Void;)V" } : Jvm.MethodName) jdk_42_method_149_code (6 : Nat) (Option.none : Option Jvm.ClassFile.FieldType))).before a0 Z = true := hw _ (List.mem_of_getElem? (i := 14) rfl)
theorem tw15 {Z : State} {a0 : Array Value} (hw : HW a0 Z) : ((Jvm.Cond.methodLink "java/lang/String" (1 : Nat) ({ cls := "java/lang/Object", name := "<init>", desc := "()V" } : Jvm.MethodName))).before a0 Z = true := hw _ (List.mem_of_getElem? (i := 15) rfl)
theorem tw16 {Z : State} {a0 : Array Value} (hw : HW a0 Z) : ((Jvm.Cond.instanceMethod ({ cls := "java/lang/Object", name := "<init>", desc := "()V" } : Jvm.MethodName))).before a0 Z = true := hw _ (List.mem_of_getElem? (i := 16) rfl)
theorem tw17 {Z : State} {a0 : Array Value} (hw : HW a0 Z) : ((Jvm.Cond.code ({ cls := "java/lang/Object", name := "<init>", desc := "()V" } : Jvm.MethodName) object_method_1_code (1 : Nat) (Option.none : Option Jvm.ClassFile.FieldType))).before a0 Z = true := hw _ (List.mem_of_getElem? (i := 17) rfl)
theorem tw18 {Z : State} {a0 : Array Value} (hw : HW a0 Z) : ((Jvm.Cond.stringLink "java/lang/String" (7 : Nat) "")).before a0 Z = true := hw _ (List.mem_of_getElem? (i := 18) rfl)
theorem tw19 {Z : State} {a0 : Array Value} (hw : HW a0 Z) : ((Jvm.Cond.arrayClass Jvm.ClassFile.FieldType.byte)).before a0 Z = true := hw _ (List.mem_of_getElem? (i := 19) rfl)
theorem tw20 {Z : State} {a0 : Array Value} (hw : HW a0 Z) : ((Jvm.Cond.laysFinal "java/lang/String" "java/lang/String" "value" "[B")).before a0 Z = true := hw _ (List.mem_of_getElem? (i := 20) rfl)
theorem tw21 {Z : State} {a0 : Array Value} (hw : HW a0 Z) : ((Jvm.Cond.laysFinal "java/lang/String" "java/lang/String" "coder" "B")).before a0 Z = true := hw _ (List.mem_of_getElem? (i := 21) rfl)
theorem tw22 {Z : State} {a0 : Array Value} (hw : HW a0 Z) : ((Jvm.Cond.soleField "java/lang/String" "value")).before a0 Z = true := hw _ (List.mem_of_getElem? (i := 22) rfl)
theorem tw23 {Z : State} {a0 : Array Value} (hw : HW a0 Z) : ((Jvm.Cond.soleField "java/lang/String" "coder")).before a0 Z = true := hw _ (List.mem_of_getElem? (i := 23) rfl)
theorem tw24 {Z : State} {a0 : Array Value} (hw : HW a0 Z) : ((Jvm.Cond.fieldLink "java/lang/String" (9 : Nat) "java/lang/String" "value" "[B")).before a0 Z = true := hw _ (List.mem_of_getElem? (i := 24) rfl)
theorem tw25 {Z : State} {a0 : Array Value} (hw : HW a0 Z) : ((Jvm.Cond.fieldLink "java/lang/String" (15 : Nat) "java/lang/String" "coder" "B")).before a0 Z = true := hw _ (List.mem_of_getElem? (i := 25) rfl)
theorem tw26 {Z : State} {a0 : Array Value} (hw : HW a0 Z) : ((Jvm.Cond.methodLink "com/example/held_scope/heldscope/jdbc/TransactionSqlReadAlikeByEitherSettingPinLaw" (18 : Nat) ({ cls := "com/example/held_scope/heldscope/jdbc/TransactionSql", name := "readAlikeByEitherSetting", desc := "(Ljava/lang/String;)Z" } : Jvm.MethodName))).before a0 Z = true := hw _ (List.mem_of_getElem? (i := 26) rfl)
theorem tw27 {Z : State} {a0 : Array Value} (hw : HW a0 Z) : ((Jvm.Cond.static ({ cls := "com/example/held_scope/heldscope/jdbc/TransactionSql", name := "readAlikeByEitherSetting", desc := "(Ljava/lang/String;)Z" } : Jvm.MethodName))).before a0 Z = true := hw _ (List.mem_of_getElem? (i := 27) rfl)
theorem tw28 {Z : State} {a0 : Array Value} (hw : HW a0 Z) : ((Jvm.Cond.initialized "com/example/held_scope/heldscope/jdbc/TransactionSql")).before a0 Z = true := hw _ (List.mem_of_getElem? (i := 28) rfl)
theorem tw29 {Z : State} {a0 : Array Value} (hw : HW a0 Z) : ((Jvm.Cond.code ({ cls := "com/example/held_scope/heldscope/jdbc/TransactionSql", name := "readAlikeByEitherSetting", desc := "(Ljava/lang/String;)Z" } : Jvm.MethodName) prog_52_method_4_code (5 : Nat) (Option.some Jvm.ClassFile.FieldType.boolean))).before a0 Z = true := hw _ (List.mem_of_getElem? (i := 29) rfl)
theorem tw30 {Z : State} {a0 : Array Value} (hw : HW a0 Z) : ((Jvm.Cond.methodLink "com/example/held_scope/heldscope/jdbc/TransactionSql" (108 : Nat) ({ cls := "java/lang/String", name := "length", desc := "()I" } : Jvm.MethodName))).before a0 Z = true := hw _ (List.mem_of_getElem? (i := 30) rfl)
theorem tw31 {Z : State} {a0 : Array Value} (hw : HW a0 Z) : ((Jvm.Cond.declares ({ cls := "java/lang/String", name := "length", desc := "()I" } : Jvm.MethodName))).before a0 Z = true := hw _ (List.mem_of_getElem? (i := 31) rfl)
theorem tw32 {Z : State} {a0 : Array Value} (hw : HW a0 Z) : ((Jvm.Cond.instanceMethod ({ cls := "java/lang/String", name := "length", desc := "()I" } : Jvm.MethodName))).before a0 Z = true := hw _ (List.mem_of_getElem? (i := 32) rfl)
theorem tw33 {Z : State} {a0 : Array Value} (hw : HW a0 Z) : ((Jvm.Cond.selects "java/lang/String" ({ cls := "java/lang/String", name := "length", desc := "()I" } : Jvm.MethodName) ({ cls := "java/lang/String", name := "length", desc := "()I" } : Jvm.MethodName))).before a0 Z = true := hw _ (List.mem_of_getElem? (i := 33) rfl)
theorem tw34 {Z : State} {a0 : Array Value} (hw : HW a0 Z) : ((Jvm.Cond.code ({ cls := "java/lang/String", name := "length", desc := "()I" } : Jvm.MethodName) jdk_42_method_54_code (1 : Nat) (Option.some Jvm.ClassFile.FieldType.int))).before a0 Z = true := hw _ (List.mem_of_getElem? (i := 34) rfl)
theorem tw35 {Z : State} {a0 : Array Value} (hw : HW a0 Z) : ((Jvm.Cond.methodLink "java/lang/String" (335 : Nat) ({ cls := "java/lang/String", name := "coder", desc := "()B" } : Jvm.MethodName))).before a0 Z = true := hw _ (List.mem_of_getElem? (i := 35) rfl)
theorem tw36 {Z : State} {a0 : Array Value} (hw : HW a0 Z) : ((Jvm.Cond.declares ({ cls := "java/lang/String", name := "coder", desc := "()B" } : Jvm.MethodName))).before a0 Z = true := hw _ (List.mem_of_getElem? (i := 36) rfl)
theorem tw37 {Z : State} {a0 : Array Value} (hw : HW a0 Z) : ((Jvm.Cond.instanceMethod ({ cls := "java/lang/String", name := "coder", desc := "()B" } : Jvm.MethodName))).before a0 Z = true := hw _ (List.mem_of_getElem? (i := 37) rfl)
theorem tw38 {Z : State} {a0 : Array Value} (hw : HW a0 Z) : ((Jvm.Cond.selects "java/lang/String" ({ cls := "java/lang/String", name := "coder", desc := "()B" } : Jvm.MethodName) ({ cls := "java/lang/String", name := "coder", desc := "()B" } : Jvm.MethodName))).before a0 Z = true := hw _ (List.mem_of_getElem? (i := 38) rfl)
theorem tw39 {Z : State} {a0 : Array Value} (hw : HW a0 Z) : ((Jvm.Cond.code ({ cls := "java/lang/String", name := "coder", desc := "()B" } : Jvm.MethodName) jdk_42_method_152_code (1 : Nat) (Option.some Jvm.ClassFile.FieldType.byte))).before a0 Z = true := hw _ (List.mem_of_getElem? (i := 39) rfl)
theorem tw40 {Z : State} {a0 : Array Value} (hw : HW a0 Z) : ((Jvm.Cond.fieldLink "java/lang/String" (38 : Nat) "java/lang/String" "COMPACT_STRINGS" "Z")).before a0 Z = true := hw _ (List.mem_of_getElem? (i := 40) rfl)
theorem tw41 {Z : State} {a0 : Array Value} (hw : HW a0 Z) : ((Jvm.Cond.methodLink "java/lang/String" (177 : Nat) ({ cls := "java/lang/StringUTF16", name := "compress", desc := "([CII)[B" } : Jvm.MethodName))).before a0 Z = true := hw _ (List.mem_of_getElem? (i := 41) rfl)
theorem tw42 {Z : State} {a0 : Array Value} (hw : HW a0 Z) : ((Jvm.Cond.static ({ cls := "java/lang/StringUTF16", name := "compress", desc := "([CII)[B" } : Jvm.MethodName))).before a0 Z = true := hw _ (List.mem_of_getElem? (i := 42) rfl)
theorem tw43 {Z : State} {a0 : Array Value} (hw : HW a0 Z) : ((Jvm.Cond.initialized "java/lang/StringUTF16")).before a0 Z = true := hw _ (List.mem_of_getElem? (i := 43) rfl)
theorem tw44 {Z : State} {a0 : Array Value} (hw : HW a0 Z) : ((Jvm.Cond.code ({ cls := "java/lang/StringUTF16", name := "compress", desc := "([CII)[B" } : Jvm.MethodName) jdk_52_method_16_code (6 : Nat) (Option.some (Jvm.ClassFile.FieldType.array Jvm.ClassFile.FieldType.byte)))).before a0 Z = true := hw _ (List.mem_of_getElem? (i := 44) rfl)
theorem tw45 {Z : State} {a0 : Array Value} (hw : HW a0 Z) : ((Jvm.Cond.methodLink "java/lang/StringUTF16" (115 : Nat) ({ cls := "java/lang/StringUTF16", name := "compress", desc := "([CI[BII)I" } : Jvm.MethodName))).before a0 Z = true := hw _ (List.mem_of_getElem? (i := 45) rfl)
theorem tw46 {Z : State} {a0 : Array Value} (hw : HW a0 Z) : ((Jvm.Cond.static ({ cls := "java/lang/StringUTF16", name := "compress", desc := "([CI[BII)I" } : Jvm.MethodName))).before a0 Z = true := hw _ (List.mem_of_getElem? (i := 46) rfl)
theorem tw47 {Z : State} {a0 : Array Value} (hw : HW a0 Z) : ((Jvm.Cond.code ({ cls := "java/lang/StringUTF16", name := "compress", desc := "([CI[BII)I" } : Jvm.MethodName) jdk_52_method_21_code (7 : Nat) (Option.some Jvm.ClassFile.FieldType.int))).before a0 Z = true := hw _ (List.mem_of_getElem? (i := 47) rfl)
theorem tw48 {Z : State} {a0 : Array Value} (hw : HW a0 Z) : ((Jvm.Cond.methodLink "java/lang/String" (47 : Nat) ({ cls := "java/lang/StringUTF16", name := "coderFromArrayLen", desc := "([BI)B" } : Jvm.MethodName))).before a0 Z = true := hw _ (List.mem_of_getElem? (i := 48) rfl)
theorem tw49 {Z : State} {a0 : Array Value} (hw : HW a0 Z) : ((Jvm.Cond.static ({ cls := "java/lang/StringUTF16", name := "coderFromArrayLen", desc := "([BI)B" } : Jvm.MethodName))).before a0 Z = true := hw _ (List.mem_of_getElem? (i := 49) rfl)
theorem tw50 {Z : State} {a0 : Array Value} (hw : HW a0 Z) : ((Jvm.Cond.code ({ cls := "java/lang/StringUTF16", name := "coderFromArrayLen", desc := "([BI)B" } : Jvm.MethodName) jdk_52_method_15_code (2 : Nat) (Option.some Jvm.ClassFile.FieldType.byte))).before a0 Z = true := hw _ (List.mem_of_getElem? (i := 50) rfl)
theorem tw51 {Z : State} {a0 : Array Value} (hw : HW a0 Z) : ((Jvm.Cond.methodLink "com/example/held_scope/heldscope/jdbc/TransactionSql" (112 : Nat) ({ cls := "java/lang/String", name := "charAt", desc := "(I)C" } : Jvm.MethodName))).before a0 Z = true := hw _ (List.mem_of_getElem? (i := 51) rfl)
theorem tw52 {Z : State} {a0 : Array Value} (hw : HW a0 Z) : ((Jvm.Cond.declares ({ cls := "java/lang/String", name := "charAt", desc := "(I)C" } : Jvm.MethodName))).before a0 Z = true := hw _ (List.mem_of_getElem? (i := 52) rfl)
theorem tw53 {Z : State} {a0 : Array Value} (hw : HW a0 Z) : ((Jvm.Cond.instanceMethod ({ cls := "java/lang/String", name := "charAt", desc := "(I)C" } : Jvm.MethodName))).before a0 Z = true := hw _ (List.mem_of_getElem? (i := 53) rfl)
theorem tw54 {Z : State} {a0 : Array Value} (hw : HW a0 Z) : ((Jvm.Cond.selects "java/lang/String" ({ cls := "java/lang/String", name := "charAt", desc := "(I)C" } : Jvm.MethodName) ({ cls := "java/lang/String", name := "charAt", desc := "(I)C" } : Jvm.MethodName))).before a0 Z = true := hw _ (List.mem_of_getElem? (i := 54) rfl)
theorem tw55 {Z : State} {a0 : Array Value} (hw : HW a0 Z) : ((Jvm.Cond.code ({ cls := "java/lang/String", name := "charAt", desc := "(I)C" } : Jvm.MethodName) jdk_42_method_56_code (2 : Nat) (Option.some Jvm.ClassFile.FieldType.char))).before a0 Z = true := hw _ (List.mem_of_getElem? (i := 55) rfl)
theorem tw56 {Z : State} {a0 : Array Value} (hw : HW a0 Z) : ((Jvm.Cond.methodLink "java/lang/String" (492 : Nat) ({ cls := "java/lang/String", name := "isLatin1", desc := "()Z" } : Jvm.MethodName))).before a0 Z = true := hw _ (List.mem_of_getElem? (i := 56) rfl)
theorem tw57 {Z : State} {a0 : Array Value} (hw : HW a0 Z) : ((Jvm.Cond.declares ({ cls := "java/lang/String", name := "isLatin1", desc := "()Z" } : Jvm.MethodName))).before a0 Z = true := hw _ (List.mem_of_getElem? (i := 57) rfl)
theorem tw58 {Z : State} {a0 : Array Value} (hw : HW a0 Z) : ((Jvm.Cond.instanceMethod ({ cls := "java/lang/String", name := "isLatin1", desc := "()Z" } : Jvm.MethodName))).before a0 Z = true := hw _ (List.mem_of_getElem? (i := 58) rfl)
theorem tw59 {Z : State} {a0 : Array Value} (hw : HW a0 Z) : ((Jvm.Cond.selects "java/lang/String" ({ cls := "java/lang/String", name := "isLatin1", desc := "()Z" } : Jvm.MethodName) ({ cls := "java/lang/String", name := "isLatin1", desc := "()Z" } : Jvm.MethodName))).before a0 Z = true := hw _ (List.mem_of_getElem? (i := 59) rfl)
theorem tw60 {Z : State} {a0 : Array Value} (hw : HW a0 Z) : ((Jvm.Cond.code ({ cls := "java/lang/String", name := "isLatin1", desc := "()Z" } : Jvm.MethodName) jdk_42_method_154_code (1 : Nat) (Option.some Jvm.ClassFile.FieldType.boolean))).before a0 Z = true := hw _ (List.mem_of_getElem? (i := 60) rfl)
theorem tw61 {Z : State} {a0 : Array Value} (hw : HW a0 Z) : ((Jvm.Cond.methodLink "java/lang/String" (495 : Nat) ({ cls := "java/lang/StringLatin1", name := "charAt", desc := "([BI)C" } : Jvm.MethodName))).before a0 Z = true := hw _ (List.mem_of_getElem? (i := 61) rfl)
theorem tw62 {Z : State} {a0 : Array Value} (hw : HW a0 Z) : ((Jvm.Cond.static ({ cls := "java/lang/StringLatin1", name := "charAt", desc := "([BI)C" } : Jvm.MethodName))).before a0 Z = true := hw _ (List.mem_of_getElem? (i := 62) rfl)
theorem tw63 {Z : State} {a0 : Array Value} (hw : HW a0 Z) : ((Jvm.Cond.initialized "java/lang/StringLatin1")).before a0 Z = true := hw _ (List.mem_of_getElem? (i := 63) rfl)
theorem tw64 {Z : State} {a0 : Array Value} (hw : HW a0 Z) : ((Jvm.Cond.code ({ cls := "java/lang/StringLatin1", name := "charAt", desc := "([BI)C" } : Jvm.MethodName) jdk_43_method_2_code (2 : Nat) (Option.some Jvm.ClassFile.FieldType.char))).before a0 Z = true := hw _ (List.mem_of_getElem? (i := 64) rfl)
theorem tw65 {Z : State} {a0 : Array Value} (hw : HW a0 Z) : ((Jvm.Cond.methodLink "java/lang/StringLatin1" (9 : Nat) ({ cls := "java/lang/String", name := "checkIndex", desc := "(II)V" } : Jvm.MethodName))).before a0 Z = true := hw _ (List.mem_of_getElem? (i := 65) rfl)
theorem tw66 {Z : State} {a0 : Array Value} (hw : HW a0 Z) : ((Jvm.Cond.static ({ cls := "java/lang/String", name := "checkIndex", desc := "(II)V" } : Jvm.MethodName))).before a0 Z = true := hw _ (List.mem_of_getElem? (i := 66) rfl)
theorem tw67 {Z : State} {a0 : Array Value} (hw : HW a0 Z) : ((Jvm.Cond.code ({ cls := "java/lang/String", name := "checkIndex", desc := "(II)V" } : Jvm.MethodName) jdk_42_method_155_code (2 : Nat) (Option.none : Option Jvm.ClassFile.FieldType))).before a0 Z = true := hw _ (List.mem_of_getElem? (i := 67) rfl)
theorem tw68 {Z : State} {a0 : Array Value} (hw : HW a0 Z) : ((Jvm.Cond.fieldLink "java/lang/String" (1053 : Nat) "jdk/internal/util/Preconditions" "SIOOBE_FORMATTER" "Ljava/util/function/BiFunction;")).before a0 Z = true := hw _ (List.mem_of_getElem? (i := 68) rfl)
theorem tw69 {Z : State} {a0 : Array Value} (hw : HW a0 Z) : ((Jvm.Cond.initialized "jdk/internal/util/Preconditions")).before a0 Z = true := hw _ (List.mem_of_getElem? (i := 69) rfl)
theorem tw70 {Z : State} {a0 : Array Value} (hw : HW a0 Z) : ((Jvm.Cond.methodLink "java/lang/String" (1059 : Nat) ({ cls := "jdk/internal/util/Preconditions", name := "checkIndex", desc := "(IILjava/util/function/BiFunction;)I" } : Jvm.MethodName))).before a0 Z = true := hw _ (List.mem_of_getElem? (i := 70) rfl)
theorem tw71 {Z : State} {a0 : Array Value} (hw : HW a0 Z) : ((Jvm.Cond.static ({ cls := "jdk/internal/util/Preconditions", name := "checkIndex", desc := "(IILjava/util/function/BiFunction;)I" } : Jvm.MethodName))).before a0 Z = true := hw _ (List.mem_of_getElem? (i := 71) rfl)
theorem tw72 {Z : State} {a0 : Array Value} (hw : HW a0 Z) : ((Jvm.Cond.code ({ cls := "jdk/internal/util/Preconditions", name := "checkIndex", desc := "(IILjava/util/function/BiFunction;)I" } : Jvm.MethodName) jdk_41_method_11_code (3 : Nat) (Option.some Jvm.ClassFile.FieldType.int))).before a0 Z = true := hw _ (List.mem_of_getElem? (i := 72) rfl)
theorem tw73 {Z : State} {a0 : Array Value} (hw : HW a0 Z) : ((Jvm.Cond.constant "com/example/held_scope/heldscope/jdbc/TransactionSqlReadAlikeByEitherSettingPinLaw" (24 : Nat) (65535 : Int32))).before a0 Z = true := hw _ (List.mem_of_getElem? (i := 73) rfl)
theorem tw74 {Z : State} {a0 : Array Value} (hw : HW a0 Z) : ((Jvm.Cond.methodLink "java/lang/StringUTF16" (119 : Nat) ({ cls := "java/lang/StringUTF16", name := "toBytes", desc := "([CII)[B" } : Jvm.MethodName))).before a0 Z = true := hw _ (List.mem_of_getElem? (i := 74) rfl)
theorem tw75 {Z : State} {a0 : Array Value} (hw : HW a0 Z) : ((Jvm.Cond.static ({ cls := "java/lang/StringUTF16", name := "toBytes", desc := "([CII)[B" } : Jvm.MethodName))).before a0 Z = true := hw _ (List.mem_of_getElem? (i := 75) rfl)
theorem tw76 {Z : State} {a0 : Array Value} (hw : HW a0 Z) : ((Jvm.Cond.code ({ cls := "java/lang/StringUTF16", name := "toBytes", desc := "([CII)[B" } : Jvm.MethodName) jdk_52_method_14_code (5 : Nat) (Option.some (Jvm.ClassFile.FieldType.array Jvm.ClassFile.FieldType.byte)))).before a0 Z = true := hw _ (List.mem_of_getElem? (i := 76) rfl)
theorem tw77 {Z : State} {a0 : Array Value} (hw : HW a0 Z) : ((Jvm.Cond.methodLink "java/lang/StringUTF16" (107 : Nat) ({ cls := "java/lang/StringUTF16", name := "newBytesFor", desc := "(I)[B" } : Jvm.MethodName))).before a0 Z = true := hw _ (List.mem_of_getElem? (i := 77) rfl)
theorem tw78 {Z : State} {a0 : Array Value} (hw : HW a0 Z) : ((Jvm.Cond.static ({ cls := "java/lang/StringUTF16", name := "newBytesFor", desc := "(I)[B" } : Jvm.MethodName))).before a0 Z = true := hw _ (List.mem_of_getElem? (i := 78) rfl)
theorem tw79 {Z : State} {a0 : Array Value} (hw : HW a0 Z) : ((Jvm.Cond.code ({ cls := "java/lang/StringUTF16", name := "newBytesFor", desc := "(I)[B" } : Jvm.MethodName) jdk_52_method_2_code (1 : Nat) (Option.some (Jvm.ClassFile.FieldType.array Jvm.ClassFile.FieldType.byte)))).before a0 Z = true := hw _ (List.mem_of_getElem? (i := 79) rfl)
theorem tw80 {Z : State} {a0 : Array Value} (hw : HW a0 Z) : ((Jvm.Cond.methodLink "java/lang/StringUTF16" (11 : Nat) ({ cls := "java/lang/StringUTF16", name := "newBytesLength", desc := "(I)I" } : Jvm.MethodName))).before a0 Z = true := hw _ (List.mem_of_getElem? (i := 80) rfl)
theorem tw81 {Z : State} {a0 : Array Value} (hw : HW a0 Z) : ((Jvm.Cond.static ({ cls := "java/lang/StringUTF16", name := "newBytesLength", desc := "(I)I" } : Jvm.MethodName))).before a0 Z = true := hw _ (List.mem_of_getElem? (i := 81) rfl)
theorem tw82 {Z : State} {a0 : Array Value} (hw : HW a0 Z) : ((Jvm.Cond.code ({ cls := "java/lang/StringUTF16", name := "newBytesLength", desc := "(I)I" } : Jvm.MethodName) jdk_52_method_3_code (1 : Nat) (Option.some Jvm.ClassFile.FieldType.int))).before a0 Z = true := hw _ (List.mem_of_getElem? (i := 82) rfl)
theorem tw83 {Z : State} {a0 : Array Value} (hw : HW a0 Z) : ((Jvm.Cond.constant "java/lang/StringUTF16" (20 : Nat) (1073741823 : Int32))).before a0 Z = true := hw _ (List.mem_of_getElem? (i := 83) rfl)
theorem tw84 {Z : State} {a0 : Array Value} (hw : HW a0 Z) : ((Jvm.Cond.methodLink "java/lang/StringUTF16" (111 : Nat) ({ cls := "java/lang/StringUTF16", name := "putChar", desc := "([BII)V" } : Jvm.MethodName))).before a0 Z = true := hw _ (List.mem_of_getElem? (i := 84) rfl)
theorem tw85 {Z : State} {a0 : Array Value} (hw : HW a0 Z) : ((Jvm.Cond.static ({ cls := "java/lang/StringUTF16", name := "putChar", desc := "([BII)V" } : Jvm.MethodName))).before a0 Z = true := hw _ (List.mem_of_getElem? (i := 85) rfl)
theorem tw86 {Z : State} {a0 : Array Value} (hw : HW a0 Z) : ((Jvm.Cond.code ({ cls := "java/lang/StringUTF16", name := "putChar", desc := "([BII)V" } : Jvm.MethodName) jdk_52_method_4_code (3 : Nat) (Option.none : Option Jvm.ClassFile.FieldType))).before a0 Z = true := hw _ (List.mem_of_getElem? (i := 86) rfl)
theorem tw87 {Z : State} {a0 : Array Value} (hw : HW a0 Z) : ((Jvm.Cond.fieldLink "java/lang/StringUTF16" (44 : Nat) "java/lang/StringUTF16" "$assertionsDisabled" "Z")).before a0 Z = true := hw _ (List.mem_of_getElem? (i := 87) rfl)
theorem tw88 {Z : State} {a0 : Array Value} (hw : HW a0 Z) : ((Jvm.Cond.fieldLink "java/lang/StringUTF16" (59 : Nat) "java/lang/StringUTF16" "HI_BYTE_SHIFT" "I")).before a0 Z = true := hw _ (List.mem_of_getElem? (i := 88) rfl)
theorem tw89 {Z : State} {a0 : Array Value} (hw : HW a0 Z) : ((Jvm.Cond.fieldLink "java/lang/StringUTF16" (63 : Nat) "java/lang/StringUTF16" "LO_BYTE_SHIFT" "I")).before a0 Z = true := hw _ (List.mem_of_getElem? (i := 89) rfl)
theorem tw90 {Z : State} {a0 : Array Value} (hw : HW a0 Z) : ((Jvm.Cond.methodLink "java/lang/StringUTF16" (71 : Nat) ({ cls := "java/lang/StringUTF16", name := "getChar", desc := "([BI)C" } : Jvm.MethodName))).before a0 Z = true := hw _ (List.mem_of_getElem? (i := 90) rfl)
theorem tw91 {Z : State} {a0 : Array Value} (hw : HW a0 Z) : ((Jvm.Cond.static ({ cls := "java/lang/StringUTF16", name := "getChar", desc := "([BI)C" } : Jvm.MethodName))).before a0 Z = true := hw _ (List.mem_of_getElem? (i := 91) rfl)
theorem tw92 {Z : State} {a0 : Array Value} (hw : HW a0 Z) : ((Jvm.Cond.code ({ cls := "java/lang/StringUTF16", name := "getChar", desc := "([BI)C" } : Jvm.MethodName) jdk_52_method_5_code (2 : Nat) (Option.some Jvm.ClassFile.FieldType.char))).before a0 Z = true := hw _ (List.mem_of_getElem? (i := 92) rfl)
theorem tw93 {Z : State} {a0 : Array Value} (hw : HW a0 Z) : ((Jvm.Cond.methodLink "java/lang/String" (498 : Nat) ({ cls := "java/lang/StringUTF16", name := "charAt", desc := "([BI)C" } : Jvm.MethodName))).before a0 Z = true := hw _ (List.mem_of_getElem? (i := 93) rfl)
theorem tw94 {Z : State} {a0 : Array Value} (hw : HW a0 Z) : ((Jvm.Cond.static ({ cls := "java/lang/StringUTF16", name := "charAt", desc := "([BI)C" } : Jvm.MethodName))).before a0 Z = true := hw _ (List.mem_of_getElem? (i := 94) rfl)
theorem tw95 {Z : State} {a0 : Array Value} (hw : HW a0 Z) : ((Jvm.Cond.code ({ cls := "java/lang/StringUTF16", name := "charAt", desc := "([BI)C" } : Jvm.MethodName) jdk_52_method_83_code (2 : Nat) (Option.some Jvm.ClassFile.FieldType.char))).before a0 Z = true := hw _ (List.mem_of_getElem? (i := 95) rfl)
theorem tw96 {Z : State} {a0 : Array Value} (hw : HW a0 Z) : ((Jvm.Cond.methodLink "java/lang/StringUTF16" (67 : Nat) ({ cls := "java/lang/StringUTF16", name := "checkIndex", desc := "(I[B)V" } : Jvm.MethodName))).before a0 Z = true := hw _ (List.mem_of_getElem? (i := 96) rfl)
theorem tw97 {Z : State} {a0 : Array Value} (hw : HW a0 Z) : ((Jvm.Cond.static ({ cls := "java/lang/StringUTF16", name := "checkIndex", desc := "(I[B)V" } : Jvm.MethodName))).before a0 Z = true := hw _ (List.mem_of_getElem? (i := 97) rfl)
theorem tw98 {Z : State} {a0 : Array Value} (hw : HW a0 Z) : ((Jvm.Cond.code ({ cls := "java/lang/StringUTF16", name := "checkIndex", desc := "(I[B)V" } : Jvm.MethodName) jdk_52_method_91_code (2 : Nat) (Option.none : Option Jvm.ClassFile.FieldType))).before a0 Z = true := hw _ (List.mem_of_getElem? (i := 98) rfl)
theorem tw99 {Z : State} {a0 : Array Value} (hw : HW a0 Z) : ((Jvm.Cond.methodLink "java/lang/StringUTF16" (48 : Nat) ({ cls := "java/lang/StringUTF16", name := "length", desc := "([B)I" } : Jvm.MethodName))).before a0 Z = true := hw _ (List.mem_of_getElem? (i := 99) rfl)
theorem tw100 {Z : State} {a0 : Array Value} (hw : HW a0 Z) : ((Jvm.Cond.static ({ cls := "java/lang/StringUTF16", name := "length", desc := "([B)I" } : Jvm.MethodName))).before a0 Z = true := hw _ (List.mem_of_getElem? (i := 100) rfl)
theorem tw101 {Z : State} {a0 : Array Value} (hw : HW a0 Z) : ((Jvm.Cond.code ({ cls := "java/lang/StringUTF16", name := "length", desc := "([B)I" } : Jvm.MethodName) jdk_52_method_6_code (1 : Nat) (Option.some Jvm.ClassFile.FieldType.int))).before a0 Z = true := hw _ (List.mem_of_getElem? (i := 101) rfl)
theorem tw102 {Z : State} {a0 : Array Value} (hw : HW a0 Z) : ((Jvm.Cond.methodLink "java/lang/StringUTF16" (414 : Nat) ({ cls := "java/lang/String", name := "checkIndex", desc := "(II)V" } : Jvm.MethodName))).before a0 Z = true := hw _ (List.mem_of_getElem? (i := 102) rfl)
theorem pd_0 : parseMethodDescriptor "(II)C" = some ⟨[.int, .int], some .char⟩ := by decide +kernel
theorem pd_1 : parseMethodDescriptor "([CIILjava/lang/Void;)V" = some ⟨[(.array .char), .int, .int, (.object "java/lang/Void")], none⟩ := by decide +kernel
theorem pd_2 : parseMethodDescriptor "([C)V" = some ⟨[(.array .char)], none⟩ := by decide +kernel
theorem pd_3 : parseMethodDescriptor "()B" = some ⟨[], some .byte⟩ := by decide +kernel
theorem pd_4 : parseMethodDescriptor "()I" = some ⟨[], some .int⟩ := by decide +kernel
theorem pd_5 : parseMethodDescriptor "(Ljava/lang/String;)Z" = some ⟨[(.object "java/lang/String")], some .boolean⟩ := by decide +kernel
theorem pd_6 : parseMethodDescriptor "([CI[BII)I" = some ⟨[(.array .char), .int, (.array .byte), .int, .int], some .int⟩ := by decide +kernel
theorem pd_7 : parseMethodDescriptor "(I)I" = some ⟨[.int], some .int⟩ := by decide +kernel
theorem pd_8 : parseMethodDescriptor "(I)[B" = some ⟨[.int], some (.array .byte)⟩ := by decide +kernel
theorem pd_9 : parseMethodDescriptor "([BII)V" = some ⟨[(.array .byte), .int, .int], none⟩ := by decide +kernel
theorem pd_10 : parseMethodDescriptor "([CII)[B" = some ⟨[(.array .char), .int, .int], some (.array .byte)⟩ := by decide +kernel
theorem pd_11 : parseMethodDescriptor "([BI)C" = some ⟨[(.array .byte), .int], some .char⟩ := by decide +kernel
theorem pd_12 : parseMethodDescriptor "([BI)B" = some ⟨[(.array .byte), .int], some .byte⟩ := by decide +kernel
theorem pd_13 : parseMethodDescriptor "()Z" = some ⟨[], some .boolean⟩ := by decide +kernel
theorem pd_14 : parseMethodDescriptor "(IILjava/util/function/BiFunction;)I" = some ⟨[.int, .int, (.object "java/util/function/BiFunction")], some .int⟩ := by decide +kernel
theorem pd_15 : parseMethodDescriptor "(II)V" = some ⟨[.int, .int], none⟩ := by decide +kernel
theorem pd_16 : parseMethodDescriptor "(I)C" = some ⟨[.int], some .char⟩ := by decide +kernel
theorem pd_17 : parseMethodDescriptor "([B)I" = some ⟨[(.array .byte)], some .int⟩ := by decide +kernel
theorem pd_18 : parseMethodDescriptor "(I[B)V" = some ⟨[.int, (.array .byte)], none⟩ := by decide +kernel
theorem pn_0 : plainName "com/example/held_scope/heldscope/jdbc/TransactionSqlReadAlikeByEitherSettingPinLaw" = true := by first | (simp [plainName, overriddenIn]; done) | decide +kernel
theorem pn_1 : plainName "java/lang/String" = true := by first | (simp [plainName, overriddenIn]; done) | decide +kernel
theorem pn_2 : plainName "com/example/held_scope/heldscope/jdbc/TransactionSql" = true := by first | (simp [plainName, overriddenIn]; done) | decide +kernel
theorem pn_3 : plainName "java/lang/StringUTF16" = true := by first | (simp [plainName, overriddenIn]; done) | decide +kernel
theorem pn_4 : plainName "jdk/internal/util/Preconditions" = true := by first | (simp [plainName, overriddenIn]; done) | decide +kernel
theorem pn_5 : plainName "java/lang/StringLatin1" = true := by first | (simp [plainName, overriddenIn]; done) | decide +kernel
theorem d_3_0 : decode method_3_code 0 = .ok (.iload_n 0, 1) := by decide +kernel
theorem d_3_1 : decode method_3_code 1 = .ok (.iconst 3, 1) := by decide +kernel
theorem d_3_2 : decode method_3_code 2 = .ok (.iand, 1) := by decide +kernel
theorem d_3_3 : decode method_3_code 3 = .ok (.istore_n 2, 1) := by decide +kernel
theorem d_3_4 : decode method_3_code 4 = .ok (.iload_n 2, 1) := by decide +kernel
theorem d_3_5 : decode method_3_code 5 = .ok (.ifCond .ne 6, 3) := by decide +kernel
theorem d_3_11 : decode method_3_code 11 = .ok (.iload_n 2, 1) := by decide +kernel
theorem d_3_12 : decode method_3_code 12 = .ok (.iconst 1, 1) := by decide +kernel
theorem d_3_13 : decode method_3_code 13 = .ok (.if_icmp .ne 6, 3) := by decide +kernel
theorem d_3_19 : decode method_3_code 19 = .ok (.iload_n 1, 1) := by decide +kernel
theorem d_3_20 : decode method_3_code 20 = .ok (.ldc 24, 2) := by decide +kernel
theorem d_3_22 : decode method_3_code 22 = .ok (.iand, 1) := by decide +kernel
theorem d_3_23 : decode method_3_code 23 = .ok (.i2c, 1) := by decide +kernel
theorem d_3_24 : decode method_3_code 24 = .ok (.ireturn, 1) := by decide +kernel
theorem d_3_16 : decode method_3_code 16 = .ok (.bipush 39, 2) := by decide +kernel
theorem d_3_18 : decode method_3_code 18 = .ok (.ireturn, 1) := by decide +kernel
theorem d_3_8 : decode method_3_code 8 = .ok (.bipush 92, 2) := by decide +kernel
theorem d_3_10 : decode method_3_code 10 = .ok (.ireturn, 1) := by decide +kernel
theorem d_j42_3_0 : decode jdk_42_method_3_code 0 = .ok (.aload_n 0, 1) := by decide +kernel
theorem d_j42_3_1 : decode jdk_42_method_3_code 1 = .ok (.aload_n 1, 1) := by decide +kernel
theorem d_j42_3_2 : decode jdk_42_method_3_code 2 = .ok (.iconst 0, 1) := by decide +kernel
theorem d_j42_3_3 : decode jdk_42_method_3_code 3 = .ok (.aload_n 1, 1) := by decide +kernel
theorem d_j42_3_4 : decode jdk_42_method_3_code 4 = .ok (.arraylength, 1) := by decide +kernel
theorem d_j42_3_5 : decode jdk_42_method_3_code 5 = .ok (.aconst_null, 1) := by decide +kernel
theorem d_j42_3_6 : decode jdk_42_method_3_code 6 = .ok (.invokespecial 27, 3) := by decide +kernel
theorem d_j42_149_0 : decode jdk_42_method_149_code 0 = .ok (.aload_n 0, 1) := by decide +kernel
theorem d_j42_149_1 : decode jdk_42_method_149_code 1 = .ok (.invokespecial 1, 3) := by decide +kernel
theorem d_j42_149_4 : decode jdk_42_method_149_code 4 = .ok (.iload_n 3, 1) := by decide +kernel
theorem d_j42_149_5 : decode jdk_42_method_149_code 5 = .ok (.ifCond .ne 22, 3) := by decide +kernel
theorem d_j42_149_8 : decode jdk_42_method_149_code 8 = .ok (.aload_n 0, 1) := by decide +kernel
theorem d_j42_149_9 : decode jdk_42_method_149_code 9 = .ok (.ldc 7, 2) := by decide +kernel
theorem d_j42_149_11 : decode jdk_42_method_149_code 11 = .ok (.getfield 9, 3) := by decide +kernel
theorem d_j42_149_14 : decode jdk_42_method_149_code 14 = .ok (.putfield 9, 3) := by decide +kernel
theorem d_j42_149_17 : decode jdk_42_method_149_code 17 = .ok (.aload_n 0, 1) := by decide +kernel
theorem d_j42_149_18 : decode jdk_42_method_149_code 18 = .ok (.ldc 7, 2) := by decide +kernel
theorem d_j42_149_20 : decode jdk_42_method_149_code 20 = .ok (.getfield 15, 3) := by decide +kernel
theorem d_j42_149_23 : decode jdk_42_method_149_code 23 = .ok (.putfield 15, 3) := by decide +kernel
theorem d_j42_149_26 : decode jdk_42_method_149_code 26 = .ok (.return_, 1) := by decide +kernel
theorem d_j42_3_9 : decode jdk_42_method_3_code 9 = .ok (.return_, 1) := by decide +kernel
theorem d_g52_4_0 : decode prog_52_method_4_code 0 = .ok (.iconst 1, 1) := by decide +kernel
theorem d_g52_4_1 : decode prog_52_method_4_code 1 = .ok (.istore_n 1, 1) := by decide +kernel
theorem d_g52_4_2 : decode prog_52_method_4_code 2 = .ok (.iconst 0, 1) := by decide +kernel
theorem d_g52_4_3 : decode prog_52_method_4_code 3 = .ok (.istore_n 2, 1) := by decide +kernel
theorem d_g52_4_4 : decode prog_52_method_4_code 4 = .ok (.iconst 0, 1) := by decide +kernel
theorem d_g52_4_5 : decode prog_52_method_4_code 5 = .ok (.istore_n 3, 1) := by decide +kernel
theorem d_g52_4_6 : decode prog_52_method_4_code 6 = .ok (.iload_n 1, 1) := by decide +kernel
theorem d_g52_4_7 : decode prog_52_method_4_code 7 = .ok (.ifCond .eq 58, 3) := by decide +kernel
theorem d_g52_4_10 : decode prog_52_method_4_code 10 = .ok (.iload_n 3, 1) := by decide +kernel
theorem d_g52_4_11 : decode prog_52_method_4_code 11 = .ok (.aload_n 0, 1) := by decide +kernel
theorem d_g52_4_12 : decode prog_52_method_4_code 12 = .ok (.invokevirtual 108, 3) := by decide +kernel
theorem d_j42_54_0 : decode jdk_42_method_54_code 0 = .ok (.aload_n 0, 1) := by decide +kernel
theorem d_j42_54_1 : decode jdk_42_method_54_code 1 = .ok (.getfield 9, 3) := by decide +kernel
theorem d_j42_54_4 : decode jdk_42_method_54_code 4 = .ok (.arraylength, 1) := by decide +kernel
theorem d_j42_54_5 : decode jdk_42_method_54_code 5 = .ok (.aload_n 0, 1) := by decide +kernel
theorem d_j42_54_6 : decode jdk_42_method_54_code 6 = .ok (.invokevirtual 335, 3) := by decide +kernel
theorem d_j42_152_0 : decode jdk_42_method_152_code 0 = .ok (.getstatic 38, 3) := by decide +kernel
theorem d_j42_152_3 : decode jdk_42_method_152_code 3 = .ok (.ifCond .eq 10, 3) := by decide +kernel
theorem d_j42_152_6 : decode jdk_42_method_152_code 6 = .ok (.aload_n 0, 1) := by decide +kernel
theorem d_j42_152_7 : decode jdk_42_method_152_code 7 = .ok (.getfield 15, 3) := by decide +kernel
theorem d_j42_152_10 : decode jdk_42_method_152_code 10 = .ok (.goto 4, 3) := by decide +kernel
theorem d_j42_152_14 : decode jdk_42_method_152_code 14 = .ok (.ireturn, 1) := by decide +kernel
theorem d_j42_54_9 : decode jdk_42_method_54_code 9 = .ok (.ishr, 1) := by decide +kernel
theorem d_j42_54_10 : decode jdk_42_method_54_code 10 = .ok (.ireturn, 1) := by decide +kernel
theorem d_g52_4_15 : decode prog_52_method_4_code 15 = .ok (.if_icmp .ge 50, 3) := by decide +kernel
theorem d_g52_4_65 : decode prog_52_method_4_code 65 = .ok (.iload_n 1, 1) := by decide +kernel
theorem d_g52_4_66 : decode prog_52_method_4_code 66 = .ok (.ireturn, 1) := by decide +kernel
theorem d_j42_149_27 : decode jdk_42_method_149_code 27 = .ok (.getstatic 38, 3) := by decide +kernel
theorem d_j42_149_30 : decode jdk_42_method_149_code 30 = .ok (.ifCond .eq 28, 3) := by decide +kernel
theorem d_j42_149_33 : decode jdk_42_method_149_code 33 = .ok (.aload_n 1, 1) := by decide +kernel
theorem d_j42_149_34 : decode jdk_42_method_149_code 34 = .ok (.iload_n 2, 1) := by decide +kernel
theorem d_j42_149_35 : decode jdk_42_method_149_code 35 = .ok (.iload_n 3, 1) := by decide +kernel
theorem d_j42_149_36 : decode jdk_42_method_149_code 36 = .ok (.invokestatic 177, 3) := by decide +kernel
theorem d_j52_16_0 : decode jdk_52_method_16_code 0 = .ok (.iload_n 2, 1) := by decide +kernel
theorem d_j52_16_1 : decode jdk_52_method_16_code 1 = .ok (.newarray .byte, 2) := by decide +kernel
theorem d_j52_16_3 : decode jdk_52_method_16_code 3 = .ok (.astore_n 3, 1) := by decide +kernel
theorem d_j52_16_4 : decode jdk_52_method_16_code 4 = .ok (.aload_n 0, 1) := by decide +kernel
theorem d_j52_16_5 : decode jdk_52_method_16_code 5 = .ok (.iload_n 1, 1) := by decide +kernel
theorem d_j52_16_6 : decode jdk_52_method_16_code 6 = .ok (.aload_n 3, 1) := by decide +kernel
theorem d_j52_16_7 : decode jdk_52_method_16_code 7 = .ok (.iconst 0, 1) := by decide +kernel
theorem d_j52_16_8 : decode jdk_52_method_16_code 8 = .ok (.iload_n 2, 1) := by decide +kernel
theorem d_j52_16_9 : decode jdk_52_method_16_code 9 = .ok (.invokestatic 115, 3) := by decide +kernel
theorem d_j52_21_0 : decode jdk_52_method_21_code 0 = .ok (.iconst 0, 1) := by decide +kernel
theorem d_j52_21_1 : decode jdk_52_method_21_code 1 = .ok (.istore 5, 2) := by decide +kernel
theorem d_j52_21_3 : decode jdk_52_method_21_code 3 = .ok (.iload 5, 2) := by decide +kernel
theorem d_j52_21_5 : decode jdk_52_method_21_code 5 = .ok (.iload 4, 2) := by decide +kernel
theorem d_j52_21_7 : decode jdk_52_method_21_code 7 = .ok (.if_icmp .ge 37, 3) := by decide +kernel
theorem d_j52_21_10 : decode jdk_52_method_21_code 10 = .ok (.aload_n 0, 1) := by decide +kernel
theorem d_j52_21_11 : decode jdk_52_method_21_code 11 = .ok (.iload_n 1, 1) := by decide +kernel
theorem d_j52_21_12 : decode jdk_52_method_21_code 12 = .ok (.caload, 1) := by decide +kernel
theorem d_j52_21_13 : decode jdk_52_method_21_code 13 = .ok (.istore 6, 2) := by decide +kernel
theorem d_j52_21_15 : decode jdk_52_method_21_code 15 = .ok (.iload 6, 2) := by decide +kernel
theorem d_j52_21_17 : decode jdk_52_method_21_code 17 = .ok (.sipush 255, 3) := by decide +kernel
theorem d_j52_21_20 : decode jdk_52_method_21_code 20 = .ok (.if_icmp .le 6, 3) := by decide +kernel
theorem d_j52_21_26 : decode jdk_52_method_21_code 26 = .ok (.aload_n 2, 1) := by decide +kernel
theorem d_j52_21_27 : decode jdk_52_method_21_code 27 = .ok (.iload_n 3, 1) := by decide +kernel
theorem d_j52_21_28 : decode jdk_52_method_21_code 28 = .ok (.iload 6, 2) := by decide +kernel
theorem d_j52_21_30 : decode jdk_52_method_21_code 30 = .ok (.i2b, 1) := by decide +kernel
theorem d_j52_21_31 : decode jdk_52_method_21_code 31 = .ok (.bastore, 1) := by decide +kernel
theorem d_j52_21_32 : decode jdk_52_method_21_code 32 = .ok (.iinc 1 1, 3) := by decide +kernel
theorem d_j52_21_35 : decode jdk_52_method_21_code 35 = .ok (.iinc 3 1, 3) := by decide +kernel
theorem d_j52_21_38 : decode jdk_52_method_21_code 38 = .ok (.iinc 5 1, 3) := by decide +kernel
theorem d_j52_21_41 : decode jdk_52_method_21_code 41 = .ok (.goto (-38), 3) := by decide +kernel
theorem d_j52_21_44 : decode jdk_52_method_21_code 44 = .ok (.iload 4, 2) := by decide +kernel
theorem d_j52_21_46 : decode jdk_52_method_21_code 46 = .ok (.ireturn, 1) := by decide +kernel
theorem d_j52_21_23 : decode jdk_52_method_21_code 23 = .ok (.iload 5, 2) := by decide +kernel
theorem d_j52_21_25 : decode jdk_52_method_21_code 25 = .ok (.ireturn, 1) := by decide +kernel
theorem d_j52_16_12 : decode jdk_52_method_16_code 12 = .ok (.istore 4, 2) := by decide +kernel
theorem d_j52_16_14 : decode jdk_52_method_16_code 14 = .ok (.iload 4, 2) := by decide +kernel
theorem d_j52_16_16 : decode jdk_52_method_16_code 16 = .ok (.iload_n 2, 1) := by decide +kernel
theorem d_j52_16_17 : decode jdk_52_method_16_code 17 = .ok (.if_icmp .eq 40, 3) := by decide +kernel
theorem d_j52_16_57 : decode jdk_52_method_16_code 57 = .ok (.aload_n 3, 1) := by decide +kernel
theorem d_j52_16_58 : decode jdk_52_method_16_code 58 = .ok (.areturn, 1) := by decide +kernel
theorem d_j52_16_20 : decode jdk_52_method_16_code 20 = .ok (.aload_n 0, 1) := by decide +kernel
theorem d_j52_16_21 : decode jdk_52_method_16_code 21 = .ok (.iload_n 1, 1) := by decide +kernel
theorem d_j52_16_22 : decode jdk_52_method_16_code 22 = .ok (.iload_n 2, 1) := by decide +kernel
theorem d_j52_16_23 : decode jdk_52_method_16_code 23 = .ok (.invokestatic 119, 3) := by decide +kernel
theorem d_j52_14_0 : decode jdk_52_method_14_code 0 = .ok (.iload_n 2, 1) := by decide +kernel
theorem d_j52_14_1 : decode jdk_52_method_14_code 1 = .ok (.invokestatic 107, 3) := by decide +kernel
theorem d_j52_2_0 : decode jdk_52_method_2_code 0 = .ok (.iload_n 0, 1) := by decide +kernel
theorem d_j52_2_1 : decode jdk_52_method_2_code 1 = .ok (.invokestatic 11, 3) := by decide +kernel
theorem d_j52_3_0 : decode jdk_52_method_3_code 0 = .ok (.iload_n 0, 1) := by decide +kernel
theorem d_j52_3_1 : decode jdk_52_method_3_code 1 = .ok (.ifCond .ge 11, 3) := by decide +kernel
theorem d_j52_3_12 : decode jdk_52_method_3_code 12 = .ok (.iload_n 0, 1) := by decide +kernel
theorem d_j52_3_13 : decode jdk_52_method_3_code 13 = .ok (.ldc 20, 2) := by decide +kernel
theorem d_j52_3_15 : decode jdk_52_method_3_code 15 = .ok (.if_icmp .lt 40, 3) := by decide +kernel
theorem d_j52_3_55 : decode jdk_52_method_3_code 55 = .ok (.iload_n 0, 1) := by decide +kernel
theorem d_j52_3_56 : decode jdk_52_method_3_code 56 = .ok (.iconst 1, 1) := by decide +kernel
theorem d_j52_3_57 : decode jdk_52_method_3_code 57 = .ok (.ishl, 1) := by decide +kernel
theorem d_j52_3_58 : decode jdk_52_method_3_code 58 = .ok (.ireturn, 1) := by decide +kernel
theorem d_j52_2_4 : decode jdk_52_method_2_code 4 = .ok (.newarray .byte, 2) := by decide +kernel
theorem d_j52_2_6 : decode jdk_52_method_2_code 6 = .ok (.areturn, 1) := by decide +kernel
theorem d_j52_14_4 : decode jdk_52_method_14_code 4 = .ok (.astore_n 3, 1) := by decide +kernel
theorem d_j52_14_5 : decode jdk_52_method_14_code 5 = .ok (.iconst 0, 1) := by decide +kernel
theorem d_j52_14_6 : decode jdk_52_method_14_code 6 = .ok (.istore 4, 2) := by decide +kernel
theorem d_j52_14_8 : decode jdk_52_method_14_code 8 = .ok (.iload 4, 2) := by decide +kernel
theorem d_j52_14_10 : decode jdk_52_method_14_code 10 = .ok (.iload_n 2, 1) := by decide +kernel
theorem d_j52_14_11 : decode jdk_52_method_14_code 11 = .ok (.if_icmp .ge 21, 3) := by decide +kernel
theorem d_j52_14_14 : decode jdk_52_method_14_code 14 = .ok (.aload_n 3, 1) := by decide +kernel
theorem d_j52_14_15 : decode jdk_52_method_14_code 15 = .ok (.iload 4, 2) := by decide +kernel
theorem d_j52_14_17 : decode jdk_52_method_14_code 17 = .ok (.aload_n 0, 1) := by decide +kernel
theorem d_j52_14_18 : decode jdk_52_method_14_code 18 = .ok (.iload_n 1, 1) := by decide +kernel
theorem d_j52_14_19 : decode jdk_52_method_14_code 19 = .ok (.caload, 1) := by decide +kernel
theorem d_j52_14_20 : decode jdk_52_method_14_code 20 = .ok (.invokestatic 111, 3) := by decide +kernel
theorem d_j52_4_0 : decode jdk_52_method_4_code 0 = .ok (.getstatic 44, 3) := by decide +kernel
theorem d_j52_4_3 : decode jdk_52_method_4_code 3 = .ok (.ifCond .ne 25, 3) := by decide +kernel
theorem d_j52_4_28 : decode jdk_52_method_4_code 28 = .ok (.iload_n 1, 1) := by decide +kernel
theorem d_j52_4_29 : decode jdk_52_method_4_code 29 = .ok (.iconst 1, 1) := by decide +kernel
theorem d_j52_4_30 : decode jdk_52_method_4_code 30 = .ok (.ishl, 1) := by decide +kernel
theorem d_j52_4_31 : decode jdk_52_method_4_code 31 = .ok (.istore_n 1, 1) := by decide +kernel
theorem d_j52_4_32 : decode jdk_52_method_4_code 32 = .ok (.aload_n 0, 1) := by decide +kernel
theorem d_j52_4_33 : decode jdk_52_method_4_code 33 = .ok (.iload_n 1, 1) := by decide +kernel
theorem d_j52_4_34 : decode jdk_52_method_4_code 34 = .ok (.iinc 1 1, 3) := by decide +kernel
theorem d_j52_4_37 : decode jdk_52_method_4_code 37 = .ok (.iload_n 2, 1) := by decide +kernel
theorem d_j52_4_38 : decode jdk_52_method_4_code 38 = .ok (.getstatic 59, 3) := by decide +kernel
theorem d_j52_4_41 : decode jdk_52_method_4_code 41 = .ok (.ishr, 1) := by decide +kernel
theorem d_j52_4_42 : decode jdk_52_method_4_code 42 = .ok (.i2b, 1) := by decide +kernel
theorem d_j52_4_43 : decode jdk_52_method_4_code 43 = .ok (.bastore, 1) := by decide +kernel
theorem d_j52_4_44 : decode jdk_52_method_4_code 44 = .ok (.aload_n 0, 1) := by decide +kernel
theorem d_j52_4_45 : decode jdk_52_method_4_code 45 = .ok (.iload_n 1, 1) := by decide +kernel
theorem d_j52_4_46 : decode jdk_52_method_4_code 46 = .ok (.iload_n 2, 1) := by decide +kernel
theorem d_j52_4_47 : decode jdk_52_method_4_code 47 = .ok (.getstatic 63, 3) := by decide +kernel
theorem d_j52_4_50 : decode jdk_52_method_4_code 50 = .ok (.ishr, 1) := by decide +kernel
theorem d_j52_4_51 : decode jdk_52_method_4_code 51 = .ok (.i2b, 1) := by decide +kernel
theorem d_j52_4_52 : decode jdk_52_method_4_code 52 = .ok (.bastore, 1) := by decide +kernel
theorem d_j52_4_53 : decode jdk_52_method_4_code 53 = .ok (.return_, 1) := by decide +kernel
theorem d_j52_14_23 : decode jdk_52_method_14_code 23 = .ok (.iinc 1 1, 3) := by decide +kernel
theorem d_j52_14_26 : decode jdk_52_method_14_code 26 = .ok (.iinc 4 1, 3) := by decide +kernel
theorem d_j52_14_29 : decode jdk_52_method_14_code 29 = .ok (.goto (-21), 3) := by decide +kernel
theorem d_j52_14_32 : decode jdk_52_method_14_code 32 = .ok (.aload_n 3, 1) := by decide +kernel
theorem d_j52_14_33 : decode jdk_52_method_14_code 33 = .ok (.areturn, 1) := by decide +kernel
theorem d_j52_16_26 : decode jdk_52_method_16_code 26 = .ok (.astore 5, 2) := by decide +kernel
theorem d_j52_16_28 : decode jdk_52_method_16_code 28 = .ok (.aload 5, 2) := by decide +kernel
theorem d_j52_16_30 : decode jdk_52_method_16_code 30 = .ok (.iload 4, 2) := by decide +kernel
theorem d_j52_16_32 : decode jdk_52_method_16_code 32 = .ok (.invokestatic 71, 3) := by decide +kernel
theorem d_j52_5_0 : decode jdk_52_method_5_code 0 = .ok (.getstatic 44, 3) := by decide +kernel
theorem d_j52_5_3 : decode jdk_52_method_5_code 3 = .ok (.ifCond .ne 25, 3) := by decide +kernel
theorem d_j52_5_28 : decode jdk_52_method_5_code 28 = .ok (.iload_n 1, 1) := by decide +kernel
theorem d_j52_5_29 : decode jdk_52_method_5_code 29 = .ok (.iconst 1, 1) := by decide +kernel
theorem d_j52_5_30 : decode jdk_52_method_5_code 30 = .ok (.ishl, 1) := by decide +kernel
theorem d_j52_5_31 : decode jdk_52_method_5_code 31 = .ok (.istore_n 1, 1) := by decide +kernel
theorem d_j52_5_32 : decode jdk_52_method_5_code 32 = .ok (.aload_n 0, 1) := by decide +kernel
theorem d_j52_5_33 : decode jdk_52_method_5_code 33 = .ok (.iload_n 1, 1) := by decide +kernel
theorem d_j52_5_34 : decode jdk_52_method_5_code 34 = .ok (.iinc 1 1, 3) := by decide +kernel
theorem d_j52_5_37 : decode jdk_52_method_5_code 37 = .ok (.baload, 1) := by decide +kernel
theorem d_j52_5_38 : decode jdk_52_method_5_code 38 = .ok (.sipush 255, 3) := by decide +kernel
theorem d_j52_5_41 : decode jdk_52_method_5_code 41 = .ok (.iand, 1) := by decide +kernel
theorem d_j52_5_42 : decode jdk_52_method_5_code 42 = .ok (.getstatic 59, 3) := by decide +kernel
theorem d_j52_5_45 : decode jdk_52_method_5_code 45 = .ok (.ishl, 1) := by decide +kernel
theorem d_j52_5_46 : decode jdk_52_method_5_code 46 = .ok (.aload_n 0, 1) := by decide +kernel
theorem d_j52_5_47 : decode jdk_52_method_5_code 47 = .ok (.iload_n 1, 1) := by decide +kernel
theorem d_j52_5_48 : decode jdk_52_method_5_code 48 = .ok (.baload, 1) := by decide +kernel
theorem d_j52_5_49 : decode jdk_52_method_5_code 49 = .ok (.sipush 255, 3) := by decide +kernel
theorem d_j52_5_52 : decode jdk_52_method_5_code 52 = .ok (.iand, 1) := by decide +kernel
theorem d_j52_5_53 : decode jdk_52_method_5_code 53 = .ok (.getstatic 63, 3) := by decide +kernel
theorem d_j52_5_56 : decode jdk_52_method_5_code 56 = .ok (.ishl, 1) := by decide +kernel
theorem d_j52_5_57 : decode jdk_52_method_5_code 57 = .ok (.ior, 1) := by decide +kernel
theorem d_j52_5_58 : decode jdk_52_method_5_code 58 = .ok (.i2c, 1) := by decide +kernel
theorem d_j52_5_59 : decode jdk_52_method_5_code 59 = .ok (.ireturn, 1) := by decide +kernel
theorem d_j52_16_35 : decode jdk_52_method_16_code 35 = .ok (.sipush 255, 3) := by decide +kernel
theorem d_j52_16_38 : decode jdk_52_method_16_code 38 = .ok (.if_icmp .gt 16, 3) := by decide +kernel
theorem d_j52_16_54 : decode jdk_52_method_16_code 54 = .ok (.aload 5, 2) := by decide +kernel
theorem d_j52_16_56 : decode jdk_52_method_16_code 56 = .ok (.areturn, 1) := by decide +kernel
theorem d_j42_149_39 : decode jdk_42_method_149_code 39 = .ok (.astore 5, 2) := by decide +kernel
theorem d_j42_149_41 : decode jdk_42_method_149_code 41 = .ok (.aload_n 0, 1) := by decide +kernel
theorem d_j42_149_42 : decode jdk_42_method_149_code 42 = .ok (.aload 5, 2) := by decide +kernel
theorem d_j42_149_44 : decode jdk_42_method_149_code 44 = .ok (.iload_n 3, 1) := by decide +kernel
theorem d_j42_149_45 : decode jdk_42_method_149_code 45 = .ok (.invokestatic 47, 3) := by decide +kernel
theorem d_j52_15_0 : decode jdk_52_method_15_code 0 = .ok (.iload_n 1, 1) := by decide +kernel
theorem d_j52_15_1 : decode jdk_52_method_15_code 1 = .ok (.aload_n 0, 1) := by decide +kernel
theorem d_j52_15_2 : decode jdk_52_method_15_code 2 = .ok (.arraylength, 1) := by decide +kernel
theorem d_j52_15_3 : decode jdk_52_method_15_code 3 = .ok (.isub, 1) := by decide +kernel
theorem d_j52_15_4 : decode jdk_52_method_15_code 4 = .ok (.bipush 31, 2) := by decide +kernel
theorem d_j52_15_6 : decode jdk_52_method_15_code 6 = .ok (.iushr, 1) := by decide +kernel
theorem d_j52_15_7 : decode jdk_52_method_15_code 7 = .ok (.i2b, 1) := by decide +kernel
theorem d_j52_15_8 : decode jdk_52_method_15_code 8 = .ok (.ireturn, 1) := by decide +kernel
theorem d_j42_149_48 : decode jdk_42_method_149_code 48 = .ok (.putfield 15, 3) := by decide +kernel
theorem d_j42_149_51 : decode jdk_42_method_149_code 51 = .ok (.aload_n 0, 1) := by decide +kernel
theorem d_j42_149_52 : decode jdk_42_method_149_code 52 = .ok (.aload 5, 2) := by decide +kernel
theorem d_j42_149_54 : decode jdk_42_method_149_code 54 = .ok (.putfield 9, 3) := by decide +kernel
theorem d_j42_149_57 : decode jdk_42_method_149_code 57 = .ok (.return_, 1) := by decide +kernel
theorem d_g52_4_18 : decode prog_52_method_4_code 18 = .ok (.aload_n 0, 1) := by decide +kernel
theorem d_g52_4_19 : decode prog_52_method_4_code 19 = .ok (.iload_n 3, 1) := by decide +kernel
theorem d_g52_4_20 : decode prog_52_method_4_code 20 = .ok (.invokevirtual 112, 3) := by decide +kernel
theorem d_j42_56_0 : decode jdk_42_method_56_code 0 = .ok (.aload_n 0, 1) := by decide +kernel
theorem d_j42_56_1 : decode jdk_42_method_56_code 1 = .ok (.invokevirtual 492, 3) := by decide +kernel
theorem d_j42_154_0 : decode jdk_42_method_154_code 0 = .ok (.getstatic 38, 3) := by decide +kernel
theorem d_j42_154_3 : decode jdk_42_method_154_code 3 = .ok (.ifCond .eq 14, 3) := by decide +kernel
theorem d_j42_154_6 : decode jdk_42_method_154_code 6 = .ok (.aload_n 0, 1) := by decide +kernel
theorem d_j42_154_7 : decode jdk_42_method_154_code 7 = .ok (.getfield 15, 3) := by decide +kernel
theorem d_j42_154_10 : decode jdk_42_method_154_code 10 = .ok (.ifCond .ne 7, 3) := by decide +kernel
theorem d_j42_154_13 : decode jdk_42_method_154_code 13 = .ok (.iconst 1, 1) := by decide +kernel
theorem d_j42_154_14 : decode jdk_42_method_154_code 14 = .ok (.goto 4, 3) := by decide +kernel
theorem d_j42_154_18 : decode jdk_42_method_154_code 18 = .ok (.ireturn, 1) := by decide +kernel
theorem d_j42_56_4 : decode jdk_42_method_56_code 4 = .ok (.ifCond .eq 12, 3) := by decide +kernel
theorem d_j42_56_7 : decode jdk_42_method_56_code 7 = .ok (.aload_n 0, 1) := by decide +kernel
theorem d_j42_56_8 : decode jdk_42_method_56_code 8 = .ok (.getfield 9, 3) := by decide +kernel
theorem d_j42_56_11 : decode jdk_42_method_56_code 11 = .ok (.iload_n 1, 1) := by decide +kernel
theorem d_j42_56_12 : decode jdk_42_method_56_code 12 = .ok (.invokestatic 495, 3) := by decide +kernel
theorem d_j43_2_0 : decode jdk_43_method_2_code 0 = .ok (.iload_n 1, 1) := by decide +kernel
theorem d_j43_2_1 : decode jdk_43_method_2_code 1 = .ok (.aload_n 0, 1) := by decide +kernel
theorem d_j43_2_2 : decode jdk_43_method_2_code 2 = .ok (.arraylength, 1) := by decide +kernel
theorem d_j43_2_3 : decode jdk_43_method_2_code 3 = .ok (.invokestatic 9, 3) := by decide +kernel
theorem d_j42_155_0 : decode jdk_42_method_155_code 0 = .ok (.iload_n 0, 1) := by decide +kernel
theorem d_j42_155_1 : decode jdk_42_method_155_code 1 = .ok (.iload_n 1, 1) := by decide +kernel
theorem d_j42_155_2 : decode jdk_42_method_155_code 2 = .ok (.getstatic 1053, 3) := by decide +kernel
theorem d_j42_155_5 : decode jdk_42_method_155_code 5 = .ok (.invokestatic 1059, 3) := by decide +kernel
theorem d_j41_11_0 : decode jdk_41_method_11_code 0 = .ok (.iload_n 0, 1) := by decide +kernel
theorem d_j41_11_1 : decode jdk_41_method_11_code 1 = .ok (.ifCond .lt 8, 3) := by decide +kernel
theorem d_j41_11_4 : decode jdk_41_method_11_code 4 = .ok (.iload_n 0, 1) := by decide +kernel
theorem d_j41_11_5 : decode jdk_41_method_11_code 5 = .ok (.iload_n 1, 1) := by decide +kernel
theorem d_j41_11_6 : decode jdk_41_method_11_code 6 = .ok (.if_icmp .lt 10, 3) := by decide +kernel
theorem d_j41_11_16 : decode jdk_41_method_11_code 16 = .ok (.iload_n 0, 1) := by decide +kernel
theorem d_j41_11_17 : decode jdk_41_method_11_code 17 = .ok (.ireturn, 1) := by decide +kernel
theorem d_j42_155_8 : decode jdk_42_method_155_code 8 = .ok (.pop, 1) := by decide +kernel
theorem d_j42_155_9 : decode jdk_42_method_155_code 9 = .ok (.return_, 1) := by decide +kernel
theorem d_j43_2_6 : decode jdk_43_method_2_code 6 = .ok (.aload_n 0, 1) := by decide +kernel
theorem d_j43_2_7 : decode jdk_43_method_2_code 7 = .ok (.iload_n 1, 1) := by decide +kernel
theorem d_j43_2_8 : decode jdk_43_method_2_code 8 = .ok (.baload, 1) := by decide +kernel
theorem d_j43_2_9 : decode jdk_43_method_2_code 9 = .ok (.sipush 255, 3) := by decide +kernel
theorem d_j43_2_12 : decode jdk_43_method_2_code 12 = .ok (.iand, 1) := by decide +kernel
theorem d_j43_2_13 : decode jdk_43_method_2_code 13 = .ok (.i2c, 1) := by decide +kernel
theorem d_j43_2_14 : decode jdk_43_method_2_code 14 = .ok (.ireturn, 1) := by decide +kernel
theorem d_j42_56_15 : decode jdk_42_method_56_code 15 = .ok (.ireturn, 1) := by decide +kernel
theorem d_g52_4_23 : decode prog_52_method_4_code 23 = .ok (.istore 4, 2) := by decide +kernel
theorem d_g52_4_25 : decode prog_52_method_4_code 25 = .ok (.iload 4, 2) := by decide +kernel
theorem d_g52_4_27 : decode prog_52_method_4_code 27 = .ok (.bipush 39, 2) := by decide +kernel
theorem d_g52_4_29 : decode prog_52_method_4_code 29 = .ok (.if_icmp .ne 9, 3) := by decide +kernel
theorem d_g52_4_38 : decode prog_52_method_4_code 38 = .ok (.iconst 1, 1) := by decide +kernel
theorem d_g52_4_39 : decode prog_52_method_4_code 39 = .ok (.goto 4, 3) := by decide +kernel
theorem d_g52_4_32 : decode prog_52_method_4_code 32 = .ok (.iload_n 2, 1) := by decide +kernel
theorem d_g52_4_33 : decode prog_52_method_4_code 33 = .ok (.iconst 2, 1) := by decide +kernel
theorem d_g52_4_34 : decode prog_52_method_4_code 34 = .ok (.irem, 1) := by decide +kernel
theorem d_g52_4_35 : decode prog_52_method_4_code 35 = .ok (.ifCond .ne 7, 3) := by decide +kernel
theorem d_g52_4_43 : decode prog_52_method_4_code 43 = .ok (.istore_n 1, 1) := by decide +kernel
theorem d_g52_4_44 : decode prog_52_method_4_code 44 = .ok (.iload 4, 2) := by decide +kernel
theorem d_g52_4_46 : decode prog_52_method_4_code 46 = .ok (.bipush 92, 2) := by decide +kernel
theorem d_g52_4_48 : decode prog_52_method_4_code 48 = .ok (.if_icmp .ne 9, 3) := by decide +kernel
theorem d_g52_4_57 : decode prog_52_method_4_code 57 = .ok (.iconst 0, 1) := by decide +kernel
theorem d_g52_4_51 : decode prog_52_method_4_code 51 = .ok (.iload_n 2, 1) := by decide +kernel
theorem d_g52_4_52 : decode prog_52_method_4_code 52 = .ok (.iconst 1, 1) := by decide +kernel
theorem d_g52_4_53 : decode prog_52_method_4_code 53 = .ok (.iadd, 1) := by decide +kernel
theorem d_g52_4_54 : decode prog_52_method_4_code 54 = .ok (.goto 4, 3) := by decide +kernel
theorem d_g52_4_58 : decode prog_52_method_4_code 58 = .ok (.istore_n 2, 1) := by decide +kernel
theorem d_g52_4_59 : decode prog_52_method_4_code 59 = .ok (.iinc 3 1, 3) := by decide +kernel
theorem d_g52_4_62 : decode prog_52_method_4_code 62 = .ok (.goto (-56), 3) := by decide +kernel
theorem d_j42_154_17 : decode jdk_42_method_154_code 17 = .ok (.iconst 0, 1) := by decide +kernel
theorem d_j42_56_16 : decode jdk_42_method_56_code 16 = .ok (.aload_n 0, 1) := by decide +kernel
theorem d_j42_56_17 : decode jdk_42_method_56_code 17 = .ok (.getfield 9, 3) := by decide +kernel
theorem d_j42_56_20 : decode jdk_42_method_56_code 20 = .ok (.iload_n 1, 1) := by decide +kernel
theorem d_j42_56_21 : decode jdk_42_method_56_code 21 = .ok (.invokestatic 498, 3) := by decide +kernel
theorem d_j52_83_0 : decode jdk_52_method_83_code 0 = .ok (.iload_n 1, 1) := by decide +kernel
theorem d_j52_83_1 : decode jdk_52_method_83_code 1 = .ok (.aload_n 0, 1) := by decide +kernel
theorem d_j52_83_2 : decode jdk_52_method_83_code 2 = .ok (.invokestatic 67, 3) := by decide +kernel
theorem d_j52_91_0 : decode jdk_52_method_91_code 0 = .ok (.iload_n 0, 1) := by decide +kernel
theorem d_j52_91_1 : decode jdk_52_method_91_code 1 = .ok (.aload_n 1, 1) := by decide +kernel
theorem d_j52_91_2 : decode jdk_52_method_91_code 2 = .ok (.invokestatic 48, 3) := by decide +kernel
theorem d_j52_6_0 : decode jdk_52_method_6_code 0 = .ok (.aload_n 0, 1) := by decide +kernel
theorem d_j52_6_1 : decode jdk_52_method_6_code 1 = .ok (.arraylength, 1) := by decide +kernel
theorem d_j52_6_2 : decode jdk_52_method_6_code 2 = .ok (.iconst 1, 1) := by decide +kernel
theorem d_j52_6_3 : decode jdk_52_method_6_code 3 = .ok (.ishr, 1) := by decide +kernel
theorem d_j52_6_4 : decode jdk_52_method_6_code 4 = .ok (.ireturn, 1) := by decide +kernel
theorem d_j52_91_5 : decode jdk_52_method_91_code 5 = .ok (.invokestatic 414, 3) := by decide +kernel
theorem d_j52_91_8 : decode jdk_52_method_91_code 8 = .ok (.return_, 1) := by decide +kernel
theorem d_j52_83_5 : decode jdk_52_method_83_code 5 = .ok (.aload_n 0, 1) := by decide +kernel
theorem d_j52_83_6 : decode jdk_52_method_83_code 6 = .ok (.iload_n 1, 1) := by decide +kernel
theorem d_j52_83_7 : decode jdk_52_method_83_code 7 = .ok (.invokestatic 71, 3) := by decide +kernel
theorem d_j52_83_10 : decode jdk_52_method_83_code 10 = .ok (.ireturn, 1) := by decide +kernel
theorem d_j42_56_24 : decode jdk_42_method_56_code 24 = .ok (.ireturn, 1) := by decide +kernel
theorem d_g52_4_42 : decode prog_52_method_4_code 42 = .ok (.iconst 0, 1) := by decide +kernel
abbrev mn0 : MethodName := ⟨"com/example/held_scope/heldscope/jdbc/TransactionSqlReadAlikeByEitherSettingPinLaw", "pick", "(II)C"⟩
abbrev mn1 : MethodName := ⟨"java/lang/String", "<init>", "([CIILjava/lang/Void;)V"⟩
abbrev mn2 : MethodName := ⟨"java/lang/String", "<init>", "([C)V"⟩
abbrev mn3 : MethodName := ⟨"java/lang/String", "coder", "()B"⟩
abbrev mn4 : MethodName := ⟨"java/lang/String", "length", "()I"⟩
abbrev mn5 : MethodName := ⟨"com/example/held_scope/heldscope/jdbc/TransactionSql", "readAlikeByEitherSetting", "(Ljava/lang/String;)Z"⟩
abbrev mn6 : MethodName := ⟨"java/lang/StringUTF16", "compress", "([CI[BII)I"⟩
abbrev mn7 : MethodName := ⟨"java/lang/StringUTF16", "newBytesLength", "(I)I"⟩
abbrev mn8 : MethodName := ⟨"java/lang/StringUTF16", "newBytesFor", "(I)[B"⟩
abbrev mn9 : MethodName := ⟨"java/lang/StringUTF16", "putChar", "([BII)V"⟩
abbrev mn10 : MethodName := ⟨"java/lang/StringUTF16", "toBytes", "([CII)[B"⟩
abbrev mn11 : MethodName := ⟨"java/lang/StringUTF16", "getChar", "([BI)C"⟩
abbrev mn12 : MethodName := ⟨"java/lang/StringUTF16", "compress", "([CII)[B"⟩
abbrev mn13 : MethodName := ⟨"java/lang/StringUTF16", "coderFromArrayLen", "([BI)B"⟩
abbrev mn14 : MethodName := ⟨"java/lang/String", "isLatin1", "()Z"⟩
abbrev mn15 : MethodName := ⟨"jdk/internal/util/Preconditions", "checkIndex", "(IILjava/util/function/BiFunction;)I"⟩
abbrev mn16 : MethodName := ⟨"java/lang/String", "checkIndex", "(II)V"⟩
abbrev mn17 : MethodName := ⟨"java/lang/StringLatin1", "charAt", "([BI)C"⟩
abbrev mn18 : MethodName := ⟨"java/lang/String", "charAt", "(I)C"⟩
abbrev mn19 : MethodName := ⟨"java/lang/StringUTF16", "length", "([B)I"⟩
abbrev mn20 : MethodName := ⟨"java/lang/StringUTF16", "checkIndex", "(I[B)V"⟩
abbrev mn21 : MethodName := ⟨"java/lang/StringUTF16", "charAt", "([BI)C"⟩
def fn_pick_1 (i1 : Int32) (i2 : Int32) : Int32 := (if (i1 &&& (3 : Int32)) = (0 : Int32) then (92 : Int32) else (if (i1 &&& (3 : Int32)) = (1 : Int32) then (39 : Int32) else (i2 &&& (65535 : Int32))))
def Q_pick_1 (Z : State) (i1 : Int32) (i2 : Int32) (h0 : Heap) (v : Option Value) (h : Heap) : Prop := ∃ z : Int32, v = some (.int z) ∧ h0 = h ∧ (fn_pick_1 i1 i2) = z ∧ (0 ≤ z.toInt ∧ z.toInt ≤ 65535)
def R_pick_1 : Room := { frames := 0, cells := 0, slots := 0, locals := 0 }
theorem rm_pick_1 {w : Bool} {Z : State} {a0 : Array Value} (hw : HW a0 Z) (Ts : List String) (i1 : Int32) (i2 : Int32) (h0 : Heap) (f : Nat) (Zf : Z.heap.size ≤ f) (Z0 : f ≤ h0.size) :
  Con w [] Z mn0 method_3_code 3 (some .char) R_pick_1 Ts Ts f #[.int i1, .int i2] h0 (Q_pick_1 Z i1 i2 h0) := by
 refine con_of f #[vI i1, vI i2, .unset] (plainFor_of_name pn_0) (fun m => rfl) Zf ?_
 intro C H hX0
 refine r_iloadN H 1 d_3_0 ?_
 refine r_iconst H 2 3 d_3_1 ?_
 obtain ⟨p1, ep1, rp1⟩ : ∃ p : Int32, (i1 &&& (3 : Int32)) = p ∧ 0 ≤ p.toInt ∧ p.toInt ≤ 3 := ⟨_, rfl, (by have h := c_and i1 (3 : Int32) (by decide); have : (3 : Int32).toInt = 3 := (by decide); omega)⟩
 refine r_iand H 3 p1 d_3_2 ep1 ?_
 refine r_istoreN H 4 #[vI i1, vI i2, vI p1] d_3_3 ?_
 refine r_iloadN H 5 d_3_4 ?_
 refine r_ifne H 11 8 d_3_5 (fun c2 => ?_) (fun c2 => ?_)
 ·
  refine r_iloadN H 12 d_3_11 ?_
  refine r_iconst H 13 1 d_3_12 ?_
  refine r_icmpne H 19 16 d_3_13 (fun c4 => ?_) (fun c4 => ?_)
  ·
   refine r_iloadN H 20 d_3_19 ?_
   refine r_ldcI H 22 d_3_20 (tw73 hw) ?_
   obtain ⟨p6, ep6, rp6⟩ : ∃ p : Int32, (i2 &&& (65535 : Int32)) = p ∧ 0 ≤ p.toInt ∧ p.toInt ≤ 65535 := ⟨_, rfl, (by have h := c_and i2 (65535 : Int32) (by decide); have : (65535 : Int32).toInt = 65535 := (by decide); omega)⟩
   refine r_iand H 23 p6 d_3_22 ep6 ?_
   refine r_i2c H 24 p6 d_3_23 (i2c_id (by have := rp6; omega)) ?_
   subst ep1 ep6
   exact r_nreturn (i2 &&& (65535 : Int32)) H d_3_24 (nar_char_id (by have := rp6; omega)) (⟨_, rfl, rfl, (by unfold fn_pick_1; rw [if_neg c2, if_neg c4]), (by have := rp6; omega)⟩)
  ·
   refine r_bipush H 18 39 d_3_16 ?_
   subst ep1
   exact r_nreturn (39 : Int32) H d_3_18 (by decide) (⟨_, rfl, rfl, (by unfold fn_pick_1; rw [if_neg c2, if_pos c4]), (by decide)⟩)
 ·
  refine r_bipush H 10 92 d_3_8 ?_
  subst ep1
  exact r_nreturn (92 : Int32) H d_3_10 (by decide) (⟨_, rfl, rfl, (by unfold fn_pick_1; rw [if_pos c2]), (by decide)⟩)
def Q_init_3 (Z : State) (a1 : Addr) (h0 : Heap) (v : Option Value) (h : Heap) : Prop := ∃ (lv1 : Addr) (kl1 : ClassId), v = none ∧ Keep h0 h [a1] ∧ Exa Z h a1 "java/lang/String" ∧ Fld Z h a1 "java/lang/String" "coder" "B" (.int 0) ∧ Fld Z h a1 "java/lang/String" "value" "[B" (.ref lv1) ∧ Ar Z h lv1 kl1 .byte []
def R_init_3 : Room := { frames := 1, cells := 2, slots := 4, locals := 12 }
theorem rm_init_3 {Z : State} {a0 : Array Value} (hw : HW a0 Z) (Ts : List String) (a1 : Addr) (a2 : Addr) (h0 : Heap) (f : Nat) (Zf : Z.heap.size ≤ f) (Z0 : f ≤ h0.size) (E_a1 : Exa Z h0 a1 "java/lang/String") (F_value_a1 : Fld Z h0 a1 "java/lang/String" "value" "[B" .null) (g_a1 : f ≤ a1) (F_coder_a1 : Fld Z h0 a1 "java/lang/String" "coder" "B" (.int 0)) (wS : G_wS Z a0) (hcw : G_hcw Z a0) (hh0 : G_hh0 Z) (hT_empty : "" ∉ Ts) :
  Con true [] Z mn1 jdk_42_method_149_code 6 none R_init_3 Ts ("" :: Ts) f #[.ref a1, .ref a2, .int 0, .int 0, .null] h0 (Q_init_3 Z a1 h0) := by
 refine con_of h0.size #[vR a1, vR a2, vI 0, vI 0, .val .null, .unset] (plainFor_of_name pn_1) (fun m => rfl) (nlt Zf Z0) ?_
 intro C H hX0
 refine r_aloadN H 1 d_j42_149_0 ?_
 refine r_initO (W := 0) H 4 d_j42_149_1 (tw15 hw) (tw16 hw) (tw17 hw) ?_
 refine r_iloadN H 5 d_j42_149_4 ?_
 refine r_ifneF H 8 d_j42_149_5 rfl (by decide) ?_
 refine r_aloadN H 9 d_j42_149_8 ?_
 refine r_ldcS (vs := []) (z := (0 : Int32)) H 11 0 d_j42_149_9 (tw18 hw) wS hT_empty hh0 hcw ⟨by decide, by decide⟩ ?_
 intro h1 la1 lv1 kl1 K1 E1 C1 V1 A1 D1
 refine r_getf H 14 d_j42_149_11 (tw24 hw) V1 ?_
 have q2 := (E_a1.keep K1)
 have q3 := (F_value_a1.keep K1 nin0)
 refine Run.low Z0 Zf ?_
 refine r_putf (ty := (.array .byte)) H 17 d_j42_149_14 (tw24 hw) q3 q2 (Or.inr ⟨(tw20 hw), rfl, rfl⟩) (tw6 hw) g_a1 ?_
 intro h4 W4 K4 E4 F4
 refine r_aloadN H 18 d_j42_149_17 ?_
 refine r_ldcA H 20 d_j42_149_18 (tw18 hw) (List.mem_singleton.mpr rfl) ?_
 have q5 := (C1.other W4 (Or.inr (slot_ne (Or.inr (tw21 hw)) (Or.inr (tw20 hw)) (by decide) (t := .byte) (t' := (.array .byte)) (by decide) (by decide))))
 refine r_getf H 23 d_j42_149_20 (tw25 hw) q5 ?_
 have q6 := ((F_coder_a1.keep K1 nin0).other W4 (Or.inr (slot_ne (Or.inr (tw21 hw)) (Or.inr (tw20 hw)) (by decide) (t := .byte) (t' := (.array .byte)) (by decide) (by decide))))
 refine r_putn (v' := (.int 0)) (ty := .byte) H 26 d_j42_149_23 (tw25 hw) q6 E4 (Or.inr ⟨(tw21 hw), rfl, rfl⟩) (tw6 hw) g_a1 ?_
 intro h7 W7 K7 E7 F7
 have k8 : Keep h0 h1 [a1] := Keep.trans (Keep.refl h0 [a1]) K1 all0
 have k9 : Keep h0 h4 [a1] := Keep.trans k8 K4 (allS (Or.inl (List.mem_of_getElem? (i := 0) rfl)) all0)
 have k10 : Keep h0 h7 [a1] := Keep.trans k9 K7 (allS (Or.inl (List.mem_of_getElem? (i := 0) rfl)) all0)
 have q11 := (F4.other W7 (Or.inr (slot_ne (Or.inr (tw20 hw)) (Or.inr (tw21 hw)) (by decide) (t := (.array .byte)) (t' := .byte) (by decide) (by decide))))
 have q12 := ((A1.keep K4 (ninS (Ne.symm (ne_ar (E_a1.keep K1) (tw6 hw) A1)) nin0)).keep K7 (ninS (Ne.symm (ne_ar (E_a1.keep K1) (tw6 hw) A1)) nin0))
 exact r_return H d_j42_149_26 (⟨lv1, kl1, rfl, k10, E7, F7, q11, q12⟩)
def Q_init_2 (Z : State) (a1 : Addr) (h0 : Heap) (v : Option Value) (h : Heap) : Prop := ∃ (b1 : Addr) (kc2 : ClassId), v = none ∧ Keep h0 h [a1] ∧ Exa Z h a1 "java/lang/String" ∧ Fld Z h a1 "java/lang/String" "coder" "B" (.int 0) ∧ Fld Z h a1 "java/lang/String" "value" "[B" (.ref b1) ∧ Ar Z h b1 kc2 .byte []
def R_init_2 : Room := { frames := 2, cells := 2, slots := 4, locals := 29 }
theorem rm_init_2 {Z : State} {a0 : Array Value} (hw : HW a0 Z) (Ts : List String) (a1 : Addr) (a2 : Addr) (c1 : ClassId) (h0 : Heap) (f : Nat) (Zf : Z.heap.size ≤ f) (Z0 : f ≤ h0.size) (A_a2 : Ar Z h0 a2 c1 .char []) (g_a1 : f ≤ a1) (E_a1 : Exa Z h0 a1 "java/lang/String") (F_value_a1 : Fld Z h0 a1 "java/lang/String" "value" "[B" .null) (F_coder_a1 : Fld Z h0 a1 "java/lang/String" "coder" "B" (.int 0)) (wS : G_wS Z a0) (hcw : G_hcw Z a0) (hh0 : G_hh0 Z) (hT_empty : "" ∉ Ts) :
  Con true [] Z mn2 jdk_42_method_3_code 2 none R_init_2 Ts ("" :: Ts) f #[.ref a1, .ref a2] h0 (Q_init_2 Z a1 h0) := by
 refine con_of h0.size #[vR a1, vR a2] (plainFor_of_name pn_1) (fun m => rfl) (nlt Zf Z0) ?_
 intro C H hX0
 refine r_aloadN H 1 d_j42_3_0 ?_
 refine r_aloadN H 2 d_j42_3_1 ?_
 refine r_iconst H 3 0 d_j42_3_2 ?_
 refine r_aloadN H 4 d_j42_3_3 ?_
 refine r_alen H 5 0 d_j42_3_4 A_a2 ?_
 refine r_null H 6 d_j42_3_5 ?_
 refine Run.low Z0 Zf ?_
 refine r_special (a := a1) (argsL := [.ref a2, .int 0, .int 0, .null]) (rest := []) (W := 0) H 9 d_j42_3_6 (tw11 hw) (tw12 hw) (tw7 hw) (tw14 hw) (lenOf pd_1 rfl) (rm_init_3 hw Ts a1 a2 h0 f Zf Z0 E_a1 F_value_a1 g_a1 F_coder_a1 wS hcw hh0 hT_empty) ?_
 rintro _ hh8 ⟨b1, kc2, rfl, K3, q4, q5, q6, q7⟩
 have k9 : Keep h0 hh8 [a1] := Keep.trans (Keep.refl h0 [a1]) K3 (allS (Or.inl (List.mem_of_getElem? (i := 0) rfl)) all0)
 exact r_return H d_j42_3_9 (⟨b1, kc2, rfl, k9, q4, q5, q6, q7⟩)
def Q_coder_6 (Z : State) (h0 : Heap) (v : Option Value) (h : Heap) : Prop := v = some (.int 0) ∧ h0 = h
def R_coder_6 : Room := { frames := 0, cells := 0, slots := 0, locals := 0 }
theorem rm_coder_6 {w : Bool} {Z : State} {a0 : Array Value} (hw : HW a0 Z) (Ts : List String) (a1 : Addr) (cs : Int32) (h0 : Heap) (f : Nat) (Zf : Z.heap.size ≤ f) (Z0 : f ≤ h0.size) (F_coder_a1 : Fld Z h0 a1 "java/lang/String" "coder" "B" (.int 0)) (S_cs : G_S_cs Z cs) (hcs : ¬ cs = 0) :
  Con w [] Z mn3 jdk_42_method_152_code 1 (some .byte) R_coder_6 Ts Ts f #[.ref a1] h0 (Q_coder_6 Z h0) := by
 refine con_of f #[vR a1] (plainFor_of_name pn_1) (fun m => rfl) Zf ?_
 intro C H hX0
 refine r_gets H 3 d_j42_152_0 (tw40 hw) S_cs ?_
 refine r_ifeqF H 6 d_j42_152_3 rfl hcs ?_
 refine r_aloadN H 7 d_j42_152_6 ?_
 refine r_getf H 10 d_j42_152_7 (tw25 hw) F_coder_a1 ?_
 refine r_goto H 14 d_j42_152_10 ?_
 exact r_nreturn (0 : Int32) H d_j42_152_14 (by decide) (⟨rfl, rfl⟩)
def Q_length_5 (Z : State) (n1 : Int32) (h0 : Heap) (v : Option Value) (h : Heap) : Prop := ∃ (z : Int32), v = some (.int z) ∧ (n1 >>> ((0 : Int32) &&& 31)) = z ∧ h0 = h
def R_length_5 : Room := { frames := 1, cells := 0, slots := 0, locals := 13 }
theorem rm_length_5 {w : Bool} {Z : State} {a0 : Array Value} (hw : HW a0 Z) (Ts : List String) (a1 : Addr) (a2 : Addr) (c1 : ClassId) (vs1 : List Value) (n1 : Int32) (cs : Int32) (h0 : Heap) (f : Nat) (Zf : Z.heap.size ≤ f) (Z0 : f ≤ h0.size) (F_value_a1 : Fld Z h0 a1 "java/lang/String" "value" "[B" (.ref a2)) (A_a2 : Ar Z h0 a2 c1 .byte vs1) (E_a1 : Exa Z h0 a1 "java/lang/String") (F_coder_a1 : Fld Z h0 a1 "java/lang/String" "coder" "B" (.int 0)) (ln_vs1 : vs1.length.toInt32 = n1) (S_cs : G_S_cs Z cs) (hcs : ¬ cs = 0) :
  Con w [] Z mn4 jdk_42_method_54_code 1 (some .int) R_length_5 Ts Ts f #[.ref a1] h0 (Q_length_5 Z n1 h0) := by
 refine con_of f #[vR a1] (plainFor_of_name pn_1) (fun m => rfl) Zf ?_
 intro C H hX0
 refine r_aloadN H 1 d_j42_54_0 ?_
 refine r_getf H 4 d_j42_54_1 (tw24 hw) F_value_a1 ?_
 refine r_alen (hz := ln_vs1) H 5 n1 d_j42_54_4 A_a2 ?_
 refine r_aloadN H 6 d_j42_54_5 ?_
 refine r_virtual (z := mn3) (a := a1) (argsL := []) (rest := [.int n1]) (W := 1) H 9 d_j42_54_6 (tw35 hw) (tw36 hw) (nf_sel (tw38 hw)) (tw38 hw) (tw37 hw) (tw7 hw) (tw39 hw) E_a1 (lenOf pd_3 rfl) (rm_coder_6 hw Ts a1 cs h0 f Zf Z0 F_coder_a1 S_cs hcs) ?_
 rintro _ _ ⟨rfl, rfl⟩
 refine r_ishr H 10 (n1 >>> ((0 : Int32) &&& 31)) d_j42_54_9 rfl ?_
 exact r_ireturn H d_j42_54_10 (⟨_, rfl, rfl, rfl⟩)
def Q_readAlikeByEitherSetting_4 (Z : State) (h0 : Heap) (v : Option Value) (h : Heap) : Prop := v = some (.int 1) ∧ h0 = h
def R_readAlikeByEitherSetting_4 : Room := { frames := 2, cells := 0, slots := 0, locals := 26 }
theorem rm_readAlikeByEitherSetting_4 {w : Bool} {Z : State} {a0 : Array Value} (hw : HW a0 Z) (Ts : List String) (a1 : Addr) (a2 : Addr) (c1 : ClassId) (cs : Int32) (h0 : Heap) (f : Nat) (Zf : Z.heap.size ≤ f) (Z0 : f ≤ h0.size) (E_a1 : Exa Z h0 a1 "java/lang/String") (F_value_a1 : Fld Z h0 a1 "java/lang/String" "value" "[B" (.ref a2)) (A_a2 : Ar Z h0 a2 c1 .byte []) (F_coder_a1 : Fld Z h0 a1 "java/lang/String" "coder" "B" (.int 0)) (S_cs : G_S_cs Z cs) (hcs : ¬ cs = 0) :
  Con w [] Z mn5 prog_52_method_4_code 5 (some .boolean) R_readAlikeByEitherSetting_4 Ts Ts f #[.ref a1] h0 (Q_readAlikeByEitherSetting_4 Z h0) := by
 refine con_of f #[vR a1, .unset, .unset, .unset, .unset] (plainFor_of_name pn_2) (fun m => rfl) Zf ?_
 intro C H hX0
 refine r_iconst H 1 1 d_g52_4_0 ?_
 refine r_istoreN H 2 #[vR a1, vI 1, .unset, .unset, .unset] d_g52_4_1 ?_
 refine r_iconst H 3 0 d_g52_4_2 ?_
 refine r_istoreN H 4 #[vR a1, vI 1, vI 0, .unset, .unset] d_g52_4_3 ?_
 refine r_iconst H 5 0 d_g52_4_4 ?_
 refine r_istoreN H 6 #[vR a1, vI 1, vI 0, vI 0, .unset] d_g52_4_5 ?_
 refine r_iloadN H 7 d_g52_4_6 ?_
 refine r_ifeqF H 10 d_g52_4_7 rfl (by decide) ?_
 refine r_iloadN H 11 d_g52_4_10 ?_
 refine r_aloadN H 12 d_g52_4_11 ?_
 refine r_virtual (z := mn4) (a := a1) (argsL := []) (rest := [.int 0]) (W := 1) H 15 d_g52_4_12 (tw30 hw) (tw31 hw) (nf_sel (tw33 hw)) (tw33 hw) (tw32 hw) (tw7 hw) (tw34 hw) E_a1 (lenOf pd_4 rfl) (rm_length_5 hw Ts a1 a2 c1 _ (0 : Int32) cs h0 f Zf Z0 F_value_a1 A_a2 E_a1 F_coder_a1 rfl S_cs hcs) ?_
 rintro _ _ ⟨p1, rfl, ep1, rfl⟩
 have hzp1 : (0 : Int32) = p1 := by rw [← ep1]; decide
 subst hzp1
 refine r_icmpgeT H 65 d_g52_4_15 ?_
 refine r_iloadN H 66 d_g52_4_65 ?_
 exact r_nreturn (1 : Int32) H d_g52_4_66 (by decide) (⟨rfl, rfl⟩)
def Q_compress_10 (Z : State) (a2 : Addr) (i1 : Int32) (c2 : ClassId) (h0 : Heap) (v : Option Value) (h : Heap) : Prop := (v = some (.int 1) ∧ (¬ (255 : Int32) < i1) ∧ Keep h0 h [a2] ∧ Ar Z h a2 c2 .byte [.int (cB8 i1)] ∧ Exa Z h a2 "[B") ∨ (v = some (.int 0) ∧ ((255 : Int32) < i1) ∧ h0 = h)
def R_compress_10 : Room := { frames := 0, cells := 0, slots := 0, locals := 0 }
theorem rm_compress_10 {w : Bool} {Z : State} {a0 : Array Value} (hw : HW a0 Z) (Ts : List String) (a1 : Addr) (a2 : Addr) (i1 : Int32) (c1 : ClassId) (c2 : ClassId) (h0 : Heap) (f : Nat) (Zf : Z.heap.size ≤ f) (Z0 : f ≤ h0.size) (A_a1 : Ar Z h0 a1 c1 .char [.int i1]) (A_a2 : Ar Z h0 a2 c2 .byte [.int 0]) (g_a2 : f ≤ a2) (E_a2 : Exa Z h0 a2 "[B") (r_i1 : 0 ≤ i1.toInt ∧ i1.toInt ≤ 65535) :
  Con w [] Z mn6 jdk_52_method_21_code 7 (some .int) R_compress_10 Ts Ts f #[.ref a1, .int 0, .ref a2, .int 0, .int 1] h0 (Q_compress_10 Z a2 i1 c2 h0) := by
 refine con_of f #[vR a1, vI 0, vR a2, vI 0, vI 1, .unset, .unset] (plainFor_of_name pn_3) (fun m => rfl) Zf ?_
 intro C H hX0
 refine r_iconst H 1 0 d_j52_21_0 ?_
 refine r_istore H 3 #[vR a1, vI 0, vR a2, vI 0, vI 1, vI 0, .unset] d_j52_21_1 ?_
 refine r_iload H 5 d_j52_21_3 ?_
 refine r_iload H 7 d_j52_21_5 ?_
 refine r_icmpgeF H 10 d_j52_21_7 ?_
 refine r_aloadN H 11 d_j52_21_10 ?_
 refine r_iloadN H 12 d_j52_21_11 ?_
 refine r_caload H 13 i1 d_j52_21_12 A_a1 ?_
 refine r_istore H 15 #[vR a1, vI 0, vR a2, vI 0, vI 1, vI 0, vI i1] d_j52_21_13 ?_
 refine r_iload H 17 d_j52_21_15 ?_
 refine r_sipush H 20 255 d_j52_21_17 ?_
 refine r_icmple H 26 23 d_j52_21_20 (fun c1 => ?_) (fun c1 => ?_)
 ·
  refine r_aloadN H 27 d_j52_21_26 ?_
  refine r_iloadN H 28 d_j52_21_27 ?_
  refine r_iload H 30 d_j52_21_28 ?_
  obtain ⟨p3, ep3, rp3⟩ : ∃ p : Int32, (i1.toInt8.toInt32) = p ∧ -128 ≤ p.toInt ∧ p.toInt ≤ 127 := ⟨_, rfl, (by have h := c_i2b i1; omega)⟩
  refine r_i2b H 31 p3 d_j52_21_30 ep3 ?_
  refine r_bastore H 32 p3 d_j52_21_31 A_a2 g_a2 (nar_byte_id (by have := rp3; omega)) ?_
  intro h4 K4 A4
  change Ar Z h4 a2 c2 .byte [.int p3] at A4
  refine r_iinc H 35 #[vR a1, vI 1, vR a2, vI 0, vI 1, vI 0, vI i1] 1 d_j52_21_32 ?_
  refine r_iinc H 38 #[vR a1, vI 1, vR a2, vI 1, vI 1, vI 0, vI i1] 1 d_j52_21_35 ?_
  refine r_iinc H 41 #[vR a1, vI 1, vR a2, vI 1, vI 1, vI 1, vI i1] 1 d_j52_21_38 ?_
  refine r_goto H 3 d_j52_21_41 ?_
  refine r_iload H 5 d_j52_21_3 ?_
  refine r_iload H 7 d_j52_21_5 ?_
  refine r_icmpgeT H 44 d_j52_21_7 ?_
  refine r_iload H 46 d_j52_21_44 ?_
  have k5 : Keep h0 h4 [a2] := Keep.trans (Keep.refl h0 [a2]) K4 (allS (Or.inl (List.mem_of_getElem? (i := 0) rfl)) all0)
  have q6 := (E_a2.keep K4)
  subst ep3
  exact r_ireturn H d_j52_21_46 (Or.inl ⟨rfl, c1, k5, A4, q6⟩)
 ·
  refine r_iload H 25 d_j52_21_23 ?_
  exact r_ireturn H d_j52_21_25 (Or.inr (⟨rfl, c1, rfl⟩))
def Q_newBytesLength_13 (Z : State) (h0 : Heap) (v : Option Value) (h : Heap) : Prop := v = some (.int 2) ∧ h0 = h
def R_newBytesLength_13 : Room := { frames := 0, cells := 0, slots := 0, locals := 0 }
theorem rm_newBytesLength_13 {w : Bool} {Z : State} {a0 : Array Value} (hw : HW a0 Z) (Ts : List String) (h0 : Heap) (f : Nat) (Zf : Z.heap.size ≤ f) (Z0 : f ≤ h0.size) :
  Con w [] Z mn7 jdk_52_method_3_code 1 (some .int) R_newBytesLength_13 Ts Ts f #[.int 1] h0 (Q_newBytesLength_13 Z h0) := by
 refine con_of f #[vI 1] (plainFor_of_name pn_3) (fun m => rfl) Zf ?_
 intro C H hX0
 refine r_iloadN H 1 d_j52_3_0 ?_
 refine r_ifgeT H 12 d_j52_3_1 ?_
 refine r_iloadN H 13 d_j52_3_12 ?_
 refine r_ldcI H 15 d_j52_3_13 (tw83 hw) ?_
 refine r_icmpltT H 55 d_j52_3_15 ?_
 refine r_iloadN H 56 d_j52_3_55 ?_
 refine r_iconst H 57 1 d_j52_3_56 ?_
 refine r_ishl H 58 2 d_j52_3_57 ?_
 exact r_ireturn H d_j52_3_58 (⟨rfl, rfl⟩)
def Q_newBytesFor_12 (Z : State) (h0 : Heap) (v : Option Value) (h : Heap) : Prop := ∃ (b2 : Addr) (kc2 : ClassId), v = some (.ref b2) ∧ Keep h0 h [] ∧ h0.size ≤ b2 ∧ Ar Z h b2 kc2 .byte [.int 0, .int 0] ∧ Exa Z h b2 "[B"
def R_newBytesFor_12 : Room := { frames := 1, cells := 1, slots := 2, locals := 12 }
theorem rm_newBytesFor_12 {w : Bool} {Z : State} {a0 : Array Value} (hw : HW a0 Z) (Ts : List String) (h0 : Heap) (f : Nat) (Zf : Z.heap.size ≤ f) (Z0 : f ≤ h0.size) :
  Con w [] Z mn8 jdk_52_method_2_code 1 (some (.array .byte)) R_newBytesFor_12 Ts Ts f #[.int 1] h0 (Q_newBytesFor_12 Z h0) := by
 refine con_of f #[vI 1] (plainFor_of_name pn_3) (fun m => rfl) Zf ?_
 intro C H hX0
 refine r_iloadN H 1 d_j52_2_0 ?_
 refine r_static (argsL := [.int 1]) (rest := []) (W := 0) H 4 d_j52_2_1 (tw80 hw) (tw81 hw) (tw43 hw) (tw82 hw) (lenOf pd_7 rfl) (rm_newBytesLength_13 hw Ts h0 f Zf Z0) ?_
 rintro _ _ ⟨rfl, rfl⟩
 refine r_newP H 6 "[B" 2 d_j52_2_4 (tw19 hw) ?_
 intro h2 b2 kc2 g2 l2 K2 E2 A2
 change Ar Z h2 b2 kc2 .byte [.int 0, .int 0] at A2
 have k3 : Keep h0 h2 [] := Keep.trans (Keep.refl h0 []) K2 all0
 exact r_areturn H d_j52_2_6 (⟨b2, kc2, rfl, k3, (nlt nlr (Nat.le_of_eq g2.symm)), A2, E2⟩)
def Q_putChar_14 (Z : State) (a1 : Addr) (i1 : Int32) (c1 : ClassId) (h0 : Heap) (v : Option Value) (h : Heap) : Prop := v = none ∧ Keep h0 h [a1] ∧ Ar Z h a1 c1 .byte [.int (cL8 i1), .int (cH8 i1)] ∧ Exa Z h a1 "[B"
def R_putChar_14 : Room := { frames := 0, cells := 0, slots := 0, locals := 0 }
theorem rm_putChar_14 {w : Bool} {Z : State} {a0 : Array Value} (hw : HW a0 Z) (Ts : List String) (a1 : Addr) (i1 : Int32) (i2 : Int32) (i3 : Int32) (c1 : ClassId) (h0 : Heap) (f : Nat) (Zf : Z.heap.size ≤ f) (Z0 : f ≤ h0.size) (A_a1 : Ar Z h0 a1 c1 .byte [.int i2, .int i3]) (g_a1 : f ≤ a1) (E_a1 : Exa Z h0 a1 "[B") (r_i1 : 0 ≤ i1.toInt ∧ i1.toInt ≤ 65535) (S__assertionsDisabled : G_S__assertionsDisabled Z) (S_HI_BYTE_SHIFT : G_S_HI_BYTE_SHIFT Z) (S_LO_BYTE_SHIFT : G_S_LO_BYTE_SHIFT Z) :
  Con w [] Z mn9 jdk_52_method_4_code 3 none R_putChar_14 Ts Ts f #[.ref a1, .int 0, .int i1] h0 (Q_putChar_14 Z a1 i1 c1 h0) := by
 refine con_of f #[vR a1, vI 0, vI i1] (plainFor_of_name pn_3) (fun m => rfl) Zf ?_
 intro C H hX0
 refine r_gets H 3 d_j52_4_0 (tw87 hw) S__assertionsDisabled ?_
 refine r_ifneT H 28 d_j52_4_3 (by decide) (by decide) (by decide) ?_
 refine r_iloadN H 29 d_j52_4_28 ?_
 refine r_iconst H 30 1 d_j52_4_29 ?_
 refine r_ishl H 31 0 d_j52_4_30 ?_
 refine r_istoreN H 32 #[vR a1, vI 0, vI i1] d_j52_4_31 ?_
 refine r_aloadN H 33 d_j52_4_32 ?_
 refine r_iloadN H 34 d_j52_4_33 ?_
 refine r_iinc H 37 #[vR a1, vI 1, vI i1] 1 d_j52_4_34 ?_
 refine r_iloadN H 38 d_j52_4_37 ?_
 refine r_gets H 41 d_j52_4_38 (tw88 hw) S_HI_BYTE_SHIFT ?_
 obtain ⟨p1, ep1, rp1⟩ : ∃ p : Int32, (i1 >>> ((0 : Int32) &&& 31)) = p ∧ 0 ≤ p.toInt ∧ p.toInt ≤ 65535 := ⟨_, rfl, (by have := r_i1; have h1 := c_ishr i1 (0 : Int32) 0 (by decide); omega)⟩
 refine r_ishr H 42 p1 d_j52_4_41 ep1 ?_
 obtain ⟨p2, ep2, rp2⟩ : ∃ p : Int32, (p1.toInt8.toInt32) = p ∧ -128 ≤ p.toInt ∧ p.toInt ≤ 127 := ⟨_, rfl, (by have h := c_i2b p1; omega)⟩
 refine r_i2b H 43 p2 d_j52_4_42 ep2 ?_
 refine r_bastore H 44 p2 d_j52_4_43 A_a1 g_a1 (nar_byte_id (by have := rp2; omega)) ?_
 intro h3 K3 A3
 change Ar Z h3 a1 c1 .byte [.int p2, .int i3] at A3
 refine r_aloadN H 45 d_j52_4_44 ?_
 refine r_iloadN H 46 d_j52_4_45 ?_
 refine r_iloadN H 47 d_j52_4_46 ?_
 refine r_gets H 50 d_j52_4_47 (tw89 hw) S_LO_BYTE_SHIFT ?_
 obtain ⟨p4, ep4, rp4⟩ : ∃ p : Int32, (i1 >>> ((8 : Int32) &&& 31)) = p ∧ 0 ≤ p.toInt ∧ p.toInt ≤ 255 := ⟨_, rfl, (by have := r_i1; have h1 := c_ishr i1 (8 : Int32) 8 (by decide); omega)⟩
 refine r_ishr H 51 p4 d_j52_4_50 ep4 ?_
 obtain ⟨p5, ep5, rp5⟩ : ∃ p : Int32, (p4.toInt8.toInt32) = p ∧ -128 ≤ p.toInt ∧ p.toInt ≤ 127 := ⟨_, rfl, (by have h := c_i2b p4; omega)⟩
 refine r_i2b H 52 p5 d_j52_4_51 ep5 ?_
 refine r_bastore H 53 p5 d_j52_4_52 A3 g_a1 (nar_byte_id (by have := rp5; omega)) ?_
 intro h6 K6 A6
 have q7 := (E_a1.keep K3)
 change Ar Z h6 a1 c1 .byte [.int p2, .int p5] at A6
 have k8 : Keep h0 h3 [a1] := Keep.trans (Keep.refl h0 [a1]) K3 (allS (Or.inl (List.mem_of_getElem? (i := 0) rfl)) all0)
 have k9 : Keep h0 h6 [a1] := Keep.trans k8 K6 (allS (Or.inl (List.mem_of_getElem? (i := 0) rfl)) all0)
 have q10 := (q7.keep K6)
 subst ep1 ep2 ep4 ep5
 exact r_return H d_j52_4_53 (⟨rfl, k9, A6, q10⟩)
def Q_toBytes_11 (Z : State) (i1 : Int32) (h0 : Heap) (v : Option Value) (h : Heap) : Prop := ∃ (b1 : Addr) (kc2 : ClassId), v = some (.ref b1) ∧ Keep h0 h [] ∧ h0.size ≤ b1 ∧ Ar Z h b1 kc2 .byte [.int (cL8 i1), .int (cH8 i1)] ∧ Exa Z h b1 "[B"
def R_toBytes_11 : Room := { frames := 2, cells := 1, slots := 2, locals := 24 }
theorem rm_toBytes_11 {w : Bool} {Z : State} {a0 : Array Value} (hw : HW a0 Z) (Ts : List String) (a1 : Addr) (i1 : Int32) (c1 : ClassId) (h0 : Heap) (f : Nat) (Zf : Z.heap.size ≤ f) (Z0 : f ≤ h0.size) (A_a1 : Ar Z h0 a1 c1 .char [.int i1]) (r_i1 : 0 ≤ i1.toInt ∧ i1.toInt ≤ 65535) (S__assertionsDisabled : G_S__assertionsDisabled Z) (S_HI_BYTE_SHIFT : G_S_HI_BYTE_SHIFT Z) (S_LO_BYTE_SHIFT : G_S_LO_BYTE_SHIFT Z) :
  Con w [] Z mn10 jdk_52_method_14_code 5 (some (.array .byte)) R_toBytes_11 Ts Ts f #[.ref a1, .int 0, .int 1] h0 (Q_toBytes_11 Z i1 h0) := by
 refine con_of f #[vR a1, vI 0, vI 1, .unset, .unset] (plainFor_of_name pn_3) (fun m => rfl) Zf ?_
 intro C H hX0
 refine r_iloadN H 1 d_j52_14_0 ?_
 refine r_static (argsL := [.int 1]) (rest := []) (W := 0) H 4 d_j52_14_1 (tw77 hw) (tw78 hw) (tw43 hw) (tw79 hw) (lenOf pd_8 rfl) (rm_newBytesFor_12 hw Ts h0 f Zf Z0) ?_
 rintro _ hh7 ⟨b1, kc2, rfl, K3, g4, q5, q6⟩
 refine r_astoreN H 5 #[vR a1, vI 0, vI 1, vR b1, .unset] d_j52_14_4 ?_
 refine r_iconst H 6 0 d_j52_14_5 ?_
 refine r_istore H 8 #[vR a1, vI 0, vI 1, vR b1, vI 0] d_j52_14_6 ?_
 refine r_iload H 10 d_j52_14_8 ?_
 refine r_iloadN H 11 d_j52_14_10 ?_
 refine r_icmpgeF H 14 d_j52_14_11 ?_
 refine r_aloadN H 15 d_j52_14_14 ?_
 refine r_iload H 17 d_j52_14_15 ?_
 refine r_aloadN H 18 d_j52_14_17 ?_
 refine r_iloadN H 19 d_j52_14_18 ?_
 have q8 := (A_a1.keep K3 nin0)
 refine r_caload H 20 i1 d_j52_14_19 q8 ?_
 refine r_static (argsL := [.ref b1, .int 0, .int i1]) (rest := []) (W := 0) H 23 d_j52_14_20 (tw84 hw) (tw85 hw) (tw43 hw) (tw86 hw) (lenOf pd_9 rfl) (rm_putChar_14 hw Ts b1 i1 (0 : Int32) (0 : Int32) kc2 hh7 f Zf (nlt Z0 K3.1) q5 (nlt Z0 g4) q6 (by have := r_i1; omega) S__assertionsDisabled S_HI_BYTE_SHIFT S_LO_BYTE_SHIFT) ?_
 rintro _ hh12 ⟨rfl, K9, q10, q11⟩
 refine r_iinc H 26 #[vR a1, vI 1, vI 1, vR b1, vI 0] 1 d_j52_14_23 ?_
 refine r_iinc H 29 #[vR a1, vI 1, vI 1, vR b1, vI 1] 1 d_j52_14_26 ?_
 refine r_goto H 8 d_j52_14_29 ?_
 refine r_iload H 10 d_j52_14_8 ?_
 refine r_iloadN H 11 d_j52_14_10 ?_
 refine r_icmpgeT H 32 d_j52_14_11 ?_
 refine r_aloadN H 33 d_j52_14_32 ?_
 have k13 : Keep h0 hh7 [] := Keep.trans (Keep.refl h0 []) K3 all0
 have k14 : Keep h0 hh12 [] := Keep.trans k13 K9 (allS (Or.inr (nlt nlr g4)) all0)
 exact r_areturn H d_j52_14_33 (⟨b1, kc2, rfl, k14, (nlt nlr g4), q10, q11⟩)
def Q_getChar_15 (Z : State) (y1 : Int32) (y2 : Int32) (h0 : Heap) (v : Option Value) (h : Heap) : Prop := ∃ (z : Int32), v = some (.int z) ∧ ((((y1 &&& (255 : Int32)) <<< ((0 : Int32) &&& 31)) ||| ((y2 &&& (255 : Int32)) <<< ((8 : Int32) &&& 31))).toUInt32.toUInt16.toUInt32.toInt32) = z ∧ (0 ≤ z.toInt ∧ z.toInt ≤ 65535) ∧ h0 = h
def R_getChar_15 : Room := { frames := 0, cells := 0, slots := 0, locals := 0 }
theorem rm_getChar_15 {w : Bool} {Z : State} {a0 : Array Value} (hw : HW a0 Z) (Ts : List String) (a1 : Addr) (i1 : Int32) (c1 : ClassId) (vs1 : List Value) (y1 : Int32) (y2 : Int32) (h0 : Heap) (f : Nat) (Zf : Z.heap.size ≤ f) (Z0 : f ≤ h0.size) (A_a1 : Ar Z h0 a1 c1 .byte vs1) (el_y1 : vs1[((i1 <<< ((1 : Int32) &&& 31))).toNatClampNeg]? = some (.int y1)) (pc0 : ¬ (i1 <<< ((1 : Int32) &&& 31)) < 0) (el_y2 : vs1[(((i1 <<< ((1 : Int32) &&& 31)) + (1 : Int32))).toNatClampNeg]? = some (.int y2)) (pc1 : ¬ ((i1 <<< ((1 : Int32) &&& 31)) + (1 : Int32)) < 0) (S__assertionsDisabled : G_S__assertionsDisabled Z) (S_HI_BYTE_SHIFT : G_S_HI_BYTE_SHIFT Z) (S_LO_BYTE_SHIFT : G_S_LO_BYTE_SHIFT Z) :
  Con w [] Z mn11 jdk_52_method_5_code 2 (some .char) R_getChar_15 Ts Ts f #[.ref a1, .int i1] h0 (Q_getChar_15 Z y1 y2 h0) := by
 refine con_of f #[vR a1, vI i1] (plainFor_of_name pn_3) (fun m => rfl) Zf ?_
 intro C H hX0
 refine r_gets H 3 d_j52_5_0 (tw87 hw) S__assertionsDisabled ?_
 refine r_ifneT H 28 d_j52_5_3 (by decide) (by decide) (by decide) ?_
 refine r_iloadN H 29 d_j52_5_28 ?_
 refine r_iconst H 30 1 d_j52_5_29 ?_
 refine r_ishl (hz := rfl) H 31 (i1 <<< ((1 : Int32) &&& 31)) d_j52_5_30 ?_
 refine r_istoreN H 32 #[vR a1, .val (.int (i1 <<< ((1 : Int32) &&& 31)))] d_j52_5_31 ?_
 refine r_aloadN H 33 d_j52_5_32 ?_
 refine r_iloadN H 34 d_j52_5_33 ?_
 refine r_iinc (hy := rfl) H 37 #[vR a1, .val (.int ((i1 <<< ((1 : Int32) &&& 31)) + (1 : Int32)))] ((i1 <<< ((1 : Int32) &&& 31)) + (1 : Int32)) d_j52_5_34 ?_
 refine r_baload H 38 y1 d_j52_5_37 A_a1 pc0 el_y1 ?_
 refine r_sipush H 41 255 d_j52_5_38 ?_
 obtain ⟨p1, ep1, rp1⟩ : ∃ p : Int32, (y1 &&& (255 : Int32)) = p ∧ 0 ≤ p.toInt ∧ p.toInt ≤ 255 := ⟨_, rfl, (by have h := c_and y1 (255 : Int32) (by decide); have : (255 : Int32).toInt = 255 := (by decide); omega)⟩
 refine r_iand H 42 p1 d_j52_5_41 ep1 ?_
 refine r_gets H 45 d_j52_5_42 (tw88 hw) S_HI_BYTE_SHIFT ?_
 refine r_ishl (hz := rfl) H 46 (p1 <<< ((0 : Int32) &&& 31)) d_j52_5_45 ?_
 refine r_aloadN H 47 d_j52_5_46 ?_
 refine r_iloadN H 48 d_j52_5_47 ?_
 refine r_baload H 49 y2 d_j52_5_48 A_a1 pc1 el_y2 ?_
 refine r_sipush H 52 255 d_j52_5_49 ?_
 obtain ⟨p2, ep2, rp2⟩ : ∃ p : Int32, (y2 &&& (255 : Int32)) = p ∧ 0 ≤ p.toInt ∧ p.toInt ≤ 255 := ⟨_, rfl, (by have h := c_and y2 (255 : Int32) (by decide); have : (255 : Int32).toInt = 255 := (by decide); omega)⟩
 refine r_iand H 53 p2 d_j52_5_52 ep2 ?_
 refine r_gets H 56 d_j52_5_53 (tw89 hw) S_LO_BYTE_SHIFT ?_
 refine r_ishl (hz := rfl) H 57 (p2 <<< ((8 : Int32) &&& 31)) d_j52_5_56 ?_
 refine r_ior H 58 ((p1 <<< ((0 : Int32) &&& 31)) ||| (p2 <<< ((8 : Int32) &&& 31))) d_j52_5_57 ?_
 obtain ⟨p3, ep3, rp3⟩ : ∃ p : Int32, (((p1 <<< ((0 : Int32) &&& 31)) ||| (p2 <<< ((8 : Int32) &&& 31))).toUInt32.toUInt16.toUInt32.toInt32) = p ∧ 0 ≤ p.toInt ∧ p.toInt ≤ 65535 := ⟨_, rfl, (by have h := c_i2c ((p1 <<< ((0 : Int32) &&& 31)) ||| (p2 <<< ((8 : Int32) &&& 31))); omega)⟩
 refine r_i2c H 59 p3 d_j52_5_58 ep3 ?_
 subst ep1 ep2 ep3
 exact r_nreturn ((((y1 &&& (255 : Int32)) <<< ((0 : Int32) &&& 31)) ||| ((y2 &&& (255 : Int32)) <<< ((8 : Int32) &&& 31))).toUInt32.toUInt16.toUInt32.toInt32) H d_j52_5_59 (nar_char_id (by have := rp3; omega)) (⟨_, rfl, rfl, (by have := rp3; omega), rfl⟩)
def Q_compress_9 (Z : State) (i1 : Int32) (h0 : Heap) (v : Option Value) (h : Heap) : Prop := (∃ (b1 : Addr) (kc1 : ClassId), v = some (.ref b1) ∧ (¬ (255 : Int32) < i1) ∧ Keep h0 h [] ∧ h0.size ≤ b1 ∧ Ar Z h b1 kc1 .byte [.int (cB8 i1)] ∧ Exa Z h b1 "[B") ∨ (∃ (b14 : Addr) (kc15 : ClassId), v = some (.ref b14) ∧ ((255 : Int32) < i1) ∧ Keep h0 h [] ∧ h0.size ≤ b14 ∧ Ar Z h b14 kc15 .byte [.int (cL8 i1), .int (cH8 i1)] ∧ Exa Z h b14 "[B")
def R_compress_9 : Room := { frames := 3, cells := 2, slots := 3, locals := 40 }
theorem rm_compress_9 {w : Bool} {Z : State} {a0 : Array Value} (hw : HW a0 Z) (Ts : List String) (a1 : Addr) (i1 : Int32) (c1 : ClassId) (h0 : Heap) (f : Nat) (Zf : Z.heap.size ≤ f) (Z0 : f ≤ h0.size) (A_a1 : Ar Z h0 a1 c1 .char [.int i1]) (r_i1 : 0 ≤ i1.toInt ∧ i1.toInt ≤ 65535) (S__assertionsDisabled : G_S__assertionsDisabled Z) (S_HI_BYTE_SHIFT : G_S_HI_BYTE_SHIFT Z) (S_LO_BYTE_SHIFT : G_S_LO_BYTE_SHIFT Z) :
  Con w [] Z mn12 jdk_52_method_16_code 6 (some (.array .byte)) R_compress_9 Ts Ts f #[.ref a1, .int 0, .int 1] h0 (Q_compress_9 Z i1 h0) := by
 refine con_of f #[vR a1, vI 0, vI 1, .unset, .unset, .unset] (plainFor_of_name pn_3) (fun m => rfl) Zf ?_
 intro C H hX0
 refine r_iloadN H 1 d_j52_16_0 ?_
 refine r_newP H 3 "[B" 1 d_j52_16_1 (tw19 hw) ?_
 intro h1 b1 kc1 g1 l1 K1 E1 A1
 change Ar Z h1 b1 kc1 .byte [.int 0] at A1
 refine r_astoreN H 4 #[vR a1, vI 0, vI 1, vR b1, .unset, .unset] d_j52_16_3 ?_
 refine r_aloadN H 5 d_j52_16_4 ?_
 refine r_iloadN H 6 d_j52_16_5 ?_
 refine r_aloadN H 7 d_j52_16_6 ?_
 refine r_iconst H 8 0 d_j52_16_7 ?_
 refine r_iloadN H 9 d_j52_16_8 ?_
 have q2 := (A_a1.keep K1 nin0)
 refine r_static (argsL := [.ref a1, .int 0, .ref b1, .int 0, .int 1]) (rest := []) (W := 0) H 12 d_j52_16_9 (tw45 hw) (tw46 hw) (tw43 hw) (tw47 hw) (lenOf pd_6 rfl) (rm_compress_10 hw Ts a1 b1 i1 c1 kc1 h1 f Zf (nlt Z0 K1.1) q2 A1 (nlt Z0 (Nat.le_of_eq g1.symm)) E1 r_i1) ?_
 rintro _ hh9 (⟨rfl, c4, K3, q5, q6⟩ | ⟨rfl, c8, rfl⟩)
 ·
  refine r_istore H 14 #[vR a1, vI 0, vI 1, vR b1, vI 1, .unset] d_j52_16_12 ?_
  refine r_iload H 16 d_j52_16_14 ?_
  refine r_iloadN H 17 d_j52_16_16 ?_
  refine r_icmpeqT H 57 d_j52_16_17 ?_
  refine r_aloadN H 58 d_j52_16_57 ?_
  have k11 : Keep h0 h1 [] := Keep.trans (Keep.refl h0 []) K1 all0
  have k12 : Keep h0 hh9 [] := Keep.trans k11 K3 (allS (Or.inr (nlt nlr (Nat.le_of_eq g1.symm))) all0)
  exact r_areturn H d_j52_16_58 (Or.inl ⟨b1, kc1, rfl, c4, k12, (nlt nlr (Nat.le_of_eq g1.symm)), q5, q6⟩)
 ·
  have rr13 : 256 ≤ i1.toInt ∧ i1.toInt ≤ 65535 := by have := r_i1; have : (255 : Int32).toInt = 255 := (by decide); have hc_ := c8; simp only [Int32.lt_iff_toInt_lt, ← Int32.toInt_inj] at hc_; omega
  refine r_istore H 14 #[vR a1, vI 0, vI 1, vR b1, vI 0, .unset] d_j52_16_12 ?_
  refine r_iload H 16 d_j52_16_14 ?_
  refine r_iloadN H 17 d_j52_16_16 ?_
  refine r_icmpeqF H 20 d_j52_16_17 ?_
  refine r_aloadN H 21 d_j52_16_20 ?_
  refine r_iloadN H 22 d_j52_16_21 ?_
  refine r_iloadN H 23 d_j52_16_22 ?_
  refine r_static (argsL := [.ref a1, .int 0, .int 1]) (rest := []) (W := 0) H 26 d_j52_16_23 (tw74 hw) (tw75 hw) (tw43 hw) (tw76 hw) (lenOf pd_10 rfl) (rm_toBytes_11 hw Ts a1 i1 c1 h1 f Zf (nlt Z0 K1.1) q2 (by have := rr13; omega) S__assertionsDisabled S_HI_BYTE_SHIFT S_LO_BYTE_SHIFT) ?_
  rintro _ hh20 ⟨b14, kc15, rfl, K16, g17, q18, q19⟩
  refine r_astore H 28 #[vR a1, vI 0, vI 1, vR b1, vI 0, vR b14] d_j52_16_26 ?_
  refine r_aload H 30 d_j52_16_28 ?_
  refine r_iload H 32 d_j52_16_30 ?_
  have z21 := Nat.le_trans K1.1 K16.1
  refine r_static (argsL := [.ref b14, .int 0]) (rest := []) (W := 0) H 35 d_j52_16_32 (tw90 hw) (tw91 hw) (tw43 hw) (tw92 hw) (lenOf pd_11 rfl) (rm_getChar_15 hw Ts b14 (0 : Int32) kc15 _ (cL8 i1) (cH8 i1) hh20 f Zf (nlt Z0 z21) q18 rfl (by decide) rfl (by decide) S__assertionsDisabled S_HI_BYTE_SHIFT S_LO_BYTE_SHIFT) ?_
  rintro _ _ ⟨p22, rfl, ep22, rp22, rfl⟩
  have hzp22 : i1 = p22 := by rw [← ep22]; exact (own_u16 i1 (by have := rr13; omega)).symm
  subst hzp22
  refine r_sipush H 38 255 d_j52_16_35 ?_
  refine r_icmpgtT H 54 d_j52_16_38 (by have := rr13; have : (255 : Int32).toInt = 255 := (by decide); simp only [Int32.lt_iff_toInt_lt, ← Int32.toInt_inj]; omega) ?_
  refine r_aload H 56 d_j52_16_54 ?_
  have k24 : Keep h0 h1 [] := Keep.trans (Keep.refl h0 []) K1 all0
  have k25 : Keep h0 hh20 [] := Keep.trans k24 K16 all0
  exact r_areturn H d_j52_16_56 (Or.inr (⟨b14, kc15, rfl, c8, k25, (nlt K1.1 g17), q18, q19⟩))
def Q_coderFromArrayLen_16 (Z : State) (h0 : Heap) (v : Option Value) (h : Heap) : Prop := v = some (.int 0) ∧ h0 = h
def R_coderFromArrayLen_16 : Room := { frames := 0, cells := 0, slots := 0, locals := 0 }
theorem rm_coderFromArrayLen_16 {w : Bool} {Z : State} {a0 : Array Value} (hw : HW a0 Z) (Ts : List String) (a1 : Addr) (i1 : Int32) (c1 : ClassId) (h0 : Heap) (f : Nat) (Zf : Z.heap.size ≤ f) (Z0 : f ≤ h0.size) (A_a1 : Ar Z h0 a1 c1 .byte [.int (cB8 i1)]) :
  Con w [] Z mn13 jdk_52_method_15_code 2 (some .byte) R_coderFromArrayLen_16 Ts Ts f #[.ref a1, .int 1] h0 (Q_coderFromArrayLen_16 Z h0) := by
 refine con_of f #[vR a1, vI 1] (plainFor_of_name pn_3) (fun m => rfl) Zf ?_
 intro C H hX0
 refine r_iloadN H 1 d_j52_15_0 ?_
 refine r_aloadN H 2 d_j52_15_1 ?_
 refine r_alen H 3 1 d_j52_15_2 A_a1 ?_
 refine r_isub H 4 0 d_j52_15_3 ?_
 refine r_bipush H 6 31 d_j52_15_4 ?_
 refine r_iushr H 7 0 d_j52_15_6 (by decide) ?_
 refine r_i2b H 8 0 d_j52_15_7 (by decide) ?_
 exact r_nreturn (0 : Int32) H d_j52_15_8 (by decide) (⟨rfl, rfl⟩)
def Q_coderFromArrayLen_17 (Z : State) (h0 : Heap) (v : Option Value) (h : Heap) : Prop := v = some (.int 1) ∧ h0 = h
def R_coderFromArrayLen_17 : Room := { frames := 0, cells := 0, slots := 0, locals := 0 }
theorem rm_coderFromArrayLen_17 {w : Bool} {Z : State} {a0 : Array Value} (hw : HW a0 Z) (Ts : List String) (a1 : Addr) (i1 : Int32) (c1 : ClassId) (h0 : Heap) (f : Nat) (Zf : Z.heap.size ≤ f) (Z0 : f ≤ h0.size) (A_a1 : Ar Z h0 a1 c1 .byte [.int (cL8 i1), .int (cH8 i1)]) :
  Con w [] Z mn13 jdk_52_method_15_code 2 (some .byte) R_coderFromArrayLen_17 Ts Ts f #[.ref a1, .int 1] h0 (Q_coderFromArrayLen_17 Z h0) := by
 refine con_of f #[vR a1, vI 1] (plainFor_of_name pn_3) (fun m => rfl) Zf ?_
 intro C H hX0
 refine r_iloadN H 1 d_j52_15_0 ?_
 refine r_aloadN H 2 d_j52_15_1 ?_
 refine r_alen H 3 2 d_j52_15_2 A_a1 ?_
 refine r_isub H 4 (-1 : Int32) d_j52_15_3 ?_
 refine r_bipush H 6 31 d_j52_15_4 ?_
 refine r_iushr H 7 1 d_j52_15_6 (by decide) ?_
 refine r_i2b H 8 1 d_j52_15_7 (by decide) ?_
 exact r_nreturn (1 : Int32) H d_j52_15_8 (by decide) (⟨rfl, rfl⟩)
def Q_init_8 (Z : State) (a1 : Addr) (i1 : Int32) (h0 : Heap) (v : Option Value) (h : Heap) : Prop := (∃ (b1 : Addr) (kc2 : ClassId), v = none ∧ (¬ (255 : Int32) < i1) ∧ Keep h0 h [a1] ∧ h0.size ≤ b1 ∧ Exa Z h a1 "java/lang/String" ∧ Fld Z h a1 "java/lang/String" "coder" "B" (.int 0) ∧ Fld Z h a1 "java/lang/String" "value" "[B" (.ref b1) ∧ Ar Z h b1 kc2 .byte [.int (cB8 i1)] ∧ Exa Z h b1 "[B") ∨ (∃ (b8 : Addr) (kc9 : ClassId), v = none ∧ ((255 : Int32) < i1) ∧ Keep h0 h [a1] ∧ h0.size ≤ b8 ∧ Exa Z h a1 "java/lang/String" ∧ Fld Z h a1 "java/lang/String" "coder" "B" (.int 1) ∧ Fld Z h a1 "java/lang/String" "value" "[B" (.ref b8) ∧ Ar Z h b8 kc9 .byte [.int (cL8 i1), .int (cH8 i1)] ∧ Exa Z h b8 "[B")
def R_init_8 : Room := { frames := 4, cells := 2, slots := 3, locals := 57 }
theorem rm_init_8 {w : Bool} {Z : State} {a0 : Array Value} (hw : HW a0 Z) (Ts : List String) (a1 : Addr) (a2 : Addr) (i1 : Int32) (c1 : ClassId) (cs : Int32) (h0 : Heap) (f : Nat) (Zf : Z.heap.size ≤ f) (Z0 : f ≤ h0.size) (A_a2 : Ar Z h0 a2 c1 .char [.int i1]) (E_a1 : Exa Z h0 a1 "java/lang/String") (F_coder_a1 : Fld Z h0 a1 "java/lang/String" "coder" "B" (.int 0)) (g_a1 : f ≤ a1) (F_value_a1 : Fld Z h0 a1 "java/lang/String" "value" "[B" .null) (r_i1 : 0 ≤ i1.toInt ∧ i1.toInt ≤ 65535) (S_cs : G_S_cs Z cs) (S__assertionsDisabled : G_S__assertionsDisabled Z) (S_HI_BYTE_SHIFT : G_S_HI_BYTE_SHIFT Z) (S_LO_BYTE_SHIFT : G_S_LO_BYTE_SHIFT Z) (hcs : ¬ cs = 0) :
  Con w [] Z mn1 jdk_42_method_149_code 6 none R_init_8 Ts Ts f #[.ref a1, .ref a2, .int 0, .int 1, .null] h0 (Q_init_8 Z a1 i1 h0) := by
 refine con_of f #[vR a1, vR a2, vI 0, vI 1, .val .null, .unset] (plainFor_of_name pn_1) (fun m => rfl) Zf ?_
 intro C H hX0
 refine r_aloadN H 1 d_j42_149_0 ?_
 refine r_initO (W := 0) H 4 d_j42_149_1 (tw15 hw) (tw16 hw) (tw17 hw) ?_
 refine r_iloadN H 5 d_j42_149_4 ?_
 refine r_ifneT H 27 d_j42_149_5 (by decide) (by decide) (by decide) ?_
 refine r_gets H 30 d_j42_149_27 (tw40 hw) S_cs ?_
 refine r_ifeqF H 33 d_j42_149_30 rfl hcs ?_
 refine r_aloadN H 34 d_j42_149_33 ?_
 refine r_iloadN H 35 d_j42_149_34 ?_
 refine r_iloadN H 36 d_j42_149_35 ?_
 refine r_static (argsL := [.ref a2, .int 0, .int 1]) (rest := []) (W := 0) H 39 d_j42_149_36 (tw41 hw) (tw42 hw) (tw43 hw) (tw44 hw) (lenOf pd_10 rfl) (rm_compress_9 hw Ts a2 i1 c1 h0 f Zf Z0 A_a2 r_i1 S__assertionsDisabled S_HI_BYTE_SHIFT S_LO_BYTE_SHIFT) ?_
 rintro _ hh15 (⟨b1, kc2, rfl, c4, K3, g5, q6, q7⟩ | ⟨b8, kc9, rfl, c11, K10, g12, q13, q14⟩)
 ·
  refine r_astore H 41 #[vR a1, vR a2, vI 0, vI 1, .val .null, vR b1] d_j42_149_39 ?_
  refine r_aloadN H 42 d_j42_149_41 ?_
  refine r_aload H 44 d_j42_149_42 ?_
  refine r_iloadN H 45 d_j42_149_44 ?_
  refine r_static (argsL := [.ref b1, .int 1]) (rest := [.ref a1]) (W := 1) H 48 d_j42_149_45 (tw48 hw) (tw49 hw) (tw43 hw) (tw50 hw) (lenOf pd_12 rfl) (rm_coderFromArrayLen_16 hw Ts b1 i1 kc2 hh15 f Zf (nlt Z0 K3.1) q6) ?_
  rintro _ _ ⟨rfl, rfl⟩
  have q18 := (E_a1.keep K3)
  have q19 := (F_coder_a1.keep K3 nin0)
  refine r_putn (v' := (.int 0)) (ty := .byte) H 51 d_j42_149_48 (tw25 hw) q19 q18 (Or.inr ⟨(tw21 hw), rfl, rfl⟩) (tw6 hw) g_a1 ?_
  intro h20 W20 K20 E20 F20
  refine r_aloadN H 52 d_j42_149_51 ?_
  refine r_aload H 54 d_j42_149_52 ?_
  have q21 := ((F_value_a1.keep K3 nin0).other W20 (Or.inr (slot_ne (Or.inr (tw20 hw)) (Or.inr (tw21 hw)) (by decide) (t := (.array .byte)) (t' := .byte) (by decide) (by decide))))
  refine r_putf (ty := (.array .byte)) H 57 d_j42_149_54 (tw24 hw) q21 E20 (Or.inr ⟨(tw20 hw), rfl, rfl⟩) (tw6 hw) g_a1 ?_
  intro h22 W22 K22 E22 F22
  have k23 : Keep h0 hh15 [a1] := Keep.trans (Keep.refl h0 [a1]) K3 all0
  have k24 : Keep h0 h20 [a1] := Keep.trans k23 K20 (allS (Or.inl (List.mem_of_getElem? (i := 0) rfl)) all0)
  have k25 : Keep h0 h22 [a1] := Keep.trans k24 K22 (allS (Or.inl (List.mem_of_getElem? (i := 0) rfl)) all0)
  have q26 := (F20.other W22 (Or.inr (slot_ne (Or.inr (tw21 hw)) (Or.inr (tw20 hw)) (by decide) (t := .byte) (t' := (.array .byte)) (by decide) (by decide))))
  have q27 := ((q6.keep K20 (ninS (Ne.symm (Nat.ne_of_lt (Nat.lt_of_lt_of_le E_a1.lt (nlt nlr g5)))) nin0)).keep K22 (ninS (Ne.symm (Nat.ne_of_lt (Nat.lt_of_lt_of_le E_a1.lt (nlt nlr g5)))) nin0))
  have q28 := ((q7.keep K20).keep K22)
  exact r_return H d_j42_149_57 (Or.inl ⟨b1, kc2, rfl, c4, k25, (nlt nlr g5), E22, q26, F22, q27, q28⟩)
 ·
  refine r_astore H 41 #[vR a1, vR a2, vI 0, vI 1, .val .null, vR b8] d_j42_149_39 ?_
  refine r_aloadN H 42 d_j42_149_41 ?_
  refine r_aload H 44 d_j42_149_42 ?_
  refine r_iloadN H 45 d_j42_149_44 ?_
  refine r_static (argsL := [.ref b8, .int 1]) (rest := [.ref a1]) (W := 1) H 48 d_j42_149_45 (tw48 hw) (tw49 hw) (tw43 hw) (tw50 hw) (lenOf pd_12 rfl) (rm_coderFromArrayLen_17 hw Ts b8 i1 kc9 hh15 f Zf (nlt Z0 K10.1) q13) ?_
  rintro _ _ ⟨rfl, rfl⟩
  have q31 := (E_a1.keep K10)
  have q32 := (F_coder_a1.keep K10 nin0)
  refine r_putn (v' := (.int 1)) (ty := .byte) H 51 d_j42_149_48 (tw25 hw) q32 q31 (Or.inr ⟨(tw21 hw), rfl, rfl⟩) (tw6 hw) g_a1 ?_
  intro h33 W33 K33 E33 F33
  refine r_aloadN H 52 d_j42_149_51 ?_
  refine r_aload H 54 d_j42_149_52 ?_
  have q34 := ((F_value_a1.keep K10 nin0).other W33 (Or.inr (slot_ne (Or.inr (tw20 hw)) (Or.inr (tw21 hw)) (by decide) (t := (.array .byte)) (t' := .byte) (by decide) (by decide))))
  refine r_putf (ty := (.array .byte)) H 57 d_j42_149_54 (tw24 hw) q34 E33 (Or.inr ⟨(tw20 hw), rfl, rfl⟩) (tw6 hw) g_a1 ?_
  intro h35 W35 K35 E35 F35
  have k36 : Keep h0 hh15 [a1] := Keep.trans (Keep.refl h0 [a1]) K10 all0
  have k37 : Keep h0 h33 [a1] := Keep.trans k36 K33 (allS (Or.inl (List.mem_of_getElem? (i := 0) rfl)) all0)
  have k38 : Keep h0 h35 [a1] := Keep.trans k37 K35 (allS (Or.inl (List.mem_of_getElem? (i := 0) rfl)) all0)
  have q39 := (F33.other W35 (Or.inr (slot_ne (Or.inr (tw21 hw)) (Or.inr (tw20 hw)) (by decide) (t := .byte) (t' := (.array .byte)) (by decide) (by decide))))
  have q40 := ((q13.keep K33 (ninS (Ne.symm (Nat.ne_of_lt (Nat.lt_of_lt_of_le E_a1.lt (nlt nlr g12)))) nin0)).keep K35 (ninS (Ne.symm (Nat.ne_of_lt (Nat.lt_of_lt_of_le E_a1.lt (nlt nlr g12)))) nin0))
  have q41 := ((q14.keep K33).keep K35)
  exact r_return H d_j42_149_57 (Or.inr (⟨b8, kc9, rfl, c11, k38, (nlt nlr g12), E35, q39, F35, q40, q41⟩))
def Q_init_7 (Z : State) (a1 : Addr) (i1 : Int32) (h0 : Heap) (v : Option Value) (h : Heap) : Prop := (∃ (b1 : Addr) (kc2 : ClassId), v = none ∧ (¬ (255 : Int32) < i1) ∧ Keep h0 h [a1] ∧ h0.size ≤ b1 ∧ Exa Z h a1 "java/lang/String" ∧ Fld Z h a1 "java/lang/String" "coder" "B" (.int 0) ∧ Fld Z h a1 "java/lang/String" "value" "[B" (.ref b1) ∧ Ar Z h b1 kc2 .byte [.int (cB8 i1)] ∧ Exa Z h b1 "[B") ∨ (∃ (b11 : Addr) (kc12 : ClassId), v = none ∧ ((255 : Int32) < i1) ∧ Keep h0 h [a1] ∧ h0.size ≤ b11 ∧ Exa Z h a1 "java/lang/String" ∧ Fld Z h a1 "java/lang/String" "coder" "B" (.int 1) ∧ Fld Z h a1 "java/lang/String" "value" "[B" (.ref b11) ∧ Ar Z h b11 kc12 .byte [.int (cL8 i1), .int (cH8 i1)] ∧ Exa Z h b11 "[B")
def R_init_7 : Room := { frames := 5, cells := 2, slots := 3, locals := 74 }
theorem rm_init_7 {w : Bool} {Z : State} {a0 : Array Value} (hw : HW a0 Z) (Ts : List String) (a1 : Addr) (a2 : Addr) (i1 : Int32) (c1 : ClassId) (cs : Int32) (h0 : Heap) (f : Nat) (Zf : Z.heap.size ≤ f) (Z0 : f ≤ h0.size) (A_a2 : Ar Z h0 a2 c1 .char [.int i1]) (g_a1 : f ≤ a1) (E_a1 : Exa Z h0 a1 "java/lang/String") (F_coder_a1 : Fld Z h0 a1 "java/lang/String" "coder" "B" (.int 0)) (F_value_a1 : Fld Z h0 a1 "java/lang/String" "value" "[B" .null) (r_i1 : 0 ≤ i1.toInt ∧ i1.toInt ≤ 65535) (S_cs : G_S_cs Z cs) (S__assertionsDisabled : G_S__assertionsDisabled Z) (S_HI_BYTE_SHIFT : G_S_HI_BYTE_SHIFT Z) (S_LO_BYTE_SHIFT : G_S_LO_BYTE_SHIFT Z) (hcs : ¬ cs = 0) :
  Con w [] Z mn2 jdk_42_method_3_code 2 none R_init_7 Ts Ts f #[.ref a1, .ref a2] h0 (Q_init_7 Z a1 i1 h0) := by
 refine con_of f #[vR a1, vR a2] (plainFor_of_name pn_1) (fun m => rfl) Zf ?_
 intro C H hX0
 refine r_aloadN H 1 d_j42_3_0 ?_
 refine r_aloadN H 2 d_j42_3_1 ?_
 refine r_iconst H 3 0 d_j42_3_2 ?_
 refine r_aloadN H 4 d_j42_3_3 ?_
 refine r_alen H 5 1 d_j42_3_4 A_a2 ?_
 refine r_null H 6 d_j42_3_5 ?_
 refine r_special (a := a1) (argsL := [.ref a2, .int 0, .int 1, .null]) (rest := []) (W := 0) H 9 d_j42_3_6 (tw11 hw) (tw12 hw) (tw7 hw) (tw14 hw) (lenOf pd_1 rfl) (rm_init_8 hw Ts a1 a2 i1 c1 cs h0 f Zf Z0 A_a2 E_a1 F_coder_a1 g_a1 F_value_a1 r_i1 S_cs S__assertionsDisabled S_HI_BYTE_SHIFT S_LO_BYTE_SHIFT hcs) ?_
 rintro _ hh21 (⟨b1, kc2, rfl, c4, K3, g5, q6, q7, q8, q9, q10⟩ | ⟨b11, kc12, rfl, c14, K13, g15, q16, q17, q18, q19, q20⟩)
 ·
  have k23 : Keep h0 hh21 [a1] := Keep.trans (Keep.refl h0 [a1]) K3 (allS (Or.inl (List.mem_of_getElem? (i := 0) rfl)) all0)
  exact r_return H d_j42_3_9 (Or.inl ⟨b1, kc2, rfl, c4, k23, (nlt nlr g5), q6, q7, q8, q9, q10⟩)
 ·
  have k25 : Keep h0 hh21 [a1] := Keep.trans (Keep.refl h0 [a1]) K13 (allS (Or.inl (List.mem_of_getElem? (i := 0) rfl)) all0)
  exact r_return H d_j42_3_9 (Or.inr (⟨b11, kc12, rfl, c14, k25, (nlt nlr g15), q16, q17, q18, q19, q20⟩))
def Q_length_19 (Z : State) (n1 : Int32) (h0 : Heap) (v : Option Value) (h : Heap) : Prop := ∃ (z : Int32), v = some (.int z) ∧ (n1 >>> ((0 : Int32) &&& 31)) = z ∧ h0 = h
def R_length_19 : Room := { frames := 1, cells := 0, slots := 0, locals := 13 }
theorem rm_length_19 {w : Bool} {Z : State} {a0 : Array Value} (hw : HW a0 Z) (Ts : List String) (a1 : Addr) (a2 : Addr) (c1 : ClassId) (vs1 : List Value) (n1 : Int32) (cs : Int32) (h0 : Heap) (f : Nat) (Zf : Z.heap.size ≤ f) (Z0 : f ≤ h0.size) (F_value_a1 : Fld Z h0 a1 "java/lang/String" "value" "[B" (.ref a2)) (A_a2 : Ar Z h0 a2 c1 .byte vs1) (E_a1 : Exa Z h0 a1 "java/lang/String") (F_coder_a1 : Fld Z h0 a1 "java/lang/String" "coder" "B" (.int 0)) (ln_vs1 : vs1.length.toInt32 = n1) (S_cs : G_S_cs Z cs) (hcs : ¬ cs = 0) :
  Con w [] Z mn4 jdk_42_method_54_code 1 (some .int) R_length_19 Ts Ts f #[.ref a1] h0 (Q_length_19 Z n1 h0) := by
 refine con_of f #[vR a1] (plainFor_of_name pn_1) (fun m => rfl) Zf ?_
 intro C H hX0
 refine r_aloadN H 1 d_j42_54_0 ?_
 refine r_getf H 4 d_j42_54_1 (tw24 hw) F_value_a1 ?_
 refine r_alen (hz := ln_vs1) H 5 n1 d_j42_54_4 A_a2 ?_
 refine r_aloadN H 6 d_j42_54_5 ?_
 refine r_virtual (z := mn3) (a := a1) (argsL := []) (rest := [.int n1]) (W := 1) H 9 d_j42_54_6 (tw35 hw) (tw36 hw) (nf_sel (tw38 hw)) (tw38 hw) (tw37 hw) (tw7 hw) (tw39 hw) E_a1 (lenOf pd_3 rfl) (rm_coder_6 hw Ts a1 cs h0 f Zf Z0 F_coder_a1 S_cs hcs) ?_
 rintro _ _ ⟨rfl, rfl⟩
 refine r_ishr H 10 (n1 >>> ((0 : Int32) &&& 31)) d_j42_54_9 rfl ?_
 exact r_ireturn H d_j42_54_10 (⟨_, rfl, rfl, rfl⟩)
def Q_isLatin1_21 (Z : State) (h0 : Heap) (v : Option Value) (h : Heap) : Prop := v = some (.int 1) ∧ h0 = h
def R_isLatin1_21 : Room := { frames := 0, cells := 0, slots := 0, locals := 0 }
theorem rm_isLatin1_21 {w : Bool} {Z : State} {a0 : Array Value} (hw : HW a0 Z) (Ts : List String) (a1 : Addr) (cs : Int32) (h0 : Heap) (f : Nat) (Zf : Z.heap.size ≤ f) (Z0 : f ≤ h0.size) (F_coder_a1 : Fld Z h0 a1 "java/lang/String" "coder" "B" (.int 0)) (S_cs : G_S_cs Z cs) (hcs : ¬ cs = 0) :
  Con w [] Z mn14 jdk_42_method_154_code 1 (some .boolean) R_isLatin1_21 Ts Ts f #[.ref a1] h0 (Q_isLatin1_21 Z h0) := by
 refine con_of f #[vR a1] (plainFor_of_name pn_1) (fun m => rfl) Zf ?_
 intro C H hX0
 refine r_gets H 3 d_j42_154_0 (tw40 hw) S_cs ?_
 refine r_ifeqF H 6 d_j42_154_3 rfl hcs ?_
 refine r_aloadN H 7 d_j42_154_6 ?_
 refine r_getf H 10 d_j42_154_7 (tw25 hw) F_coder_a1 ?_
 refine r_ifneF H 13 d_j42_154_10 rfl (by decide) ?_
 refine r_iconst H 14 1 d_j42_154_13 ?_
 refine r_goto H 18 d_j42_154_14 ?_
 exact r_nreturn (1 : Int32) H d_j42_154_18 (by decide) (⟨rfl, rfl⟩)
def Q_checkIndex_24 (Z : State) (i1 : Int32) (h0 : Heap) (v : Option Value) (h : Heap) : Prop := v = some (.int i1) ∧ h0 = h
def R_checkIndex_24 : Room := { frames := 0, cells := 0, slots := 0, locals := 0 }
theorem rm_checkIndex_24 {w : Bool} {Z : State} {a0 : Array Value} (hw : HW a0 Z) (Ts : List String) (i1 : Int32) (i2 : Int32) (sio : Value) (h0 : Heap) (f : Nat) (Zf : Z.heap.size ≤ f) (Z0 : f ≤ h0.size) (pc0 : ¬ i1 < (0 : Int32)) (pc1 : i1 < i2) (hsio : G_hsio Z sio) :
  Con w [] Z mn15 jdk_41_method_11_code 3 (some .int) R_checkIndex_24 Ts Ts f #[.int i1, .int i2, sio] h0 (Q_checkIndex_24 Z i1 h0) := by
 refine con_of f #[vI i1, vI i2, .val sio] (plainFor_of_name pn_4) (fun m => by rcases hsio with hh | ⟨_, hh⟩ <;> subst hh <;> rfl) Zf ?_
 intro C H hX0
 refine r_iloadN H 1 d_j41_11_0 ?_
 refine r_ifltF H 4 d_j41_11_1 pc0 ?_
 refine r_iloadN H 5 d_j41_11_4 ?_
 refine r_iloadN H 6 d_j41_11_5 ?_
 refine r_icmpltT (c := pc1) H 16 d_j41_11_6 ?_
 refine r_iloadN H 17 d_j41_11_16 ?_
 exact r_ireturn H d_j41_11_17 (⟨rfl, rfl⟩)
def Q_checkIndex_23 (Z : State) (h0 : Heap) (v : Option Value) (h : Heap) : Prop := v = none ∧ h0 = h
def R_checkIndex_23 : Room := { frames := 1, cells := 0, slots := 0, locals := 14 }
theorem rm_checkIndex_23 {w : Bool} {Z : State} {a0 : Array Value} (hw : HW a0 Z) (Ts : List String) (i1 : Int32) (i2 : Int32) (sio : Value) (h0 : Heap) (f : Nat) (Zf : Z.heap.size ≤ f) (Z0 : f ≤ h0.size) (pc0 : ¬ i1 < (0 : Int32)) (pc1 : i1 < i2) (S_sio : G_S_sio Z sio) (hsio : G_hsio Z sio) :
  Con w [] Z mn16 jdk_42_method_155_code 2 none R_checkIndex_23 Ts Ts f #[.int i1, .int i2] h0 (Q_checkIndex_23 Z h0) := by
 refine con_of f #[vI i1, vI i2] (plainFor_of_name pn_1) (fun m => rfl) Zf ?_
 intro C H hX0
 refine r_iloadN H 1 d_j42_155_0 ?_
 refine r_iloadN H 2 d_j42_155_1 ?_
 refine r_gets H 5 d_j42_155_2 (tw68 hw) S_sio ?_
 refine r_static (argsL := [.int i1, .int i2, sio]) (rest := []) (W := 0) H 8 d_j42_155_5 (tw70 hw) (tw71 hw) (tw69 hw) (tw72 hw) (lenOf pd_14 rfl) (rm_checkIndex_24 hw Ts i1 i2 sio h0 f Zf Z0 pc0 pc1 hsio) ?_
 rintro _ _ ⟨rfl, rfl⟩
 refine r_pop H 9 d_j42_155_8 ?_
 exact r_return H d_j42_155_9 (⟨rfl, rfl⟩)
def Q_charAt_22 (Z : State) (y1 : Int32) (h0 : Heap) (v : Option Value) (h : Heap) : Prop := ∃ (z : Int32), v = some (.int z) ∧ (y1 &&& (255 : Int32)) = z ∧ (0 ≤ z.toInt ∧ z.toInt ≤ 255) ∧ h0 = h
def R_charAt_22 : Room := { frames := 2, cells := 0, slots := 0, locals := 27 }
theorem rm_charAt_22 {w : Bool} {Z : State} {a0 : Array Value} (hw : HW a0 Z) (Ts : List String) (a1 : Addr) (i1 : Int32) (c1 : ClassId) (vs1 : List Value) (n1 : Int32) (y1 : Int32) (sio : Value) (h0 : Heap) (f : Nat) (Zf : Z.heap.size ≤ f) (Z0 : f ≤ h0.size) (A_a1 : Ar Z h0 a1 c1 .byte vs1) (ln_vs1 : vs1.length.toInt32 = n1) (pc0 : ¬ i1 < (0 : Int32)) (pc1 : i1 < n1) (el_y1 : vs1[(i1).toNatClampNeg]? = some (.int y1)) (pc2 : ¬ i1 < 0) (S_sio : G_S_sio Z sio) (hsio : G_hsio Z sio) :
  Con w [] Z mn17 jdk_43_method_2_code 2 (some .char) R_charAt_22 Ts Ts f #[.ref a1, .int i1] h0 (Q_charAt_22 Z y1 h0) := by
 refine con_of f #[vR a1, vI i1] (plainFor_of_name pn_5) (fun m => rfl) Zf ?_
 intro C H hX0
 refine r_iloadN H 1 d_j43_2_0 ?_
 refine r_aloadN H 2 d_j43_2_1 ?_
 refine r_alen (hz := ln_vs1) H 3 n1 d_j43_2_2 A_a1 ?_
 refine r_static (argsL := [.int i1, .int n1]) (rest := []) (W := 0) H 6 d_j43_2_3 (tw65 hw) (tw66 hw) (tw7 hw) (tw67 hw) (lenOf pd_15 rfl) (rm_checkIndex_23 hw Ts i1 n1 sio h0 f Zf Z0 pc0 pc1 S_sio hsio) ?_
 rintro _ _ ⟨rfl, rfl⟩
 refine r_aloadN H 7 d_j43_2_6 ?_
 refine r_iloadN H 8 d_j43_2_7 ?_
 refine r_baload H 9 y1 d_j43_2_8 A_a1 pc2 el_y1 ?_
 refine r_sipush H 12 255 d_j43_2_9 ?_
 obtain ⟨p2, ep2, rp2⟩ : ∃ p : Int32, (y1 &&& (255 : Int32)) = p ∧ 0 ≤ p.toInt ∧ p.toInt ≤ 255 := ⟨_, rfl, (by have h := c_and y1 (255 : Int32) (by decide); have : (255 : Int32).toInt = 255 := (by decide); omega)⟩
 refine r_iand H 13 p2 d_j43_2_12 ep2 ?_
 refine r_i2c H 14 p2 d_j43_2_13 (i2c_id (by have := rp2; omega)) ?_
 subst ep2
 exact r_nreturn (y1 &&& (255 : Int32)) H d_j43_2_14 (nar_char_id (by have := rp2; omega)) (⟨_, rfl, rfl, (by have := rp2; omega), rfl⟩)
def Q_charAt_20 (Z : State) (y1 : Int32) (h0 : Heap) (v : Option Value) (h : Heap) : Prop := ∃ (z : Int32), v = some (.int z) ∧ (y1 &&& (255 : Int32)) = z ∧ (0 ≤ z.toInt ∧ z.toInt ≤ 255) ∧ h0 = h
def R_charAt_20 : Room := { frames := 3, cells := 0, slots := 0, locals := 40 }
theorem rm_charAt_20 {w : Bool} {Z : State} {a0 : Array Value} (hw : HW a0 Z) (Ts : List String) (a1 : Addr) (i1 : Int32) (a2 : Addr) (c1 : ClassId) (vs1 : List Value) (n1 : Int32) (y1 : Int32) (cs : Int32) (sio : Value) (h0 : Heap) (f : Nat) (Zf : Z.heap.size ≤ f) (Z0 : f ≤ h0.size) (E_a1 : Exa Z h0 a1 "java/lang/String") (F_coder_a1 : Fld Z h0 a1 "java/lang/String" "coder" "B" (.int 0)) (F_value_a1 : Fld Z h0 a1 "java/lang/String" "value" "[B" (.ref a2)) (A_a2 : Ar Z h0 a2 c1 .byte vs1) (el_y1 : vs1[(i1).toNatClampNeg]? = some (.int y1)) (ln_vs1 : vs1.length.toInt32 = n1) (pc0 : ¬ i1 < (0 : Int32)) (pc1 : i1 < n1) (pc2 : ¬ i1 < 0) (S_cs : G_S_cs Z cs) (S_sio : G_S_sio Z sio) (hsio : G_hsio Z sio) (hcs : ¬ cs = 0) :
  Con w [] Z mn18 jdk_42_method_56_code 2 (some .char) R_charAt_20 Ts Ts f #[.ref a1, .int i1] h0 (Q_charAt_20 Z y1 h0) := by
 refine con_of f #[vR a1, vI i1] (plainFor_of_name pn_1) (fun m => rfl) Zf ?_
 intro C H hX0
 refine r_aloadN H 1 d_j42_56_0 ?_
 refine r_virtual (z := mn14) (a := a1) (argsL := []) (rest := []) (W := 0) H 4 d_j42_56_1 (tw56 hw) (tw57 hw) (nf_sel (tw59 hw)) (tw59 hw) (tw58 hw) (tw7 hw) (tw60 hw) E_a1 (lenOf pd_13 rfl) (rm_isLatin1_21 hw Ts a1 cs h0 f Zf Z0 F_coder_a1 S_cs hcs) ?_
 rintro _ _ ⟨rfl, rfl⟩
 refine r_ifeqF H 7 d_j42_56_4 rfl (by decide) ?_
 refine r_aloadN H 8 d_j42_56_7 ?_
 refine r_getf H 11 d_j42_56_8 (tw24 hw) F_value_a1 ?_
 refine r_iloadN H 12 d_j42_56_11 ?_
 refine r_static (argsL := [.ref a2, .int i1]) (rest := []) (W := 0) H 15 d_j42_56_12 (tw61 hw) (tw62 hw) (tw63 hw) (tw64 hw) (lenOf pd_11 rfl) (rm_charAt_22 hw Ts a2 i1 c1 _ n1 y1 sio h0 f Zf Z0 A_a2 ln_vs1 pc0 pc1 el_y1 pc2 S_sio hsio) ?_
 rintro _ _ ⟨p2, rfl, rfl, rp2, rfl⟩
 exact r_nreturn (y1 &&& (255 : Int32)) H d_j42_56_15 (nar_char_id (by have := rp2; omega)) (⟨_, rfl, rfl, (by have := rp2; omega), rfl⟩)
def Q_readAlikeByEitherSetting_18 (Z : State) (h0 : Heap) (v : Option Value) (h : Heap) : Prop := v = some (.int 1) ∧ h0 = h
def R_readAlikeByEitherSetting_18 : Room := { frames := 4, cells := 0, slots := 0, locals := 53 }
theorem rm_readAlikeByEitherSetting_18 {w : Bool} {Z : State} {a0 : Array Value} (hw : HW a0 Z) (Ts : List String) (a1 : Addr) (a2 : Addr) (i1 : Int32) (c1 : ClassId) (cs : Int32) (sio : Value) (h0 : Heap) (f : Nat) (Zf : Z.heap.size ≤ f) (Z0 : f ≤ h0.size) (E_a1 : Exa Z h0 a1 "java/lang/String") (F_value_a1 : Fld Z h0 a1 "java/lang/String" "value" "[B" (.ref a2)) (A_a2 : Ar Z h0 a2 c1 .byte [.int (cB8 i1)]) (F_coder_a1 : Fld Z h0 a1 "java/lang/String" "coder" "B" (.int 0)) (r_i1 : 0 ≤ i1.toInt ∧ i1.toInt ≤ 255) (S_cs : G_S_cs Z cs) (S_sio : G_S_sio Z sio) (hsio : G_hsio Z sio) (hcs : ¬ cs = 0) :
  Con w [] Z mn5 prog_52_method_4_code 5 (some .boolean) R_readAlikeByEitherSetting_18 Ts Ts f #[.ref a1] h0 (Q_readAlikeByEitherSetting_18 Z h0) := by
 refine con_of f #[vR a1, .unset, .unset, .unset, .unset] (plainFor_of_name pn_2) (fun m => rfl) Zf ?_
 intro C H hX0
 refine r_iconst H 1 1 d_g52_4_0 ?_
 refine r_istoreN H 2 #[vR a1, vI 1, .unset, .unset, .unset] d_g52_4_1 ?_
 refine r_iconst H 3 0 d_g52_4_2 ?_
 refine r_istoreN H 4 #[vR a1, vI 1, vI 0, .unset, .unset] d_g52_4_3 ?_
 refine r_iconst H 5 0 d_g52_4_4 ?_
 refine r_istoreN H 6 #[vR a1, vI 1, vI 0, vI 0, .unset] d_g52_4_5 ?_
 refine r_iloadN H 7 d_g52_4_6 ?_
 refine r_ifeqF H 10 d_g52_4_7 rfl (by decide) ?_
 refine r_iloadN H 11 d_g52_4_10 ?_
 refine r_aloadN H 12 d_g52_4_11 ?_
 refine r_virtual (z := mn4) (a := a1) (argsL := []) (rest := [.int 0]) (W := 1) H 15 d_g52_4_12 (tw30 hw) (tw31 hw) (nf_sel (tw33 hw)) (tw33 hw) (tw32 hw) (tw7 hw) (tw34 hw) E_a1 (lenOf pd_4 rfl) (rm_length_19 hw Ts a1 a2 c1 _ (1 : Int32) cs h0 f Zf Z0 F_value_a1 A_a2 E_a1 F_coder_a1 rfl S_cs hcs) ?_
 rintro _ _ ⟨p1, rfl, ep1, rfl⟩
 have hzp1 : (1 : Int32) = p1 := by rw [← ep1]; decide
 subst hzp1
 refine r_icmpgeF H 18 d_g52_4_15 ?_
 refine r_aloadN H 19 d_g52_4_18 ?_
 refine r_iloadN H 20 d_g52_4_19 ?_
 refine r_virtual (z := mn18) (a := a1) (argsL := [.int 0]) (rest := []) (W := 0) H 23 d_g52_4_20 (tw51 hw) (tw52 hw) (nf_sel (tw54 hw)) (tw54 hw) (tw53 hw) (tw7 hw) (tw55 hw) E_a1 (lenOf pd_16 rfl) (rm_charAt_20 hw Ts a1 (0 : Int32) a2 c1 _ (1 : Int32) (cB8 i1) cs sio h0 f Zf Z0 E_a1 F_coder_a1 F_value_a1 A_a2 rfl rfl (by decide) (by decide) (by decide) S_cs S_sio hsio hcs) ?_
 rintro _ _ ⟨p3, rfl, ep3, rp3, rfl⟩
 have hzp3 : i1 = p3 := by rw [← ep3]; exact (own_l8 i1 (by have := r_i1; omega)).symm
 subst hzp3
 refine r_istore H 25 #[vR a1, vI 1, vI 0, vI 0, vI i1] d_g52_4_23 ?_
 refine r_iload H 27 d_g52_4_25 ?_
 refine r_bipush H 29 39 d_g52_4_27 ?_
 refine Run.join (P := fun _ => True) (pcB := 43) (LB := fun _ => #[vR a1, vI 1, vI 0, vI 0, vI i1]) (SB := fun _ => [.int 1]) (fun key => ?_) ?_
 ·
  refine r_icmpne H 38 32 d_g52_4_29 (fun c5 => ?_) (fun c5 => ?_)
  ·
   refine r_iconst H 39 1 d_g52_4_38 ?_
   refine r_goto H 43 d_g52_4_39 ?_
   exact key 0 trivial
  ·
   refine r_iloadN H 33 d_g52_4_32 ?_
   refine r_iconst H 34 2 d_g52_4_33 ?_
   refine r_irem H 35 (0 : Int32) d_g52_4_34 (by decide) ?_
   refine r_ifneF H 38 d_g52_4_35 rfl (by decide) ?_
   refine r_iconst H 39 1 d_g52_4_38 ?_
   refine r_goto H 43 d_g52_4_39 ?_
   exact key 0 trivial
 rintro _ _
 refine r_istoreN H 44 #[vR a1, vI 1, vI 0, vI 0, vI i1] d_g52_4_43 ?_
 refine r_iload H 46 d_g52_4_44 ?_
 refine r_bipush H 48 92 d_g52_4_46 ?_
 refine Run.join (P := fun z => (if i1 = (92 : Int32) then (1 : Int32) else (0 : Int32)) = z ∧ (0 ≤ z.toInt ∧ z.toInt ≤ 1)) (pcB := 58) (LB := fun z => #[vR a1, vI 1, vI 0, vI 0, vI i1]) (SB := fun z => [.int z]) (fun key => ?_) ?_
 ·
  refine r_icmpne H 57 51 d_g52_4_48 (fun c7 => ?_) (fun c7 => ?_)
  ·
   refine r_iconst H 58 0 d_g52_4_57 ?_
   exact key (0 : Int32) ⟨(by rw [if_neg c7]), (by decide)⟩
  ·
   refine r_iloadN H 52 d_g52_4_51 ?_
   refine r_iconst H 53 1 d_g52_4_52 ?_
   refine r_iadd H 54 1 d_g52_4_53 (by decide) ?_
   refine r_goto H 58 d_g52_4_54 ?_
   exact key (1 : Int32) ⟨(by rw [if_pos c7]), (by decide)⟩
 rintro p9 ⟨ep9, rp9⟩
 refine r_istoreN H 59 #[vR a1, vI 1, vI p9, vI 0, vI i1] d_g52_4_58 ?_
 refine r_iinc H 62 #[vR a1, vI 1, vI p9, vI 1, vI i1] 1 d_g52_4_59 ?_
 refine r_goto H 6 d_g52_4_62 ?_
 refine r_iloadN H 7 d_g52_4_6 ?_
 refine r_ifeqF H 10 d_g52_4_7 rfl (by decide) ?_
 refine r_iloadN H 11 d_g52_4_10 ?_
 refine r_aloadN H 12 d_g52_4_11 ?_
 refine r_virtual (z := mn4) (a := a1) (argsL := []) (rest := [.int 1]) (W := 1) H 15 d_g52_4_12 (tw30 hw) (tw31 hw) (nf_sel (tw33 hw)) (tw33 hw) (tw32 hw) (tw7 hw) (tw34 hw) E_a1 (lenOf pd_4 rfl) (rm_length_19 hw Ts a1 a2 c1 _ (1 : Int32) cs h0 f Zf Z0 F_value_a1 A_a2 E_a1 F_coder_a1 rfl S_cs hcs) ?_
 rintro _ _ ⟨p10, rfl, ep10, rfl⟩
 have hzp10 : (1 : Int32) = p10 := by rw [← ep10]; decide
 subst hzp10
 refine r_icmpgeT H 65 d_g52_4_15 ?_
 refine r_iloadN H 66 d_g52_4_65 ?_
 subst ep9
 exact r_nreturn (1 : Int32) H d_g52_4_66 (by decide) (⟨rfl, rfl⟩)
def Q_coder_27 (Z : State) (h0 : Heap) (v : Option Value) (h : Heap) : Prop := v = some (.int 1) ∧ h0 = h
def R_coder_27 : Room := { frames := 0, cells := 0, slots := 0, locals := 0 }
theorem rm_coder_27 {w : Bool} {Z : State} {a0 : Array Value} (hw : HW a0 Z) (Ts : List String) (a1 : Addr) (cs : Int32) (h0 : Heap) (f : Nat) (Zf : Z.heap.size ≤ f) (Z0 : f ≤ h0.size) (F_coder_a1 : Fld Z h0 a1 "java/lang/String" "coder" "B" (.int 1)) (S_cs : G_S_cs Z cs) (hcs : ¬ cs = 0) :
  Con w [] Z mn3 jdk_42_method_152_code 1 (some .byte) R_coder_27 Ts Ts f #[.ref a1] h0 (Q_coder_27 Z h0) := by
 refine con_of f #[vR a1] (plainFor_of_name pn_1) (fun m => rfl) Zf ?_
 intro C H hX0
 refine r_gets H 3 d_j42_152_0 (tw40 hw) S_cs ?_
 refine r_ifeqF H 6 d_j42_152_3 rfl hcs ?_
 refine r_aloadN H 7 d_j42_152_6 ?_
 refine r_getf H 10 d_j42_152_7 (tw25 hw) F_coder_a1 ?_
 refine r_goto H 14 d_j42_152_10 ?_
 exact r_nreturn (1 : Int32) H d_j42_152_14 (by decide) (⟨rfl, rfl⟩)
def Q_length_26 (Z : State) (n1 : Int32) (h0 : Heap) (v : Option Value) (h : Heap) : Prop := ∃ (z : Int32), v = some (.int z) ∧ (n1 >>> ((1 : Int32) &&& 31)) = z ∧ h0 = h
def R_length_26 : Room := { frames := 1, cells := 0, slots := 0, locals := 13 }
theorem rm_length_26 {w : Bool} {Z : State} {a0 : Array Value} (hw : HW a0 Z) (Ts : List String) (a1 : Addr) (a2 : Addr) (c1 : ClassId) (vs1 : List Value) (n1 : Int32) (cs : Int32) (h0 : Heap) (f : Nat) (Zf : Z.heap.size ≤ f) (Z0 : f ≤ h0.size) (F_value_a1 : Fld Z h0 a1 "java/lang/String" "value" "[B" (.ref a2)) (A_a2 : Ar Z h0 a2 c1 .byte vs1) (E_a1 : Exa Z h0 a1 "java/lang/String") (F_coder_a1 : Fld Z h0 a1 "java/lang/String" "coder" "B" (.int 1)) (ln_vs1 : vs1.length.toInt32 = n1) (S_cs : G_S_cs Z cs) (hcs : ¬ cs = 0) :
  Con w [] Z mn4 jdk_42_method_54_code 1 (some .int) R_length_26 Ts Ts f #[.ref a1] h0 (Q_length_26 Z n1 h0) := by
 refine con_of f #[vR a1] (plainFor_of_name pn_1) (fun m => rfl) Zf ?_
 intro C H hX0
 refine r_aloadN H 1 d_j42_54_0 ?_
 refine r_getf H 4 d_j42_54_1 (tw24 hw) F_value_a1 ?_
 refine r_alen (hz := ln_vs1) H 5 n1 d_j42_54_4 A_a2 ?_
 refine r_aloadN H 6 d_j42_54_5 ?_
 refine r_virtual (z := mn3) (a := a1) (argsL := []) (rest := [.int n1]) (W := 1) H 9 d_j42_54_6 (tw35 hw) (tw36 hw) (nf_sel (tw38 hw)) (tw38 hw) (tw37 hw) (tw7 hw) (tw39 hw) E_a1 (lenOf pd_3 rfl) (rm_coder_27 hw Ts a1 cs h0 f Zf Z0 F_coder_a1 S_cs hcs) ?_
 rintro _ _ ⟨rfl, rfl⟩
 refine r_ishr H 10 (n1 >>> ((1 : Int32) &&& 31)) d_j42_54_9 rfl ?_
 exact r_ireturn H d_j42_54_10 (⟨_, rfl, rfl, rfl⟩)
def Q_isLatin1_29 (Z : State) (h0 : Heap) (v : Option Value) (h : Heap) : Prop := v = some (.int 0) ∧ h0 = h
def R_isLatin1_29 : Room := { frames := 0, cells := 0, slots := 0, locals := 0 }
theorem rm_isLatin1_29 {w : Bool} {Z : State} {a0 : Array Value} (hw : HW a0 Z) (Ts : List String) (a1 : Addr) (cs : Int32) (h0 : Heap) (f : Nat) (Zf : Z.heap.size ≤ f) (Z0 : f ≤ h0.size) (F_coder_a1 : Fld Z h0 a1 "java/lang/String" "coder" "B" (.int 1)) (S_cs : G_S_cs Z cs) (hcs : ¬ cs = 0) :
  Con w [] Z mn14 jdk_42_method_154_code 1 (some .boolean) R_isLatin1_29 Ts Ts f #[.ref a1] h0 (Q_isLatin1_29 Z h0) := by
 refine con_of f #[vR a1] (plainFor_of_name pn_1) (fun m => rfl) Zf ?_
 intro C H hX0
 refine r_gets H 3 d_j42_154_0 (tw40 hw) S_cs ?_
 refine r_ifeqF H 6 d_j42_154_3 rfl hcs ?_
 refine r_aloadN H 7 d_j42_154_6 ?_
 refine r_getf H 10 d_j42_154_7 (tw25 hw) F_coder_a1 ?_
 refine r_ifneT H 17 d_j42_154_10 (by decide) (by decide) (by decide) ?_
 refine r_iconst H 18 0 d_j42_154_17 ?_
 exact r_nreturn (0 : Int32) H d_j42_154_18 (by decide) (⟨rfl, rfl⟩)
def Q_length_32 (Z : State) (n1 : Int32) (h0 : Heap) (v : Option Value) (h : Heap) : Prop := ∃ (z : Int32), v = some (.int z) ∧ (n1 >>> ((1 : Int32) &&& 31)) = z ∧ h0 = h
def R_length_32 : Room := { frames := 0, cells := 0, slots := 0, locals := 0 }
theorem rm_length_32 {w : Bool} {Z : State} {a0 : Array Value} (hw : HW a0 Z) (Ts : List String) (a1 : Addr) (c1 : ClassId) (vs1 : List Value) (n1 : Int32) (h0 : Heap) (f : Nat) (Zf : Z.heap.size ≤ f) (Z0 : f ≤ h0.size) (A_a1 : Ar Z h0 a1 c1 .byte vs1) (ln_vs1 : vs1.length.toInt32 = n1) :
  Con w [] Z mn19 jdk_52_method_6_code 1 (some .int) R_length_32 Ts Ts f #[.ref a1] h0 (Q_length_32 Z n1 h0) := by
 refine con_of f #[vR a1] (plainFor_of_name pn_3) (fun m => rfl) Zf ?_
 intro C H hX0
 refine r_aloadN H 1 d_j52_6_0 ?_
 refine r_alen (hz := ln_vs1) H 2 n1 d_j52_6_1 A_a1 ?_
 refine r_iconst H 3 1 d_j52_6_2 ?_
 refine r_ishr H 4 (n1 >>> ((1 : Int32) &&& 31)) d_j52_6_3 rfl ?_
 exact r_ireturn H d_j52_6_4 (⟨_, rfl, rfl, rfl⟩)
def Q_checkIndex_31 (Z : State) (h0 : Heap) (v : Option Value) (h : Heap) : Prop := v = none ∧ h0 = h
def R_checkIndex_31 : Room := { frames := 2, cells := 0, slots := 0, locals := 27 }
theorem rm_checkIndex_31 {w : Bool} {Z : State} {a0 : Array Value} (hw : HW a0 Z) (Ts : List String) (i1 : Int32) (a1 : Addr) (c1 : ClassId) (vs1 : List Value) (n1 : Int32) (sio : Value) (h0 : Heap) (f : Nat) (Zf : Z.heap.size ≤ f) (Z0 : f ≤ h0.size) (A_a1 : Ar Z h0 a1 c1 .byte vs1) (ln_vs1 : vs1.length.toInt32 = n1) (pc0 : ¬ i1 < (0 : Int32)) (pc1 : i1 < (n1 >>> ((1 : Int32) &&& 31))) (S_sio : G_S_sio Z sio) (hsio : G_hsio Z sio) :
  Con w [] Z mn20 jdk_52_method_91_code 2 none R_checkIndex_31 Ts Ts f #[.int i1, .ref a1] h0 (Q_checkIndex_31 Z h0) := by
 refine con_of f #[vI i1, vR a1] (plainFor_of_name pn_3) (fun m => rfl) Zf ?_
 intro C H hX0
 refine r_iloadN H 1 d_j52_91_0 ?_
 refine r_aloadN H 2 d_j52_91_1 ?_
 refine r_static (argsL := [.ref a1]) (rest := [.int i1]) (W := 1) H 5 d_j52_91_2 (tw99 hw) (tw100 hw) (tw43 hw) (tw101 hw) (lenOf pd_17 rfl) (rm_length_32 hw Ts a1 c1 _ n1 h0 f Zf Z0 A_a1 ln_vs1) ?_
 rintro _ _ ⟨p1, rfl, rfl, rfl⟩
 refine r_static (argsL := [.int i1, (.int (n1 >>> ((1 : Int32) &&& 31)))]) (rest := []) (W := 0) H 8 d_j52_91_5 (tw102 hw) (tw66 hw) (tw7 hw) (tw67 hw) (lenOf pd_15 rfl) (rm_checkIndex_23 hw Ts i1 (n1 >>> ((1 : Int32) &&& 31)) sio h0 f Zf Z0 pc0 pc1 S_sio hsio) ?_
 rintro _ _ ⟨rfl, rfl⟩
 exact r_return H d_j52_91_8 (⟨rfl, rfl⟩)
def Q_charAt_30 (Z : State) (y1 : Int32) (y2 : Int32) (h0 : Heap) (v : Option Value) (h : Heap) : Prop := ∃ (z : Int32), v = some (.int z) ∧ ((((y1 &&& (255 : Int32)) <<< ((0 : Int32) &&& 31)) ||| ((y2 &&& (255 : Int32)) <<< ((8 : Int32) &&& 31))).toUInt32.toUInt16.toUInt32.toInt32) = z ∧ (0 ≤ z.toInt ∧ z.toInt ≤ 65535) ∧ h0 = h
def R_charAt_30 : Room := { frames := 3, cells := 0, slots := 0, locals := 40 }
theorem rm_charAt_30 {w : Bool} {Z : State} {a0 : Array Value} (hw : HW a0 Z) (Ts : List String) (a1 : Addr) (i1 : Int32) (c1 : ClassId) (vs1 : List Value) (n1 : Int32) (y1 : Int32) (y2 : Int32) (sio : Value) (h0 : Heap) (f : Nat) (Zf : Z.heap.size ≤ f) (Z0 : f ≤ h0.size) (A_a1 : Ar Z h0 a1 c1 .byte vs1) (ln_vs1 : vs1.length.toInt32 = n1) (pc0 : ¬ i1 < (0 : Int32)) (pc1 : i1 < (n1 >>> ((1 : Int32) &&& 31))) (el_y1 : vs1[((i1 <<< ((1 : Int32) &&& 31))).toNatClampNeg]? = some (.int y1)) (el_y2 : vs1[(((i1 <<< ((1 : Int32) &&& 31)) + (1 : Int32))).toNatClampNeg]? = some (.int y2)) (pc2 : ¬ (i1 <<< ((1 : Int32) &&& 31)) < 0) (pc3 : ¬ ((i1 <<< ((1 : Int32) &&& 31)) + (1 : Int32)) < 0) (S_sio : G_S_sio Z sio) (hsio : G_hsio Z sio) (S__assertionsDisabled : G_S__assertionsDisabled Z) (S_HI_BYTE_SHIFT : G_S_HI_BYTE_SHIFT Z) (S_LO_BYTE_SHIFT : G_S_LO_BYTE_SHIFT Z) :
  Con w [] Z mn21 jdk_52_method_83_code 2 (some .char) R_charAt_30 Ts Ts f #[.ref a1, .int i1] h0 (Q_charAt_30 Z y1 y2 h0) := by
 refine con_of f #[vR a1, vI i1] (plainFor_of_name pn_3) (fun m => rfl) Zf ?_
 intro C H hX0
 refine r_iloadN H 1 d_j52_83_0 ?_
 refine r_aloadN H 2 d_j52_83_1 ?_
 refine r_static (argsL := [.int i1, .ref a1]) (rest := []) (W := 0) H 5 d_j52_83_2 (tw96 hw) (tw97 hw) (tw43 hw) (tw98 hw) (lenOf pd_18 rfl) (rm_checkIndex_31 hw Ts i1 a1 c1 _ n1 sio h0 f Zf Z0 A_a1 ln_vs1 pc0 pc1 S_sio hsio) ?_
 rintro _ _ ⟨rfl, rfl⟩
 refine r_aloadN H 6 d_j52_83_5 ?_
 refine r_iloadN H 7 d_j52_83_6 ?_
 refine r_static (argsL := [.ref a1, .int i1]) (rest := []) (W := 0) H 10 d_j52_83_7 (tw90 hw) (tw91 hw) (tw43 hw) (tw92 hw) (lenOf pd_11 rfl) (rm_getChar_15 hw Ts a1 i1 c1 _ y1 y2 h0 f Zf Z0 A_a1 el_y1 pc2 el_y2 pc3 S__assertionsDisabled S_HI_BYTE_SHIFT S_LO_BYTE_SHIFT) ?_
 rintro _ _ ⟨p2, rfl, rfl, rp2, rfl⟩
 exact r_nreturn ((((y1 &&& (255 : Int32)) <<< ((0 : Int32) &&& 31)) ||| ((y2 &&& (255 : Int32)) <<< ((8 : Int32) &&& 31))).toUInt32.toUInt16.toUInt32.toInt32) H d_j52_83_10 (nar_char_id (by have := rp2; omega)) (⟨_, rfl, rfl, (by have := rp2; omega), rfl⟩)
def Q_charAt_28 (Z : State) (y1 : Int32) (y2 : Int32) (h0 : Heap) (v : Option Value) (h : Heap) : Prop := ∃ (z : Int32), v = some (.int z) ∧ ((((y1 &&& (255 : Int32)) <<< ((0 : Int32) &&& 31)) ||| ((y2 &&& (255 : Int32)) <<< ((8 : Int32) &&& 31))).toUInt32.toUInt16.toUInt32.toInt32) = z ∧ (0 ≤ z.toInt ∧ z.toInt ≤ 65535) ∧ h0 = h
def R_charAt_28 : Room := { frames := 4, cells := 0, slots := 0, locals := 53 }
theorem rm_charAt_28 {w : Bool} {Z : State} {a0 : Array Value} (hw : HW a0 Z) (Ts : List String) (a1 : Addr) (i1 : Int32) (a2 : Addr) (c1 : ClassId) (vs1 : List Value) (n1 : Int32) (y1 : Int32) (y2 : Int32) (cs : Int32) (sio : Value) (h0 : Heap) (f : Nat) (Zf : Z.heap.size ≤ f) (Z0 : f ≤ h0.size) (E_a1 : Exa Z h0 a1 "java/lang/String") (F_coder_a1 : Fld Z h0 a1 "java/lang/String" "coder" "B" (.int 1)) (F_value_a1 : Fld Z h0 a1 "java/lang/String" "value" "[B" (.ref a2)) (A_a2 : Ar Z h0 a2 c1 .byte vs1) (el_y1 : vs1[((i1 <<< ((1 : Int32) &&& 31))).toNatClampNeg]? = some (.int y1)) (el_y2 : vs1[(((i1 <<< ((1 : Int32) &&& 31)) + (1 : Int32))).toNatClampNeg]? = some (.int y2)) (ln_vs1 : vs1.length.toInt32 = n1) (pc0 : ¬ i1 < (0 : Int32)) (pc1 : i1 < (n1 >>> ((1 : Int32) &&& 31))) (pc2 : ¬ (i1 <<< ((1 : Int32) &&& 31)) < 0) (pc3 : ¬ ((i1 <<< ((1 : Int32) &&& 31)) + (1 : Int32)) < 0) (S_cs : G_S_cs Z cs) (S_sio : G_S_sio Z sio) (hsio : G_hsio Z sio) (S__assertionsDisabled : G_S__assertionsDisabled Z) (S_HI_BYTE_SHIFT : G_S_HI_BYTE_SHIFT Z) (S_LO_BYTE_SHIFT : G_S_LO_BYTE_SHIFT Z) (hcs : ¬ cs = 0) :
  Con w [] Z mn18 jdk_42_method_56_code 2 (some .char) R_charAt_28 Ts Ts f #[.ref a1, .int i1] h0 (Q_charAt_28 Z y1 y2 h0) := by
 refine con_of f #[vR a1, vI i1] (plainFor_of_name pn_1) (fun m => rfl) Zf ?_
 intro C H hX0
 refine r_aloadN H 1 d_j42_56_0 ?_
 refine r_virtual (z := mn14) (a := a1) (argsL := []) (rest := []) (W := 0) H 4 d_j42_56_1 (tw56 hw) (tw57 hw) (nf_sel (tw59 hw)) (tw59 hw) (tw58 hw) (tw7 hw) (tw60 hw) E_a1 (lenOf pd_13 rfl) (rm_isLatin1_29 hw Ts a1 cs h0 f Zf Z0 F_coder_a1 S_cs hcs) ?_
 rintro _ _ ⟨rfl, rfl⟩
 refine r_ifeqT H 16 d_j42_56_4 (by decide) (by decide) (by decide) ?_
 refine r_aloadN H 17 d_j42_56_16 ?_
 refine r_getf H 20 d_j42_56_17 (tw24 hw) F_value_a1 ?_
 refine r_iloadN H 21 d_j42_56_20 ?_
 refine r_static (argsL := [.ref a2, .int i1]) (rest := []) (W := 0) H 24 d_j42_56_21 (tw93 hw) (tw94 hw) (tw43 hw) (tw95 hw) (lenOf pd_11 rfl) (rm_charAt_30 hw Ts a2 i1 c1 _ n1 y1 y2 sio h0 f Zf Z0 A_a2 ln_vs1 pc0 pc1 el_y1 el_y2 pc2 pc3 S_sio hsio S__assertionsDisabled S_HI_BYTE_SHIFT S_LO_BYTE_SHIFT) ?_
 rintro _ _ ⟨p2, rfl, rfl, rp2, rfl⟩
 exact r_nreturn ((((y1 &&& (255 : Int32)) <<< ((0 : Int32) &&& 31)) ||| ((y2 &&& (255 : Int32)) <<< ((8 : Int32) &&& 31))).toUInt32.toUInt16.toUInt32.toInt32) H d_j42_56_24 (nar_char_id (by have := rp2; omega)) (⟨_, rfl, rfl, (by have := rp2; omega), rfl⟩)
def Q_readAlikeByEitherSetting_25 (Z : State) (h0 : Heap) (v : Option Value) (h : Heap) : Prop := v = some (.int 1) ∧ h0 = h
def R_readAlikeByEitherSetting_25 : Room := { frames := 5, cells := 0, slots := 0, locals := 66 }
theorem rm_readAlikeByEitherSetting_25 {w : Bool} {Z : State} {a0 : Array Value} (hw : HW a0 Z) (Ts : List String) (a1 : Addr) (a2 : Addr) (i1 : Int32) (c1 : ClassId) (cs : Int32) (sio : Value) (h0 : Heap) (f : Nat) (Zf : Z.heap.size ≤ f) (Z0 : f ≤ h0.size) (E_a1 : Exa Z h0 a1 "java/lang/String") (F_value_a1 : Fld Z h0 a1 "java/lang/String" "value" "[B" (.ref a2)) (A_a2 : Ar Z h0 a2 c1 .byte [.int (cL8 i1), .int (cH8 i1)]) (F_coder_a1 : Fld Z h0 a1 "java/lang/String" "coder" "B" (.int 1)) (r_i1 : 256 ≤ i1.toInt ∧ i1.toInt ≤ 65535) (S_cs : G_S_cs Z cs) (S_sio : G_S_sio Z sio) (hsio : G_hsio Z sio) (S__assertionsDisabled : G_S__assertionsDisabled Z) (S_HI_BYTE_SHIFT : G_S_HI_BYTE_SHIFT Z) (S_LO_BYTE_SHIFT : G_S_LO_BYTE_SHIFT Z) (hcs : ¬ cs = 0) :
  Con w [] Z mn5 prog_52_method_4_code 5 (some .boolean) R_readAlikeByEitherSetting_25 Ts Ts f #[.ref a1] h0 (Q_readAlikeByEitherSetting_25 Z h0) := by
 refine con_of f #[vR a1, .unset, .unset, .unset, .unset] (plainFor_of_name pn_2) (fun m => rfl) Zf ?_
 intro C H hX0
 refine r_iconst H 1 1 d_g52_4_0 ?_
 refine r_istoreN H 2 #[vR a1, vI 1, .unset, .unset, .unset] d_g52_4_1 ?_
 refine r_iconst H 3 0 d_g52_4_2 ?_
 refine r_istoreN H 4 #[vR a1, vI 1, vI 0, .unset, .unset] d_g52_4_3 ?_
 refine r_iconst H 5 0 d_g52_4_4 ?_
 refine r_istoreN H 6 #[vR a1, vI 1, vI 0, vI 0, .unset] d_g52_4_5 ?_
 refine r_iloadN H 7 d_g52_4_6 ?_
 refine r_ifeqF H 10 d_g52_4_7 rfl (by decide) ?_
 refine r_iloadN H 11 d_g52_4_10 ?_
 refine r_aloadN H 12 d_g52_4_11 ?_
 refine r_virtual (z := mn4) (a := a1) (argsL := []) (rest := [.int 0]) (W := 1) H 15 d_g52_4_12 (tw30 hw) (tw31 hw) (nf_sel (tw33 hw)) (tw33 hw) (tw32 hw) (tw7 hw) (tw34 hw) E_a1 (lenOf pd_4 rfl) (rm_length_26 hw Ts a1 a2 c1 _ (2 : Int32) cs h0 f Zf Z0 F_value_a1 A_a2 E_a1 F_coder_a1 rfl S_cs hcs) ?_
 rintro _ _ ⟨p1, rfl, ep1, rfl⟩
 have hzp1 : (1 : Int32) = p1 := by rw [← ep1]; decide
 subst hzp1
 refine r_icmpgeF H 18 d_g52_4_15 ?_
 refine r_aloadN H 19 d_g52_4_18 ?_
 refine r_iloadN H 20 d_g52_4_19 ?_
 refine r_virtual (z := mn18) (a := a1) (argsL := [.int 0]) (rest := []) (W := 0) H 23 d_g52_4_20 (tw51 hw) (tw52 hw) (nf_sel (tw54 hw)) (tw54 hw) (tw53 hw) (tw7 hw) (tw55 hw) E_a1 (lenOf pd_16 rfl) (rm_charAt_28 hw Ts a1 (0 : Int32) a2 c1 _ (2 : Int32) (cL8 i1) (cH8 i1) cs sio h0 f Zf Z0 E_a1 F_coder_a1 F_value_a1 A_a2 rfl rfl rfl (by decide) (by decide) (by decide) (by decide) S_cs S_sio hsio S__assertionsDisabled S_HI_BYTE_SHIFT S_LO_BYTE_SHIFT hcs) ?_
 rintro _ _ ⟨p3, rfl, ep3, rp3, rfl⟩
 have hzp3 : i1 = p3 := by rw [← ep3]; exact (own_u16 i1 (by have := r_i1; omega)).symm
 subst hzp3
 refine r_istore H 25 #[vR a1, vI 1, vI 0, vI 0, vI i1] d_g52_4_23 ?_
 refine r_iload H 27 d_g52_4_25 ?_
 refine r_bipush H 29 39 d_g52_4_27 ?_
 refine r_icmpneT H 38 d_g52_4_29 (by decide) (by decide) (by have := r_i1; have : (39 : Int32).toInt = 39 := (by decide); simp only [Int32.lt_iff_toInt_lt, ← Int32.toInt_inj]; omega) ?_
 refine r_iconst H 39 1 d_g52_4_38 ?_
 refine r_goto H 43 d_g52_4_39 ?_
 refine r_istoreN H 44 #[vR a1, vI 1, vI 0, vI 0, vI i1] d_g52_4_43 ?_
 refine r_iload H 46 d_g52_4_44 ?_
 refine r_bipush H 48 92 d_g52_4_46 ?_
 refine r_icmpneT H 57 d_g52_4_48 (by decide) (by decide) (by have := r_i1; have : (92 : Int32).toInt = 92 := (by decide); simp only [Int32.lt_iff_toInt_lt, ← Int32.toInt_inj]; omega) ?_
 refine r_iconst H 58 0 d_g52_4_57 ?_
 refine r_istoreN H 59 #[vR a1, vI 1, vI 0, vI 0, vI i1] d_g52_4_58 ?_
 refine r_iinc H 62 #[vR a1, vI 1, vI 0, vI 1, vI i1] 1 d_g52_4_59 ?_
 refine r_goto H 6 d_g52_4_62 ?_
 refine r_iloadN H 7 d_g52_4_6 ?_
 refine r_ifeqF H 10 d_g52_4_7 rfl (by decide) ?_
 refine r_iloadN H 11 d_g52_4_10 ?_
 refine r_aloadN H 12 d_g52_4_11 ?_
 refine r_virtual (z := mn4) (a := a1) (argsL := []) (rest := [.int 1]) (W := 1) H 15 d_g52_4_12 (tw30 hw) (tw31 hw) (nf_sel (tw33 hw)) (tw33 hw) (tw32 hw) (tw7 hw) (tw34 hw) E_a1 (lenOf pd_4 rfl) (rm_length_26 hw Ts a1 a2 c1 _ (2 : Int32) cs h0 f Zf Z0 F_value_a1 A_a2 E_a1 F_coder_a1 rfl S_cs hcs) ?_
 rintro _ _ ⟨p5, rfl, ep5, rfl⟩
 have hzp5 : (1 : Int32) = p5 := by rw [← ep5]; decide
 subst hzp5
 refine r_icmpgeT H 65 d_g52_4_15 ?_
 refine r_iloadN H 66 d_g52_4_65 ?_
 exact r_nreturn (1 : Int32) H d_g52_4_66 (by decide) (⟨rfl, rfl⟩)
def Q_compress_36 (Z : State) (a2 : Addr) (i1 : Int32) (i2 : Int32) (c2 : ClassId) (h0 : Heap) (v : Option Value) (h : Heap) : Prop := (v = some (.int 2) ∧ (¬ (255 : Int32) < i1) ∧ (¬ (255 : Int32) < i2) ∧ Keep h0 h [a2] ∧ Ar Z h a2 c2 .byte [.int (cB8 i1), .int (cB8 i2)] ∧ Exa Z h a2 "[B") ∨ (v = some (.int 1) ∧ (¬ (255 : Int32) < i1) ∧ ((255 : Int32) < i2) ∧ Keep h0 h [a2] ∧ Ar Z h a2 c2 .byte [.int (cB8 i1), .int 0] ∧ Exa Z h a2 "[B") ∨ (v = some (.int 0) ∧ ((255 : Int32) < i1) ∧ h0 = h)
def R_compress_36 : Room := { frames := 0, cells := 0, slots := 0, locals := 0 }
theorem rm_compress_36 {w : Bool} {Z : State} {a0 : Array Value} (hw : HW a0 Z) (Ts : List String) (a1 : Addr) (a2 : Addr) (i1 : Int32) (i2 : Int32) (c1 : ClassId) (c2 : ClassId) (h0 : Heap) (f : Nat) (Zf : Z.heap.size ≤ f) (Z0 : f ≤ h0.size) (A_a1 : Ar Z h0 a1 c1 .char [.int i1, .int i2]) (A_a2 : Ar Z h0 a2 c2 .byte [.int 0, .int 0]) (g_a2 : f ≤ a2) (E_a2 : Exa Z h0 a2 "[B") (E_a1 : Exa Z h0 a1 "[C") (r_i1 : 0 ≤ i1.toInt ∧ i1.toInt ≤ 65535) (r_i2 : 0 ≤ i2.toInt ∧ i2.toInt ≤ 65535) :
  Con w [] Z mn6 jdk_52_method_21_code 7 (some .int) R_compress_36 Ts Ts f #[.ref a1, .int 0, .ref a2, .int 0, .int 2] h0 (Q_compress_36 Z a2 i1 i2 c2 h0) := by
 refine con_of f #[vR a1, vI 0, vR a2, vI 0, vI 2, .unset, .unset] (plainFor_of_name pn_3) (fun m => rfl) Zf ?_
 intro C H hX0
 refine r_iconst H 1 0 d_j52_21_0 ?_
 refine r_istore H 3 #[vR a1, vI 0, vR a2, vI 0, vI 2, vI 0, .unset] d_j52_21_1 ?_
 refine r_iload H 5 d_j52_21_3 ?_
 refine r_iload H 7 d_j52_21_5 ?_
 refine r_icmpgeF H 10 d_j52_21_7 ?_
 refine r_aloadN H 11 d_j52_21_10 ?_
 refine r_iloadN H 12 d_j52_21_11 ?_
 refine r_caload H 13 i1 d_j52_21_12 A_a1 ?_
 refine r_istore H 15 #[vR a1, vI 0, vR a2, vI 0, vI 2, vI 0, vI i1] d_j52_21_13 ?_
 refine r_iload H 17 d_j52_21_15 ?_
 refine r_sipush H 20 255 d_j52_21_17 ?_
 refine r_icmple H 26 23 d_j52_21_20 (fun c1 => ?_) (fun c1 => ?_)
 ·
  refine r_aloadN H 27 d_j52_21_26 ?_
  refine r_iloadN H 28 d_j52_21_27 ?_
  refine r_iload H 30 d_j52_21_28 ?_
  obtain ⟨p3, ep3, rp3⟩ : ∃ p : Int32, (i1.toInt8.toInt32) = p ∧ -128 ≤ p.toInt ∧ p.toInt ≤ 127 := ⟨_, rfl, (by have h := c_i2b i1; omega)⟩
  refine r_i2b H 31 p3 d_j52_21_30 ep3 ?_
  refine r_bastore H 32 p3 d_j52_21_31 A_a2 g_a2 (nar_byte_id (by have := rp3; omega)) ?_
  intro h4 K4 A4
  change Ar Z h4 a2 c2 .byte [.int p3, .int 0] at A4
  refine r_iinc H 35 #[vR a1, vI 1, vR a2, vI 0, vI 2, vI 0, vI i1] 1 d_j52_21_32 ?_
  refine r_iinc H 38 #[vR a1, vI 1, vR a2, vI 1, vI 2, vI 0, vI i1] 1 d_j52_21_35 ?_
  refine r_iinc H 41 #[vR a1, vI 1, vR a2, vI 1, vI 2, vI 1, vI i1] 1 d_j52_21_38 ?_
  refine r_goto H 3 d_j52_21_41 ?_
  refine r_iload H 5 d_j52_21_3 ?_
  refine r_iload H 7 d_j52_21_5 ?_
  refine r_icmpgeF H 10 d_j52_21_7 ?_
  refine r_aloadN H 11 d_j52_21_10 ?_
  refine r_iloadN H 12 d_j52_21_11 ?_
  have q5 := (E_a1.keep K4)
  have q6 := (E_a2.keep K4)
  have q7 := (A_a1.keep K4 (ninS (ne_exa q5 q6 (by decide)) nin0))
  refine r_caload H 13 i2 d_j52_21_12 q7 ?_
  refine r_istore H 15 #[vR a1, vI 1, vR a2, vI 1, vI 2, vI 1, vI i2] d_j52_21_13 ?_
  refine r_iload H 17 d_j52_21_15 ?_
  refine r_sipush H 20 255 d_j52_21_17 ?_
  refine r_icmple H 26 23 d_j52_21_20 (fun c8 => ?_) (fun c8 => ?_)
  ·
   refine r_aloadN H 27 d_j52_21_26 ?_
   refine r_iloadN H 28 d_j52_21_27 ?_
   refine r_iload H 30 d_j52_21_28 ?_
   obtain ⟨p10, ep10, rp10⟩ : ∃ p : Int32, (i2.toInt8.toInt32) = p ∧ -128 ≤ p.toInt ∧ p.toInt ≤ 127 := ⟨_, rfl, (by have h := c_i2b i2; omega)⟩
   refine r_i2b H 31 p10 d_j52_21_30 ep10 ?_
   refine r_bastore H 32 p10 d_j52_21_31 A4 g_a2 (nar_byte_id (by have := rp10; omega)) ?_
   intro h11 K11 A11
   change Ar Z h11 a2 c2 .byte [.int p3, .int p10] at A11
   refine r_iinc H 35 #[vR a1, vI 2, vR a2, vI 1, vI 2, vI 1, vI i2] 2 d_j52_21_32 ?_
   refine r_iinc H 38 #[vR a1, vI 2, vR a2, vI 2, vI 2, vI 1, vI i2] 2 d_j52_21_35 ?_
   refine r_iinc H 41 #[vR a1, vI 2, vR a2, vI 2, vI 2, vI 2, vI i2] 2 d_j52_21_38 ?_
   refine r_goto H 3 d_j52_21_41 ?_
   refine r_iload H 5 d_j52_21_3 ?_
   refine r_iload H 7 d_j52_21_5 ?_
   refine r_icmpgeT H 44 d_j52_21_7 ?_
   refine r_iload H 46 d_j52_21_44 ?_
   have k12 : Keep h0 h4 [a2] := Keep.trans (Keep.refl h0 [a2]) K4 (allS (Or.inl (List.mem_of_getElem? (i := 0) rfl)) all0)
   have k13 : Keep h0 h11 [a2] := Keep.trans k12 K11 (allS (Or.inl (List.mem_of_getElem? (i := 0) rfl)) all0)
   have q14 := (q6.keep K11)
   subst ep3 ep10
   exact r_ireturn H d_j52_21_46 (Or.inl ⟨rfl, c1, c8, k13, A11, q14⟩)
  ·
   refine r_iload H 25 d_j52_21_23 ?_
   have k16 : Keep h0 h4 [a2] := Keep.trans (Keep.refl h0 [a2]) K4 (allS (Or.inl (List.mem_of_getElem? (i := 0) rfl)) all0)
   subst ep3
   exact r_ireturn H d_j52_21_25 (Or.inr (Or.inl ⟨rfl, c1, c8, k16, A4, q6⟩))
 ·
  refine r_iload H 25 d_j52_21_23 ?_
  exact r_ireturn H d_j52_21_25 (Or.inr (Or.inr (⟨rfl, c1, rfl⟩)))
def Q_newBytesLength_39 (Z : State) (h0 : Heap) (v : Option Value) (h : Heap) : Prop := v = some (.int 4) ∧ h0 = h
def R_newBytesLength_39 : Room := { frames := 0, cells := 0, slots := 0, locals := 0 }
theorem rm_newBytesLength_39 {w : Bool} {Z : State} {a0 : Array Value} (hw : HW a0 Z) (Ts : List String) (h0 : Heap) (f : Nat) (Zf : Z.heap.size ≤ f) (Z0 : f ≤ h0.size) :
  Con w [] Z mn7 jdk_52_method_3_code 1 (some .int) R_newBytesLength_39 Ts Ts f #[.int 2] h0 (Q_newBytesLength_39 Z h0) := by
 refine con_of f #[vI 2] (plainFor_of_name pn_3) (fun m => rfl) Zf ?_
 intro C H hX0
 refine r_iloadN H 1 d_j52_3_0 ?_
 refine r_ifgeT H 12 d_j52_3_1 ?_
 refine r_iloadN H 13 d_j52_3_12 ?_
 refine r_ldcI H 15 d_j52_3_13 (tw83 hw) ?_
 refine r_icmpltT H 55 d_j52_3_15 ?_
 refine r_iloadN H 56 d_j52_3_55 ?_
 refine r_iconst H 57 1 d_j52_3_56 ?_
 refine r_ishl H 58 4 d_j52_3_57 ?_
 exact r_ireturn H d_j52_3_58 (⟨rfl, rfl⟩)
def Q_newBytesFor_38 (Z : State) (h0 : Heap) (v : Option Value) (h : Heap) : Prop := ∃ (b2 : Addr) (kc2 : ClassId), v = some (.ref b2) ∧ Keep h0 h [] ∧ h0.size ≤ b2 ∧ Ar Z h b2 kc2 .byte [.int 0, .int 0, .int 0, .int 0] ∧ Exa Z h b2 "[B"
def R_newBytesFor_38 : Room := { frames := 1, cells := 1, slots := 4, locals := 12 }
theorem rm_newBytesFor_38 {w : Bool} {Z : State} {a0 : Array Value} (hw : HW a0 Z) (Ts : List String) (h0 : Heap) (f : Nat) (Zf : Z.heap.size ≤ f) (Z0 : f ≤ h0.size) :
  Con w [] Z mn8 jdk_52_method_2_code 1 (some (.array .byte)) R_newBytesFor_38 Ts Ts f #[.int 2] h0 (Q_newBytesFor_38 Z h0) := by
 refine con_of f #[vI 2] (plainFor_of_name pn_3) (fun m => rfl) Zf ?_
 intro C H hX0
 refine r_iloadN H 1 d_j52_2_0 ?_
 refine r_static (argsL := [.int 2]) (rest := []) (W := 0) H 4 d_j52_2_1 (tw80 hw) (tw81 hw) (tw43 hw) (tw82 hw) (lenOf pd_7 rfl) (rm_newBytesLength_39 hw Ts h0 f Zf Z0) ?_
 rintro _ _ ⟨rfl, rfl⟩
 refine r_newP H 6 "[B" 4 d_j52_2_4 (tw19 hw) ?_
 intro h2 b2 kc2 g2 l2 K2 E2 A2
 change Ar Z h2 b2 kc2 .byte [.int 0, .int 0, .int 0, .int 0] at A2
 have k3 : Keep h0 h2 [] := Keep.trans (Keep.refl h0 []) K2 all0
 exact r_areturn H d_j52_2_6 (⟨b2, kc2, rfl, k3, (nlt nlr (Nat.le_of_eq g2.symm)), A2, E2⟩)
def Q_putChar_40 (Z : State) (a1 : Addr) (i1 : Int32) (i4 : Int32) (i5 : Int32) (c1 : ClassId) (h0 : Heap) (v : Option Value) (h : Heap) : Prop := v = none ∧ Keep h0 h [a1] ∧ Ar Z h a1 c1 .byte [.int (cL8 i1), .int (cH8 i1), .int i4, .int i5] ∧ Exa Z h a1 "[B"
def R_putChar_40 : Room := { frames := 0, cells := 0, slots := 0, locals := 0 }
theorem rm_putChar_40 {w : Bool} {Z : State} {a0 : Array Value} (hw : HW a0 Z) (Ts : List String) (a1 : Addr) (i1 : Int32) (i2 : Int32) (i3 : Int32) (i4 : Int32) (i5 : Int32) (c1 : ClassId) (h0 : Heap) (f : Nat) (Zf : Z.heap.size ≤ f) (Z0 : f ≤ h0.size) (A_a1 : Ar Z h0 a1 c1 .byte [.int i2, .int i3, .int i4, .int i5]) (g_a1 : f ≤ a1) (E_a1 : Exa Z h0 a1 "[B") (r_i1 : 0 ≤ i1.toInt ∧ i1.toInt ≤ 65535) (S__assertionsDisabled : G_S__assertionsDisabled Z) (S_HI_BYTE_SHIFT : G_S_HI_BYTE_SHIFT Z) (S_LO_BYTE_SHIFT : G_S_LO_BYTE_SHIFT Z) :
  Con w [] Z mn9 jdk_52_method_4_code 3 none R_putChar_40 Ts Ts f #[.ref a1, .int 0, .int i1] h0 (Q_putChar_40 Z a1 i1 i4 i5 c1 h0) := by
 refine con_of f #[vR a1, vI 0, vI i1] (plainFor_of_name pn_3) (fun m => rfl) Zf ?_
 intro C H hX0
 refine r_gets H 3 d_j52_4_0 (tw87 hw) S__assertionsDisabled ?_
 refine r_ifneT H 28 d_j52_4_3 (by decide) (by decide) (by decide) ?_
 refine r_iloadN H 29 d_j52_4_28 ?_
 refine r_iconst H 30 1 d_j52_4_29 ?_
 refine r_ishl H 31 0 d_j52_4_30 ?_
 refine r_istoreN H 32 #[vR a1, vI 0, vI i1] d_j52_4_31 ?_
 refine r_aloadN H 33 d_j52_4_32 ?_
 refine r_iloadN H 34 d_j52_4_33 ?_
 refine r_iinc H 37 #[vR a1, vI 1, vI i1] 1 d_j52_4_34 ?_
 refine r_iloadN H 38 d_j52_4_37 ?_
 refine r_gets H 41 d_j52_4_38 (tw88 hw) S_HI_BYTE_SHIFT ?_
 obtain ⟨p1, ep1, rp1⟩ : ∃ p : Int32, (i1 >>> ((0 : Int32) &&& 31)) = p ∧ 0 ≤ p.toInt ∧ p.toInt ≤ 65535 := ⟨_, rfl, (by have := r_i1; have h1 := c_ishr i1 (0 : Int32) 0 (by decide); omega)⟩
 refine r_ishr H 42 p1 d_j52_4_41 ep1 ?_
 obtain ⟨p2, ep2, rp2⟩ : ∃ p : Int32, (p1.toInt8.toInt32) = p ∧ -128 ≤ p.toInt ∧ p.toInt ≤ 127 := ⟨_, rfl, (by have h := c_i2b p1; omega)⟩
 refine r_i2b H 43 p2 d_j52_4_42 ep2 ?_
 refine r_bastore H 44 p2 d_j52_4_43 A_a1 g_a1 (nar_byte_id (by have := rp2; omega)) ?_
 intro h3 K3 A3
 change Ar Z h3 a1 c1 .byte [.int p2, .int i3, .int i4, .int i5] at A3
 refine r_aloadN H 45 d_j52_4_44 ?_
 refine r_iloadN H 46 d_j52_4_45 ?_
 refine r_iloadN H 47 d_j52_4_46 ?_
 refine r_gets H 50 d_j52_4_47 (tw89 hw) S_LO_BYTE_SHIFT ?_
 obtain ⟨p4, ep4, rp4⟩ : ∃ p : Int32, (i1 >>> ((8 : Int32) &&& 31)) = p ∧ 0 ≤ p.toInt ∧ p.toInt ≤ 255 := ⟨_, rfl, (by have := r_i1; have h1 := c_ishr i1 (8 : Int32) 8 (by decide); omega)⟩
 refine r_ishr H 51 p4 d_j52_4_50 ep4 ?_
 obtain ⟨p5, ep5, rp5⟩ : ∃ p : Int32, (p4.toInt8.toInt32) = p ∧ -128 ≤ p.toInt ∧ p.toInt ≤ 127 := ⟨_, rfl, (by have h := c_i2b p4; omega)⟩
 refine r_i2b H 52 p5 d_j52_4_51 ep5 ?_
 refine r_bastore H 53 p5 d_j52_4_52 A3 g_a1 (nar_byte_id (by have := rp5; omega)) ?_
 intro h6 K6 A6
 have q7 := (E_a1.keep K3)
 change Ar Z h6 a1 c1 .byte [.int p2, .int p5, .int i4, .int i5] at A6
 have k8 : Keep h0 h3 [a1] := Keep.trans (Keep.refl h0 [a1]) K3 (allS (Or.inl (List.mem_of_getElem? (i := 0) rfl)) all0)
 have k9 : Keep h0 h6 [a1] := Keep.trans k8 K6 (allS (Or.inl (List.mem_of_getElem? (i := 0) rfl)) all0)
 have q10 := (q7.keep K6)
 subst ep1 ep2 ep4 ep5
 exact r_return H d_j52_4_53 (⟨rfl, k9, A6, q10⟩)
def Q_putChar_41 (Z : State) (a1 : Addr) (i1 : Int32) (i2 : Int32) (i3 : Int32) (c1 : ClassId) (h0 : Heap) (v : Option Value) (h : Heap) : Prop := v = none ∧ Keep h0 h [a1] ∧ Ar Z h a1 c1 .byte [.int i2, .int i3, .int (cL8 i1), .int (cH8 i1)] ∧ Exa Z h a1 "[B"
def R_putChar_41 : Room := { frames := 0, cells := 0, slots := 0, locals := 0 }
theorem rm_putChar_41 {w : Bool} {Z : State} {a0 : Array Value} (hw : HW a0 Z) (Ts : List String) (a1 : Addr) (i1 : Int32) (i2 : Int32) (i3 : Int32) (i4 : Int32) (i5 : Int32) (c1 : ClassId) (h0 : Heap) (f : Nat) (Zf : Z.heap.size ≤ f) (Z0 : f ≤ h0.size) (A_a1 : Ar Z h0 a1 c1 .byte [.int i2, .int i3, .int i4, .int i5]) (g_a1 : f ≤ a1) (E_a1 : Exa Z h0 a1 "[B") (r_i1 : 0 ≤ i1.toInt ∧ i1.toInt ≤ 65535) (S__assertionsDisabled : G_S__assertionsDisabled Z) (S_HI_BYTE_SHIFT : G_S_HI_BYTE_SHIFT Z) (S_LO_BYTE_SHIFT : G_S_LO_BYTE_SHIFT Z) :
  Con w [] Z mn9 jdk_52_method_4_code 3 none R_putChar_41 Ts Ts f #[.ref a1, .int 1, .int i1] h0 (Q_putChar_41 Z a1 i1 i2 i3 c1 h0) := by
 refine con_of f #[vR a1, vI 1, vI i1] (plainFor_of_name pn_3) (fun m => rfl) Zf ?_
 intro C H hX0
 refine r_gets H 3 d_j52_4_0 (tw87 hw) S__assertionsDisabled ?_
 refine r_ifneT H 28 d_j52_4_3 (by decide) (by decide) (by decide) ?_
 refine r_iloadN H 29 d_j52_4_28 ?_
 refine r_iconst H 30 1 d_j52_4_29 ?_
 refine r_ishl H 31 2 d_j52_4_30 ?_
 refine r_istoreN H 32 #[vR a1, vI 2, vI i1] d_j52_4_31 ?_
 refine r_aloadN H 33 d_j52_4_32 ?_
 refine r_iloadN H 34 d_j52_4_33 ?_
 refine r_iinc H 37 #[vR a1, vI 3, vI i1] 3 d_j52_4_34 ?_
 refine r_iloadN H 38 d_j52_4_37 ?_
 refine r_gets H 41 d_j52_4_38 (tw88 hw) S_HI_BYTE_SHIFT ?_
 obtain ⟨p1, ep1, rp1⟩ : ∃ p : Int32, (i1 >>> ((0 : Int32) &&& 31)) = p ∧ 0 ≤ p.toInt ∧ p.toInt ≤ 65535 := ⟨_, rfl, (by have := r_i1; have h1 := c_ishr i1 (0 : Int32) 0 (by decide); omega)⟩
 refine r_ishr H 42 p1 d_j52_4_41 ep1 ?_
 obtain ⟨p2, ep2, rp2⟩ : ∃ p : Int32, (p1.toInt8.toInt32) = p ∧ -128 ≤ p.toInt ∧ p.toInt ≤ 127 := ⟨_, rfl, (by have h := c_i2b p1; omega)⟩
 refine r_i2b H 43 p2 d_j52_4_42 ep2 ?_
 refine r_bastore H 44 p2 d_j52_4_43 A_a1 g_a1 (nar_byte_id (by have := rp2; omega)) ?_
 intro h3 K3 A3
 change Ar Z h3 a1 c1 .byte [.int i2, .int i3, .int p2, .int i5] at A3
 refine r_aloadN H 45 d_j52_4_44 ?_
 refine r_iloadN H 46 d_j52_4_45 ?_
 refine r_iloadN H 47 d_j52_4_46 ?_
 refine r_gets H 50 d_j52_4_47 (tw89 hw) S_LO_BYTE_SHIFT ?_
 obtain ⟨p4, ep4, rp4⟩ : ∃ p : Int32, (i1 >>> ((8 : Int32) &&& 31)) = p ∧ 0 ≤ p.toInt ∧ p.toInt ≤ 255 := ⟨_, rfl, (by have := r_i1; have h1 := c_ishr i1 (8 : Int32) 8 (by decide); omega)⟩
 refine r_ishr H 51 p4 d_j52_4_50 ep4 ?_
 obtain ⟨p5, ep5, rp5⟩ : ∃ p : Int32, (p4.toInt8.toInt32) = p ∧ -128 ≤ p.toInt ∧ p.toInt ≤ 127 := ⟨_, rfl, (by have h := c_i2b p4; omega)⟩
 refine r_i2b H 52 p5 d_j52_4_51 ep5 ?_
 refine r_bastore H 53 p5 d_j52_4_52 A3 g_a1 (nar_byte_id (by have := rp5; omega)) ?_
 intro h6 K6 A6
 have q7 := (E_a1.keep K3)
 change Ar Z h6 a1 c1 .byte [.int i2, .int i3, .int p2, .int p5] at A6
 have k8 : Keep h0 h3 [a1] := Keep.trans (Keep.refl h0 [a1]) K3 (allS (Or.inl (List.mem_of_getElem? (i := 0) rfl)) all0)
 have k9 : Keep h0 h6 [a1] := Keep.trans k8 K6 (allS (Or.inl (List.mem_of_getElem? (i := 0) rfl)) all0)
 have q10 := (q7.keep K6)
 subst ep1 ep2 ep4 ep5
 exact r_return H d_j52_4_53 (⟨rfl, k9, A6, q10⟩)
def Q_toBytes_37 (Z : State) (i1 : Int32) (i2 : Int32) (h0 : Heap) (v : Option Value) (h : Heap) : Prop := ∃ (b1 : Addr) (kc2 : ClassId), v = some (.ref b1) ∧ Keep h0 h [] ∧ h0.size ≤ b1 ∧ Ar Z h b1 kc2 .byte [.int (cL8 i1), .int (cH8 i1), .int (cL8 i2), .int (cH8 i2)] ∧ Exa Z h b1 "[B"
def R_toBytes_37 : Room := { frames := 2, cells := 1, slots := 4, locals := 24 }
theorem rm_toBytes_37 {w : Bool} {Z : State} {a0 : Array Value} (hw : HW a0 Z) (Ts : List String) (a1 : Addr) (i1 : Int32) (i2 : Int32) (c1 : ClassId) (h0 : Heap) (f : Nat) (Zf : Z.heap.size ≤ f) (Z0 : f ≤ h0.size) (A_a1 : Ar Z h0 a1 c1 .char [.int i1, .int i2]) (r_i1 : 0 ≤ i1.toInt ∧ i1.toInt ≤ 65535) (r_i2 : 0 ≤ i2.toInt ∧ i2.toInt ≤ 65535) (S__assertionsDisabled : G_S__assertionsDisabled Z) (S_HI_BYTE_SHIFT : G_S_HI_BYTE_SHIFT Z) (S_LO_BYTE_SHIFT : G_S_LO_BYTE_SHIFT Z) :
  Con w [] Z mn10 jdk_52_method_14_code 5 (some (.array .byte)) R_toBytes_37 Ts Ts f #[.ref a1, .int 0, .int 2] h0 (Q_toBytes_37 Z i1 i2 h0) := by
 refine con_of f #[vR a1, vI 0, vI 2, .unset, .unset] (plainFor_of_name pn_3) (fun m => rfl) Zf ?_
 intro C H hX0
 refine r_iloadN H 1 d_j52_14_0 ?_
 refine r_static (argsL := [.int 2]) (rest := []) (W := 0) H 4 d_j52_14_1 (tw77 hw) (tw78 hw) (tw43 hw) (tw79 hw) (lenOf pd_8 rfl) (rm_newBytesFor_38 hw Ts h0 f Zf Z0) ?_
 rintro _ hh7 ⟨b1, kc2, rfl, K3, g4, q5, q6⟩
 refine r_astoreN H 5 #[vR a1, vI 0, vI 2, vR b1, .unset] d_j52_14_4 ?_
 refine r_iconst H 6 0 d_j52_14_5 ?_
 refine r_istore H 8 #[vR a1, vI 0, vI 2, vR b1, vI 0] d_j52_14_6 ?_
 refine r_iload H 10 d_j52_14_8 ?_
 refine r_iloadN H 11 d_j52_14_10 ?_
 refine r_icmpgeF H 14 d_j52_14_11 ?_
 refine r_aloadN H 15 d_j52_14_14 ?_
 refine r_iload H 17 d_j52_14_15 ?_
 refine r_aloadN H 18 d_j52_14_17 ?_
 refine r_iloadN H 19 d_j52_14_18 ?_
 have q8 := (A_a1.keep K3 nin0)
 refine r_caload H 20 i1 d_j52_14_19 q8 ?_
 refine r_static (argsL := [.ref b1, .int 0, .int i1]) (rest := []) (W := 0) H 23 d_j52_14_20 (tw84 hw) (tw85 hw) (tw43 hw) (tw86 hw) (lenOf pd_9 rfl) (rm_putChar_40 hw Ts b1 i1 (0 : Int32) (0 : Int32) (0 : Int32) (0 : Int32) kc2 hh7 f Zf (nlt Z0 K3.1) q5 (nlt Z0 g4) q6 (by have := r_i1; omega) S__assertionsDisabled S_HI_BYTE_SHIFT S_LO_BYTE_SHIFT) ?_
 rintro _ hh12 ⟨rfl, K9, q10, q11⟩
 refine r_iinc H 26 #[vR a1, vI 1, vI 2, vR b1, vI 0] 1 d_j52_14_23 ?_
 refine r_iinc H 29 #[vR a1, vI 1, vI 2, vR b1, vI 1] 1 d_j52_14_26 ?_
 refine r_goto H 8 d_j52_14_29 ?_
 refine r_iload H 10 d_j52_14_8 ?_
 refine r_iloadN H 11 d_j52_14_10 ?_
 refine r_icmpgeF H 14 d_j52_14_11 ?_
 refine r_aloadN H 15 d_j52_14_14 ?_
 refine r_iload H 17 d_j52_14_15 ?_
 refine r_aloadN H 18 d_j52_14_17 ?_
 refine r_iloadN H 19 d_j52_14_18 ?_
 have q13 := (q8.keep K9 (ninS (Nat.ne_of_lt (Nat.lt_of_lt_of_le A_a1.lt (nlt nlr g4))) nin0))
 refine r_caload H 20 i2 d_j52_14_19 q13 ?_
 have z14 := Nat.le_trans K3.1 K9.1
 refine r_static (argsL := [.ref b1, .int 1, .int i2]) (rest := []) (W := 0) H 23 d_j52_14_20 (tw84 hw) (tw85 hw) (tw43 hw) (tw86 hw) (lenOf pd_9 rfl) (rm_putChar_41 hw Ts b1 i2 (cL8 i1) (cH8 i1) (0 : Int32) (0 : Int32) kc2 hh12 f Zf (nlt Z0 z14) q10 (nlt Z0 g4) q11 (by have := r_i2; omega) S__assertionsDisabled S_HI_BYTE_SHIFT S_LO_BYTE_SHIFT) ?_
 rintro _ hh18 ⟨rfl, K15, q16, q17⟩
 refine r_iinc H 26 #[vR a1, vI 2, vI 2, vR b1, vI 1] 2 d_j52_14_23 ?_
 refine r_iinc H 29 #[vR a1, vI 2, vI 2, vR b1, vI 2] 2 d_j52_14_26 ?_
 refine r_goto H 8 d_j52_14_29 ?_
 refine r_iload H 10 d_j52_14_8 ?_
 refine r_iloadN H 11 d_j52_14_10 ?_
 refine r_icmpgeT H 32 d_j52_14_11 ?_
 refine r_aloadN H 33 d_j52_14_32 ?_
 have k19 : Keep h0 hh7 [] := Keep.trans (Keep.refl h0 []) K3 all0
 have k20 : Keep h0 hh12 [] := Keep.trans k19 K9 (allS (Or.inr (nlt nlr g4)) all0)
 have k21 : Keep h0 hh18 [] := Keep.trans k20 K15 (allS (Or.inr (nlt nlr g4)) all0)
 exact r_areturn H d_j52_14_33 (⟨b1, kc2, rfl, k21, (nlt nlr g4), q16, q17⟩)
def Q_compress_35 (Z : State) (i1 : Int32) (i2 : Int32) (h0 : Heap) (v : Option Value) (h : Heap) : Prop := (∃ (b1 : Addr) (kc1 : ClassId), v = some (.ref b1) ∧ (¬ (255 : Int32) < i1) ∧ (¬ (255 : Int32) < i2) ∧ Keep h0 h [] ∧ h0.size ≤ b1 ∧ Ar Z h b1 kc1 .byte [.int (cB8 i1), .int (cB8 i2)] ∧ Exa Z h b1 "[B") ∨ (∃ (b25 : Addr) (kc26 : ClassId), v = some (.ref b25) ∧ Keep h0 h [] ∧ h0.size ≤ b25 ∧ Ar Z h b25 kc26 .byte [.int (cL8 i1), .int (cH8 i1), .int (cL8 i2), .int (cH8 i2)] ∧ Exa Z h b25 "[B")
def R_compress_35 : Room := { frames := 3, cells := 2, slots := 6, locals := 40 }
theorem rm_compress_35 {w : Bool} {Z : State} {a0 : Array Value} (hw : HW a0 Z) (Ts : List String) (a1 : Addr) (i1 : Int32) (i2 : Int32) (c1 : ClassId) (h0 : Heap) (f : Nat) (Zf : Z.heap.size ≤ f) (Z0 : f ≤ h0.size) (A_a1 : Ar Z h0 a1 c1 .char [.int i1, .int i2]) (E_a1 : Exa Z h0 a1 "[C") (r_i1 : 0 ≤ i1.toInt ∧ i1.toInt ≤ 65535) (r_i2 : 0 ≤ i2.toInt ∧ i2.toInt ≤ 65535) (S__assertionsDisabled : G_S__assertionsDisabled Z) (S_HI_BYTE_SHIFT : G_S_HI_BYTE_SHIFT Z) (S_LO_BYTE_SHIFT : G_S_LO_BYTE_SHIFT Z) :
  Con w [] Z mn12 jdk_52_method_16_code 6 (some (.array .byte)) R_compress_35 Ts Ts f #[.ref a1, .int 0, .int 2] h0 (Q_compress_35 Z i1 i2 h0) := by
 refine con_of f #[vR a1, vI 0, vI 2, .unset, .unset, .unset] (plainFor_of_name pn_3) (fun m => rfl) Zf ?_
 intro C H hX0
 refine r_iloadN H 1 d_j52_16_0 ?_
 refine r_newP H 3 "[B" 2 d_j52_16_1 (tw19 hw) ?_
 intro h1 b1 kc1 g1 l1 K1 E1 A1
 change Ar Z h1 b1 kc1 .byte [.int 0, .int 0] at A1
 refine r_astoreN H 4 #[vR a1, vI 0, vI 2, vR b1, .unset, .unset] d_j52_16_3 ?_
 refine r_aloadN H 5 d_j52_16_4 ?_
 refine r_iloadN H 6 d_j52_16_5 ?_
 refine r_aloadN H 7 d_j52_16_6 ?_
 refine r_iconst H 8 0 d_j52_16_7 ?_
 refine r_iloadN H 9 d_j52_16_8 ?_
 have q2 := (A_a1.keep K1 nin0)
 have q3 := (E_a1.keep K1)
 refine r_static (argsL := [.ref a1, .int 0, .ref b1, .int 0, .int 2]) (rest := []) (W := 0) H 12 d_j52_16_9 (tw45 hw) (tw46 hw) (tw43 hw) (tw47 hw) (lenOf pd_6 rfl) (rm_compress_36 hw Ts a1 b1 i1 i2 c1 kc1 h1 f Zf (nlt Z0 K1.1) q2 A1 (nlt Z0 (Nat.le_of_eq g1.symm)) E1 q3 r_i1 r_i2) ?_
 rintro _ hh16 (⟨rfl, c5, c6, K4, q7, q8⟩ | ⟨rfl, c10, c11, K9, q12, q13⟩ | ⟨rfl, c15, rfl⟩)
 ·
  refine r_istore H 14 #[vR a1, vI 0, vI 2, vR b1, vI 2, .unset] d_j52_16_12 ?_
  refine r_iload H 16 d_j52_16_14 ?_
  refine r_iloadN H 17 d_j52_16_16 ?_
  refine r_icmpeqT H 57 d_j52_16_17 ?_
  refine r_aloadN H 58 d_j52_16_57 ?_
  have k19 : Keep h0 h1 [] := Keep.trans (Keep.refl h0 []) K1 all0
  have k20 : Keep h0 hh16 [] := Keep.trans k19 K4 (allS (Or.inr (nlt nlr (Nat.le_of_eq g1.symm))) all0)
  exact r_areturn H d_j52_16_58 (Or.inl ⟨b1, kc1, rfl, c5, c6, k20, (nlt nlr (Nat.le_of_eq g1.symm)), q7, q8⟩)
 ·
  have rr21 : 0 ≤ i1.toInt ∧ i1.toInt ≤ 255 := by have := r_i1; have : (255 : Int32).toInt = 255 := (by decide); have hc_ := c10; simp only [Int32.lt_iff_toInt_lt, ← Int32.toInt_inj] at hc_; omega
  have rr22 : 256 ≤ i2.toInt ∧ i2.toInt ≤ 65535 := by have := r_i2; have : (255 : Int32).toInt = 255 := (by decide); have hc_ := c11; simp only [Int32.lt_iff_toInt_lt, ← Int32.toInt_inj] at hc_; omega
  refine r_istore H 14 #[vR a1, vI 0, vI 2, vR b1, vI 1, .unset] d_j52_16_12 ?_
  refine r_iload H 16 d_j52_16_14 ?_
  refine r_iloadN H 17 d_j52_16_16 ?_
  refine r_icmpeqF H 20 d_j52_16_17 ?_
  refine r_aloadN H 21 d_j52_16_20 ?_
  refine r_iloadN H 22 d_j52_16_21 ?_
  refine r_iloadN H 23 d_j52_16_22 ?_
  have q23 := (q2.keep K9 (ninS (Nat.ne_of_lt (Nat.lt_of_lt_of_le A_a1.lt (nlt nlr (Nat.le_of_eq g1.symm)))) nin0))
  have z24 := Nat.le_trans K1.1 K9.1
  refine r_static (argsL := [.ref a1, .int 0, .int 2]) (rest := []) (W := 0) H 26 d_j52_16_23 (tw74 hw) (tw75 hw) (tw43 hw) (tw76 hw) (lenOf pd_10 rfl) (rm_toBytes_37 hw Ts a1 i1 i2 c1 hh16 f Zf (nlt Z0 z24) q23 (by have := rr21; omega) (by have := rr22; omega) S__assertionsDisabled S_HI_BYTE_SHIFT S_LO_BYTE_SHIFT) ?_
  rintro _ hh31 ⟨b25, kc26, rfl, K27, g28, q29, q30⟩
  refine r_astore H 28 #[vR a1, vI 0, vI 2, vR b1, vI 1, vR b25] d_j52_16_26 ?_
  refine r_aload H 30 d_j52_16_28 ?_
  refine r_iload H 32 d_j52_16_30 ?_
  have z32 := Nat.le_trans z24 K27.1
  refine r_static (argsL := [.ref b25, .int 1]) (rest := []) (W := 0) H 35 d_j52_16_32 (tw90 hw) (tw91 hw) (tw43 hw) (tw92 hw) (lenOf pd_11 rfl) (rm_getChar_15 hw Ts b25 (1 : Int32) kc26 _ (cL8 i2) (cH8 i2) hh31 f Zf (nlt Z0 z32) q29 rfl (by decide) rfl (by decide) S__assertionsDisabled S_HI_BYTE_SHIFT S_LO_BYTE_SHIFT) ?_
  rintro _ _ ⟨p33, rfl, ep33, rp33, rfl⟩
  have hzp33 : i2 = p33 := by rw [← ep33]; exact (own_u16 i2 (by have := rr22; omega)).symm
  subst hzp33
  refine r_sipush H 38 255 d_j52_16_35 ?_
  refine r_icmpgtT H 54 d_j52_16_38 (by have := rr22; have : (255 : Int32).toInt = 255 := (by decide); simp only [Int32.lt_iff_toInt_lt, ← Int32.toInt_inj]; omega) ?_
  refine r_aload H 56 d_j52_16_54 ?_
  have k35 : Keep h0 h1 [] := Keep.trans (Keep.refl h0 []) K1 all0
  have k36 : Keep h0 hh16 [] := Keep.trans k35 K9 (allS (Or.inr (nlt nlr (Nat.le_of_eq g1.symm))) all0)
  have k37 : Keep h0 hh31 [] := Keep.trans k36 K27 all0
  exact r_areturn H d_j52_16_56 (Or.inr (⟨b25, kc26, rfl, k37, (nlt z24 g28), q29, q30⟩))
 ·
  have rr38 : 256 ≤ i1.toInt ∧ i1.toInt ≤ 65535 := by have := r_i1; have : (255 : Int32).toInt = 255 := (by decide); have hc_ := c15; simp only [Int32.lt_iff_toInt_lt, ← Int32.toInt_inj] at hc_; omega
  refine r_istore H 14 #[vR a1, vI 0, vI 2, vR b1, vI 0, .unset] d_j52_16_12 ?_
  refine r_iload H 16 d_j52_16_14 ?_
  refine r_iloadN H 17 d_j52_16_16 ?_
  refine r_icmpeqF H 20 d_j52_16_17 ?_
  refine r_aloadN H 21 d_j52_16_20 ?_
  refine r_iloadN H 22 d_j52_16_21 ?_
  refine r_iloadN H 23 d_j52_16_22 ?_
  refine r_static (argsL := [.ref a1, .int 0, .int 2]) (rest := []) (W := 0) H 26 d_j52_16_23 (tw74 hw) (tw75 hw) (tw43 hw) (tw76 hw) (lenOf pd_10 rfl) (rm_toBytes_37 hw Ts a1 i1 i2 c1 h1 f Zf (nlt Z0 K1.1) q2 (by have := rr38; omega) (by have := r_i2; omega) S__assertionsDisabled S_HI_BYTE_SHIFT S_LO_BYTE_SHIFT) ?_
  rintro _ hh45 ⟨b39, kc40, rfl, K41, g42, q43, q44⟩
  refine r_astore H 28 #[vR a1, vI 0, vI 2, vR b1, vI 0, vR b39] d_j52_16_26 ?_
  refine r_aload H 30 d_j52_16_28 ?_
  refine r_iload H 32 d_j52_16_30 ?_
  have z46 := Nat.le_trans K1.1 K41.1
  refine r_static (argsL := [.ref b39, .int 0]) (rest := []) (W := 0) H 35 d_j52_16_32 (tw90 hw) (tw91 hw) (tw43 hw) (tw92 hw) (lenOf pd_11 rfl) (rm_getChar_15 hw Ts b39 (0 : Int32) kc40 _ (cL8 i1) (cH8 i1) hh45 f Zf (nlt Z0 z46) q43 rfl (by decide) rfl (by decide) S__assertionsDisabled S_HI_BYTE_SHIFT S_LO_BYTE_SHIFT) ?_
  rintro _ _ ⟨p47, rfl, ep47, rp47, rfl⟩
  have hzp47 : i1 = p47 := by rw [← ep47]; exact (own_u16 i1 (by have := rr38; omega)).symm
  subst hzp47
  refine r_sipush H 38 255 d_j52_16_35 ?_
  refine r_icmpgtT H 54 d_j52_16_38 (by have := rr38; have : (255 : Int32).toInt = 255 := (by decide); simp only [Int32.lt_iff_toInt_lt, ← Int32.toInt_inj]; omega) ?_
  refine r_aload H 56 d_j52_16_54 ?_
  have k49 : Keep h0 h1 [] := Keep.trans (Keep.refl h0 []) K1 all0
  have k50 : Keep h0 hh45 [] := Keep.trans k49 K41 all0
  exact r_areturn H d_j52_16_56 (Or.inr (⟨b39, kc40, rfl, k50, (nlt K1.1 g42), q43, q44⟩))
def Q_coderFromArrayLen_42 (Z : State) (h0 : Heap) (v : Option Value) (h : Heap) : Prop := v = some (.int 0) ∧ h0 = h
def R_coderFromArrayLen_42 : Room := { frames := 0, cells := 0, slots := 0, locals := 0 }
theorem rm_coderFromArrayLen_42 {w : Bool} {Z : State} {a0 : Array Value} (hw : HW a0 Z) (Ts : List String) (a1 : Addr) (i1 : Int32) (i2 : Int32) (c1 : ClassId) (h0 : Heap) (f : Nat) (Zf : Z.heap.size ≤ f) (Z0 : f ≤ h0.size) (A_a1 : Ar Z h0 a1 c1 .byte [.int (cB8 i1), .int (cB8 i2)]) :
  Con w [] Z mn13 jdk_52_method_15_code 2 (some .byte) R_coderFromArrayLen_42 Ts Ts f #[.ref a1, .int 2] h0 (Q_coderFromArrayLen_42 Z h0) := by
 refine con_of f #[vR a1, vI 2] (plainFor_of_name pn_3) (fun m => rfl) Zf ?_
 intro C H hX0
 refine r_iloadN H 1 d_j52_15_0 ?_
 refine r_aloadN H 2 d_j52_15_1 ?_
 refine r_alen H 3 2 d_j52_15_2 A_a1 ?_
 refine r_isub H 4 0 d_j52_15_3 ?_
 refine r_bipush H 6 31 d_j52_15_4 ?_
 refine r_iushr H 7 0 d_j52_15_6 (by decide) ?_
 refine r_i2b H 8 0 d_j52_15_7 (by decide) ?_
 exact r_nreturn (0 : Int32) H d_j52_15_8 (by decide) (⟨rfl, rfl⟩)
def Q_coderFromArrayLen_43 (Z : State) (h0 : Heap) (v : Option Value) (h : Heap) : Prop := v = some (.int 1) ∧ h0 = h
def R_coderFromArrayLen_43 : Room := { frames := 0, cells := 0, slots := 0, locals := 0 }
theorem rm_coderFromArrayLen_43 {w : Bool} {Z : State} {a0 : Array Value} (hw : HW a0 Z) (Ts : List String) (a1 : Addr) (i1 : Int32) (i2 : Int32) (c1 : ClassId) (h0 : Heap) (f : Nat) (Zf : Z.heap.size ≤ f) (Z0 : f ≤ h0.size) (A_a1 : Ar Z h0 a1 c1 .byte [.int (cL8 i1), .int (cH8 i1), .int (cL8 i2), .int (cH8 i2)]) :
  Con w [] Z mn13 jdk_52_method_15_code 2 (some .byte) R_coderFromArrayLen_43 Ts Ts f #[.ref a1, .int 2] h0 (Q_coderFromArrayLen_43 Z h0) := by
 refine con_of f #[vR a1, vI 2] (plainFor_of_name pn_3) (fun m => rfl) Zf ?_
 intro C H hX0
 refine r_iloadN H 1 d_j52_15_0 ?_
 refine r_aloadN H 2 d_j52_15_1 ?_
 refine r_alen H 3 4 d_j52_15_2 A_a1 ?_
 refine r_isub H 4 (-2 : Int32) d_j52_15_3 ?_
 refine r_bipush H 6 31 d_j52_15_4 ?_
 refine r_iushr H 7 1 d_j52_15_6 (by decide) ?_
 refine r_i2b H 8 1 d_j52_15_7 (by decide) ?_
 exact r_nreturn (1 : Int32) H d_j52_15_8 (by decide) (⟨rfl, rfl⟩)
def Q_init_34 (Z : State) (a1 : Addr) (i1 : Int32) (i2 : Int32) (h0 : Heap) (v : Option Value) (h : Heap) : Prop := (∃ (b1 : Addr) (kc2 : ClassId), v = none ∧ (¬ (255 : Int32) < i1) ∧ (¬ (255 : Int32) < i2) ∧ Keep h0 h [a1] ∧ h0.size ≤ b1 ∧ Exa Z h a1 "java/lang/String" ∧ Fld Z h a1 "java/lang/String" "coder" "B" (.int 0) ∧ Fld Z h a1 "java/lang/String" "value" "[B" (.ref b1) ∧ Ar Z h b1 kc2 .byte [.int (cB8 i1), .int (cB8 i2)] ∧ Exa Z h b1 "[B") ∨ (∃ (b9 : Addr) (kc10 : ClassId), v = none ∧ Keep h0 h [a1] ∧ h0.size ≤ b9 ∧ Exa Z h a1 "java/lang/String" ∧ Fld Z h a1 "java/lang/String" "coder" "B" (.int 1) ∧ Fld Z h a1 "java/lang/String" "value" "[B" (.ref b9) ∧ Ar Z h b9 kc10 .byte [.int (cL8 i1), .int (cH8 i1), .int (cL8 i2), .int (cH8 i2)] ∧ Exa Z h b9 "[B")
def R_init_34 : Room := { frames := 4, cells := 2, slots := 6, locals := 57 }
theorem rm_init_34 {w : Bool} {Z : State} {a0 : Array Value} (hw : HW a0 Z) (Ts : List String) (a1 : Addr) (a2 : Addr) (i1 : Int32) (i2 : Int32) (c1 : ClassId) (cs : Int32) (h0 : Heap) (f : Nat) (Zf : Z.heap.size ≤ f) (Z0 : f ≤ h0.size) (A_a2 : Ar Z h0 a2 c1 .char [.int i1, .int i2]) (E_a2 : Exa Z h0 a2 "[C") (E_a1 : Exa Z h0 a1 "java/lang/String") (F_coder_a1 : Fld Z h0 a1 "java/lang/String" "coder" "B" (.int 0)) (g_a1 : f ≤ a1) (F_value_a1 : Fld Z h0 a1 "java/lang/String" "value" "[B" .null) (r_i1 : 0 ≤ i1.toInt ∧ i1.toInt ≤ 65535) (r_i2 : 0 ≤ i2.toInt ∧ i2.toInt ≤ 65535) (S_cs : G_S_cs Z cs) (S__assertionsDisabled : G_S__assertionsDisabled Z) (S_HI_BYTE_SHIFT : G_S_HI_BYTE_SHIFT Z) (S_LO_BYTE_SHIFT : G_S_LO_BYTE_SHIFT Z) (hcs : ¬ cs = 0) :
  Con w [] Z mn1 jdk_42_method_149_code 6 none R_init_34 Ts Ts f #[.ref a1, .ref a2, .int 0, .int 2, .null] h0 (Q_init_34 Z a1 i1 i2 h0) := by
 refine con_of f #[vR a1, vR a2, vI 0, vI 2, .val .null, .unset] (plainFor_of_name pn_1) (fun m => rfl) Zf ?_
 intro C H hX0
 refine r_aloadN H 1 d_j42_149_0 ?_
 refine r_initO (W := 0) H 4 d_j42_149_1 (tw15 hw) (tw16 hw) (tw17 hw) ?_
 refine r_iloadN H 5 d_j42_149_4 ?_
 refine r_ifneT H 27 d_j42_149_5 (by decide) (by decide) (by decide) ?_
 refine r_gets H 30 d_j42_149_27 (tw40 hw) S_cs ?_
 refine r_ifeqF H 33 d_j42_149_30 rfl hcs ?_
 refine r_aloadN H 34 d_j42_149_33 ?_
 refine r_iloadN H 35 d_j42_149_34 ?_
 refine r_iloadN H 36 d_j42_149_35 ?_
 refine r_static (argsL := [.ref a2, .int 0, .int 2]) (rest := []) (W := 0) H 39 d_j42_149_36 (tw41 hw) (tw42 hw) (tw43 hw) (tw44 hw) (lenOf pd_10 rfl) (rm_compress_35 hw Ts a2 i1 i2 c1 h0 f Zf Z0 A_a2 E_a2 r_i1 r_i2 S__assertionsDisabled S_HI_BYTE_SHIFT S_LO_BYTE_SHIFT) ?_
 rintro _ hh15 (⟨b1, kc2, rfl, c4, c5, K3, g6, q7, q8⟩ | ⟨b9, kc10, rfl, K11, g12, q13, q14⟩)
 ·
  refine r_astore H 41 #[vR a1, vR a2, vI 0, vI 2, .val .null, vR b1] d_j42_149_39 ?_
  refine r_aloadN H 42 d_j42_149_41 ?_
  refine r_aload H 44 d_j42_149_42 ?_
  refine r_iloadN H 45 d_j42_149_44 ?_
  refine r_static (argsL := [.ref b1, .int 2]) (rest := [.ref a1]) (W := 1) H 48 d_j42_149_45 (tw48 hw) (tw49 hw) (tw43 hw) (tw50 hw) (lenOf pd_12 rfl) (rm_coderFromArrayLen_42 hw Ts b1 i1 i2 kc2 hh15 f Zf (nlt Z0 K3.1) q7) ?_
  rintro _ _ ⟨rfl, rfl⟩
  have q19 := (E_a1.keep K3)
  have q20 := (F_coder_a1.keep K3 nin0)
  refine r_putn (v' := (.int 0)) (ty := .byte) H 51 d_j42_149_48 (tw25 hw) q20 q19 (Or.inr ⟨(tw21 hw), rfl, rfl⟩) (tw6 hw) g_a1 ?_
  intro h21 W21 K21 E21 F21
  refine r_aloadN H 52 d_j42_149_51 ?_
  refine r_aload H 54 d_j42_149_52 ?_
  have q22 := ((F_value_a1.keep K3 nin0).other W21 (Or.inr (slot_ne (Or.inr (tw20 hw)) (Or.inr (tw21 hw)) (by decide) (t := (.array .byte)) (t' := .byte) (by decide) (by decide))))
  refine r_putf (ty := (.array .byte)) H 57 d_j42_149_54 (tw24 hw) q22 E21 (Or.inr ⟨(tw20 hw), rfl, rfl⟩) (tw6 hw) g_a1 ?_
  intro h23 W23 K23 E23 F23
  have k24 : Keep h0 hh15 [a1] := Keep.trans (Keep.refl h0 [a1]) K3 all0
  have k25 : Keep h0 h21 [a1] := Keep.trans k24 K21 (allS (Or.inl (List.mem_of_getElem? (i := 0) rfl)) all0)
  have k26 : Keep h0 h23 [a1] := Keep.trans k25 K23 (allS (Or.inl (List.mem_of_getElem? (i := 0) rfl)) all0)
  have q27 := (F21.other W23 (Or.inr (slot_ne (Or.inr (tw21 hw)) (Or.inr (tw20 hw)) (by decide) (t := .byte) (t' := (.array .byte)) (by decide) (by decide))))
  have q28 := ((q7.keep K21 (ninS (Ne.symm (Nat.ne_of_lt (Nat.lt_of_lt_of_le E_a1.lt (nlt nlr g6)))) nin0)).keep K23 (ninS (Ne.symm (Nat.ne_of_lt (Nat.lt_of_lt_of_le E_a1.lt (nlt nlr g6)))) nin0))
  have q29 := ((q8.keep K21).keep K23)
  exact r_return H d_j42_149_57 (Or.inl ⟨b1, kc2, rfl, c4, c5, k26, (nlt nlr g6), E23, q27, F23, q28, q29⟩)
 ·
  refine r_astore H 41 #[vR a1, vR a2, vI 0, vI 2, .val .null, vR b9] d_j42_149_39 ?_
  refine r_aloadN H 42 d_j42_149_41 ?_
  refine r_aload H 44 d_j42_149_42 ?_
  refine r_iloadN H 45 d_j42_149_44 ?_
  refine r_static (argsL := [.ref b9, .int 2]) (rest := [.ref a1]) (W := 1) H 48 d_j42_149_45 (tw48 hw) (tw49 hw) (tw43 hw) (tw50 hw) (lenOf pd_12 rfl) (rm_coderFromArrayLen_43 hw Ts b9 i1 i2 kc10 hh15 f Zf (nlt Z0 K11.1) q13) ?_
  rintro _ _ ⟨rfl, rfl⟩
  have q31 := (E_a1.keep K11)
  have q32 := (F_coder_a1.keep K11 nin0)
  refine r_putn (v' := (.int 1)) (ty := .byte) H 51 d_j42_149_48 (tw25 hw) q32 q31 (Or.inr ⟨(tw21 hw), rfl, rfl⟩) (tw6 hw) g_a1 ?_
  intro h33 W33 K33 E33 F33
  refine r_aloadN H 52 d_j42_149_51 ?_
  refine r_aload H 54 d_j42_149_52 ?_
  have q34 := ((F_value_a1.keep K11 nin0).other W33 (Or.inr (slot_ne (Or.inr (tw20 hw)) (Or.inr (tw21 hw)) (by decide) (t := (.array .byte)) (t' := .byte) (by decide) (by decide))))
  refine r_putf (ty := (.array .byte)) H 57 d_j42_149_54 (tw24 hw) q34 E33 (Or.inr ⟨(tw20 hw), rfl, rfl⟩) (tw6 hw) g_a1 ?_
  intro h35 W35 K35 E35 F35
  have k36 : Keep h0 hh15 [a1] := Keep.trans (Keep.refl h0 [a1]) K11 all0
  have k37 : Keep h0 h33 [a1] := Keep.trans k36 K33 (allS (Or.inl (List.mem_of_getElem? (i := 0) rfl)) all0)
  have k38 : Keep h0 h35 [a1] := Keep.trans k37 K35 (allS (Or.inl (List.mem_of_getElem? (i := 0) rfl)) all0)
  have q39 := (F33.other W35 (Or.inr (slot_ne (Or.inr (tw21 hw)) (Or.inr (tw20 hw)) (by decide) (t := .byte) (t' := (.array .byte)) (by decide) (by decide))))
  have q40 := ((q13.keep K33 (ninS (Ne.symm (Nat.ne_of_lt (Nat.lt_of_lt_of_le E_a1.lt (nlt nlr g12)))) nin0)).keep K35 (ninS (Ne.symm (Nat.ne_of_lt (Nat.lt_of_lt_of_le E_a1.lt (nlt nlr g12)))) nin0))
  have q41 := ((q14.keep K33).keep K35)
  exact r_return H d_j42_149_57 (Or.inr (⟨b9, kc10, rfl, k38, (nlt nlr g12), E35, q39, F35, q40, q41⟩))
def Q_init_33 (Z : State) (a1 : Addr) (i1 : Int32) (i2 : Int32) (h0 : Heap) (v : Option Value) (h : Heap) : Prop := (∃ (b1 : Addr) (kc2 : ClassId), v = none ∧ (¬ (255 : Int32) < i1) ∧ (¬ (255 : Int32) < i2) ∧ Keep h0 h [a1] ∧ h0.size ≤ b1 ∧ Exa Z h a1 "java/lang/String" ∧ Fld Z h a1 "java/lang/String" "coder" "B" (.int 0) ∧ Fld Z h a1 "java/lang/String" "value" "[B" (.ref b1) ∧ Ar Z h b1 kc2 .byte [.int (cB8 i1), .int (cB8 i2)] ∧ Exa Z h b1 "[B") ∨ (∃ (b12 : Addr) (kc13 : ClassId), v = none ∧ Keep h0 h [a1] ∧ h0.size ≤ b12 ∧ Exa Z h a1 "java/lang/String" ∧ Fld Z h a1 "java/lang/String" "coder" "B" (.int 1) ∧ Fld Z h a1 "java/lang/String" "value" "[B" (.ref b12) ∧ Ar Z h b12 kc13 .byte [.int (cL8 i1), .int (cH8 i1), .int (cL8 i2), .int (cH8 i2)] ∧ Exa Z h b12 "[B")
def R_init_33 : Room := { frames := 5, cells := 2, slots := 6, locals := 74 }
theorem rm_init_33 {w : Bool} {Z : State} {a0 : Array Value} (hw : HW a0 Z) (Ts : List String) (a1 : Addr) (a2 : Addr) (i1 : Int32) (i2 : Int32) (c1 : ClassId) (cs : Int32) (h0 : Heap) (f : Nat) (Zf : Z.heap.size ≤ f) (Z0 : f ≤ h0.size) (A_a2 : Ar Z h0 a2 c1 .char [.int i1, .int i2]) (g_a1 : f ≤ a1) (E_a2 : Exa Z h0 a2 "[C") (E_a1 : Exa Z h0 a1 "java/lang/String") (F_coder_a1 : Fld Z h0 a1 "java/lang/String" "coder" "B" (.int 0)) (F_value_a1 : Fld Z h0 a1 "java/lang/String" "value" "[B" .null) (r_i1 : 0 ≤ i1.toInt ∧ i1.toInt ≤ 65535) (r_i2 : 0 ≤ i2.toInt ∧ i2.toInt ≤ 65535) (S_cs : G_S_cs Z cs) (S__assertionsDisabled : G_S__assertionsDisabled Z) (S_HI_BYTE_SHIFT : G_S_HI_BYTE_SHIFT Z) (S_LO_BYTE_SHIFT : G_S_LO_BYTE_SHIFT Z) (hcs : ¬ cs = 0) :
  Con w [] Z mn2 jdk_42_method_3_code 2 none R_init_33 Ts Ts f #[.ref a1, .ref a2] h0 (Q_init_33 Z a1 i1 i2 h0) := by
 refine con_of f #[vR a1, vR a2] (plainFor_of_name pn_1) (fun m => rfl) Zf ?_
 intro C H hX0
 refine r_aloadN H 1 d_j42_3_0 ?_
 refine r_aloadN H 2 d_j42_3_1 ?_
 refine r_iconst H 3 0 d_j42_3_2 ?_
 refine r_aloadN H 4 d_j42_3_3 ?_
 refine r_alen H 5 2 d_j42_3_4 A_a2 ?_
 refine r_null H 6 d_j42_3_5 ?_
 refine r_special (a := a1) (argsL := [.ref a2, .int 0, .int 2, .null]) (rest := []) (W := 0) H 9 d_j42_3_6 (tw11 hw) (tw12 hw) (tw7 hw) (tw14 hw) (lenOf pd_1 rfl) (rm_init_34 hw Ts a1 a2 i1 i2 c1 cs h0 f Zf Z0 A_a2 E_a2 E_a1 F_coder_a1 g_a1 F_value_a1 r_i1 r_i2 S_cs S__assertionsDisabled S_HI_BYTE_SHIFT S_LO_BYTE_SHIFT hcs) ?_
 rintro _ hh21 (⟨b1, kc2, rfl, c4, c5, K3, g6, q7, q8, q9, q10, q11⟩ | ⟨b12, kc13, rfl, K14, g15, q16, q17, q18, q19, q20⟩)
 ·
  have k24 : Keep h0 hh21 [a1] := Keep.trans (Keep.refl h0 [a1]) K3 (allS (Or.inl (List.mem_of_getElem? (i := 0) rfl)) all0)
  exact r_return H d_j42_3_9 (Or.inl ⟨b1, kc2, rfl, c4, c5, k24, (nlt nlr g6), q7, q8, q9, q10, q11⟩)
 ·
  have k25 : Keep h0 hh21 [a1] := Keep.trans (Keep.refl h0 [a1]) K14 (allS (Or.inl (List.mem_of_getElem? (i := 0) rfl)) all0)
  exact r_return H d_j42_3_9 (Or.inr (⟨b12, kc13, rfl, k25, (nlt nlr g15), q16, q17, q18, q19, q20⟩))
def fn_readAlikeByEitherSetting_44 (i1 : Int32) (i2 : Int32) : Int32 := (if (if i2 = (39 : Int32) then (if ((if i1 = (92 : Int32) then (1 : Int32) else (0 : Int32)) % (2 : Int32)) = (0 : Int32) then (1 : Int32) else (0 : Int32)) else (1 : Int32)) = (0 : Int32) then (if i2 = (39 : Int32) then (if ((if i1 = (92 : Int32) then (1 : Int32) else (0 : Int32)) % (2 : Int32)) = (0 : Int32) then (1 : Int32) else (0 : Int32)) else (1 : Int32)) else (if i2 = (39 : Int32) then (if ((if i1 = (92 : Int32) then (1 : Int32) else (0 : Int32)) % (2 : Int32)) = (0 : Int32) then (1 : Int32) else (0 : Int32)) else (1 : Int32)))
def Q_readAlikeByEitherSetting_44 (Z : State) (i1 : Int32) (i2 : Int32) (h0 : Heap) (v : Option Value) (h : Heap) : Prop := ∃ z : Int32, v = some (.int z) ∧ h0 = h ∧ (fn_readAlikeByEitherSetting_44 i1 i2) = z ∧ (0 ≤ z.toInt ∧ z.toInt ≤ 1)
def R_readAlikeByEitherSetting_44 : Room := { frames := 4, cells := 0, slots := 0, locals := 53 }
theorem rm_readAlikeByEitherSetting_44 {w : Bool} {Z : State} {a0 : Array Value} (hw : HW a0 Z) (Ts : List String) (a1 : Addr) (a2 : Addr) (i1 : Int32) (i2 : Int32) (c1 : ClassId) (cs : Int32) (sio : Value) (h0 : Heap) (f : Nat) (Zf : Z.heap.size ≤ f) (Z0 : f ≤ h0.size) (E_a1 : Exa Z h0 a1 "java/lang/String") (F_value_a1 : Fld Z h0 a1 "java/lang/String" "value" "[B" (.ref a2)) (A_a2 : Ar Z h0 a2 c1 .byte [.int (cB8 i1), .int (cB8 i2)]) (F_coder_a1 : Fld Z h0 a1 "java/lang/String" "coder" "B" (.int 0)) (r_i1 : 0 ≤ i1.toInt ∧ i1.toInt ≤ 255) (r_i2 : 0 ≤ i2.toInt ∧ i2.toInt ≤ 255) (S_cs : G_S_cs Z cs) (S_sio : G_S_sio Z sio) (hsio : G_hsio Z sio) (hcs : ¬ cs = 0) :
  Con w [] Z mn5 prog_52_method_4_code 5 (some .boolean) R_readAlikeByEitherSetting_44 Ts Ts f #[.ref a1] h0 (Q_readAlikeByEitherSetting_44 Z i1 i2 h0) := by
 refine con_of f #[vR a1, .unset, .unset, .unset, .unset] (plainFor_of_name pn_2) (fun m => rfl) Zf ?_
 intro C H hX0
 refine r_iconst H 1 1 d_g52_4_0 ?_
 refine r_istoreN H 2 #[vR a1, vI 1, .unset, .unset, .unset] d_g52_4_1 ?_
 refine r_iconst H 3 0 d_g52_4_2 ?_
 refine r_istoreN H 4 #[vR a1, vI 1, vI 0, .unset, .unset] d_g52_4_3 ?_
 refine r_iconst H 5 0 d_g52_4_4 ?_
 refine r_istoreN H 6 #[vR a1, vI 1, vI 0, vI 0, .unset] d_g52_4_5 ?_
 refine r_iloadN H 7 d_g52_4_6 ?_
 refine r_ifeqF H 10 d_g52_4_7 rfl (by decide) ?_
 refine r_iloadN H 11 d_g52_4_10 ?_
 refine r_aloadN H 12 d_g52_4_11 ?_
 refine r_virtual (z := mn4) (a := a1) (argsL := []) (rest := [.int 0]) (W := 1) H 15 d_g52_4_12 (tw30 hw) (tw31 hw) (nf_sel (tw33 hw)) (tw33 hw) (tw32 hw) (tw7 hw) (tw34 hw) E_a1 (lenOf pd_4 rfl) (rm_length_19 hw Ts a1 a2 c1 _ (2 : Int32) cs h0 f Zf Z0 F_value_a1 A_a2 E_a1 F_coder_a1 rfl S_cs hcs) ?_
 rintro _ _ ⟨p1, rfl, ep1, rfl⟩
 have hzp1 : (2 : Int32) = p1 := by rw [← ep1]; decide
 subst hzp1
 refine r_icmpgeF H 18 d_g52_4_15 ?_
 refine r_aloadN H 19 d_g52_4_18 ?_
 refine r_iloadN H 20 d_g52_4_19 ?_
 refine r_virtual (z := mn18) (a := a1) (argsL := [.int 0]) (rest := []) (W := 0) H 23 d_g52_4_20 (tw51 hw) (tw52 hw) (nf_sel (tw54 hw)) (tw54 hw) (tw53 hw) (tw7 hw) (tw55 hw) E_a1 (lenOf pd_16 rfl) (rm_charAt_20 hw Ts a1 (0 : Int32) a2 c1 _ (2 : Int32) (cB8 i1) cs sio h0 f Zf Z0 E_a1 F_coder_a1 F_value_a1 A_a2 rfl rfl (by decide) (by decide) (by decide) S_cs S_sio hsio hcs) ?_
 rintro _ _ ⟨p3, rfl, ep3, rp3, rfl⟩
 have hzp3 : i1 = p3 := by rw [← ep3]; exact (own_l8 i1 (by have := r_i1; omega)).symm
 subst hzp3
 refine r_istore H 25 #[vR a1, vI 1, vI 0, vI 0, vI i1] d_g52_4_23 ?_
 refine r_iload H 27 d_g52_4_25 ?_
 refine r_bipush H 29 39 d_g52_4_27 ?_
 refine Run.join (P := fun _ => True) (pcB := 43) (LB := fun _ => #[vR a1, vI 1, vI 0, vI 0, vI i1]) (SB := fun _ => [.int 1]) (fun key => ?_) ?_
 ·
  refine r_icmpne H 38 32 d_g52_4_29 (fun c5 => ?_) (fun c5 => ?_)
  ·
   refine r_iconst H 39 1 d_g52_4_38 ?_
   refine r_goto H 43 d_g52_4_39 ?_
   exact key 0 trivial
  ·
   refine r_iloadN H 33 d_g52_4_32 ?_
   refine r_iconst H 34 2 d_g52_4_33 ?_
   refine r_irem H 35 (0 : Int32) d_g52_4_34 (by decide) ?_
   refine r_ifneF H 38 d_g52_4_35 rfl (by decide) ?_
   refine r_iconst H 39 1 d_g52_4_38 ?_
   refine r_goto H 43 d_g52_4_39 ?_
   exact key 0 trivial
 rintro _ _
 refine r_istoreN H 44 #[vR a1, vI 1, vI 0, vI 0, vI i1] d_g52_4_43 ?_
 refine r_iload H 46 d_g52_4_44 ?_
 refine r_bipush H 48 92 d_g52_4_46 ?_
 refine Run.join (P := fun z => (if i1 = (92 : Int32) then (1 : Int32) else (0 : Int32)) = z ∧ (0 ≤ z.toInt ∧ z.toInt ≤ 1)) (pcB := 58) (LB := fun z => #[vR a1, vI 1, vI 0, vI 0, vI i1]) (SB := fun z => [.int z]) (fun key => ?_) ?_
 ·
  refine r_icmpne H 57 51 d_g52_4_48 (fun c7 => ?_) (fun c7 => ?_)
  ·
   refine r_iconst H 58 0 d_g52_4_57 ?_
   exact key (0 : Int32) ⟨(by rw [if_neg c7]), (by decide)⟩
  ·
   refine r_iloadN H 52 d_g52_4_51 ?_
   refine r_iconst H 53 1 d_g52_4_52 ?_
   refine r_iadd H 54 1 d_g52_4_53 (by decide) ?_
   refine r_goto H 58 d_g52_4_54 ?_
   exact key (1 : Int32) ⟨(by rw [if_pos c7]), (by decide)⟩
 rintro p9 ⟨ep9, rp9⟩
 refine r_istoreN H 59 #[vR a1, vI 1, vI p9, vI 0, vI i1] d_g52_4_58 ?_
 refine r_iinc H 62 #[vR a1, vI 1, vI p9, vI 1, vI i1] 1 d_g52_4_59 ?_
 refine r_goto H 6 d_g52_4_62 ?_
 refine r_iloadN H 7 d_g52_4_6 ?_
 refine r_ifeqF H 10 d_g52_4_7 rfl (by decide) ?_
 refine r_iloadN H 11 d_g52_4_10 ?_
 refine r_aloadN H 12 d_g52_4_11 ?_
 refine r_virtual (z := mn4) (a := a1) (argsL := []) (rest := [.int 1]) (W := 1) H 15 d_g52_4_12 (tw30 hw) (tw31 hw) (nf_sel (tw33 hw)) (tw33 hw) (tw32 hw) (tw7 hw) (tw34 hw) E_a1 (lenOf pd_4 rfl) (rm_length_19 hw Ts a1 a2 c1 _ (2 : Int32) cs h0 f Zf Z0 F_value_a1 A_a2 E_a1 F_coder_a1 rfl S_cs hcs) ?_
 rintro _ _ ⟨p10, rfl, ep10, rfl⟩
 have hzp10 : (2 : Int32) = p10 := by rw [← ep10]; decide
 subst hzp10
 refine r_icmpgeF H 18 d_g52_4_15 ?_
 refine r_aloadN H 19 d_g52_4_18 ?_
 refine r_iloadN H 20 d_g52_4_19 ?_
 refine r_virtual (z := mn18) (a := a1) (argsL := [.int 1]) (rest := []) (W := 0) H 23 d_g52_4_20 (tw51 hw) (tw52 hw) (nf_sel (tw54 hw)) (tw54 hw) (tw53 hw) (tw7 hw) (tw55 hw) E_a1 (lenOf pd_16 rfl) (rm_charAt_20 hw Ts a1 (1 : Int32) a2 c1 _ (2 : Int32) (cB8 i2) cs sio h0 f Zf Z0 E_a1 F_coder_a1 F_value_a1 A_a2 rfl rfl (by decide) (by decide) (by decide) S_cs S_sio hsio hcs) ?_
 rintro _ _ ⟨p12, rfl, ep12, rp12, rfl⟩
 have hzp12 : i2 = p12 := by rw [← ep12]; exact (own_l8 i2 (by have := r_i2; omega)).symm
 subst hzp12
 refine r_istore H 25 #[vR a1, vI 1, vI p9, vI 1, vI i2] d_g52_4_23 ?_
 refine r_iload H 27 d_g52_4_25 ?_
 refine r_bipush H 29 39 d_g52_4_27 ?_
 refine Run.join (P := fun z => (if i2 = (39 : Int32) then (if (p9 % (2 : Int32)) = (0 : Int32) then (1 : Int32) else (0 : Int32)) else (1 : Int32)) = z ∧ (0 ≤ z.toInt ∧ z.toInt ≤ 1)) (pcB := 43) (LB := fun z => #[vR a1, vI 1, vI p9, vI 1, vI i2]) (SB := fun z => [.int z]) (fun key => ?_) ?_
 ·
  refine r_icmpne H 38 32 d_g52_4_29 (fun c14 => ?_) (fun c14 => ?_)
  ·
   refine r_iconst H 39 1 d_g52_4_38 ?_
   refine r_goto H 43 d_g52_4_39 ?_
   exact key (1 : Int32) ⟨(by rw [if_neg c14]), (by decide)⟩
  ·
   refine r_iloadN H 33 d_g52_4_32 ?_
   refine r_iconst H 34 2 d_g52_4_33 ?_
   obtain ⟨p16, ep16, rp16⟩ : ∃ p : Int32, (p9 % (2 : Int32)) = p ∧ 0 ≤ p.toInt ∧ p.toInt ≤ 1 := ⟨_, rfl, (by have := rp9; have h := (c_irem p9 (2 : Int32) 2 (by decide)).1 (by omega); omega)⟩
   refine r_irem H 35 p16 d_g52_4_34 ep16 ?_
   refine Run.join (P := fun z => (if p16 = (0 : Int32) then (1 : Int32) else (0 : Int32)) = z ∧ (0 ≤ z.toInt ∧ z.toInt ≤ 1)) (pcB := 43) (LB := fun z => #[vR a1, vI 1, vI p9, vI 1, vI i2]) (SB := fun z => [.int z]) (fun key => ?_) ?_
   ·
    refine r_ifne H 42 38 d_g52_4_35 (fun c17 => ?_) (fun c17 => ?_)
    ·
     refine r_iconst H 43 0 d_g52_4_42 ?_
     exact key (0 : Int32) ⟨(by rw [if_neg c17]), (by decide)⟩
    ·
     refine r_iconst H 39 1 d_g52_4_38 ?_
     refine r_goto H 43 d_g52_4_39 ?_
     exact key (1 : Int32) ⟨(by rw [if_pos c17]), (by decide)⟩
   rintro p20 ⟨ep20, rp20⟩
   exact key p20 ⟨(by subst ep16 ep20; rw [if_pos c14]), (by have := rp20; omega)⟩
 rintro p21 ⟨ep21, rp21⟩
 refine r_istoreN H 44 #[vR a1, vI p21, vI p9, vI 1, vI i2] d_g52_4_43 ?_
 refine r_iload H 46 d_g52_4_44 ?_
 refine r_bipush H 48 92 d_g52_4_46 ?_
 refine Run.join (P := fun z => (if i2 = (92 : Int32) then (p9 + (1 : Int32)) else (0 : Int32)) = z ∧ (0 ≤ z.toInt ∧ z.toInt ≤ 2)) (pcB := 58) (LB := fun z => #[vR a1, vI p21, vI p9, vI 1, vI i2]) (SB := fun z => [.int z]) (fun key => ?_) ?_
 ·
  refine r_icmpne H 57 51 d_g52_4_48 (fun c22 => ?_) (fun c22 => ?_)
  ·
   refine r_iconst H 58 0 d_g52_4_57 ?_
   exact key (0 : Int32) ⟨(by rw [if_neg c22]), (by decide)⟩
  ·
   refine r_iloadN H 52 d_g52_4_51 ?_
   refine r_iconst H 53 1 d_g52_4_52 ?_
   obtain ⟨p24, ep24, rp24⟩ : ∃ p : Int32, (p9 + (1 : Int32)) = p ∧ 1 ≤ p.toInt ∧ p.toInt ≤ 2 := ⟨_, rfl, (by have := rp9; have : (1 : Int32).toInt = 1 := (by decide); have h1 := c_iadd p9 (1 : Int32); have h2 := rng32 (p9 + (1 : Int32)); omega)⟩
   refine r_iadd H 54 p24 d_g52_4_53 ep24 ?_
   refine r_goto H 58 d_g52_4_54 ?_
   exact key p24 ⟨(by subst ep24; rw [if_pos c22]), (by have := rp24; omega)⟩
 rintro p25 ⟨ep25, rp25⟩
 refine r_istoreN H 59 #[vR a1, vI p21, vI p25, vI 1, vI i2] d_g52_4_58 ?_
 refine r_iinc H 62 #[vR a1, vI p21, vI p25, vI 2, vI i2] 2 d_g52_4_59 ?_
 refine r_goto H 6 d_g52_4_62 ?_
 refine r_iloadN H 7 d_g52_4_6 ?_
 refine r_ifeq H 65 10 d_g52_4_7 (fun c26 => ?_) (fun c26 => ?_)
 ·
  have rr27 : 0 ≤ p21.toInt ∧ p21.toInt ≤ 0 := by have := rp21; have : (0 : Int32).toInt = 0 := (by decide); have hc_ := c26; simp only [Int32.lt_iff_toInt_lt, ← Int32.toInt_inj] at hc_; omega
  refine r_iloadN H 66 d_g52_4_65 ?_
  subst ep9 ep21 ep25
  exact r_nreturn (if i2 = (39 : Int32) then (if ((if i1 = (92 : Int32) then (1 : Int32) else (0 : Int32)) % (2 : Int32)) = (0 : Int32) then (1 : Int32) else (0 : Int32)) else (1 : Int32)) H d_g52_4_66 (nar_bool_id (by have := rr27; omega)) (⟨_, rfl, rfl, (by unfold fn_readAlikeByEitherSetting_44; rw [if_pos c26]), (by have := rr27; omega)⟩)
 ·
  have rr28 : 1 ≤ p21.toInt ∧ p21.toInt ≤ 1 := by have := rp21; have : (0 : Int32).toInt = 0 := (by decide); have hc_ := c26; simp only [Int32.lt_iff_toInt_lt, ← Int32.toInt_inj] at hc_; omega
  refine r_iloadN H 11 d_g52_4_10 ?_
  refine r_aloadN H 12 d_g52_4_11 ?_
  refine r_virtual (z := mn4) (a := a1) (argsL := []) (rest := [.int 2]) (W := 1) H 15 d_g52_4_12 (tw30 hw) (tw31 hw) (nf_sel (tw33 hw)) (tw33 hw) (tw32 hw) (tw7 hw) (tw34 hw) E_a1 (lenOf pd_4 rfl) (rm_length_19 hw Ts a1 a2 c1 _ (2 : Int32) cs h0 f Zf Z0 F_value_a1 A_a2 E_a1 F_coder_a1 rfl S_cs hcs) ?_
  rintro _ _ ⟨p29, rfl, ep29, rfl⟩
  have hzp29 : (2 : Int32) = p29 := by rw [← ep29]; decide
  subst hzp29
  refine r_icmpgeT H 65 d_g52_4_15 ?_
  refine r_iloadN H 66 d_g52_4_65 ?_
  subst ep9 ep21 ep25
  exact r_nreturn (if i2 = (39 : Int32) then (if ((if i1 = (92 : Int32) then (1 : Int32) else (0 : Int32)) % (2 : Int32)) = (0 : Int32) then (1 : Int32) else (0 : Int32)) else (1 : Int32)) H d_g52_4_66 (nar_bool_id (by have := rr28; omega)) (⟨_, rfl, rfl, (by unfold fn_readAlikeByEitherSetting_44; rw [if_neg c26]), (by have := rr28; omega)⟩)
def fn_readAlikeByEitherSetting_45 (i1 : Int32) (i2 : Int32) : Int32 := (if (if i2 = (39 : Int32) then (if ((if i1 = (92 : Int32) then (1 : Int32) else (0 : Int32)) % (2 : Int32)) = (0 : Int32) then (1 : Int32) else (0 : Int32)) else (1 : Int32)) = (0 : Int32) then (if i2 = (39 : Int32) then (if ((if i1 = (92 : Int32) then (1 : Int32) else (0 : Int32)) % (2 : Int32)) = (0 : Int32) then (1 : Int32) else (0 : Int32)) else (1 : Int32)) else (if i2 = (39 : Int32) then (if ((if i1 = (92 : Int32) then (1 : Int32) else (0 : Int32)) % (2 : Int32)) = (0 : Int32) then (1 : Int32) else (0 : Int32)) else (1 : Int32)))
def Q_readAlikeByEitherSetting_45 (Z : State) (i1 : Int32) (i2 : Int32) (h0 : Heap) (v : Option Value) (h : Heap) : Prop := ∃ z : Int32, v = some (.int z) ∧ h0 = h ∧ (fn_readAlikeByEitherSetting_45 i1 i2) = z ∧ (0 ≤ z.toInt ∧ z.toInt ≤ 1)
def R_readAlikeByEitherSetting_45 : Room := { frames := 5, cells := 0, slots := 0, locals := 66 }
theorem rm_readAlikeByEitherSetting_45 {w : Bool} {Z : State} {a0 : Array Value} (hw : HW a0 Z) (Ts : List String) (a1 : Addr) (a2 : Addr) (i1 : Int32) (i2 : Int32) (c1 : ClassId) (cs : Int32) (sio : Value) (h0 : Heap) (f : Nat) (Zf : Z.heap.size ≤ f) (Z0 : f ≤ h0.size) (E_a1 : Exa Z h0 a1 "java/lang/String") (F_value_a1 : Fld Z h0 a1 "java/lang/String" "value" "[B" (.ref a2)) (A_a2 : Ar Z h0 a2 c1 .byte [.int (cL8 i1), .int (cH8 i1), .int (cL8 i2), .int (cH8 i2)]) (F_coder_a1 : Fld Z h0 a1 "java/lang/String" "coder" "B" (.int 1)) (r_i1 : 0 ≤ i1.toInt ∧ i1.toInt ≤ 65535) (r_i2 : 0 ≤ i2.toInt ∧ i2.toInt ≤ 65535) (S_cs : G_S_cs Z cs) (S_sio : G_S_sio Z sio) (hsio : G_hsio Z sio) (S__assertionsDisabled : G_S__assertionsDisabled Z) (S_HI_BYTE_SHIFT : G_S_HI_BYTE_SHIFT Z) (S_LO_BYTE_SHIFT : G_S_LO_BYTE_SHIFT Z) (hcs : ¬ cs = 0) :
  Con w [] Z mn5 prog_52_method_4_code 5 (some .boolean) R_readAlikeByEitherSetting_45 Ts Ts f #[.ref a1] h0 (Q_readAlikeByEitherSetting_45 Z i1 i2 h0) := by
 refine con_of f #[vR a1, .unset, .unset, .unset, .unset] (plainFor_of_name pn_2) (fun m => rfl) Zf ?_
 intro C H hX0
 refine r_iconst H 1 1 d_g52_4_0 ?_
 refine r_istoreN H 2 #[vR a1, vI 1, .unset, .unset, .unset] d_g52_4_1 ?_
 refine r_iconst H 3 0 d_g52_4_2 ?_
 refine r_istoreN H 4 #[vR a1, vI 1, vI 0, .unset, .unset] d_g52_4_3 ?_
 refine r_iconst H 5 0 d_g52_4_4 ?_
 refine r_istoreN H 6 #[vR a1, vI 1, vI 0, vI 0, .unset] d_g52_4_5 ?_
 refine r_iloadN H 7 d_g52_4_6 ?_
 refine r_ifeqF H 10 d_g52_4_7 rfl (by decide) ?_
 refine r_iloadN H 11 d_g52_4_10 ?_
 refine r_aloadN H 12 d_g52_4_11 ?_
 refine r_virtual (z := mn4) (a := a1) (argsL := []) (rest := [.int 0]) (W := 1) H 15 d_g52_4_12 (tw30 hw) (tw31 hw) (nf_sel (tw33 hw)) (tw33 hw) (tw32 hw) (tw7 hw) (tw34 hw) E_a1 (lenOf pd_4 rfl) (rm_length_26 hw Ts a1 a2 c1 _ (4 : Int32) cs h0 f Zf Z0 F_value_a1 A_a2 E_a1 F_coder_a1 rfl S_cs hcs) ?_
 rintro _ _ ⟨p1, rfl, ep1, rfl⟩
 have hzp1 : (2 : Int32) = p1 := by rw [← ep1]; decide
 subst hzp1
 refine r_icmpgeF H 18 d_g52_4_15 ?_
 refine r_aloadN H 19 d_g52_4_18 ?_
 refine r_iloadN H 20 d_g52_4_19 ?_
 refine r_virtual (z := mn18) (a := a1) (argsL := [.int 0]) (rest := []) (W := 0) H 23 d_g52_4_20 (tw51 hw) (tw52 hw) (nf_sel (tw54 hw)) (tw54 hw) (tw53 hw) (tw7 hw) (tw55 hw) E_a1 (lenOf pd_16 rfl) (rm_charAt_28 hw Ts a1 (0 : Int32) a2 c1 _ (4 : Int32) (cL8 i1) (cH8 i1) cs sio h0 f Zf Z0 E_a1 F_coder_a1 F_value_a1 A_a2 rfl rfl rfl (by decide) (by decide) (by decide) (by decide) S_cs S_sio hsio S__assertionsDisabled S_HI_BYTE_SHIFT S_LO_BYTE_SHIFT hcs) ?_
 rintro _ _ ⟨p3, rfl, ep3, rp3, rfl⟩
 have hzp3 : i1 = p3 := by rw [← ep3]; exact (own_u16 i1 (by have := r_i1; omega)).symm
 subst hzp3
 refine r_istore H 25 #[vR a1, vI 1, vI 0, vI 0, vI i1] d_g52_4_23 ?_
 refine r_iload H 27 d_g52_4_25 ?_
 refine r_bipush H 29 39 d_g52_4_27 ?_
 refine Run.join (P := fun _ => True) (pcB := 43) (LB := fun _ => #[vR a1, vI 1, vI 0, vI 0, vI i1]) (SB := fun _ => [.int 1]) (fun key => ?_) ?_
 ·
  refine r_icmpne H 38 32 d_g52_4_29 (fun c5 => ?_) (fun c5 => ?_)
  ·
   refine r_iconst H 39 1 d_g52_4_38 ?_
   refine r_goto H 43 d_g52_4_39 ?_
   exact key 0 trivial
  ·
   refine r_iloadN H 33 d_g52_4_32 ?_
   refine r_iconst H 34 2 d_g52_4_33 ?_
   refine r_irem H 35 (0 : Int32) d_g52_4_34 (by decide) ?_
   refine r_ifneF H 38 d_g52_4_35 rfl (by decide) ?_
   refine r_iconst H 39 1 d_g52_4_38 ?_
   refine r_goto H 43 d_g52_4_39 ?_
   exact key 0 trivial
 rintro _ _
 refine r_istoreN H 44 #[vR a1, vI 1, vI 0, vI 0, vI i1] d_g52_4_43 ?_
 refine r_iload H 46 d_g52_4_44 ?_
 refine r_bipush H 48 92 d_g52_4_46 ?_
 refine Run.join (P := fun z => (if i1 = (92 : Int32) then (1 : Int32) else (0 : Int32)) = z ∧ (0 ≤ z.toInt ∧ z.toInt ≤ 1)) (pcB := 58) (LB := fun z => #[vR a1, vI 1, vI 0, vI 0, vI i1]) (SB := fun z => [.int z]) (fun key => ?_) ?_
 ·
  refine r_icmpne H 57 51 d_g52_4_48 (fun c7 => ?_) (fun c7 => ?_)
  ·
   refine r_iconst H 58 0 d_g52_4_57 ?_
   exact key (0 : Int32) ⟨(by rw [if_neg c7]), (by decide)⟩
  ·
   refine r_iloadN H 52 d_g52_4_51 ?_
   refine r_iconst H 53 1 d_g52_4_52 ?_
   refine r_iadd H 54 1 d_g52_4_53 (by decide) ?_
   refine r_goto H 58 d_g52_4_54 ?_
   exact key (1 : Int32) ⟨(by rw [if_pos c7]), (by decide)⟩
 rintro p9 ⟨ep9, rp9⟩
 refine r_istoreN H 59 #[vR a1, vI 1, vI p9, vI 0, vI i1] d_g52_4_58 ?_
 refine r_iinc H 62 #[vR a1, vI 1, vI p9, vI 1, vI i1] 1 d_g52_4_59 ?_
 refine r_goto H 6 d_g52_4_62 ?_
 refine r_iloadN H 7 d_g52_4_6 ?_
 refine r_ifeqF H 10 d_g52_4_7 rfl (by decide) ?_
 refine r_iloadN H 11 d_g52_4_10 ?_
 refine r_aloadN H 12 d_g52_4_11 ?_
 refine r_virtual (z := mn4) (a := a1) (argsL := []) (rest := [.int 1]) (W := 1) H 15 d_g52_4_12 (tw30 hw) (tw31 hw) (nf_sel (tw33 hw)) (tw33 hw) (tw32 hw) (tw7 hw) (tw34 hw) E_a1 (lenOf pd_4 rfl) (rm_length_26 hw Ts a1 a2 c1 _ (4 : Int32) cs h0 f Zf Z0 F_value_a1 A_a2 E_a1 F_coder_a1 rfl S_cs hcs) ?_
 rintro _ _ ⟨p10, rfl, ep10, rfl⟩
 have hzp10 : (2 : Int32) = p10 := by rw [← ep10]; decide
 subst hzp10
 refine r_icmpgeF H 18 d_g52_4_15 ?_
 refine r_aloadN H 19 d_g52_4_18 ?_
 refine r_iloadN H 20 d_g52_4_19 ?_
 refine r_virtual (z := mn18) (a := a1) (argsL := [.int 1]) (rest := []) (W := 0) H 23 d_g52_4_20 (tw51 hw) (tw52 hw) (nf_sel (tw54 hw)) (tw54 hw) (tw53 hw) (tw7 hw) (tw55 hw) E_a1 (lenOf pd_16 rfl) (rm_charAt_28 hw Ts a1 (1 : Int32) a2 c1 _ (4 : Int32) (cL8 i2) (cH8 i2) cs sio h0 f Zf Z0 E_a1 F_coder_a1 F_value_a1 A_a2 rfl rfl rfl (by decide) (by decide) (by decide) (by decide) S_cs S_sio hsio S__assertionsDisabled S_HI_BYTE_SHIFT S_LO_BYTE_SHIFT hcs) ?_
 rintro _ _ ⟨p12, rfl, ep12, rp12, rfl⟩
 have hzp12 : i2 = p12 := by rw [← ep12]; exact (own_u16 i2 (by have := r_i2; omega)).symm
 subst hzp12
 refine r_istore H 25 #[vR a1, vI 1, vI p9, vI 1, vI i2] d_g52_4_23 ?_
 refine r_iload H 27 d_g52_4_25 ?_
 refine r_bipush H 29 39 d_g52_4_27 ?_
 refine Run.join (P := fun z => (if i2 = (39 : Int32) then (if (p9 % (2 : Int32)) = (0 : Int32) then (1 : Int32) else (0 : Int32)) else (1 : Int32)) = z ∧ (0 ≤ z.toInt ∧ z.toInt ≤ 1)) (pcB := 43) (LB := fun z => #[vR a1, vI 1, vI p9, vI 1, vI i2]) (SB := fun z => [.int z]) (fun key => ?_) ?_
 ·
  refine r_icmpne H 38 32 d_g52_4_29 (fun c14 => ?_) (fun c14 => ?_)
  ·
   refine r_iconst H 39 1 d_g52_4_38 ?_
   refine r_goto H 43 d_g52_4_39 ?_
   exact key (1 : Int32) ⟨(by rw [if_neg c14]), (by decide)⟩
  ·
   refine r_iloadN H 33 d_g52_4_32 ?_
   refine r_iconst H 34 2 d_g52_4_33 ?_
   obtain ⟨p16, ep16, rp16⟩ : ∃ p : Int32, (p9 % (2 : Int32)) = p ∧ 0 ≤ p.toInt ∧ p.toInt ≤ 1 := ⟨_, rfl, (by have := rp9; have h := (c_irem p9 (2 : Int32) 2 (by decide)).1 (by omega); omega)⟩
   refine r_irem H 35 p16 d_g52_4_34 ep16 ?_
   refine Run.join (P := fun z => (if p16 = (0 : Int32) then (1 : Int32) else (0 : Int32)) = z ∧ (0 ≤ z.toInt ∧ z.toInt ≤ 1)) (pcB := 43) (LB := fun z => #[vR a1, vI 1, vI p9, vI 1, vI i2]) (SB := fun z => [.int z]) (fun key => ?_) ?_
   ·
    refine r_ifne H 42 38 d_g52_4_35 (fun c17 => ?_) (fun c17 => ?_)
    ·
     refine r_iconst H 43 0 d_g52_4_42 ?_
     exact key (0 : Int32) ⟨(by rw [if_neg c17]), (by decide)⟩
    ·
     refine r_iconst H 39 1 d_g52_4_38 ?_
     refine r_goto H 43 d_g52_4_39 ?_
     exact key (1 : Int32) ⟨(by rw [if_pos c17]), (by decide)⟩
   rintro p20 ⟨ep20, rp20⟩
   exact key p20 ⟨(by subst ep16 ep20; rw [if_pos c14]), (by have := rp20; omega)⟩
 rintro p21 ⟨ep21, rp21⟩
 refine r_istoreN H 44 #[vR a1, vI p21, vI p9, vI 1, vI i2] d_g52_4_43 ?_
 refine r_iload H 46 d_g52_4_44 ?_
 refine r_bipush H 48 92 d_g52_4_46 ?_
 refine Run.join (P := fun z => (if i2 = (92 : Int32) then (p9 + (1 : Int32)) else (0 : Int32)) = z ∧ (0 ≤ z.toInt ∧ z.toInt ≤ 2)) (pcB := 58) (LB := fun z => #[vR a1, vI p21, vI p9, vI 1, vI i2]) (SB := fun z => [.int z]) (fun key => ?_) ?_
 ·
  refine r_icmpne H 57 51 d_g52_4_48 (fun c22 => ?_) (fun c22 => ?_)
  ·
   refine r_iconst H 58 0 d_g52_4_57 ?_
   exact key (0 : Int32) ⟨(by rw [if_neg c22]), (by decide)⟩
  ·
   refine r_iloadN H 52 d_g52_4_51 ?_
   refine r_iconst H 53 1 d_g52_4_52 ?_
   obtain ⟨p24, ep24, rp24⟩ : ∃ p : Int32, (p9 + (1 : Int32)) = p ∧ 1 ≤ p.toInt ∧ p.toInt ≤ 2 := ⟨_, rfl, (by have := rp9; have : (1 : Int32).toInt = 1 := (by decide); have h1 := c_iadd p9 (1 : Int32); have h2 := rng32 (p9 + (1 : Int32)); omega)⟩
   refine r_iadd H 54 p24 d_g52_4_53 ep24 ?_
   refine r_goto H 58 d_g52_4_54 ?_
   exact key p24 ⟨(by subst ep24; rw [if_pos c22]), (by have := rp24; omega)⟩
 rintro p25 ⟨ep25, rp25⟩
 refine r_istoreN H 59 #[vR a1, vI p21, vI p25, vI 1, vI i2] d_g52_4_58 ?_
 refine r_iinc H 62 #[vR a1, vI p21, vI p25, vI 2, vI i2] 2 d_g52_4_59 ?_
 refine r_goto H 6 d_g52_4_62 ?_
 refine r_iloadN H 7 d_g52_4_6 ?_
 refine r_ifeq H 65 10 d_g52_4_7 (fun c26 => ?_) (fun c26 => ?_)
 ·
  have rr27 : 0 ≤ p21.toInt ∧ p21.toInt ≤ 0 := by have := rp21; have : (0 : Int32).toInt = 0 := (by decide); have hc_ := c26; simp only [Int32.lt_iff_toInt_lt, ← Int32.toInt_inj] at hc_; omega
  refine r_iloadN H 66 d_g52_4_65 ?_
  subst ep9 ep21 ep25
  exact r_nreturn (if i2 = (39 : Int32) then (if ((if i1 = (92 : Int32) then (1 : Int32) else (0 : Int32)) % (2 : Int32)) = (0 : Int32) then (1 : Int32) else (0 : Int32)) else (1 : Int32)) H d_g52_4_66 (nar_bool_id (by have := rr27; omega)) (⟨_, rfl, rfl, (by unfold fn_readAlikeByEitherSetting_45; rw [if_pos c26]), (by have := rr27; omega)⟩)
 ·
  have rr28 : 1 ≤ p21.toInt ∧ p21.toInt ≤ 1 := by have := rp21; have : (0 : Int32).toInt = 0 := (by decide); have hc_ := c26; simp only [Int32.lt_iff_toInt_lt, ← Int32.toInt_inj] at hc_; omega
  refine r_iloadN H 11 d_g52_4_10 ?_
  refine r_aloadN H 12 d_g52_4_11 ?_
  refine r_virtual (z := mn4) (a := a1) (argsL := []) (rest := [.int 2]) (W := 1) H 15 d_g52_4_12 (tw30 hw) (tw31 hw) (nf_sel (tw33 hw)) (tw33 hw) (tw32 hw) (tw7 hw) (tw34 hw) E_a1 (lenOf pd_4 rfl) (rm_length_26 hw Ts a1 a2 c1 _ (4 : Int32) cs h0 f Zf Z0 F_value_a1 A_a2 E_a1 F_coder_a1 rfl S_cs hcs) ?_
  rintro _ _ ⟨p29, rfl, ep29, rfl⟩
  have hzp29 : (2 : Int32) = p29 := by rw [← ep29]; decide
  subst hzp29
  refine r_icmpgeT H 65 d_g52_4_15 ?_
  refine r_iloadN H 66 d_g52_4_65 ?_
  subst ep9 ep21 ep25
  exact r_nreturn (if i2 = (39 : Int32) then (if ((if i1 = (92 : Int32) then (1 : Int32) else (0 : Int32)) % (2 : Int32)) = (0 : Int32) then (1 : Int32) else (0 : Int32)) else (1 : Int32)) H d_g52_4_66 (nar_bool_id (by have := rr28; omega)) (⟨_, rfl, rfl, (by unfold fn_readAlikeByEitherSetting_45; rw [if_neg c26]), (by have := rr28; omega)⟩)
def Q_compress_49 (Z : State) (a2 : Addr) (i1 : Int32) (i2 : Int32) (i3 : Int32) (c2 : ClassId) (h0 : Heap) (v : Option Value) (h : Heap) : Prop := (v = some (.int 3) ∧ (¬ (255 : Int32) < i1) ∧ (¬ (255 : Int32) < i2) ∧ (¬ (255 : Int32) < i3) ∧ Keep h0 h [a2] ∧ Ar Z h a2 c2 .byte [.int (cB8 i1), .int (cB8 i2), .int (cB8 i3)] ∧ Exa Z h a2 "[B") ∨ (v = some (.int 2) ∧ (¬ (255 : Int32) < i1) ∧ (¬ (255 : Int32) < i2) ∧ ((255 : Int32) < i3) ∧ Keep h0 h [a2] ∧ Ar Z h a2 c2 .byte [.int (cB8 i1), .int (cB8 i2), .int 0] ∧ Exa Z h a2 "[B") ∨ (v = some (.int 1) ∧ (¬ (255 : Int32) < i1) ∧ ((255 : Int32) < i2) ∧ Keep h0 h [a2] ∧ Ar Z h a2 c2 .byte [.int (cB8 i1), .int 0, .int 0] ∧ Exa Z h a2 "[B") ∨ (v = some (.int 0) ∧ ((255 : Int32) < i1) ∧ h0 = h)
def R_compress_49 : Room := { frames := 0, cells := 0, slots := 0, locals := 0 }
theorem rm_compress_49 {w : Bool} {Z : State} {a0 : Array Value} (hw : HW a0 Z) (Ts : List String) (a1 : Addr) (a2 : Addr) (i1 : Int32) (i2 : Int32) (i3 : Int32) (c1 : ClassId) (c2 : ClassId) (h0 : Heap) (f : Nat) (Zf : Z.heap.size ≤ f) (Z0 : f ≤ h0.size) (A_a1 : Ar Z h0 a1 c1 .char [.int i1, .int i2, .int i3]) (A_a2 : Ar Z h0 a2 c2 .byte [.int 0, .int 0, .int 0]) (g_a2 : f ≤ a2) (E_a2 : Exa Z h0 a2 "[B") (E_a1 : Exa Z h0 a1 "[C") (r_i1 : 0 ≤ i1.toInt ∧ i1.toInt ≤ 65535) (r_i2 : 0 ≤ i2.toInt ∧ i2.toInt ≤ 65535) (r_i3 : 0 ≤ i3.toInt ∧ i3.toInt ≤ 65535) :
  Con w [] Z mn6 jdk_52_method_21_code 7 (some .int) R_compress_49 Ts Ts f #[.ref a1, .int 0, .ref a2, .int 0, .int 3] h0 (Q_compress_49 Z a2 i1 i2 i3 c2 h0) := by
 refine con_of f #[vR a1, vI 0, vR a2, vI 0, vI 3, .unset, .unset] (plainFor_of_name pn_3) (fun m => rfl) Zf ?_
 intro C H hX0
 refine r_iconst H 1 0 d_j52_21_0 ?_
 refine r_istore H 3 #[vR a1, vI 0, vR a2, vI 0, vI 3, vI 0, .unset] d_j52_21_1 ?_
 refine r_iload H 5 d_j52_21_3 ?_
 refine r_iload H 7 d_j52_21_5 ?_
 refine r_icmpgeF H 10 d_j52_21_7 ?_
 refine r_aloadN H 11 d_j52_21_10 ?_
 refine r_iloadN H 12 d_j52_21_11 ?_
 refine r_caload H 13 i1 d_j52_21_12 A_a1 ?_
 refine r_istore H 15 #[vR a1, vI 0, vR a2, vI 0, vI 3, vI 0, vI i1] d_j52_21_13 ?_
 refine r_iload H 17 d_j52_21_15 ?_
 refine r_sipush H 20 255 d_j52_21_17 ?_
 refine r_icmple H 26 23 d_j52_21_20 (fun c1 => ?_) (fun c1 => ?_)
 ·
  refine r_aloadN H 27 d_j52_21_26 ?_
  refine r_iloadN H 28 d_j52_21_27 ?_
  refine r_iload H 30 d_j52_21_28 ?_
  obtain ⟨p3, ep3, rp3⟩ : ∃ p : Int32, (i1.toInt8.toInt32) = p ∧ -128 ≤ p.toInt ∧ p.toInt ≤ 127 := ⟨_, rfl, (by have h := c_i2b i1; omega)⟩
  refine r_i2b H 31 p3 d_j52_21_30 ep3 ?_
  refine r_bastore H 32 p3 d_j52_21_31 A_a2 g_a2 (nar_byte_id (by have := rp3; omega)) ?_
  intro h4 K4 A4
  change Ar Z h4 a2 c2 .byte [.int p3, .int 0, .int 0] at A4
  refine r_iinc H 35 #[vR a1, vI 1, vR a2, vI 0, vI 3, vI 0, vI i1] 1 d_j52_21_32 ?_
  refine r_iinc H 38 #[vR a1, vI 1, vR a2, vI 1, vI 3, vI 0, vI i1] 1 d_j52_21_35 ?_
  refine r_iinc H 41 #[vR a1, vI 1, vR a2, vI 1, vI 3, vI 1, vI i1] 1 d_j52_21_38 ?_
  refine r_goto H 3 d_j52_21_41 ?_
  refine r_iload H 5 d_j52_21_3 ?_
  refine r_iload H 7 d_j52_21_5 ?_
  refine r_icmpgeF H 10 d_j52_21_7 ?_
  refine r_aloadN H 11 d_j52_21_10 ?_
  refine r_iloadN H 12 d_j52_21_11 ?_
  have q5 := (E_a1.keep K4)
  have q6 := (E_a2.keep K4)
  have q7 := (A_a1.keep K4 (ninS (ne_exa q5 q6 (by decide)) nin0))
  refine r_caload H 13 i2 d_j52_21_12 q7 ?_
  refine r_istore H 15 #[vR a1, vI 1, vR a2, vI 1, vI 3, vI 1, vI i2] d_j52_21_13 ?_
  refine r_iload H 17 d_j52_21_15 ?_
  refine r_sipush H 20 255 d_j52_21_17 ?_
  refine r_icmple H 26 23 d_j52_21_20 (fun c8 => ?_) (fun c8 => ?_)
  ·
   refine r_aloadN H 27 d_j52_21_26 ?_
   refine r_iloadN H 28 d_j52_21_27 ?_
   refine r_iload H 30 d_j52_21_28 ?_
   obtain ⟨p10, ep10, rp10⟩ : ∃ p : Int32, (i2.toInt8.toInt32) = p ∧ -128 ≤ p.toInt ∧ p.toInt ≤ 127 := ⟨_, rfl, (by have h := c_i2b i2; omega)⟩
   refine r_i2b H 31 p10 d_j52_21_30 ep10 ?_
   refine r_bastore H 32 p10 d_j52_21_31 A4 g_a2 (nar_byte_id (by have := rp10; omega)) ?_
   intro h11 K11 A11
   change Ar Z h11 a2 c2 .byte [.int p3, .int p10, .int 0] at A11
   refine r_iinc H 35 #[vR a1, vI 2, vR a2, vI 1, vI 3, vI 1, vI i2] 2 d_j52_21_32 ?_
   refine r_iinc H 38 #[vR a1, vI 2, vR a2, vI 2, vI 3, vI 1, vI i2] 2 d_j52_21_35 ?_
   refine r_iinc H 41 #[vR a1, vI 2, vR a2, vI 2, vI 3, vI 2, vI i2] 2 d_j52_21_38 ?_
   refine r_goto H 3 d_j52_21_41 ?_
   refine r_iload H 5 d_j52_21_3 ?_
   refine r_iload H 7 d_j52_21_5 ?_
   refine r_icmpgeF H 10 d_j52_21_7 ?_
   refine r_aloadN H 11 d_j52_21_10 ?_
   refine r_iloadN H 12 d_j52_21_11 ?_
   have q12 := (q5.keep K11)
   have q13 := (q6.keep K11)
   have q14 := (q7.keep K11 (ninS (ne_exa q12 q13 (by decide)) nin0))
   refine r_caload H 13 i3 d_j52_21_12 q14 ?_
   refine r_istore H 15 #[vR a1, vI 2, vR a2, vI 2, vI 3, vI 2, vI i3] d_j52_21_13 ?_
   refine r_iload H 17 d_j52_21_15 ?_
   refine r_sipush H 20 255 d_j52_21_17 ?_
   refine r_icmple H 26 23 d_j52_21_20 (fun c15 => ?_) (fun c15 => ?_)
   ·
    refine r_aloadN H 27 d_j52_21_26 ?_
    refine r_iloadN H 28 d_j52_21_27 ?_
    refine r_iload H 30 d_j52_21_28 ?_
    obtain ⟨p17, ep17, rp17⟩ : ∃ p : Int32, (i3.toInt8.toInt32) = p ∧ -128 ≤ p.toInt ∧ p.toInt ≤ 127 := ⟨_, rfl, (by have h := c_i2b i3; omega)⟩
    refine r_i2b H 31 p17 d_j52_21_30 ep17 ?_
    refine r_bastore H 32 p17 d_j52_21_31 A11 g_a2 (nar_byte_id (by have := rp17; omega)) ?_
    intro h18 K18 A18
    change Ar Z h18 a2 c2 .byte [.int p3, .int p10, .int p17] at A18
    refine r_iinc H 35 #[vR a1, vI 3, vR a2, vI 2, vI 3, vI 2, vI i3] 3 d_j52_21_32 ?_
    refine r_iinc H 38 #[vR a1, vI 3, vR a2, vI 3, vI 3, vI 2, vI i3] 3 d_j52_21_35 ?_
    refine r_iinc H 41 #[vR a1, vI 3, vR a2, vI 3, vI 3, vI 3, vI i3] 3 d_j52_21_38 ?_
    refine r_goto H 3 d_j52_21_41 ?_
    refine r_iload H 5 d_j52_21_3 ?_
    refine r_iload H 7 d_j52_21_5 ?_
    refine r_icmpgeT H 44 d_j52_21_7 ?_
    refine r_iload H 46 d_j52_21_44 ?_
    have k19 : Keep h0 h4 [a2] := Keep.trans (Keep.refl h0 [a2]) K4 (allS (Or.inl (List.mem_of_getElem? (i := 0) rfl)) all0)
    have k20 : Keep h0 h11 [a2] := Keep.trans k19 K11 (allS (Or.inl (List.mem_of_getElem? (i := 0) rfl)) all0)
    have k21 : Keep h0 h18 [a2] := Keep.trans k20 K18 (allS (Or.inl (List.mem_of_getElem? (i := 0) rfl)) all0)
    have q22 := (q13.keep K18)
    subst ep3 ep10 ep17
    exact r_ireturn H d_j52_21_46 (Or.inl ⟨rfl, c1, c8, c15, k21, A18, q22⟩)
   ·
    refine r_iload H 25 d_j52_21_23 ?_
    have k24 : Keep h0 h4 [a2] := Keep.trans (Keep.refl h0 [a2]) K4 (allS (Or.inl (List.mem_of_getElem? (i := 0) rfl)) all0)
    have k25 : Keep h0 h11 [a2] := Keep.trans k24 K11 (allS (Or.inl (List.mem_of_getElem? (i := 0) rfl)) all0)
    subst ep3 ep10
    exact r_ireturn H d_j52_21_25 (Or.inr (Or.inl ⟨rfl, c1, c8, c15, k25, A11, q13⟩))
  ·
   refine r_iload H 25 d_j52_21_23 ?_
   have k27 : Keep h0 h4 [a2] := Keep.trans (Keep.refl h0 [a2]) K4 (allS (Or.inl (List.mem_of_getElem? (i := 0) rfl)) all0)
   subst ep3
   exact r_ireturn H d_j52_21_25 (Or.inr (Or.inr (Or.inl ⟨rfl, c1, c8, k27, A4, q6⟩)))
 ·
  refine r_iload H 25 d_j52_21_23 ?_
  exact r_ireturn H d_j52_21_25 (Or.inr (Or.inr (Or.inr (⟨rfl, c1, rfl⟩))))
def Q_newBytesLength_52 (Z : State) (h0 : Heap) (v : Option Value) (h : Heap) : Prop := v = some (.int 6) ∧ h0 = h
def R_newBytesLength_52 : Room := { frames := 0, cells := 0, slots := 0, locals := 0 }
theorem rm_newBytesLength_52 {w : Bool} {Z : State} {a0 : Array Value} (hw : HW a0 Z) (Ts : List String) (h0 : Heap) (f : Nat) (Zf : Z.heap.size ≤ f) (Z0 : f ≤ h0.size) :
  Con w [] Z mn7 jdk_52_method_3_code 1 (some .int) R_newBytesLength_52 Ts Ts f #[.int 3] h0 (Q_newBytesLength_52 Z h0) := by
 refine con_of f #[vI 3] (plainFor_of_name pn_3) (fun m => rfl) Zf ?_
 intro C H hX0
 refine r_iloadN H 1 d_j52_3_0 ?_
 refine r_ifgeT H 12 d_j52_3_1 ?_
 refine r_iloadN H 13 d_j52_3_12 ?_
 refine r_ldcI H 15 d_j52_3_13 (tw83 hw) ?_
 refine r_icmpltT H 55 d_j52_3_15 ?_
 refine r_iloadN H 56 d_j52_3_55 ?_
 refine r_iconst H 57 1 d_j52_3_56 ?_
 refine r_ishl H 58 6 d_j52_3_57 ?_
 exact r_ireturn H d_j52_3_58 (⟨rfl, rfl⟩)
def Q_newBytesFor_51 (Z : State) (h0 : Heap) (v : Option Value) (h : Heap) : Prop := ∃ (b2 : Addr) (kc2 : ClassId), v = some (.ref b2) ∧ Keep h0 h [] ∧ h0.size ≤ b2 ∧ Ar Z h b2 kc2 .byte [.int 0, .int 0, .int 0, .int 0, .int 0, .int 0] ∧ Exa Z h b2 "[B"
def R_newBytesFor_51 : Room := { frames := 1, cells := 1, slots := 6, locals := 12 }
theorem rm_newBytesFor_51 {w : Bool} {Z : State} {a0 : Array Value} (hw : HW a0 Z) (Ts : List String) (h0 : Heap) (f : Nat) (Zf : Z.heap.size ≤ f) (Z0 : f ≤ h0.size) :
  Con w [] Z mn8 jdk_52_method_2_code 1 (some (.array .byte)) R_newBytesFor_51 Ts Ts f #[.int 3] h0 (Q_newBytesFor_51 Z h0) := by
 refine con_of f #[vI 3] (plainFor_of_name pn_3) (fun m => rfl) Zf ?_
 intro C H hX0
 refine r_iloadN H 1 d_j52_2_0 ?_
 refine r_static (argsL := [.int 3]) (rest := []) (W := 0) H 4 d_j52_2_1 (tw80 hw) (tw81 hw) (tw43 hw) (tw82 hw) (lenOf pd_7 rfl) (rm_newBytesLength_52 hw Ts h0 f Zf Z0) ?_
 rintro _ _ ⟨rfl, rfl⟩
 refine r_newP H 6 "[B" 6 d_j52_2_4 (tw19 hw) ?_
 intro h2 b2 kc2 g2 l2 K2 E2 A2
 change Ar Z h2 b2 kc2 .byte [.int 0, .int 0, .int 0, .int 0, .int 0, .int 0] at A2
 have k3 : Keep h0 h2 [] := Keep.trans (Keep.refl h0 []) K2 all0
 exact r_areturn H d_j52_2_6 (⟨b2, kc2, rfl, k3, (nlt nlr (Nat.le_of_eq g2.symm)), A2, E2⟩)
def Q_putChar_53 (Z : State) (a1 : Addr) (i1 : Int32) (i4 : Int32) (i5 : Int32) (i6 : Int32) (i7 : Int32) (c1 : ClassId) (h0 : Heap) (v : Option Value) (h : Heap) : Prop := v = none ∧ Keep h0 h [a1] ∧ Ar Z h a1 c1 .byte [.int (cL8 i1), .int (cH8 i1), .int i4, .int i5, .int i6, .int i7] ∧ Exa Z h a1 "[B"
def R_putChar_53 : Room := { frames := 0, cells := 0, slots := 0, locals := 0 }
theorem rm_putChar_53 {w : Bool} {Z : State} {a0 : Array Value} (hw : HW a0 Z) (Ts : List String) (a1 : Addr) (i1 : Int32) (i2 : Int32) (i3 : Int32) (i4 : Int32) (i5 : Int32) (i6 : Int32) (i7 : Int32) (c1 : ClassId) (h0 : Heap) (f : Nat) (Zf : Z.heap.size ≤ f) (Z0 : f ≤ h0.size) (A_a1 : Ar Z h0 a1 c1 .byte [.int i2, .int i3, .int i4, .int i5, .int i6, .int i7]) (g_a1 : f ≤ a1) (E_a1 : Exa Z h0 a1 "[B") (r_i1 : 0 ≤ i1.toInt ∧ i1.toInt ≤ 65535) (S__assertionsDisabled : G_S__assertionsDisabled Z) (S_HI_BYTE_SHIFT : G_S_HI_BYTE_SHIFT Z) (S_LO_BYTE_SHIFT : G_S_LO_BYTE_SHIFT Z) :
  Con w [] Z mn9 jdk_52_method_4_code 3 none R_putChar_53 Ts Ts f #[.ref a1, .int 0, .int i1] h0 (Q_putChar_53 Z a1 i1 i4 i5 i6 i7 c1 h0) := by
 refine con_of f #[vR a1, vI 0, vI i1] (plainFor_of_name pn_3) (fun m => rfl) Zf ?_
 intro C H hX0
 refine r_gets H 3 d_j52_4_0 (tw87 hw) S__assertionsDisabled ?_
 refine r_ifneT H 28 d_j52_4_3 (by decide) (by decide) (by decide) ?_
 refine r_iloadN H 29 d_j52_4_28 ?_
 refine r_iconst H 30 1 d_j52_4_29 ?_
 refine r_ishl H 31 0 d_j52_4_30 ?_
 refine r_istoreN H 32 #[vR a1, vI 0, vI i1] d_j52_4_31 ?_
 refine r_aloadN H 33 d_j52_4_32 ?_
 refine r_iloadN H 34 d_j52_4_33 ?_
 refine r_iinc H 37 #[vR a1, vI 1, vI i1] 1 d_j52_4_34 ?_
 refine r_iloadN H 38 d_j52_4_37 ?_
 refine r_gets H 41 d_j52_4_38 (tw88 hw) S_HI_BYTE_SHIFT ?_
 obtain ⟨p1, ep1, rp1⟩ : ∃ p : Int32, (i1 >>> ((0 : Int32) &&& 31)) = p ∧ 0 ≤ p.toInt ∧ p.toInt ≤ 65535 := ⟨_, rfl, (by have := r_i1; have h1 := c_ishr i1 (0 : Int32) 0 (by decide); omega)⟩
 refine r_ishr H 42 p1 d_j52_4_41 ep1 ?_
 obtain ⟨p2, ep2, rp2⟩ : ∃ p : Int32, (p1.toInt8.toInt32) = p ∧ -128 ≤ p.toInt ∧ p.toInt ≤ 127 := ⟨_, rfl, (by have h := c_i2b p1; omega)⟩
 refine r_i2b H 43 p2 d_j52_4_42 ep2 ?_
 refine r_bastore H 44 p2 d_j52_4_43 A_a1 g_a1 (nar_byte_id (by have := rp2; omega)) ?_
 intro h3 K3 A3
 change Ar Z h3 a1 c1 .byte [.int p2, .int i3, .int i4, .int i5, .int i6, .int i7] at A3
 refine r_aloadN H 45 d_j52_4_44 ?_
 refine r_iloadN H 46 d_j52_4_45 ?_
 refine r_iloadN H 47 d_j52_4_46 ?_
 refine r_gets H 50 d_j52_4_47 (tw89 hw) S_LO_BYTE_SHIFT ?_
 obtain ⟨p4, ep4, rp4⟩ : ∃ p : Int32, (i1 >>> ((8 : Int32) &&& 31)) = p ∧ 0 ≤ p.toInt ∧ p.toInt ≤ 255 := ⟨_, rfl, (by have := r_i1; have h1 := c_ishr i1 (8 : Int32) 8 (by decide); omega)⟩
 refine r_ishr H 51 p4 d_j52_4_50 ep4 ?_
 obtain ⟨p5, ep5, rp5⟩ : ∃ p : Int32, (p4.toInt8.toInt32) = p ∧ -128 ≤ p.toInt ∧ p.toInt ≤ 127 := ⟨_, rfl, (by have h := c_i2b p4; omega)⟩
 refine r_i2b H 52 p5 d_j52_4_51 ep5 ?_
 refine r_bastore H 53 p5 d_j52_4_52 A3 g_a1 (nar_byte_id (by have := rp5; omega)) ?_
 intro h6 K6 A6
 have q7 := (E_a1.keep K3)
 change Ar Z h6 a1 c1 .byte [.int p2, .int p5, .int i4, .int i5, .int i6, .int i7] at A6
 have k8 : Keep h0 h3 [a1] := Keep.trans (Keep.refl h0 [a1]) K3 (allS (Or.inl (List.mem_of_getElem? (i := 0) rfl)) all0)
 have k9 : Keep h0 h6 [a1] := Keep.trans k8 K6 (allS (Or.inl (List.mem_of_getElem? (i := 0) rfl)) all0)
 have q10 := (q7.keep K6)
 subst ep1 ep2 ep4 ep5
 exact r_return H d_j52_4_53 (⟨rfl, k9, A6, q10⟩)
def Q_putChar_54 (Z : State) (a1 : Addr) (i1 : Int32) (i2 : Int32) (i3 : Int32) (i6 : Int32) (i7 : Int32) (c1 : ClassId) (h0 : Heap) (v : Option Value) (h : Heap) : Prop := v = none ∧ Keep h0 h [a1] ∧ Ar Z h a1 c1 .byte [.int i2, .int i3, .int (cL8 i1), .int (cH8 i1), .int i6, .int i7] ∧ Exa Z h a1 "[B"
def R_putChar_54 : Room := { frames := 0, cells := 0, slots := 0, locals := 0 }
theorem rm_putChar_54 {w : Bool} {Z : State} {a0 : Array Value} (hw : HW a0 Z) (Ts : List String) (a1 : Addr) (i1 : Int32) (i2 : Int32) (i3 : Int32) (i4 : Int32) (i5 : Int32) (i6 : Int32) (i7 : Int32) (c1 : ClassId) (h0 : Heap) (f : Nat) (Zf : Z.heap.size ≤ f) (Z0 : f ≤ h0.size) (A_a1 : Ar Z h0 a1 c1 .byte [.int i2, .int i3, .int i4, .int i5, .int i6, .int i7]) (g_a1 : f ≤ a1) (E_a1 : Exa Z h0 a1 "[B") (r_i1 : 0 ≤ i1.toInt ∧ i1.toInt ≤ 65535) (S__assertionsDisabled : G_S__assertionsDisabled Z) (S_HI_BYTE_SHIFT : G_S_HI_BYTE_SHIFT Z) (S_LO_BYTE_SHIFT : G_S_LO_BYTE_SHIFT Z) :
  Con w [] Z mn9 jdk_52_method_4_code 3 none R_putChar_54 Ts Ts f #[.ref a1, .int 1, .int i1] h0 (Q_putChar_54 Z a1 i1 i2 i3 i6 i7 c1 h0) := by
 refine con_of f #[vR a1, vI 1, vI i1] (plainFor_of_name pn_3) (fun m => rfl) Zf ?_
 intro C H hX0
 refine r_gets H 3 d_j52_4_0 (tw87 hw) S__assertionsDisabled ?_
 refine r_ifneT H 28 d_j52_4_3 (by decide) (by decide) (by decide) ?_
 refine r_iloadN H 29 d_j52_4_28 ?_
 refine r_iconst H 30 1 d_j52_4_29 ?_
 refine r_ishl H 31 2 d_j52_4_30 ?_
 refine r_istoreN H 32 #[vR a1, vI 2, vI i1] d_j52_4_31 ?_
 refine r_aloadN H 33 d_j52_4_32 ?_
 refine r_iloadN H 34 d_j52_4_33 ?_
 refine r_iinc H 37 #[vR a1, vI 3, vI i1] 3 d_j52_4_34 ?_
 refine r_iloadN H 38 d_j52_4_37 ?_
 refine r_gets H 41 d_j52_4_38 (tw88 hw) S_HI_BYTE_SHIFT ?_
 obtain ⟨p1, ep1, rp1⟩ : ∃ p : Int32, (i1 >>> ((0 : Int32) &&& 31)) = p ∧ 0 ≤ p.toInt ∧ p.toInt ≤ 65535 := ⟨_, rfl, (by have := r_i1; have h1 := c_ishr i1 (0 : Int32) 0 (by decide); omega)⟩
 refine r_ishr H 42 p1 d_j52_4_41 ep1 ?_
 obtain ⟨p2, ep2, rp2⟩ : ∃ p : Int32, (p1.toInt8.toInt32) = p ∧ -128 ≤ p.toInt ∧ p.toInt ≤ 127 := ⟨_, rfl, (by have h := c_i2b p1; omega)⟩
 refine r_i2b H 43 p2 d_j52_4_42 ep2 ?_
 refine r_bastore H 44 p2 d_j52_4_43 A_a1 g_a1 (nar_byte_id (by have := rp2; omega)) ?_
 intro h3 K3 A3
 change Ar Z h3 a1 c1 .byte [.int i2, .int i3, .int p2, .int i5, .int i6, .int i7] at A3
 refine r_aloadN H 45 d_j52_4_44 ?_
 refine r_iloadN H 46 d_j52_4_45 ?_
 refine r_iloadN H 47 d_j52_4_46 ?_
 refine r_gets H 50 d_j52_4_47 (tw89 hw) S_LO_BYTE_SHIFT ?_
 obtain ⟨p4, ep4, rp4⟩ : ∃ p : Int32, (i1 >>> ((8 : Int32) &&& 31)) = p ∧ 0 ≤ p.toInt ∧ p.toInt ≤ 255 := ⟨_, rfl, (by have := r_i1; have h1 := c_ishr i1 (8 : Int32) 8 (by decide); omega)⟩
 refine r_ishr H 51 p4 d_j52_4_50 ep4 ?_
 obtain ⟨p5, ep5, rp5⟩ : ∃ p : Int32, (p4.toInt8.toInt32) = p ∧ -128 ≤ p.toInt ∧ p.toInt ≤ 127 := ⟨_, rfl, (by have h := c_i2b p4; omega)⟩
 refine r_i2b H 52 p5 d_j52_4_51 ep5 ?_
 refine r_bastore H 53 p5 d_j52_4_52 A3 g_a1 (nar_byte_id (by have := rp5; omega)) ?_
 intro h6 K6 A6
 have q7 := (E_a1.keep K3)
 change Ar Z h6 a1 c1 .byte [.int i2, .int i3, .int p2, .int p5, .int i6, .int i7] at A6
 have k8 : Keep h0 h3 [a1] := Keep.trans (Keep.refl h0 [a1]) K3 (allS (Or.inl (List.mem_of_getElem? (i := 0) rfl)) all0)
 have k9 : Keep h0 h6 [a1] := Keep.trans k8 K6 (allS (Or.inl (List.mem_of_getElem? (i := 0) rfl)) all0)
 have q10 := (q7.keep K6)
 subst ep1 ep2 ep4 ep5
 exact r_return H d_j52_4_53 (⟨rfl, k9, A6, q10⟩)
def Q_putChar_55 (Z : State) (a1 : Addr) (i1 : Int32) (i2 : Int32) (i3 : Int32) (i4 : Int32) (i5 : Int32) (c1 : ClassId) (h0 : Heap) (v : Option Value) (h : Heap) : Prop := v = none ∧ Keep h0 h [a1] ∧ Ar Z h a1 c1 .byte [.int i2, .int i3, .int i4, .int i5, .int (cL8 i1), .int (cH8 i1)] ∧ Exa Z h a1 "[B"
def R_putChar_55 : Room := { frames := 0, cells := 0, slots := 0, locals := 0 }
theorem rm_putChar_55 {w : Bool} {Z : State} {a0 : Array Value} (hw : HW a0 Z) (Ts : List String) (a1 : Addr) (i1 : Int32) (i2 : Int32) (i3 : Int32) (i4 : Int32) (i5 : Int32) (i6 : Int32) (i7 : Int32) (c1 : ClassId) (h0 : Heap) (f : Nat) (Zf : Z.heap.size ≤ f) (Z0 : f ≤ h0.size) (A_a1 : Ar Z h0 a1 c1 .byte [.int i2, .int i3, .int i4, .int i5, .int i6, .int i7]) (g_a1 : f ≤ a1) (E_a1 : Exa Z h0 a1 "[B") (r_i1 : 0 ≤ i1.toInt ∧ i1.toInt ≤ 65535) (S__assertionsDisabled : G_S__assertionsDisabled Z) (S_HI_BYTE_SHIFT : G_S_HI_BYTE_SHIFT Z) (S_LO_BYTE_SHIFT : G_S_LO_BYTE_SHIFT Z) :
  Con w [] Z mn9 jdk_52_method_4_code 3 none R_putChar_55 Ts Ts f #[.ref a1, .int 2, .int i1] h0 (Q_putChar_55 Z a1 i1 i2 i3 i4 i5 c1 h0) := by
 refine con_of f #[vR a1, vI 2, vI i1] (plainFor_of_name pn_3) (fun m => rfl) Zf ?_
 intro C H hX0
 refine r_gets H 3 d_j52_4_0 (tw87 hw) S__assertionsDisabled ?_
 refine r_ifneT H 28 d_j52_4_3 (by decide) (by decide) (by decide) ?_
 refine r_iloadN H 29 d_j52_4_28 ?_
 refine r_iconst H 30 1 d_j52_4_29 ?_
 refine r_ishl H 31 4 d_j52_4_30 ?_
 refine r_istoreN H 32 #[vR a1, vI 4, vI i1] d_j52_4_31 ?_
 refine r_aloadN H 33 d_j52_4_32 ?_
 refine r_iloadN H 34 d_j52_4_33 ?_
 refine r_iinc H 37 #[vR a1, vI 5, vI i1] 5 d_j52_4_34 ?_
 refine r_iloadN H 38 d_j52_4_37 ?_
 refine r_gets H 41 d_j52_4_38 (tw88 hw) S_HI_BYTE_SHIFT ?_
 obtain ⟨p1, ep1, rp1⟩ : ∃ p : Int32, (i1 >>> ((0 : Int32) &&& 31)) = p ∧ 0 ≤ p.toInt ∧ p.toInt ≤ 65535 := ⟨_, rfl, (by have := r_i1; have h1 := c_ishr i1 (0 : Int32) 0 (by decide); omega)⟩
 refine r_ishr H 42 p1 d_j52_4_41 ep1 ?_
 obtain ⟨p2, ep2, rp2⟩ : ∃ p : Int32, (p1.toInt8.toInt32) = p ∧ -128 ≤ p.toInt ∧ p.toInt ≤ 127 := ⟨_, rfl, (by have h := c_i2b p1; omega)⟩
 refine r_i2b H 43 p2 d_j52_4_42 ep2 ?_
 refine r_bastore H 44 p2 d_j52_4_43 A_a1 g_a1 (nar_byte_id (by have := rp2; omega)) ?_
 intro h3 K3 A3
 change Ar Z h3 a1 c1 .byte [.int i2, .int i3, .int i4, .int i5, .int p2, .int i7] at A3
 refine r_aloadN H 45 d_j52_4_44 ?_
 refine r_iloadN H 46 d_j52_4_45 ?_
 refine r_iloadN H 47 d_j52_4_46 ?_
 refine r_gets H 50 d_j52_4_47 (tw89 hw) S_LO_BYTE_SHIFT ?_
 obtain ⟨p4, ep4, rp4⟩ : ∃ p : Int32, (i1 >>> ((8 : Int32) &&& 31)) = p ∧ 0 ≤ p.toInt ∧ p.toInt ≤ 255 := ⟨_, rfl, (by have := r_i1; have h1 := c_ishr i1 (8 : Int32) 8 (by decide); omega)⟩
 refine r_ishr H 51 p4 d_j52_4_50 ep4 ?_
 obtain ⟨p5, ep5, rp5⟩ : ∃ p : Int32, (p4.toInt8.toInt32) = p ∧ -128 ≤ p.toInt ∧ p.toInt ≤ 127 := ⟨_, rfl, (by have h := c_i2b p4; omega)⟩
 refine r_i2b H 52 p5 d_j52_4_51 ep5 ?_
 refine r_bastore H 53 p5 d_j52_4_52 A3 g_a1 (nar_byte_id (by have := rp5; omega)) ?_
 intro h6 K6 A6
 have q7 := (E_a1.keep K3)
 change Ar Z h6 a1 c1 .byte [.int i2, .int i3, .int i4, .int i5, .int p2, .int p5] at A6
 have k8 : Keep h0 h3 [a1] := Keep.trans (Keep.refl h0 [a1]) K3 (allS (Or.inl (List.mem_of_getElem? (i := 0) rfl)) all0)
 have k9 : Keep h0 h6 [a1] := Keep.trans k8 K6 (allS (Or.inl (List.mem_of_getElem? (i := 0) rfl)) all0)
 have q10 := (q7.keep K6)
 subst ep1 ep2 ep4 ep5
 exact r_return H d_j52_4_53 (⟨rfl, k9, A6, q10⟩)
def Q_toBytes_50 (Z : State) (i1 : Int32) (i2 : Int32) (i3 : Int32) (h0 : Heap) (v : Option Value) (h : Heap) : Prop := ∃ (b1 : Addr) (kc2 : ClassId), v = some (.ref b1) ∧ Keep h0 h [] ∧ h0.size ≤ b1 ∧ Ar Z h b1 kc2 .byte [.int (cL8 i1), .int (cH8 i1), .int (cL8 i2), .int (cH8 i2), .int (cL8 i3), .int (cH8 i3)] ∧ Exa Z h b1 "[B"
def R_toBytes_50 : Room := { frames := 2, cells := 1, slots := 6, locals := 24 }
theorem rm_toBytes_50 {w : Bool} {Z : State} {a0 : Array Value} (hw : HW a0 Z) (Ts : List String) (a1 : Addr) (i1 : Int32) (i2 : Int32) (i3 : Int32) (c1 : ClassId) (h0 : Heap) (f : Nat) (Zf : Z.heap.size ≤ f) (Z0 : f ≤ h0.size) (A_a1 : Ar Z h0 a1 c1 .char [.int i1, .int i2, .int i3]) (r_i1 : 0 ≤ i1.toInt ∧ i1.toInt ≤ 65535) (r_i2 : 0 ≤ i2.toInt ∧ i2.toInt ≤ 65535) (r_i3 : 0 ≤ i3.toInt ∧ i3.toInt ≤ 65535) (S__assertionsDisabled : G_S__assertionsDisabled Z) (S_HI_BYTE_SHIFT : G_S_HI_BYTE_SHIFT Z) (S_LO_BYTE_SHIFT : G_S_LO_BYTE_SHIFT Z) :
  Con w [] Z mn10 jdk_52_method_14_code 5 (some (.array .byte)) R_toBytes_50 Ts Ts f #[.ref a1, .int 0, .int 3] h0 (Q_toBytes_50 Z i1 i2 i3 h0) := by
 refine con_of f #[vR a1, vI 0, vI 3, .unset, .unset] (plainFor_of_name pn_3) (fun m => rfl) Zf ?_
 intro C H hX0
 refine r_iloadN H 1 d_j52_14_0 ?_
 refine r_static (argsL := [.int 3]) (rest := []) (W := 0) H 4 d_j52_14_1 (tw77 hw) (tw78 hw) (tw43 hw) (tw79 hw) (lenOf pd_8 rfl) (rm_newBytesFor_51 hw Ts h0 f Zf Z0) ?_
 rintro _ hh7 ⟨b1, kc2, rfl, K3, g4, q5, q6⟩
 refine r_astoreN H 5 #[vR a1, vI 0, vI 3, vR b1, .unset] d_j52_14_4 ?_
 refine r_iconst H 6 0 d_j52_14_5 ?_
 refine r_istore H 8 #[vR a1, vI 0, vI 3, vR b1, vI 0] d_j52_14_6 ?_
 refine r_iload H 10 d_j52_14_8 ?_
 refine r_iloadN H 11 d_j52_14_10 ?_
 refine r_icmpgeF H 14 d_j52_14_11 ?_
 refine r_aloadN H 15 d_j52_14_14 ?_
 refine r_iload H 17 d_j52_14_15 ?_
 refine r_aloadN H 18 d_j52_14_17 ?_
 refine r_iloadN H 19 d_j52_14_18 ?_
 have q8 := (A_a1.keep K3 nin0)
 refine r_caload H 20 i1 d_j52_14_19 q8 ?_
 refine r_static (argsL := [.ref b1, .int 0, .int i1]) (rest := []) (W := 0) H 23 d_j52_14_20 (tw84 hw) (tw85 hw) (tw43 hw) (tw86 hw) (lenOf pd_9 rfl) (rm_putChar_53 hw Ts b1 i1 (0 : Int32) (0 : Int32) (0 : Int32) (0 : Int32) (0 : Int32) (0 : Int32) kc2 hh7 f Zf (nlt Z0 K3.1) q5 (nlt Z0 g4) q6 (by have := r_i1; omega) S__assertionsDisabled S_HI_BYTE_SHIFT S_LO_BYTE_SHIFT) ?_
 rintro _ hh12 ⟨rfl, K9, q10, q11⟩
 refine r_iinc H 26 #[vR a1, vI 1, vI 3, vR b1, vI 0] 1 d_j52_14_23 ?_
 refine r_iinc H 29 #[vR a1, vI 1, vI 3, vR b1, vI 1] 1 d_j52_14_26 ?_
 refine r_goto H 8 d_j52_14_29 ?_
 refine r_iload H 10 d_j52_14_8 ?_
 refine r_iloadN H 11 d_j52_14_10 ?_
 refine r_icmpgeF H 14 d_j52_14_11 ?_
 refine r_aloadN H 15 d_j52_14_14 ?_
 refine r_iload H 17 d_j52_14_15 ?_
 refine r_aloadN H 18 d_j52_14_17 ?_
 refine r_iloadN H 19 d_j52_14_18 ?_
 have q13 := (q8.keep K9 (ninS (Nat.ne_of_lt (Nat.lt_of_lt_of_le A_a1.lt (nlt nlr g4))) nin0))
 refine r_caload H 20 i2 d_j52_14_19 q13 ?_
 have z14 := Nat.le_trans K3.1 K9.1
 refine r_static (argsL := [.ref b1, .int 1, .int i2]) (rest := []) (W := 0) H 23 d_j52_14_20 (tw84 hw) (tw85 hw) (tw43 hw) (tw86 hw) (lenOf pd_9 rfl) (rm_putChar_54 hw Ts b1 i2 (cL8 i1) (cH8 i1) (0 : Int32) (0 : Int32) (0 : Int32) (0 : Int32) kc2 hh12 f Zf (nlt Z0 z14) q10 (nlt Z0 g4) q11 (by have := r_i2; omega) S__assertionsDisabled S_HI_BYTE_SHIFT S_LO_BYTE_SHIFT) ?_
 rintro _ hh18 ⟨rfl, K15, q16, q17⟩
 refine r_iinc H 26 #[vR a1, vI 2, vI 3, vR b1, vI 1] 2 d_j52_14_23 ?_
 refine r_iinc H 29 #[vR a1, vI 2, vI 3, vR b1, vI 2] 2 d_j52_14_26 ?_
 refine r_goto H 8 d_j52_14_29 ?_
 refine r_iload H 10 d_j52_14_8 ?_
 refine r_iloadN H 11 d_j52_14_10 ?_
 refine r_icmpgeF H 14 d_j52_14_11 ?_
 refine r_aloadN H 15 d_j52_14_14 ?_
 refine r_iload H 17 d_j52_14_15 ?_
 refine r_aloadN H 18 d_j52_14_17 ?_
 refine r_iloadN H 19 d_j52_14_18 ?_
 have q19 := (q13.keep K15 (ninS (Nat.ne_of_lt (Nat.lt_of_lt_of_le A_a1.lt (nlt nlr g4))) nin0))
 refine r_caload H 20 i3 d_j52_14_19 q19 ?_
 have z20 := Nat.le_trans z14 K15.1
 refine r_static (argsL := [.ref b1, .int 2, .int i3]) (rest := []) (W := 0) H 23 d_j52_14_20 (tw84 hw) (tw85 hw) (tw43 hw) (tw86 hw) (lenOf pd_9 rfl) (rm_putChar_55 hw Ts b1 i3 (cL8 i1) (cH8 i1) (cL8 i2) (cH8 i2) (0 : Int32) (0 : Int32) kc2 hh18 f Zf (nlt Z0 z20) q16 (nlt Z0 g4) q17 (by have := r_i3; omega) S__assertionsDisabled S_HI_BYTE_SHIFT S_LO_BYTE_SHIFT) ?_
 rintro _ hh24 ⟨rfl, K21, q22, q23⟩
 refine r_iinc H 26 #[vR a1, vI 3, vI 3, vR b1, vI 2] 3 d_j52_14_23 ?_
 refine r_iinc H 29 #[vR a1, vI 3, vI 3, vR b1, vI 3] 3 d_j52_14_26 ?_
 refine r_goto H 8 d_j52_14_29 ?_
 refine r_iload H 10 d_j52_14_8 ?_
 refine r_iloadN H 11 d_j52_14_10 ?_
 refine r_icmpgeT H 32 d_j52_14_11 ?_
 refine r_aloadN H 33 d_j52_14_32 ?_
 have k25 : Keep h0 hh7 [] := Keep.trans (Keep.refl h0 []) K3 all0
 have k26 : Keep h0 hh12 [] := Keep.trans k25 K9 (allS (Or.inr (nlt nlr g4)) all0)
 have k27 : Keep h0 hh18 [] := Keep.trans k26 K15 (allS (Or.inr (nlt nlr g4)) all0)
 have k28 : Keep h0 hh24 [] := Keep.trans k27 K21 (allS (Or.inr (nlt nlr g4)) all0)
 exact r_areturn H d_j52_14_33 (⟨b1, kc2, rfl, k28, (nlt nlr g4), q22, q23⟩)
def Q_compress_48 (Z : State) (i1 : Int32) (i2 : Int32) (i3 : Int32) (h0 : Heap) (v : Option Value) (h : Heap) : Prop := (∃ (b1 : Addr) (kc1 : ClassId), v = some (.ref b1) ∧ (¬ (255 : Int32) < i1) ∧ (¬ (255 : Int32) < i2) ∧ (¬ (255 : Int32) < i3) ∧ Keep h0 h [] ∧ h0.size ≤ b1 ∧ Ar Z h b1 kc1 .byte [.int (cB8 i1), .int (cB8 i2), .int (cB8 i3)] ∧ Exa Z h b1 "[B") ∨ (∃ (b34 : Addr) (kc35 : ClassId), v = some (.ref b34) ∧ Keep h0 h [] ∧ h0.size ≤ b34 ∧ Ar Z h b34 kc35 .byte [.int (cL8 i1), .int (cH8 i1), .int (cL8 i2), .int (cH8 i2), .int (cL8 i3), .int (cH8 i3)] ∧ Exa Z h b34 "[B")
def R_compress_48 : Room := { frames := 3, cells := 2, slots := 9, locals := 40 }
theorem rm_compress_48 {w : Bool} {Z : State} {a0 : Array Value} (hw : HW a0 Z) (Ts : List String) (a1 : Addr) (i1 : Int32) (i2 : Int32) (i3 : Int32) (c1 : ClassId) (h0 : Heap) (f : Nat) (Zf : Z.heap.size ≤ f) (Z0 : f ≤ h0.size) (A_a1 : Ar Z h0 a1 c1 .char [.int i1, .int i2, .int i3]) (E_a1 : Exa Z h0 a1 "[C") (r_i1 : 0 ≤ i1.toInt ∧ i1.toInt ≤ 65535) (r_i2 : 0 ≤ i2.toInt ∧ i2.toInt ≤ 65535) (r_i3 : 0 ≤ i3.toInt ∧ i3.toInt ≤ 65535) (S__assertionsDisabled : G_S__assertionsDisabled Z) (S_HI_BYTE_SHIFT : G_S_HI_BYTE_SHIFT Z) (S_LO_BYTE_SHIFT : G_S_LO_BYTE_SHIFT Z) :
  Con w [] Z mn12 jdk_52_method_16_code 6 (some (.array .byte)) R_compress_48 Ts Ts f #[.ref a1, .int 0, .int 3] h0 (Q_compress_48 Z i1 i2 i3 h0) := by
 refine con_of f #[vR a1, vI 0, vI 3, .unset, .unset, .unset] (plainFor_of_name pn_3) (fun m => rfl) Zf ?_
 intro C H hX0
 refine r_iloadN H 1 d_j52_16_0 ?_
 refine r_newP H 3 "[B" 3 d_j52_16_1 (tw19 hw) ?_
 intro h1 b1 kc1 g1 l1 K1 E1 A1
 change Ar Z h1 b1 kc1 .byte [.int 0, .int 0, .int 0] at A1
 refine r_astoreN H 4 #[vR a1, vI 0, vI 3, vR b1, .unset, .unset] d_j52_16_3 ?_
 refine r_aloadN H 5 d_j52_16_4 ?_
 refine r_iloadN H 6 d_j52_16_5 ?_
 refine r_aloadN H 7 d_j52_16_6 ?_
 refine r_iconst H 8 0 d_j52_16_7 ?_
 refine r_iloadN H 9 d_j52_16_8 ?_
 have q2 := (A_a1.keep K1 nin0)
 have q3 := (E_a1.keep K1)
 refine r_static (argsL := [.ref a1, .int 0, .ref b1, .int 0, .int 3]) (rest := []) (W := 0) H 12 d_j52_16_9 (tw45 hw) (tw46 hw) (tw43 hw) (tw47 hw) (lenOf pd_6 rfl) (rm_compress_49 hw Ts a1 b1 i1 i2 i3 c1 kc1 h1 f Zf (nlt Z0 K1.1) q2 A1 (nlt Z0 (Nat.le_of_eq g1.symm)) E1 q3 r_i1 r_i2 r_i3) ?_
 rintro _ hh23 (⟨rfl, c5, c6, c7, K4, q8, q9⟩ | ⟨rfl, c11, c12, c13, K10, q14, q15⟩ | ⟨rfl, c17, c18, K16, q19, q20⟩ | ⟨rfl, c22, rfl⟩)
 ·
  refine r_istore H 14 #[vR a1, vI 0, vI 3, vR b1, vI 3, .unset] d_j52_16_12 ?_
  refine r_iload H 16 d_j52_16_14 ?_
  refine r_iloadN H 17 d_j52_16_16 ?_
  refine r_icmpeqT H 57 d_j52_16_17 ?_
  refine r_aloadN H 58 d_j52_16_57 ?_
  have k27 : Keep h0 h1 [] := Keep.trans (Keep.refl h0 []) K1 all0
  have k28 : Keep h0 hh23 [] := Keep.trans k27 K4 (allS (Or.inr (nlt nlr (Nat.le_of_eq g1.symm))) all0)
  exact r_areturn H d_j52_16_58 (Or.inl ⟨b1, kc1, rfl, c5, c6, c7, k28, (nlt nlr (Nat.le_of_eq g1.symm)), q8, q9⟩)
 ·
  have rr29 : 0 ≤ i1.toInt ∧ i1.toInt ≤ 255 := by have := r_i1; have : (255 : Int32).toInt = 255 := (by decide); have hc_ := c11; simp only [Int32.lt_iff_toInt_lt, ← Int32.toInt_inj] at hc_; omega
  have rr30 : 0 ≤ i2.toInt ∧ i2.toInt ≤ 255 := by have := r_i2; have : (255 : Int32).toInt = 255 := (by decide); have hc_ := c12; simp only [Int32.lt_iff_toInt_lt, ← Int32.toInt_inj] at hc_; omega
  have rr31 : 256 ≤ i3.toInt ∧ i3.toInt ≤ 65535 := by have := r_i3; have : (255 : Int32).toInt = 255 := (by decide); have hc_ := c13; simp only [Int32.lt_iff_toInt_lt, ← Int32.toInt_inj] at hc_; omega
  refine r_istore H 14 #[vR a1, vI 0, vI 3, vR b1, vI 2, .unset] d_j52_16_12 ?_
  refine r_iload H 16 d_j52_16_14 ?_
  refine r_iloadN H 17 d_j52_16_16 ?_
  refine r_icmpeqF H 20 d_j52_16_17 ?_
  refine r_aloadN H 21 d_j52_16_20 ?_
  refine r_iloadN H 22 d_j52_16_21 ?_
  refine r_iloadN H 23 d_j52_16_22 ?_
  have q32 := (q2.keep K10 (ninS (Nat.ne_of_lt (Nat.lt_of_lt_of_le A_a1.lt (nlt nlr (Nat.le_of_eq g1.symm)))) nin0))
  have z33 := Nat.le_trans K1.1 K10.1
  refine r_static (argsL := [.ref a1, .int 0, .int 3]) (rest := []) (W := 0) H 26 d_j52_16_23 (tw74 hw) (tw75 hw) (tw43 hw) (tw76 hw) (lenOf pd_10 rfl) (rm_toBytes_50 hw Ts a1 i1 i2 i3 c1 hh23 f Zf (nlt Z0 z33) q32 (by have := rr29; omega) (by have := rr30; omega) (by have := rr31; omega) S__assertionsDisabled S_HI_BYTE_SHIFT S_LO_BYTE_SHIFT) ?_
  rintro _ hh40 ⟨b34, kc35, rfl, K36, g37, q38, q39⟩
  refine r_astore H 28 #[vR a1, vI 0, vI 3, vR b1, vI 2, vR b34] d_j52_16_26 ?_
  refine r_aload H 30 d_j52_16_28 ?_
  refine r_iload H 32 d_j52_16_30 ?_
  have z41 := Nat.le_trans z33 K36.1
  refine r_static (argsL := [.ref b34, .int 2]) (rest := []) (W := 0) H 35 d_j52_16_32 (tw90 hw) (tw91 hw) (tw43 hw) (tw92 hw) (lenOf pd_11 rfl) (rm_getChar_15 hw Ts b34 (2 : Int32) kc35 _ (cL8 i3) (cH8 i3) hh40 f Zf (nlt Z0 z41) q38 rfl (by decide) rfl (by decide) S__assertionsDisabled S_HI_BYTE_SHIFT S_LO_BYTE_SHIFT) ?_
  rintro _ _ ⟨p42, rfl, ep42, rp42, rfl⟩
  have hzp42 : i3 = p42 := by rw [← ep42]; exact (own_u16 i3 (by have := rr31; omega)).symm
  subst hzp42
  refine r_sipush H 38 255 d_j52_16_35 ?_
  refine r_icmpgtT H 54 d_j52_16_38 (by have := rr31; have : (255 : Int32).toInt = 255 := (by decide); simp only [Int32.lt_iff_toInt_lt, ← Int32.toInt_inj]; omega) ?_
  refine r_aload H 56 d_j52_16_54 ?_
  have k44 : Keep h0 h1 [] := Keep.trans (Keep.refl h0 []) K1 all0
  have k45 : Keep h0 hh23 [] := Keep.trans k44 K10 (allS (Or.inr (nlt nlr (Nat.le_of_eq g1.symm))) all0)
  have k46 : Keep h0 hh40 [] := Keep.trans k45 K36 all0
  exact r_areturn H d_j52_16_56 (Or.inr (⟨b34, kc35, rfl, k46, (nlt z33 g37), q38, q39⟩))
 ·
  have rr47 : 0 ≤ i1.toInt ∧ i1.toInt ≤ 255 := by have := r_i1; have : (255 : Int32).toInt = 255 := (by decide); have hc_ := c17; simp only [Int32.lt_iff_toInt_lt, ← Int32.toInt_inj] at hc_; omega
  have rr48 : 256 ≤ i2.toInt ∧ i2.toInt ≤ 65535 := by have := r_i2; have : (255 : Int32).toInt = 255 := (by decide); have hc_ := c18; simp only [Int32.lt_iff_toInt_lt, ← Int32.toInt_inj] at hc_; omega
  refine r_istore H 14 #[vR a1, vI 0, vI 3, vR b1, vI 1, .unset] d_j52_16_12 ?_
  refine r_iload H 16 d_j52_16_14 ?_
  refine r_iloadN H 17 d_j52_16_16 ?_
  refine r_icmpeqF H 20 d_j52_16_17 ?_
  refine r_aloadN H 21 d_j52_16_20 ?_
  refine r_iloadN H 22 d_j52_16_21 ?_
  refine r_iloadN H 23 d_j52_16_22 ?_
  have q49 := (q2.keep K16 (ninS (Nat.ne_of_lt (Nat.lt_of_lt_of_le A_a1.lt (nlt nlr (Nat.le_of_eq g1.symm)))) nin0))
  have z50 := Nat.le_trans K1.1 K16.1
  refine r_static (argsL := [.ref a1, .int 0, .int 3]) (rest := []) (W := 0) H 26 d_j52_16_23 (tw74 hw) (tw75 hw) (tw43 hw) (tw76 hw) (lenOf pd_10 rfl) (rm_toBytes_50 hw Ts a1 i1 i2 i3 c1 hh23 f Zf (nlt Z0 z50) q49 (by have := rr47; omega) (by have := rr48; omega) (by have := r_i3; omega) S__assertionsDisabled S_HI_BYTE_SHIFT S_LO_BYTE_SHIFT) ?_
  rintro _ hh57 ⟨b51, kc52, rfl, K53, g54, q55, q56⟩
  refine r_astore H 28 #[vR a1, vI 0, vI 3, vR b1, vI 1, vR b51] d_j52_16_26 ?_
  refine r_aload H 30 d_j52_16_28 ?_
  refine r_iload H 32 d_j52_16_30 ?_
  have z58 := Nat.le_trans z50 K53.1
  refine r_static (argsL := [.ref b51, .int 1]) (rest := []) (W := 0) H 35 d_j52_16_32 (tw90 hw) (tw91 hw) (tw43 hw) (tw92 hw) (lenOf pd_11 rfl) (rm_getChar_15 hw Ts b51 (1 : Int32) kc52 _ (cL8 i2) (cH8 i2) hh57 f Zf (nlt Z0 z58) q55 rfl (by decide) rfl (by decide) S__assertionsDisabled S_HI_BYTE_SHIFT S_LO_BYTE_SHIFT) ?_
  rintro _ _ ⟨p59, rfl, ep59, rp59, rfl⟩
  have hzp59 : i2 = p59 := by rw [← ep59]; exact (own_u16 i2 (by have := rr48; omega)).symm
  subst hzp59
  refine r_sipush H 38 255 d_j52_16_35 ?_
  refine r_icmpgtT H 54 d_j52_16_38 (by have := rr48; have : (255 : Int32).toInt = 255 := (by decide); simp only [Int32.lt_iff_toInt_lt, ← Int32.toInt_inj]; omega) ?_
  refine r_aload H 56 d_j52_16_54 ?_
  have k61 : Keep h0 h1 [] := Keep.trans (Keep.refl h0 []) K1 all0
  have k62 : Keep h0 hh23 [] := Keep.trans k61 K16 (allS (Or.inr (nlt nlr (Nat.le_of_eq g1.symm))) all0)
  have k63 : Keep h0 hh57 [] := Keep.trans k62 K53 all0
  exact r_areturn H d_j52_16_56 (Or.inr (⟨b51, kc52, rfl, k63, (nlt z50 g54), q55, q56⟩))
 ·
  have rr64 : 256 ≤ i1.toInt ∧ i1.toInt ≤ 65535 := by have := r_i1; have : (255 : Int32).toInt = 255 := (by decide); have hc_ := c22; simp only [Int32.lt_iff_toInt_lt, ← Int32.toInt_inj] at hc_; omega
  refine r_istore H 14 #[vR a1, vI 0, vI 3, vR b1, vI 0, .unset] d_j52_16_12 ?_
  refine r_iload H 16 d_j52_16_14 ?_
  refine r_iloadN H 17 d_j52_16_16 ?_
  refine r_icmpeqF H 20 d_j52_16_17 ?_
  refine r_aloadN H 21 d_j52_16_20 ?_
  refine r_iloadN H 22 d_j52_16_21 ?_
  refine r_iloadN H 23 d_j52_16_22 ?_
  refine r_static (argsL := [.ref a1, .int 0, .int 3]) (rest := []) (W := 0) H 26 d_j52_16_23 (tw74 hw) (tw75 hw) (tw43 hw) (tw76 hw) (lenOf pd_10 rfl) (rm_toBytes_50 hw Ts a1 i1 i2 i3 c1 h1 f Zf (nlt Z0 K1.1) q2 (by have := rr64; omega) (by have := r_i2; omega) (by have := r_i3; omega) S__assertionsDisabled S_HI_BYTE_SHIFT S_LO_BYTE_SHIFT) ?_
  rintro _ hh71 ⟨b65, kc66, rfl, K67, g68, q69, q70⟩
  refine r_astore H 28 #[vR a1, vI 0, vI 3, vR b1, vI 0, vR b65] d_j52_16_26 ?_
  refine r_aload H 30 d_j52_16_28 ?_
  refine r_iload H 32 d_j52_16_30 ?_
  have z72 := Nat.le_trans K1.1 K67.1
  refine r_static (argsL := [.ref b65, .int 0]) (rest := []) (W := 0) H 35 d_j52_16_32 (tw90 hw) (tw91 hw) (tw43 hw) (tw92 hw) (lenOf pd_11 rfl) (rm_getChar_15 hw Ts b65 (0 : Int32) kc66 _ (cL8 i1) (cH8 i1) hh71 f Zf (nlt Z0 z72) q69 rfl (by decide) rfl (by decide) S__assertionsDisabled S_HI_BYTE_SHIFT S_LO_BYTE_SHIFT) ?_
  rintro _ _ ⟨p73, rfl, ep73, rp73, rfl⟩
  have hzp73 : i1 = p73 := by rw [← ep73]; exact (own_u16 i1 (by have := rr64; omega)).symm
  subst hzp73
  refine r_sipush H 38 255 d_j52_16_35 ?_
  refine r_icmpgtT H 54 d_j52_16_38 (by have := rr64; have : (255 : Int32).toInt = 255 := (by decide); simp only [Int32.lt_iff_toInt_lt, ← Int32.toInt_inj]; omega) ?_
  refine r_aload H 56 d_j52_16_54 ?_
  have k75 : Keep h0 h1 [] := Keep.trans (Keep.refl h0 []) K1 all0
  have k76 : Keep h0 hh71 [] := Keep.trans k75 K67 all0
  exact r_areturn H d_j52_16_56 (Or.inr (⟨b65, kc66, rfl, k76, (nlt K1.1 g68), q69, q70⟩))
def Q_coderFromArrayLen_56 (Z : State) (h0 : Heap) (v : Option Value) (h : Heap) : Prop := v = some (.int 0) ∧ h0 = h
def R_coderFromArrayLen_56 : Room := { frames := 0, cells := 0, slots := 0, locals := 0 }
theorem rm_coderFromArrayLen_56 {w : Bool} {Z : State} {a0 : Array Value} (hw : HW a0 Z) (Ts : List String) (a1 : Addr) (i1 : Int32) (i2 : Int32) (i3 : Int32) (c1 : ClassId) (h0 : Heap) (f : Nat) (Zf : Z.heap.size ≤ f) (Z0 : f ≤ h0.size) (A_a1 : Ar Z h0 a1 c1 .byte [.int (cB8 i1), .int (cB8 i2), .int (cB8 i3)]) :
  Con w [] Z mn13 jdk_52_method_15_code 2 (some .byte) R_coderFromArrayLen_56 Ts Ts f #[.ref a1, .int 3] h0 (Q_coderFromArrayLen_56 Z h0) := by
 refine con_of f #[vR a1, vI 3] (plainFor_of_name pn_3) (fun m => rfl) Zf ?_
 intro C H hX0
 refine r_iloadN H 1 d_j52_15_0 ?_
 refine r_aloadN H 2 d_j52_15_1 ?_
 refine r_alen H 3 3 d_j52_15_2 A_a1 ?_
 refine r_isub H 4 0 d_j52_15_3 ?_
 refine r_bipush H 6 31 d_j52_15_4 ?_
 refine r_iushr H 7 0 d_j52_15_6 (by decide) ?_
 refine r_i2b H 8 0 d_j52_15_7 (by decide) ?_
 exact r_nreturn (0 : Int32) H d_j52_15_8 (by decide) (⟨rfl, rfl⟩)
def Q_coderFromArrayLen_57 (Z : State) (h0 : Heap) (v : Option Value) (h : Heap) : Prop := v = some (.int 1) ∧ h0 = h
def R_coderFromArrayLen_57 : Room := { frames := 0, cells := 0, slots := 0, locals := 0 }
theorem rm_coderFromArrayLen_57 {w : Bool} {Z : State} {a0 : Array Value} (hw : HW a0 Z) (Ts : List String) (a1 : Addr) (i1 : Int32) (i2 : Int32) (i3 : Int32) (c1 : ClassId) (h0 : Heap) (f : Nat) (Zf : Z.heap.size ≤ f) (Z0 : f ≤ h0.size) (A_a1 : Ar Z h0 a1 c1 .byte [.int (cL8 i1), .int (cH8 i1), .int (cL8 i2), .int (cH8 i2), .int (cL8 i3), .int (cH8 i3)]) :
  Con w [] Z mn13 jdk_52_method_15_code 2 (some .byte) R_coderFromArrayLen_57 Ts Ts f #[.ref a1, .int 3] h0 (Q_coderFromArrayLen_57 Z h0) := by
 refine con_of f #[vR a1, vI 3] (plainFor_of_name pn_3) (fun m => rfl) Zf ?_
 intro C H hX0
 refine r_iloadN H 1 d_j52_15_0 ?_
 refine r_aloadN H 2 d_j52_15_1 ?_
 refine r_alen H 3 6 d_j52_15_2 A_a1 ?_
 refine r_isub H 4 (-3 : Int32) d_j52_15_3 ?_
 refine r_bipush H 6 31 d_j52_15_4 ?_
 refine r_iushr H 7 1 d_j52_15_6 (by decide) ?_
 refine r_i2b H 8 1 d_j52_15_7 (by decide) ?_
 exact r_nreturn (1 : Int32) H d_j52_15_8 (by decide) (⟨rfl, rfl⟩)
def Q_init_47 (Z : State) (a1 : Addr) (i1 : Int32) (i2 : Int32) (i3 : Int32) (h0 : Heap) (v : Option Value) (h : Heap) : Prop := (∃ (b1 : Addr) (kc2 : ClassId), v = none ∧ (¬ (255 : Int32) < i1) ∧ (¬ (255 : Int32) < i2) ∧ (¬ (255 : Int32) < i3) ∧ Keep h0 h [a1] ∧ h0.size ≤ b1 ∧ Exa Z h a1 "java/lang/String" ∧ Fld Z h a1 "java/lang/String" "coder" "B" (.int 0) ∧ Fld Z h a1 "java/lang/String" "value" "[B" (.ref b1) ∧ Ar Z h b1 kc2 .byte [.int (cB8 i1), .int (cB8 i2), .int (cB8 i3)] ∧ Exa Z h b1 "[B") ∨ (∃ (b10 : Addr) (kc11 : ClassId), v = none ∧ Keep h0 h [a1] ∧ h0.size ≤ b10 ∧ Exa Z h a1 "java/lang/String" ∧ Fld Z h a1 "java/lang/String" "coder" "B" (.int 1) ∧ Fld Z h a1 "java/lang/String" "value" "[B" (.ref b10) ∧ Ar Z h b10 kc11 .byte [.int (cL8 i1), .int (cH8 i1), .int (cL8 i2), .int (cH8 i2), .int (cL8 i3), .int (cH8 i3)] ∧ Exa Z h b10 "[B")
def R_init_47 : Room := { frames := 4, cells := 2, slots := 9, locals := 57 }
theorem rm_init_47 {w : Bool} {Z : State} {a0 : Array Value} (hw : HW a0 Z) (Ts : List String) (a1 : Addr) (a2 : Addr) (i1 : Int32) (i2 : Int32) (i3 : Int32) (c1 : ClassId) (cs : Int32) (h0 : Heap) (f : Nat) (Zf : Z.heap.size ≤ f) (Z0 : f ≤ h0.size) (A_a2 : Ar Z h0 a2 c1 .char [.int i1, .int i2, .int i3]) (E_a2 : Exa Z h0 a2 "[C") (E_a1 : Exa Z h0 a1 "java/lang/String") (F_coder_a1 : Fld Z h0 a1 "java/lang/String" "coder" "B" (.int 0)) (g_a1 : f ≤ a1) (F_value_a1 : Fld Z h0 a1 "java/lang/String" "value" "[B" .null) (r_i1 : 0 ≤ i1.toInt ∧ i1.toInt ≤ 65535) (r_i2 : 0 ≤ i2.toInt ∧ i2.toInt ≤ 65535) (r_i3 : 0 ≤ i3.toInt ∧ i3.toInt ≤ 65535) (S_cs : G_S_cs Z cs) (S__assertionsDisabled : G_S__assertionsDisabled Z) (S_HI_BYTE_SHIFT : G_S_HI_BYTE_SHIFT Z) (S_LO_BYTE_SHIFT : G_S_LO_BYTE_SHIFT Z) (hcs : ¬ cs = 0) :
  Con w [] Z mn1 jdk_42_method_149_code 6 none R_init_47 Ts Ts f #[.ref a1, .ref a2, .int 0, .int 3, .null] h0 (Q_init_47 Z a1 i1 i2 i3 h0) := by
 refine con_of f #[vR a1, vR a2, vI 0, vI 3, .val .null, .unset] (plainFor_of_name pn_1) (fun m => rfl) Zf ?_
 intro C H hX0
 refine r_aloadN H 1 d_j42_149_0 ?_
 refine r_initO (W := 0) H 4 d_j42_149_1 (tw15 hw) (tw16 hw) (tw17 hw) ?_
 refine r_iloadN H 5 d_j42_149_4 ?_
 refine r_ifneT H 27 d_j42_149_5 (by decide) (by decide) (by decide) ?_
 refine r_gets H 30 d_j42_149_27 (tw40 hw) S_cs ?_
 refine r_ifeqF H 33 d_j42_149_30 rfl hcs ?_
 refine r_aloadN H 34 d_j42_149_33 ?_
 refine r_iloadN H 35 d_j42_149_34 ?_
 refine r_iloadN H 36 d_j42_149_35 ?_
 refine r_static (argsL := [.ref a2, .int 0, .int 3]) (rest := []) (W := 0) H 39 d_j42_149_36 (tw41 hw) (tw42 hw) (tw43 hw) (tw44 hw) (lenOf pd_10 rfl) (rm_compress_48 hw Ts a2 i1 i2 i3 c1 h0 f Zf Z0 A_a2 E_a2 r_i1 r_i2 r_i3 S__assertionsDisabled S_HI_BYTE_SHIFT S_LO_BYTE_SHIFT) ?_
 rintro _ hh16 (⟨b1, kc2, rfl, c4, c5, c6, K3, g7, q8, q9⟩ | ⟨b10, kc11, rfl, K12, g13, q14, q15⟩)
 ·
  refine r_astore H 41 #[vR a1, vR a2, vI 0, vI 3, .val .null, vR b1] d_j42_149_39 ?_
  refine r_aloadN H 42 d_j42_149_41 ?_
  refine r_aload H 44 d_j42_149_42 ?_
  refine r_iloadN H 45 d_j42_149_44 ?_
  refine r_static (argsL := [.ref b1, .int 3]) (rest := [.ref a1]) (W := 1) H 48 d_j42_149_45 (tw48 hw) (tw49 hw) (tw43 hw) (tw50 hw) (lenOf pd_12 rfl) (rm_coderFromArrayLen_56 hw Ts b1 i1 i2 i3 kc2 hh16 f Zf (nlt Z0 K3.1) q8) ?_
  rintro _ _ ⟨rfl, rfl⟩
  have q21 := (E_a1.keep K3)
  have q22 := (F_coder_a1.keep K3 nin0)
  refine r_putn (v' := (.int 0)) (ty := .byte) H 51 d_j42_149_48 (tw25 hw) q22 q21 (Or.inr ⟨(tw21 hw), rfl, rfl⟩) (tw6 hw) g_a1 ?_
  intro h23 W23 K23 E23 F23
  refine r_aloadN H 52 d_j42_149_51 ?_
  refine r_aload H 54 d_j42_149_52 ?_
  have q24 := ((F_value_a1.keep K3 nin0).other W23 (Or.inr (slot_ne (Or.inr (tw20 hw)) (Or.inr (tw21 hw)) (by decide) (t := (.array .byte)) (t' := .byte) (by decide) (by decide))))
  refine r_putf (ty := (.array .byte)) H 57 d_j42_149_54 (tw24 hw) q24 E23 (Or.inr ⟨(tw20 hw), rfl, rfl⟩) (tw6 hw) g_a1 ?_
  intro h25 W25 K25 E25 F25
  have k26 : Keep h0 hh16 [a1] := Keep.trans (Keep.refl h0 [a1]) K3 all0
  have k27 : Keep h0 h23 [a1] := Keep.trans k26 K23 (allS (Or.inl (List.mem_of_getElem? (i := 0) rfl)) all0)
  have k28 : Keep h0 h25 [a1] := Keep.trans k27 K25 (allS (Or.inl (List.mem_of_getElem? (i := 0) rfl)) all0)
  have q29 := (F23.other W25 (Or.inr (slot_ne (Or.inr (tw21 hw)) (Or.inr (tw20 hw)) (by decide) (t := .byte) (t' := (.array .byte)) (by decide) (by decide))))
  have q30 := ((q8.keep K23 (ninS (Ne.symm (Nat.ne_of_lt (Nat.lt_of_lt_of_le E_a1.lt (nlt nlr g7)))) nin0)).keep K25 (ninS (Ne.symm (Nat.ne_of_lt (Nat.lt_of_lt_of_le E_a1.lt (nlt nlr g7)))) nin0))
  have q31 := ((q9.keep K23).keep K25)
  exact r_return H d_j42_149_57 (Or.inl ⟨b1, kc2, rfl, c4, c5, c6, k28, (nlt nlr g7), E25, q29, F25, q30, q31⟩)
 ·
  refine r_astore H 41 #[vR a1, vR a2, vI 0, vI 3, .val .null, vR b10] d_j42_149_39 ?_
  refine r_aloadN H 42 d_j42_149_41 ?_
  refine r_aload H 44 d_j42_149_42 ?_
  refine r_iloadN H 45 d_j42_149_44 ?_
  refine r_static (argsL := [.ref b10, .int 3]) (rest := [.ref a1]) (W := 1) H 48 d_j42_149_45 (tw48 hw) (tw49 hw) (tw43 hw) (tw50 hw) (lenOf pd_12 rfl) (rm_coderFromArrayLen_57 hw Ts b10 i1 i2 i3 kc11 hh16 f Zf (nlt Z0 K12.1) q14) ?_
  rintro _ _ ⟨rfl, rfl⟩
  have q33 := (E_a1.keep K12)
  have q34 := (F_coder_a1.keep K12 nin0)
  refine r_putn (v' := (.int 1)) (ty := .byte) H 51 d_j42_149_48 (tw25 hw) q34 q33 (Or.inr ⟨(tw21 hw), rfl, rfl⟩) (tw6 hw) g_a1 ?_
  intro h35 W35 K35 E35 F35
  refine r_aloadN H 52 d_j42_149_51 ?_
  refine r_aload H 54 d_j42_149_52 ?_
  have q36 := ((F_value_a1.keep K12 nin0).other W35 (Or.inr (slot_ne (Or.inr (tw20 hw)) (Or.inr (tw21 hw)) (by decide) (t := (.array .byte)) (t' := .byte) (by decide) (by decide))))
  refine r_putf (ty := (.array .byte)) H 57 d_j42_149_54 (tw24 hw) q36 E35 (Or.inr ⟨(tw20 hw), rfl, rfl⟩) (tw6 hw) g_a1 ?_
  intro h37 W37 K37 E37 F37
  have k38 : Keep h0 hh16 [a1] := Keep.trans (Keep.refl h0 [a1]) K12 all0
  have k39 : Keep h0 h35 [a1] := Keep.trans k38 K35 (allS (Or.inl (List.mem_of_getElem? (i := 0) rfl)) all0)
  have k40 : Keep h0 h37 [a1] := Keep.trans k39 K37 (allS (Or.inl (List.mem_of_getElem? (i := 0) rfl)) all0)
  have q41 := (F35.other W37 (Or.inr (slot_ne (Or.inr (tw21 hw)) (Or.inr (tw20 hw)) (by decide) (t := .byte) (t' := (.array .byte)) (by decide) (by decide))))
  have q42 := ((q14.keep K35 (ninS (Ne.symm (Nat.ne_of_lt (Nat.lt_of_lt_of_le E_a1.lt (nlt nlr g13)))) nin0)).keep K37 (ninS (Ne.symm (Nat.ne_of_lt (Nat.lt_of_lt_of_le E_a1.lt (nlt nlr g13)))) nin0))
  have q43 := ((q15.keep K35).keep K37)
  exact r_return H d_j42_149_57 (Or.inr (⟨b10, kc11, rfl, k40, (nlt nlr g13), E37, q41, F37, q42, q43⟩))
def Q_init_46 (Z : State) (a1 : Addr) (i1 : Int32) (i2 : Int32) (i3 : Int32) (h0 : Heap) (v : Option Value) (h : Heap) : Prop := (∃ (b1 : Addr) (kc2 : ClassId), v = none ∧ (¬ (255 : Int32) < i1) ∧ (¬ (255 : Int32) < i2) ∧ (¬ (255 : Int32) < i3) ∧ Keep h0 h [a1] ∧ h0.size ≤ b1 ∧ Exa Z h a1 "java/lang/String" ∧ Fld Z h a1 "java/lang/String" "coder" "B" (.int 0) ∧ Fld Z h a1 "java/lang/String" "value" "[B" (.ref b1) ∧ Ar Z h b1 kc2 .byte [.int (cB8 i1), .int (cB8 i2), .int (cB8 i3)] ∧ Exa Z h b1 "[B") ∨ (∃ (b13 : Addr) (kc14 : ClassId), v = none ∧ Keep h0 h [a1] ∧ h0.size ≤ b13 ∧ Exa Z h a1 "java/lang/String" ∧ Fld Z h a1 "java/lang/String" "coder" "B" (.int 1) ∧ Fld Z h a1 "java/lang/String" "value" "[B" (.ref b13) ∧ Ar Z h b13 kc14 .byte [.int (cL8 i1), .int (cH8 i1), .int (cL8 i2), .int (cH8 i2), .int (cL8 i3), .int (cH8 i3)] ∧ Exa Z h b13 "[B")
def R_init_46 : Room := { frames := 5, cells := 2, slots := 9, locals := 74 }
theorem rm_init_46 {w : Bool} {Z : State} {a0 : Array Value} (hw : HW a0 Z) (Ts : List String) (a1 : Addr) (a2 : Addr) (i1 : Int32) (i2 : Int32) (i3 : Int32) (c1 : ClassId) (cs : Int32) (h0 : Heap) (f : Nat) (Zf : Z.heap.size ≤ f) (Z0 : f ≤ h0.size) (A_a2 : Ar Z h0 a2 c1 .char [.int i1, .int i2, .int i3]) (g_a1 : f ≤ a1) (E_a2 : Exa Z h0 a2 "[C") (E_a1 : Exa Z h0 a1 "java/lang/String") (F_coder_a1 : Fld Z h0 a1 "java/lang/String" "coder" "B" (.int 0)) (F_value_a1 : Fld Z h0 a1 "java/lang/String" "value" "[B" .null) (r_i1 : 0 ≤ i1.toInt ∧ i1.toInt ≤ 65535) (r_i2 : 0 ≤ i2.toInt ∧ i2.toInt ≤ 65535) (r_i3 : 0 ≤ i3.toInt ∧ i3.toInt ≤ 65535) (S_cs : G_S_cs Z cs) (S__assertionsDisabled : G_S__assertionsDisabled Z) (S_HI_BYTE_SHIFT : G_S_HI_BYTE_SHIFT Z) (S_LO_BYTE_SHIFT : G_S_LO_BYTE_SHIFT Z) (hcs : ¬ cs = 0) :
  Con w [] Z mn2 jdk_42_method_3_code 2 none R_init_46 Ts Ts f #[.ref a1, .ref a2] h0 (Q_init_46 Z a1 i1 i2 i3 h0) := by
 refine con_of f #[vR a1, vR a2] (plainFor_of_name pn_1) (fun m => rfl) Zf ?_
 intro C H hX0
 refine r_aloadN H 1 d_j42_3_0 ?_
 refine r_aloadN H 2 d_j42_3_1 ?_
 refine r_iconst H 3 0 d_j42_3_2 ?_
 refine r_aloadN H 4 d_j42_3_3 ?_
 refine r_alen H 5 3 d_j42_3_4 A_a2 ?_
 refine r_null H 6 d_j42_3_5 ?_
 refine r_special (a := a1) (argsL := [.ref a2, .int 0, .int 3, .null]) (rest := []) (W := 0) H 9 d_j42_3_6 (tw11 hw) (tw12 hw) (tw7 hw) (tw14 hw) (lenOf pd_1 rfl) (rm_init_47 hw Ts a1 a2 i1 i2 i3 c1 cs h0 f Zf Z0 A_a2 E_a2 E_a1 F_coder_a1 g_a1 F_value_a1 r_i1 r_i2 r_i3 S_cs S__assertionsDisabled S_HI_BYTE_SHIFT S_LO_BYTE_SHIFT hcs) ?_
 rintro _ hh22 (⟨b1, kc2, rfl, c4, c5, c6, K3, g7, q8, q9, q10, q11, q12⟩ | ⟨b13, kc14, rfl, K15, g16, q17, q18, q19, q20, q21⟩)
 ·
  have k26 : Keep h0 hh22 [a1] := Keep.trans (Keep.refl h0 [a1]) K3 (allS (Or.inl (List.mem_of_getElem? (i := 0) rfl)) all0)
  exact r_return H d_j42_3_9 (Or.inl ⟨b1, kc2, rfl, c4, c5, c6, k26, (nlt nlr g7), q8, q9, q10, q11, q12⟩)
 ·
  have k27 : Keep h0 hh22 [a1] := Keep.trans (Keep.refl h0 [a1]) K15 (allS (Or.inl (List.mem_of_getElem? (i := 0) rfl)) all0)
  exact r_return H d_j42_3_9 (Or.inr (⟨b13, kc14, rfl, k27, (nlt nlr g16), q17, q18, q19, q20, q21⟩))
def fn_readAlikeByEitherSetting_58 (i1 : Int32) (i2 : Int32) (i3 : Int32) : Int32 := (if (if i2 = (39 : Int32) then (if ((if i1 = (92 : Int32) then (1 : Int32) else (0 : Int32)) % (2 : Int32)) = (0 : Int32) then (1 : Int32) else (0 : Int32)) else (1 : Int32)) = (0 : Int32) then (if i2 = (39 : Int32) then (if ((if i1 = (92 : Int32) then (1 : Int32) else (0 : Int32)) % (2 : Int32)) = (0 : Int32) then (1 : Int32) else (0 : Int32)) else (1 : Int32)) else (if (if i3 = (39 : Int32) then (if ((if i2 = (92 : Int32) then ((if i1 = (92 : Int32) then (1 : Int32) else (0 : Int32)) + (1 : Int32)) else (0 : Int32)) % (2 : Int32)) = (0 : Int32) then (1 : Int32) else (0 : Int32)) else (1 : Int32)) = (0 : Int32) then (if i3 = (39 : Int32) then (if ((if i2 = (92 : Int32) then ((if i1 = (92 : Int32) then (1 : Int32) else (0 : Int32)) + (1 : Int32)) else (0 : Int32)) % (2 : Int32)) = (0 : Int32) then (1 : Int32) else (0 : Int32)) else (1 : Int32)) else (if i3 = (39 : Int32) then (if ((if i2 = (92 : Int32) then ((if i1 = (92 : Int32) then (1 : Int32) else (0 : Int32)) + (1 : Int32)) else (0 : Int32)) % (2 : Int32)) = (0 : Int32) then (1 : Int32) else (0 : Int32)) else (1 : Int32))))
def Q_readAlikeByEitherSetting_58 (Z : State) (i1 : Int32) (i2 : Int32) (i3 : Int32) (h0 : Heap) (v : Option Value) (h : Heap) : Prop := ∃ z : Int32, v = some (.int z) ∧ h0 = h ∧ (fn_readAlikeByEitherSetting_58 i1 i2 i3) = z ∧ (0 ≤ z.toInt ∧ z.toInt ≤ 1)
def R_readAlikeByEitherSetting_58 : Room := { frames := 4, cells := 0, slots := 0, locals := 53 }
theorem rm_readAlikeByEitherSetting_58 {w : Bool} {Z : State} {a0 : Array Value} (hw : HW a0 Z) (Ts : List String) (a1 : Addr) (a2 : Addr) (i1 : Int32) (i2 : Int32) (i3 : Int32) (c1 : ClassId) (cs : Int32) (sio : Value) (h0 : Heap) (f : Nat) (Zf : Z.heap.size ≤ f) (Z0 : f ≤ h0.size) (E_a1 : Exa Z h0 a1 "java/lang/String") (F_value_a1 : Fld Z h0 a1 "java/lang/String" "value" "[B" (.ref a2)) (A_a2 : Ar Z h0 a2 c1 .byte [.int (cB8 i1), .int (cB8 i2), .int (cB8 i3)]) (F_coder_a1 : Fld Z h0 a1 "java/lang/String" "coder" "B" (.int 0)) (r_i1 : 0 ≤ i1.toInt ∧ i1.toInt ≤ 255) (r_i2 : 0 ≤ i2.toInt ∧ i2.toInt ≤ 255) (r_i3 : 0 ≤ i3.toInt ∧ i3.toInt ≤ 255) (S_cs : G_S_cs Z cs) (S_sio : G_S_sio Z sio) (hsio : G_hsio Z sio) (hcs : ¬ cs = 0) :
  Con w [] Z mn5 prog_52_method_4_code 5 (some .boolean) R_readAlikeByEitherSetting_58 Ts Ts f #[.ref a1] h0 (Q_readAlikeByEitherSetting_58 Z i1 i2 i3 h0) := by
 refine con_of f #[vR a1, .unset, .unset, .unset, .unset] (plainFor_of_name pn_2) (fun m => rfl) Zf ?_
 intro C H hX0
 refine r_iconst H 1 1 d_g52_4_0 ?_
 refine r_istoreN H 2 #[vR a1, vI 1, .unset, .unset, .unset] d_g52_4_1 ?_
 refine r_iconst H 3 0 d_g52_4_2 ?_
 refine r_istoreN H 4 #[vR a1, vI 1, vI 0, .unset, .unset] d_g52_4_3 ?_
 refine r_iconst H 5 0 d_g52_4_4 ?_
 refine r_istoreN H 6 #[vR a1, vI 1, vI 0, vI 0, .unset] d_g52_4_5 ?_
 refine r_iloadN H 7 d_g52_4_6 ?_
 refine r_ifeqF H 10 d_g52_4_7 rfl (by decide) ?_
 refine r_iloadN H 11 d_g52_4_10 ?_
 refine r_aloadN H 12 d_g52_4_11 ?_
 refine r_virtual (z := mn4) (a := a1) (argsL := []) (rest := [.int 0]) (W := 1) H 15 d_g52_4_12 (tw30 hw) (tw31 hw) (nf_sel (tw33 hw)) (tw33 hw) (tw32 hw) (tw7 hw) (tw34 hw) E_a1 (lenOf pd_4 rfl) (rm_length_19 hw Ts a1 a2 c1 _ (3 : Int32) cs h0 f Zf Z0 F_value_a1 A_a2 E_a1 F_coder_a1 rfl S_cs hcs) ?_
 rintro _ _ ⟨p1, rfl, ep1, rfl⟩
 have hzp1 : (3 : Int32) = p1 := by rw [← ep1]; decide
 subst hzp1
 refine r_icmpgeF H 18 d_g52_4_15 ?_
 refine r_aloadN H 19 d_g52_4_18 ?_
 refine r_iloadN H 20 d_g52_4_19 ?_
 refine r_virtual (z := mn18) (a := a1) (argsL := [.int 0]) (rest := []) (W := 0) H 23 d_g52_4_20 (tw51 hw) (tw52 hw) (nf_sel (tw54 hw)) (tw54 hw) (tw53 hw) (tw7 hw) (tw55 hw) E_a1 (lenOf pd_16 rfl) (rm_charAt_20 hw Ts a1 (0 : Int32) a2 c1 _ (3 : Int32) (cB8 i1) cs sio h0 f Zf Z0 E_a1 F_coder_a1 F_value_a1 A_a2 rfl rfl (by decide) (by decide) (by decide) S_cs S_sio hsio hcs) ?_
 rintro _ _ ⟨p3, rfl, ep3, rp3, rfl⟩
 have hzp3 : i1 = p3 := by rw [← ep3]; exact (own_l8 i1 (by have := r_i1; omega)).symm
 subst hzp3
 refine r_istore H 25 #[vR a1, vI 1, vI 0, vI 0, vI i1] d_g52_4_23 ?_
 refine r_iload H 27 d_g52_4_25 ?_
 refine r_bipush H 29 39 d_g52_4_27 ?_
 refine Run.join (P := fun _ => True) (pcB := 43) (LB := fun _ => #[vR a1, vI 1, vI 0, vI 0, vI i1]) (SB := fun _ => [.int 1]) (fun key => ?_) ?_
 ·
  refine r_icmpne H 38 32 d_g52_4_29 (fun c5 => ?_) (fun c5 => ?_)
  ·
   refine r_iconst H 39 1 d_g52_4_38 ?_
   refine r_goto H 43 d_g52_4_39 ?_
   exact key 0 trivial
  ·
   refine r_iloadN H 33 d_g52_4_32 ?_
   refine r_iconst H 34 2 d_g52_4_33 ?_
   refine r_irem H 35 (0 : Int32) d_g52_4_34 (by decide) ?_
   refine r_ifneF H 38 d_g52_4_35 rfl (by decide) ?_
   refine r_iconst H 39 1 d_g52_4_38 ?_
   refine r_goto H 43 d_g52_4_39 ?_
   exact key 0 trivial
 rintro _ _
 refine r_istoreN H 44 #[vR a1, vI 1, vI 0, vI 0, vI i1] d_g52_4_43 ?_
 refine r_iload H 46 d_g52_4_44 ?_
 refine r_bipush H 48 92 d_g52_4_46 ?_
 refine Run.join (P := fun z => (if i1 = (92 : Int32) then (1 : Int32) else (0 : Int32)) = z ∧ (0 ≤ z.toInt ∧ z.toInt ≤ 1)) (pcB := 58) (LB := fun z => #[vR a1, vI 1, vI 0, vI 0, vI i1]) (SB := fun z => [.int z]) (fun key => ?_) ?_
 ·
  refine r_icmpne H 57 51 d_g52_4_48 (fun c7 => ?_) (fun c7 => ?_)
  ·
   refine r_iconst H 58 0 d_g52_4_57 ?_
   exact key (0 : Int32) ⟨(by rw [if_neg c7]), (by decide)⟩
  ·
   refine r_iloadN H 52 d_g52_4_51 ?_
   refine r_iconst H 53 1 d_g52_4_52 ?_
   refine r_iadd H 54 1 d_g52_4_53 (by decide) ?_
   refine r_goto H 58 d_g52_4_54 ?_
   exact key (1 : Int32) ⟨(by rw [if_pos c7]), (by decide)⟩
 rintro p9 ⟨ep9, rp9⟩
 refine r_istoreN H 59 #[vR a1, vI 1, vI p9, vI 0, vI i1] d_g52_4_58 ?_
 refine r_iinc H 62 #[vR a1, vI 1, vI p9, vI 1, vI i1] 1 d_g52_4_59 ?_
 refine r_goto H 6 d_g52_4_62 ?_
 refine r_iloadN H 7 d_g52_4_6 ?_
 refine r_ifeqF H 10 d_g52_4_7 rfl (by decide) ?_
 refine r_iloadN H 11 d_g52_4_10 ?_
 refine r_aloadN H 12 d_g52_4_11 ?_
 refine r_virtual (z := mn4) (a := a1) (argsL := []) (rest := [.int 1]) (W := 1) H 15 d_g52_4_12 (tw30 hw) (tw31 hw) (nf_sel (tw33 hw)) (tw33 hw) (tw32 hw) (tw7 hw) (tw34 hw) E_a1 (lenOf pd_4 rfl) (rm_length_19 hw Ts a1 a2 c1 _ (3 : Int32) cs h0 f Zf Z0 F_value_a1 A_a2 E_a1 F_coder_a1 rfl S_cs hcs) ?_
 rintro _ _ ⟨p10, rfl, ep10, rfl⟩
 have hzp10 : (3 : Int32) = p10 := by rw [← ep10]; decide
 subst hzp10
 refine r_icmpgeF H 18 d_g52_4_15 ?_
 refine r_aloadN H 19 d_g52_4_18 ?_
 refine r_iloadN H 20 d_g52_4_19 ?_
 refine r_virtual (z := mn18) (a := a1) (argsL := [.int 1]) (rest := []) (W := 0) H 23 d_g52_4_20 (tw51 hw) (tw52 hw) (nf_sel (tw54 hw)) (tw54 hw) (tw53 hw) (tw7 hw) (tw55 hw) E_a1 (lenOf pd_16 rfl) (rm_charAt_20 hw Ts a1 (1 : Int32) a2 c1 _ (3 : Int32) (cB8 i2) cs sio h0 f Zf Z0 E_a1 F_coder_a1 F_value_a1 A_a2 rfl rfl (by decide) (by decide) (by decide) S_cs S_sio hsio hcs) ?_
 rintro _ _ ⟨p12, rfl, ep12, rp12, rfl⟩
 have hzp12 : i2 = p12 := by rw [← ep12]; exact (own_l8 i2 (by have := r_i2; omega)).symm
 subst hzp12
 refine r_istore H 25 #[vR a1, vI 1, vI p9, vI 1, vI i2] d_g52_4_23 ?_
 refine r_iload H 27 d_g52_4_25 ?_
 refine r_bipush H 29 39 d_g52_4_27 ?_
 refine Run.join (P := fun z => (if i2 = (39 : Int32) then (if (p9 % (2 : Int32)) = (0 : Int32) then (1 : Int32) else (0 : Int32)) else (1 : Int32)) = z ∧ (0 ≤ z.toInt ∧ z.toInt ≤ 1)) (pcB := 43) (LB := fun z => #[vR a1, vI 1, vI p9, vI 1, vI i2]) (SB := fun z => [.int z]) (fun key => ?_) ?_
 ·
  refine r_icmpne H 38 32 d_g52_4_29 (fun c14 => ?_) (fun c14 => ?_)
  ·
   refine r_iconst H 39 1 d_g52_4_38 ?_
   refine r_goto H 43 d_g52_4_39 ?_
   exact key (1 : Int32) ⟨(by rw [if_neg c14]), (by decide)⟩
  ·
   refine r_iloadN H 33 d_g52_4_32 ?_
   refine r_iconst H 34 2 d_g52_4_33 ?_
   obtain ⟨p16, ep16, rp16⟩ : ∃ p : Int32, (p9 % (2 : Int32)) = p ∧ 0 ≤ p.toInt ∧ p.toInt ≤ 1 := ⟨_, rfl, (by have := rp9; have h := (c_irem p9 (2 : Int32) 2 (by decide)).1 (by omega); omega)⟩
   refine r_irem H 35 p16 d_g52_4_34 ep16 ?_
   refine Run.join (P := fun z => (if p16 = (0 : Int32) then (1 : Int32) else (0 : Int32)) = z ∧ (0 ≤ z.toInt ∧ z.toInt ≤ 1)) (pcB := 43) (LB := fun z => #[vR a1, vI 1, vI p9, vI 1, vI i2]) (SB := fun z => [.int z]) (fun key => ?_) ?_
   ·
    refine r_ifne H 42 38 d_g52_4_35 (fun c17 => ?_) (fun c17 => ?_)
    ·
     refine r_iconst H 43 0 d_g52_4_42 ?_
     exact key (0 : Int32) ⟨(by rw [if_neg c17]), (by decide)⟩
    ·
     refine r_iconst H 39 1 d_g52_4_38 ?_
     refine r_goto H 43 d_g52_4_39 ?_
     exact key (1 : Int32) ⟨(by rw [if_pos c17]), (by decide)⟩
   rintro p20 ⟨ep20, rp20⟩
   exact key p20 ⟨(by subst ep16 ep20; rw [if_pos c14]), (by have := rp20; omega)⟩
 rintro p21 ⟨ep21, rp21⟩
 refine r_istoreN H 44 #[vR a1, vI p21, vI p9, vI 1, vI i2] d_g52_4_43 ?_
 refine r_iload H 46 d_g52_4_44 ?_
 refine r_bipush H 48 92 d_g52_4_46 ?_
 refine Run.join (P := fun z => (if i2 = (92 : Int32) then (p9 + (1 : Int32)) else (0 : Int32)) = z ∧ (0 ≤ z.toInt ∧ z.toInt ≤ 2)) (pcB := 58) (LB := fun z => #[vR a1, vI p21, vI p9, vI 1, vI i2]) (SB := fun z => [.int z]) (fun key => ?_) ?_
 ·
  refine r_icmpne H 57 51 d_g52_4_48 (fun c22 => ?_) (fun c22 => ?_)
  ·
   refine r_iconst H 58 0 d_g52_4_57 ?_
   exact key (0 : Int32) ⟨(by rw [if_neg c22]), (by decide)⟩
  ·
   refine r_iloadN H 52 d_g52_4_51 ?_
   refine r_iconst H 53 1 d_g52_4_52 ?_
   obtain ⟨p24, ep24, rp24⟩ : ∃ p : Int32, (p9 + (1 : Int32)) = p ∧ 1 ≤ p.toInt ∧ p.toInt ≤ 2 := ⟨_, rfl, (by have := rp9; have : (1 : Int32).toInt = 1 := (by decide); have h1 := c_iadd p9 (1 : Int32); have h2 := rng32 (p9 + (1 : Int32)); omega)⟩
   refine r_iadd H 54 p24 d_g52_4_53 ep24 ?_
   refine r_goto H 58 d_g52_4_54 ?_
   exact key p24 ⟨(by subst ep24; rw [if_pos c22]), (by have := rp24; omega)⟩
 rintro p25 ⟨ep25, rp25⟩
 refine r_istoreN H 59 #[vR a1, vI p21, vI p25, vI 1, vI i2] d_g52_4_58 ?_
 refine r_iinc H 62 #[vR a1, vI p21, vI p25, vI 2, vI i2] 2 d_g52_4_59 ?_
 refine r_goto H 6 d_g52_4_62 ?_
 refine r_iloadN H 7 d_g52_4_6 ?_
 refine r_ifeq H 65 10 d_g52_4_7 (fun c26 => ?_) (fun c26 => ?_)
 ·
  have rr27 : 0 ≤ p21.toInt ∧ p21.toInt ≤ 0 := by have := rp21; have : (0 : Int32).toInt = 0 := (by decide); have hc_ := c26; simp only [Int32.lt_iff_toInt_lt, ← Int32.toInt_inj] at hc_; omega
  refine r_iloadN H 66 d_g52_4_65 ?_
  subst ep9 ep21 ep25
  exact r_nreturn (if i2 = (39 : Int32) then (if ((if i1 = (92 : Int32) then (1 : Int32) else (0 : Int32)) % (2 : Int32)) = (0 : Int32) then (1 : Int32) else (0 : Int32)) else (1 : Int32)) H d_g52_4_66 (nar_bool_id (by have := rr27; omega)) (⟨_, rfl, rfl, (by unfold fn_readAlikeByEitherSetting_58; rw [if_pos c26]), (by have := rr27; omega)⟩)
 ·
  refine r_iloadN H 11 d_g52_4_10 ?_
  refine r_aloadN H 12 d_g52_4_11 ?_
  refine r_virtual (z := mn4) (a := a1) (argsL := []) (rest := [.int 2]) (W := 1) H 15 d_g52_4_12 (tw30 hw) (tw31 hw) (nf_sel (tw33 hw)) (tw33 hw) (tw32 hw) (tw7 hw) (tw34 hw) E_a1 (lenOf pd_4 rfl) (rm_length_19 hw Ts a1 a2 c1 _ (3 : Int32) cs h0 f Zf Z0 F_value_a1 A_a2 E_a1 F_coder_a1 rfl S_cs hcs) ?_
  rintro _ _ ⟨p29, rfl, ep29, rfl⟩
  have hzp29 : (3 : Int32) = p29 := by rw [← ep29]; decide
  subst hzp29
  refine r_icmpgeF H 18 d_g52_4_15 ?_
  refine r_aloadN H 19 d_g52_4_18 ?_
  refine r_iloadN H 20 d_g52_4_19 ?_
  refine r_virtual (z := mn18) (a := a1) (argsL := [.int 2]) (rest := []) (W := 0) H 23 d_g52_4_20 (tw51 hw) (tw52 hw) (nf_sel (tw54 hw)) (tw54 hw) (tw53 hw) (tw7 hw) (tw55 hw) E_a1 (lenOf pd_16 rfl) (rm_charAt_20 hw Ts a1 (2 : Int32) a2 c1 _ (3 : Int32) (cB8 i3) cs sio h0 f Zf Z0 E_a1 F_coder_a1 F_value_a1 A_a2 rfl rfl (by decide) (by decide) (by decide) S_cs S_sio hsio hcs) ?_
  rintro _ _ ⟨p31, rfl, ep31, rp31, rfl⟩
  have hzp31 : i3 = p31 := by rw [← ep31]; exact (own_l8 i3 (by have := r_i3; omega)).symm
  subst hzp31
  refine r_istore H 25 #[vR a1, vI p21, vI p25, vI 2, vI i3] d_g52_4_23 ?_
  refine r_iload H 27 d_g52_4_25 ?_
  refine r_bipush H 29 39 d_g52_4_27 ?_
  refine Run.join (P := fun z => (if i3 = (39 : Int32) then (if (p25 % (2 : Int32)) = (0 : Int32) then (1 : Int32) else (0 : Int32)) else (1 : Int32)) = z ∧ (0 ≤ z.toInt ∧ z.toInt ≤ 1)) (pcB := 43) (LB := fun z => #[vR a1, vI p21, vI p25, vI 2, vI i3]) (SB := fun z => [.int z]) (fun key => ?_) ?_
  ·
   refine r_icmpne H 38 32 d_g52_4_29 (fun c33 => ?_) (fun c33 => ?_)
   ·
    refine r_iconst H 39 1 d_g52_4_38 ?_
    refine r_goto H 43 d_g52_4_39 ?_
    exact key (1 : Int32) ⟨(by rw [if_neg c33]), (by decide)⟩
   ·
    refine r_iloadN H 33 d_g52_4_32 ?_
    refine r_iconst H 34 2 d_g52_4_33 ?_
    obtain ⟨p35, ep35, rp35⟩ : ∃ p : Int32, (p25 % (2 : Int32)) = p ∧ 0 ≤ p.toInt ∧ p.toInt ≤ 1 := ⟨_, rfl, (by have := rp25; have h := (c_irem p25 (2 : Int32) 2 (by decide)).1 (by omega); omega)⟩
    refine r_irem H 35 p35 d_g52_4_34 ep35 ?_
    refine Run.join (P := fun z => (if p35 = (0 : Int32) then (1 : Int32) else (0 : Int32)) = z ∧ (0 ≤ z.toInt ∧ z.toInt ≤ 1)) (pcB := 43) (LB := fun z => #[vR a1, vI p21, vI p25, vI 2, vI i3]) (SB := fun z => [.int z]) (fun key => ?_) ?_
    ·
     refine r_ifne H 42 38 d_g52_4_35 (fun c36 => ?_) (fun c36 => ?_)
     ·
      refine r_iconst H 43 0 d_g52_4_42 ?_
      exact key (0 : Int32) ⟨(by rw [if_neg c36]), (by decide)⟩
     ·
      refine r_iconst H 39 1 d_g52_4_38 ?_
      refine r_goto H 43 d_g52_4_39 ?_
      exact key (1 : Int32) ⟨(by rw [if_pos c36]), (by decide)⟩
    rintro p39 ⟨ep39, rp39⟩
    exact key p39 ⟨(by subst ep35 ep39; rw [if_pos c33]), (by have := rp39; omega)⟩
  rintro p40 ⟨ep40, rp40⟩
  refine r_istoreN H 44 #[vR a1, vI p40, vI p25, vI 2, vI i3] d_g52_4_43 ?_
  refine r_iload H 46 d_g52_4_44 ?_
  refine r_bipush H 48 92 d_g52_4_46 ?_
  refine Run.join (P := fun z => (if i3 = (92 : Int32) then (p25 + (1 : Int32)) else (0 : Int32)) = z ∧ (0 ≤ z.toInt ∧ z.toInt ≤ 3)) (pcB := 58) (LB := fun z => #[vR a1, vI p40, vI p25, vI 2, vI i3]) (SB := fun z => [.int z]) (fun key => ?_) ?_
  ·
   refine r_icmpne H 57 51 d_g52_4_48 (fun c41 => ?_) (fun c41 => ?_)
   ·
    refine r_iconst H 58 0 d_g52_4_57 ?_
    exact key (0 : Int32) ⟨(by rw [if_neg c41]), (by decide)⟩
   ·
    refine r_iloadN H 52 d_g52_4_51 ?_
    refine r_iconst H 53 1 d_g52_4_52 ?_
    obtain ⟨p43, ep43, rp43⟩ : ∃ p : Int32, (p25 + (1 : Int32)) = p ∧ 1 ≤ p.toInt ∧ p.toInt ≤ 3 := ⟨_, rfl, (by have := rp25; have : (1 : Int32).toInt = 1 := (by decide); have h1 := c_iadd p25 (1 : Int32); have h2 := rng32 (p25 + (1 : Int32)); omega)⟩
    refine r_iadd H 54 p43 d_g52_4_53 ep43 ?_
    refine r_goto H 58 d_g52_4_54 ?_
    exact key p43 ⟨(by subst ep43; rw [if_pos c41]), (by have := rp43; omega)⟩
  rintro p44 ⟨ep44, rp44⟩
  refine r_istoreN H 59 #[vR a1, vI p40, vI p44, vI 2, vI i3] d_g52_4_58 ?_
  refine r_iinc H 62 #[vR a1, vI p40, vI p44, vI 3, vI i3] 3 d_g52_4_59 ?_
  refine r_goto H 6 d_g52_4_62 ?_
  refine r_iloadN H 7 d_g52_4_6 ?_
  refine r_ifeq H 65 10 d_g52_4_7 (fun c45 => ?_) (fun c45 => ?_)
  ·
   have rr46 : 0 ≤ p40.toInt ∧ p40.toInt ≤ 0 := by have := rp40; have : (0 : Int32).toInt = 0 := (by decide); have hc_ := c45; simp only [Int32.lt_iff_toInt_lt, ← Int32.toInt_inj] at hc_; omega
   refine r_iloadN H 66 d_g52_4_65 ?_
   subst ep9 ep21 ep25 ep40 ep44
   exact r_nreturn (if i3 = (39 : Int32) then (if ((if i2 = (92 : Int32) then ((if i1 = (92 : Int32) then (1 : Int32) else (0 : Int32)) + (1 : Int32)) else (0 : Int32)) % (2 : Int32)) = (0 : Int32) then (1 : Int32) else (0 : Int32)) else (1 : Int32)) H d_g52_4_66 (nar_bool_id (by have := rr46; omega)) (⟨_, rfl, rfl, (by unfold fn_readAlikeByEitherSetting_58; rw [if_neg c26, if_pos c45]), (by have := rr46; omega)⟩)
  ·
   have rr47 : 1 ≤ p40.toInt ∧ p40.toInt ≤ 1 := by have := rp40; have : (0 : Int32).toInt = 0 := (by decide); have hc_ := c45; simp only [Int32.lt_iff_toInt_lt, ← Int32.toInt_inj] at hc_; omega
   refine r_iloadN H 11 d_g52_4_10 ?_
   refine r_aloadN H 12 d_g52_4_11 ?_
   refine r_virtual (z := mn4) (a := a1) (argsL := []) (rest := [.int 3]) (W := 1) H 15 d_g52_4_12 (tw30 hw) (tw31 hw) (nf_sel (tw33 hw)) (tw33 hw) (tw32 hw) (tw7 hw) (tw34 hw) E_a1 (lenOf pd_4 rfl) (rm_length_19 hw Ts a1 a2 c1 _ (3 : Int32) cs h0 f Zf Z0 F_value_a1 A_a2 E_a1 F_coder_a1 rfl S_cs hcs) ?_
   rintro _ _ ⟨p48, rfl, ep48, rfl⟩
   have hzp48 : (3 : Int32) = p48 := by rw [← ep48]; decide
   subst hzp48
   refine r_icmpgeT H 65 d_g52_4_15 ?_
   refine r_iloadN H 66 d_g52_4_65 ?_
   subst ep9 ep21 ep25 ep40 ep44
   exact r_nreturn (if i3 = (39 : Int32) then (if ((if i2 = (92 : Int32) then ((if i1 = (92 : Int32) then (1 : Int32) else (0 : Int32)) + (1 : Int32)) else (0 : Int32)) % (2 : Int32)) = (0 : Int32) then (1 : Int32) else (0 : Int32)) else (1 : Int32)) H d_g52_4_66 (nar_bool_id (by have := rr47; omega)) (⟨_, rfl, rfl, (by unfold fn_readAlikeByEitherSetting_58; rw [if_neg c26, if_neg c45]), (by have := rr47; omega)⟩)
def fn_readAlikeByEitherSetting_59 (i1 : Int32) (i2 : Int32) (i3 : Int32) : Int32 := (if (if i2 = (39 : Int32) then (if ((if i1 = (92 : Int32) then (1 : Int32) else (0 : Int32)) % (2 : Int32)) = (0 : Int32) then (1 : Int32) else (0 : Int32)) else (1 : Int32)) = (0 : Int32) then (if i2 = (39 : Int32) then (if ((if i1 = (92 : Int32) then (1 : Int32) else (0 : Int32)) % (2 : Int32)) = (0 : Int32) then (1 : Int32) else (0 : Int32)) else (1 : Int32)) else (if (if i3 = (39 : Int32) then (if ((if i2 = (92 : Int32) then ((if i1 = (92 : Int32) then (1 : Int32) else (0 : Int32)) + (1 : Int32)) else (0 : Int32)) % (2 : Int32)) = (0 : Int32) then (1 : Int32) else (0 : Int32)) else (1 : Int32)) = (0 : Int32) then (if i3 = (39 : Int32) then (if ((if i2 = (92 : Int32) then ((if i1 = (92 : Int32) then (1 : Int32) else (0 : Int32)) + (1 : Int32)) else (0 : Int32)) % (2 : Int32)) = (0 : Int32) then (1 : Int32) else (0 : Int32)) else (1 : Int32)) else (if i3 = (39 : Int32) then (if ((if i2 = (92 : Int32) then ((if i1 = (92 : Int32) then (1 : Int32) else (0 : Int32)) + (1 : Int32)) else (0 : Int32)) % (2 : Int32)) = (0 : Int32) then (1 : Int32) else (0 : Int32)) else (1 : Int32))))
def Q_readAlikeByEitherSetting_59 (Z : State) (i1 : Int32) (i2 : Int32) (i3 : Int32) (h0 : Heap) (v : Option Value) (h : Heap) : Prop := ∃ z : Int32, v = some (.int z) ∧ h0 = h ∧ (fn_readAlikeByEitherSetting_59 i1 i2 i3) = z ∧ (0 ≤ z.toInt ∧ z.toInt ≤ 1)
def R_readAlikeByEitherSetting_59 : Room := { frames := 5, cells := 0, slots := 0, locals := 66 }
theorem rm_readAlikeByEitherSetting_59 {w : Bool} {Z : State} {a0 : Array Value} (hw : HW a0 Z) (Ts : List String) (a1 : Addr) (a2 : Addr) (i1 : Int32) (i2 : Int32) (i3 : Int32) (c1 : ClassId) (cs : Int32) (sio : Value) (h0 : Heap) (f : Nat) (Zf : Z.heap.size ≤ f) (Z0 : f ≤ h0.size) (E_a1 : Exa Z h0 a1 "java/lang/String") (F_value_a1 : Fld Z h0 a1 "java/lang/String" "value" "[B" (.ref a2)) (A_a2 : Ar Z h0 a2 c1 .byte [.int (cL8 i1), .int (cH8 i1), .int (cL8 i2), .int (cH8 i2), .int (cL8 i3), .int (cH8 i3)]) (F_coder_a1 : Fld Z h0 a1 "java/lang/String" "coder" "B" (.int 1)) (r_i1 : 0 ≤ i1.toInt ∧ i1.toInt ≤ 65535) (r_i2 : 0 ≤ i2.toInt ∧ i2.toInt ≤ 65535) (r_i3 : 0 ≤ i3.toInt ∧ i3.toInt ≤ 65535) (S_cs : G_S_cs Z cs) (S_sio : G_S_sio Z sio) (hsio : G_hsio Z sio) (S__assertionsDisabled : G_S__assertionsDisabled Z) (S_HI_BYTE_SHIFT : G_S_HI_BYTE_SHIFT Z) (S_LO_BYTE_SHIFT : G_S_LO_BYTE_SHIFT Z) (hcs : ¬ cs = 0) :
  Con w [] Z mn5 prog_52_method_4_code 5 (some .boolean) R_readAlikeByEitherSetting_59 Ts Ts f #[.ref a1] h0 (Q_readAlikeByEitherSetting_59 Z i1 i2 i3 h0) := by
 refine con_of f #[vR a1, .unset, .unset, .unset, .unset] (plainFor_of_name pn_2) (fun m => rfl) Zf ?_
 intro C H hX0
 refine r_iconst H 1 1 d_g52_4_0 ?_
 refine r_istoreN H 2 #[vR a1, vI 1, .unset, .unset, .unset] d_g52_4_1 ?_
 refine r_iconst H 3 0 d_g52_4_2 ?_
 refine r_istoreN H 4 #[vR a1, vI 1, vI 0, .unset, .unset] d_g52_4_3 ?_
 refine r_iconst H 5 0 d_g52_4_4 ?_
 refine r_istoreN H 6 #[vR a1, vI 1, vI 0, vI 0, .unset] d_g52_4_5 ?_
 refine r_iloadN H 7 d_g52_4_6 ?_
 refine r_ifeqF H 10 d_g52_4_7 rfl (by decide) ?_
 refine r_iloadN H 11 d_g52_4_10 ?_
 refine r_aloadN H 12 d_g52_4_11 ?_
 refine r_virtual (z := mn4) (a := a1) (argsL := []) (rest := [.int 0]) (W := 1) H 15 d_g52_4_12 (tw30 hw) (tw31 hw) (nf_sel (tw33 hw)) (tw33 hw) (tw32 hw) (tw7 hw) (tw34 hw) E_a1 (lenOf pd_4 rfl) (rm_length_26 hw Ts a1 a2 c1 _ (6 : Int32) cs h0 f Zf Z0 F_value_a1 A_a2 E_a1 F_coder_a1 rfl S_cs hcs) ?_
 rintro _ _ ⟨p1, rfl, ep1, rfl⟩
 have hzp1 : (3 : Int32) = p1 := by rw [← ep1]; decide
 subst hzp1
 refine r_icmpgeF H 18 d_g52_4_15 ?_
 refine r_aloadN H 19 d_g52_4_18 ?_
 refine r_iloadN H 20 d_g52_4_19 ?_
 refine r_virtual (z := mn18) (a := a1) (argsL := [.int 0]) (rest := []) (W := 0) H 23 d_g52_4_20 (tw51 hw) (tw52 hw) (nf_sel (tw54 hw)) (tw54 hw) (tw53 hw) (tw7 hw) (tw55 hw) E_a1 (lenOf pd_16 rfl) (rm_charAt_28 hw Ts a1 (0 : Int32) a2 c1 _ (6 : Int32) (cL8 i1) (cH8 i1) cs sio h0 f Zf Z0 E_a1 F_coder_a1 F_value_a1 A_a2 rfl rfl rfl (by decide) (by decide) (by decide) (by decide) S_cs S_sio hsio S__assertionsDisabled S_HI_BYTE_SHIFT S_LO_BYTE_SHIFT hcs) ?_
 rintro _ _ ⟨p3, rfl, ep3, rp3, rfl⟩
 have hzp3 : i1 = p3 := by rw [← ep3]; exact (own_u16 i1 (by have := r_i1; omega)).symm
 subst hzp3
 refine r_istore H 25 #[vR a1, vI 1, vI 0, vI 0, vI i1] d_g52_4_23 ?_
 refine r_iload H 27 d_g52_4_25 ?_
 refine r_bipush H 29 39 d_g52_4_27 ?_
 refine Run.join (P := fun _ => True) (pcB := 43) (LB := fun _ => #[vR a1, vI 1, vI 0, vI 0, vI i1]) (SB := fun _ => [.int 1]) (fun key => ?_) ?_
 ·
  refine r_icmpne H 38 32 d_g52_4_29 (fun c5 => ?_) (fun c5 => ?_)
  ·
   refine r_iconst H 39 1 d_g52_4_38 ?_
   refine r_goto H 43 d_g52_4_39 ?_
   exact key 0 trivial
  ·
   refine r_iloadN H 33 d_g52_4_32 ?_
   refine r_iconst H 34 2 d_g52_4_33 ?_
   refine r_irem H 35 (0 : Int32) d_g52_4_34 (by decide) ?_
   refine r_ifneF H 38 d_g52_4_35 rfl (by decide) ?_
   refine r_iconst H 39 1 d_g52_4_38 ?_
   refine r_goto H 43 d_g52_4_39 ?_
   exact key 0 trivial
 rintro _ _
 refine r_istoreN H 44 #[vR a1, vI 1, vI 0, vI 0, vI i1] d_g52_4_43 ?_
 refine r_iload H 46 d_g52_4_44 ?_
 refine r_bipush H 48 92 d_g52_4_46 ?_
 refine Run.join (P := fun z => (if i1 = (92 : Int32) then (1 : Int32) else (0 : Int32)) = z ∧ (0 ≤ z.toInt ∧ z.toInt ≤ 1)) (pcB := 58) (LB := fun z => #[vR a1, vI 1, vI 0, vI 0, vI i1]) (SB := fun z => [.int z]) (fun key => ?_) ?_
 ·
  refine r_icmpne H 57 51 d_g52_4_48 (fun c7 => ?_) (fun c7 => ?_)
  ·
   refine r_iconst H 58 0 d_g52_4_57 ?_
   exact key (0 : Int32) ⟨(by rw [if_neg c7]), (by decide)⟩
  ·
   refine r_iloadN H 52 d_g52_4_51 ?_
   refine r_iconst H 53 1 d_g52_4_52 ?_
   refine r_iadd H 54 1 d_g52_4_53 (by decide) ?_
   refine r_goto H 58 d_g52_4_54 ?_
   exact key (1 : Int32) ⟨(by rw [if_pos c7]), (by decide)⟩
 rintro p9 ⟨ep9, rp9⟩
 refine r_istoreN H 59 #[vR a1, vI 1, vI p9, vI 0, vI i1] d_g52_4_58 ?_
 refine r_iinc H 62 #[vR a1, vI 1, vI p9, vI 1, vI i1] 1 d_g52_4_59 ?_
 refine r_goto H 6 d_g52_4_62 ?_
 refine r_iloadN H 7 d_g52_4_6 ?_
 refine r_ifeqF H 10 d_g52_4_7 rfl (by decide) ?_
 refine r_iloadN H 11 d_g52_4_10 ?_
 refine r_aloadN H 12 d_g52_4_11 ?_
 refine r_virtual (z := mn4) (a := a1) (argsL := []) (rest := [.int 1]) (W := 1) H 15 d_g52_4_12 (tw30 hw) (tw31 hw) (nf_sel (tw33 hw)) (tw33 hw) (tw32 hw) (tw7 hw) (tw34 hw) E_a1 (lenOf pd_4 rfl) (rm_length_26 hw Ts a1 a2 c1 _ (6 : Int32) cs h0 f Zf Z0 F_value_a1 A_a2 E_a1 F_coder_a1 rfl S_cs hcs) ?_
 rintro _ _ ⟨p10, rfl, ep10, rfl⟩
 have hzp10 : (3 : Int32) = p10 := by rw [← ep10]; decide
 subst hzp10
 refine r_icmpgeF H 18 d_g52_4_15 ?_
 refine r_aloadN H 19 d_g52_4_18 ?_
 refine r_iloadN H 20 d_g52_4_19 ?_
 refine r_virtual (z := mn18) (a := a1) (argsL := [.int 1]) (rest := []) (W := 0) H 23 d_g52_4_20 (tw51 hw) (tw52 hw) (nf_sel (tw54 hw)) (tw54 hw) (tw53 hw) (tw7 hw) (tw55 hw) E_a1 (lenOf pd_16 rfl) (rm_charAt_28 hw Ts a1 (1 : Int32) a2 c1 _ (6 : Int32) (cL8 i2) (cH8 i2) cs sio h0 f Zf Z0 E_a1 F_coder_a1 F_value_a1 A_a2 rfl rfl rfl (by decide) (by decide) (by decide) (by decide) S_cs S_sio hsio S__assertionsDisabled S_HI_BYTE_SHIFT S_LO_BYTE_SHIFT hcs) ?_
 rintro _ _ ⟨p12, rfl, ep12, rp12, rfl⟩
 have hzp12 : i2 = p12 := by rw [← ep12]; exact (own_u16 i2 (by have := r_i2; omega)).symm
 subst hzp12
 refine r_istore H 25 #[vR a1, vI 1, vI p9, vI 1, vI i2] d_g52_4_23 ?_
 refine r_iload H 27 d_g52_4_25 ?_
 refine r_bipush H 29 39 d_g52_4_27 ?_
 refine Run.join (P := fun z => (if i2 = (39 : Int32) then (if (p9 % (2 : Int32)) = (0 : Int32) then (1 : Int32) else (0 : Int32)) else (1 : Int32)) = z ∧ (0 ≤ z.toInt ∧ z.toInt ≤ 1)) (pcB := 43) (LB := fun z => #[vR a1, vI 1, vI p9, vI 1, vI i2]) (SB := fun z => [.int z]) (fun key => ?_) ?_
 ·
  refine r_icmpne H 38 32 d_g52_4_29 (fun c14 => ?_) (fun c14 => ?_)
  ·
   refine r_iconst H 39 1 d_g52_4_38 ?_
   refine r_goto H 43 d_g52_4_39 ?_
   exact key (1 : Int32) ⟨(by rw [if_neg c14]), (by decide)⟩
  ·
   refine r_iloadN H 33 d_g52_4_32 ?_
   refine r_iconst H 34 2 d_g52_4_33 ?_
   obtain ⟨p16, ep16, rp16⟩ : ∃ p : Int32, (p9 % (2 : Int32)) = p ∧ 0 ≤ p.toInt ∧ p.toInt ≤ 1 := ⟨_, rfl, (by have := rp9; have h := (c_irem p9 (2 : Int32) 2 (by decide)).1 (by omega); omega)⟩
   refine r_irem H 35 p16 d_g52_4_34 ep16 ?_
   refine Run.join (P := fun z => (if p16 = (0 : Int32) then (1 : Int32) else (0 : Int32)) = z ∧ (0 ≤ z.toInt ∧ z.toInt ≤ 1)) (pcB := 43) (LB := fun z => #[vR a1, vI 1, vI p9, vI 1, vI i2]) (SB := fun z => [.int z]) (fun key => ?_) ?_
   ·
    refine r_ifne H 42 38 d_g52_4_35 (fun c17 => ?_) (fun c17 => ?_)
    ·
     refine r_iconst H 43 0 d_g52_4_42 ?_
     exact key (0 : Int32) ⟨(by rw [if_neg c17]), (by decide)⟩
    ·
     refine r_iconst H 39 1 d_g52_4_38 ?_
     refine r_goto H 43 d_g52_4_39 ?_
     exact key (1 : Int32) ⟨(by rw [if_pos c17]), (by decide)⟩
   rintro p20 ⟨ep20, rp20⟩
   exact key p20 ⟨(by subst ep16 ep20; rw [if_pos c14]), (by have := rp20; omega)⟩
 rintro p21 ⟨ep21, rp21⟩
 refine r_istoreN H 44 #[vR a1, vI p21, vI p9, vI 1, vI i2] d_g52_4_43 ?_
 refine r_iload H 46 d_g52_4_44 ?_
 refine r_bipush H 48 92 d_g52_4_46 ?_
 refine Run.join (P := fun z => (if i2 = (92 : Int32) then (p9 + (1 : Int32)) else (0 : Int32)) = z ∧ (0 ≤ z.toInt ∧ z.toInt ≤ 2)) (pcB := 58) (LB := fun z => #[vR a1, vI p21, vI p9, vI 1, vI i2]) (SB := fun z => [.int z]) (fun key => ?_) ?_
 ·
  refine r_icmpne H 57 51 d_g52_4_48 (fun c22 => ?_) (fun c22 => ?_)
  ·
   refine r_iconst H 58 0 d_g52_4_57 ?_
   exact key (0 : Int32) ⟨(by rw [if_neg c22]), (by decide)⟩
  ·
   refine r_iloadN H 52 d_g52_4_51 ?_
   refine r_iconst H 53 1 d_g52_4_52 ?_
   obtain ⟨p24, ep24, rp24⟩ : ∃ p : Int32, (p9 + (1 : Int32)) = p ∧ 1 ≤ p.toInt ∧ p.toInt ≤ 2 := ⟨_, rfl, (by have := rp9; have : (1 : Int32).toInt = 1 := (by decide); have h1 := c_iadd p9 (1 : Int32); have h2 := rng32 (p9 + (1 : Int32)); omega)⟩
   refine r_iadd H 54 p24 d_g52_4_53 ep24 ?_
   refine r_goto H 58 d_g52_4_54 ?_
   exact key p24 ⟨(by subst ep24; rw [if_pos c22]), (by have := rp24; omega)⟩
 rintro p25 ⟨ep25, rp25⟩
 refine r_istoreN H 59 #[vR a1, vI p21, vI p25, vI 1, vI i2] d_g52_4_58 ?_
 refine r_iinc H 62 #[vR a1, vI p21, vI p25, vI 2, vI i2] 2 d_g52_4_59 ?_
 refine r_goto H 6 d_g52_4_62 ?_
 refine r_iloadN H 7 d_g52_4_6 ?_
 refine r_ifeq H 65 10 d_g52_4_7 (fun c26 => ?_) (fun c26 => ?_)
 ·
  have rr27 : 0 ≤ p21.toInt ∧ p21.toInt ≤ 0 := by have := rp21; have : (0 : Int32).toInt = 0 := (by decide); have hc_ := c26; simp only [Int32.lt_iff_toInt_lt, ← Int32.toInt_inj] at hc_; omega
  refine r_iloadN H 66 d_g52_4_65 ?_
  subst ep9 ep21 ep25
  exact r_nreturn (if i2 = (39 : Int32) then (if ((if i1 = (92 : Int32) then (1 : Int32) else (0 : Int32)) % (2 : Int32)) = (0 : Int32) then (1 : Int32) else (0 : Int32)) else (1 : Int32)) H d_g52_4_66 (nar_bool_id (by have := rr27; omega)) (⟨_, rfl, rfl, (by unfold fn_readAlikeByEitherSetting_59; rw [if_pos c26]), (by have := rr27; omega)⟩)
 ·
  refine r_iloadN H 11 d_g52_4_10 ?_
  refine r_aloadN H 12 d_g52_4_11 ?_
  refine r_virtual (z := mn4) (a := a1) (argsL := []) (rest := [.int 2]) (W := 1) H 15 d_g52_4_12 (tw30 hw) (tw31 hw) (nf_sel (tw33 hw)) (tw33 hw) (tw32 hw) (tw7 hw) (tw34 hw) E_a1 (lenOf pd_4 rfl) (rm_length_26 hw Ts a1 a2 c1 _ (6 : Int32) cs h0 f Zf Z0 F_value_a1 A_a2 E_a1 F_coder_a1 rfl S_cs hcs) ?_
  rintro _ _ ⟨p29, rfl, ep29, rfl⟩
  have hzp29 : (3 : Int32) = p29 := by rw [← ep29]; decide
  subst hzp29
  refine r_icmpgeF H 18 d_g52_4_15 ?_
  refine r_aloadN H 19 d_g52_4_18 ?_
  refine r_iloadN H 20 d_g52_4_19 ?_
  refine r_virtual (z := mn18) (a := a1) (argsL := [.int 2]) (rest := []) (W := 0) H 23 d_g52_4_20 (tw51 hw) (tw52 hw) (nf_sel (tw54 hw)) (tw54 hw) (tw53 hw) (tw7 hw) (tw55 hw) E_a1 (lenOf pd_16 rfl) (rm_charAt_28 hw Ts a1 (2 : Int32) a2 c1 _ (6 : Int32) (cL8 i3) (cH8 i3) cs sio h0 f Zf Z0 E_a1 F_coder_a1 F_value_a1 A_a2 rfl rfl rfl (by decide) (by decide) (by decide) (by decide) S_cs S_sio hsio S__assertionsDisabled S_HI_BYTE_SHIFT S_LO_BYTE_SHIFT hcs) ?_
  rintro _ _ ⟨p31, rfl, ep31, rp31, rfl⟩
  have hzp31 : i3 = p31 := by rw [← ep31]; exact (own_u16 i3 (by have := r_i3; omega)).symm
  subst hzp31
  refine r_istore H 25 #[vR a1, vI p21, vI p25, vI 2, vI i3] d_g52_4_23 ?_
  refine r_iload H 27 d_g52_4_25 ?_
  refine r_bipush H 29 39 d_g52_4_27 ?_
  refine Run.join (P := fun z => (if i3 = (39 : Int32) then (if (p25 % (2 : Int32)) = (0 : Int32) then (1 : Int32) else (0 : Int32)) else (1 : Int32)) = z ∧ (0 ≤ z.toInt ∧ z.toInt ≤ 1)) (pcB := 43) (LB := fun z => #[vR a1, vI p21, vI p25, vI 2, vI i3]) (SB := fun z => [.int z]) (fun key => ?_) ?_
  ·
   refine r_icmpne H 38 32 d_g52_4_29 (fun c33 => ?_) (fun c33 => ?_)
   ·
    refine r_iconst H 39 1 d_g52_4_38 ?_
    refine r_goto H 43 d_g52_4_39 ?_
    exact key (1 : Int32) ⟨(by rw [if_neg c33]), (by decide)⟩
   ·
    refine r_iloadN H 33 d_g52_4_32 ?_
    refine r_iconst H 34 2 d_g52_4_33 ?_
    obtain ⟨p35, ep35, rp35⟩ : ∃ p : Int32, (p25 % (2 : Int32)) = p ∧ 0 ≤ p.toInt ∧ p.toInt ≤ 1 := ⟨_, rfl, (by have := rp25; have h := (c_irem p25 (2 : Int32) 2 (by decide)).1 (by omega); omega)⟩
    refine r_irem H 35 p35 d_g52_4_34 ep35 ?_
    refine Run.join (P := fun z => (if p35 = (0 : Int32) then (1 : Int32) else (0 : Int32)) = z ∧ (0 ≤ z.toInt ∧ z.toInt ≤ 1)) (pcB := 43) (LB := fun z => #[vR a1, vI p21, vI p25, vI 2, vI i3]) (SB := fun z => [.int z]) (fun key => ?_) ?_
    ·
     refine r_ifne H 42 38 d_g52_4_35 (fun c36 => ?_) (fun c36 => ?_)
     ·
      refine r_iconst H 43 0 d_g52_4_42 ?_
      exact key (0 : Int32) ⟨(by rw [if_neg c36]), (by decide)⟩
     ·
      refine r_iconst H 39 1 d_g52_4_38 ?_
      refine r_goto H 43 d_g52_4_39 ?_
      exact key (1 : Int32) ⟨(by rw [if_pos c36]), (by decide)⟩
    rintro p39 ⟨ep39, rp39⟩
    exact key p39 ⟨(by subst ep35 ep39; rw [if_pos c33]), (by have := rp39; omega)⟩
  rintro p40 ⟨ep40, rp40⟩
  refine r_istoreN H 44 #[vR a1, vI p40, vI p25, vI 2, vI i3] d_g52_4_43 ?_
  refine r_iload H 46 d_g52_4_44 ?_
  refine r_bipush H 48 92 d_g52_4_46 ?_
  refine Run.join (P := fun z => (if i3 = (92 : Int32) then (p25 + (1 : Int32)) else (0 : Int32)) = z ∧ (0 ≤ z.toInt ∧ z.toInt ≤ 3)) (pcB := 58) (LB := fun z => #[vR a1, vI p40, vI p25, vI 2, vI i3]) (SB := fun z => [.int z]) (fun key => ?_) ?_
  ·
   refine r_icmpne H 57 51 d_g52_4_48 (fun c41 => ?_) (fun c41 => ?_)
   ·
    refine r_iconst H 58 0 d_g52_4_57 ?_
    exact key (0 : Int32) ⟨(by rw [if_neg c41]), (by decide)⟩
   ·
    refine r_iloadN H 52 d_g52_4_51 ?_
    refine r_iconst H 53 1 d_g52_4_52 ?_
    obtain ⟨p43, ep43, rp43⟩ : ∃ p : Int32, (p25 + (1 : Int32)) = p ∧ 1 ≤ p.toInt ∧ p.toInt ≤ 3 := ⟨_, rfl, (by have := rp25; have : (1 : Int32).toInt = 1 := (by decide); have h1 := c_iadd p25 (1 : Int32); have h2 := rng32 (p25 + (1 : Int32)); omega)⟩
    refine r_iadd H 54 p43 d_g52_4_53 ep43 ?_
    refine r_goto H 58 d_g52_4_54 ?_
    exact key p43 ⟨(by subst ep43; rw [if_pos c41]), (by have := rp43; omega)⟩
  rintro p44 ⟨ep44, rp44⟩
  refine r_istoreN H 59 #[vR a1, vI p40, vI p44, vI 2, vI i3] d_g52_4_58 ?_
  refine r_iinc H 62 #[vR a1, vI p40, vI p44, vI 3, vI i3] 3 d_g52_4_59 ?_
  refine r_goto H 6 d_g52_4_62 ?_
  refine r_iloadN H 7 d_g52_4_6 ?_
  refine r_ifeq H 65 10 d_g52_4_7 (fun c45 => ?_) (fun c45 => ?_)
  ·
   have rr46 : 0 ≤ p40.toInt ∧ p40.toInt ≤ 0 := by have := rp40; have : (0 : Int32).toInt = 0 := (by decide); have hc_ := c45; simp only [Int32.lt_iff_toInt_lt, ← Int32.toInt_inj] at hc_; omega
   refine r_iloadN H 66 d_g52_4_65 ?_
   subst ep9 ep21 ep25 ep40 ep44
   exact r_nreturn (if i3 = (39 : Int32) then (if ((if i2 = (92 : Int32) then ((if i1 = (92 : Int32) then (1 : Int32) else (0 : Int32)) + (1 : Int32)) else (0 : Int32)) % (2 : Int32)) = (0 : Int32) then (1 : Int32) else (0 : Int32)) else (1 : Int32)) H d_g52_4_66 (nar_bool_id (by have := rr46; omega)) (⟨_, rfl, rfl, (by unfold fn_readAlikeByEitherSetting_59; rw [if_neg c26, if_pos c45]), (by have := rr46; omega)⟩)
  ·
   have rr47 : 1 ≤ p40.toInt ∧ p40.toInt ≤ 1 := by have := rp40; have : (0 : Int32).toInt = 0 := (by decide); have hc_ := c45; simp only [Int32.lt_iff_toInt_lt, ← Int32.toInt_inj] at hc_; omega
   refine r_iloadN H 11 d_g52_4_10 ?_
   refine r_aloadN H 12 d_g52_4_11 ?_
   refine r_virtual (z := mn4) (a := a1) (argsL := []) (rest := [.int 3]) (W := 1) H 15 d_g52_4_12 (tw30 hw) (tw31 hw) (nf_sel (tw33 hw)) (tw33 hw) (tw32 hw) (tw7 hw) (tw34 hw) E_a1 (lenOf pd_4 rfl) (rm_length_26 hw Ts a1 a2 c1 _ (6 : Int32) cs h0 f Zf Z0 F_value_a1 A_a2 E_a1 F_coder_a1 rfl S_cs hcs) ?_
   rintro _ _ ⟨p48, rfl, ep48, rfl⟩
   have hzp48 : (3 : Int32) = p48 := by rw [← ep48]; decide
   subst hzp48
   refine r_icmpgeT H 65 d_g52_4_15 ?_
   refine r_iloadN H 66 d_g52_4_65 ?_
   subst ep9 ep21 ep25 ep40 ep44
   exact r_nreturn (if i3 = (39 : Int32) then (if ((if i2 = (92 : Int32) then ((if i1 = (92 : Int32) then (1 : Int32) else (0 : Int32)) + (1 : Int32)) else (0 : Int32)) % (2 : Int32)) = (0 : Int32) then (1 : Int32) else (0 : Int32)) else (1 : Int32)) H d_g52_4_66 (nar_bool_id (by have := rr47; omega)) (⟨_, rfl, rfl, (by unfold fn_readAlikeByEitherSetting_59; rw [if_neg c26, if_neg c45]), (by have := rr47; omega)⟩)
def Q_compress_63 (Z : State) (a2 : Addr) (i1 : Int32) (i2 : Int32) (i3 : Int32) (i4 : Int32) (c2 : ClassId) (h0 : Heap) (v : Option Value) (h : Heap) : Prop := (v = some (.int 4) ∧ (¬ (255 : Int32) < i1) ∧ (¬ (255 : Int32) < i2) ∧ (¬ (255 : Int32) < i3) ∧ (¬ (255 : Int32) < i4) ∧ Keep h0 h [a2] ∧ Ar Z h a2 c2 .byte [.int (cB8 i1), .int (cB8 i2), .int (cB8 i3), .int (cB8 i4)] ∧ Exa Z h a2 "[B") ∨ (v = some (.int 3) ∧ (¬ (255 : Int32) < i1) ∧ (¬ (255 : Int32) < i2) ∧ (¬ (255 : Int32) < i3) ∧ ((255 : Int32) < i4) ∧ Keep h0 h [a2] ∧ Ar Z h a2 c2 .byte [.int (cB8 i1), .int (cB8 i2), .int (cB8 i3), .int 0] ∧ Exa Z h a2 "[B") ∨ (v = some (.int 2) ∧ (¬ (255 : Int32) < i1) ∧ (¬ (255 : Int32) < i2) ∧ ((255 : Int32) < i3) ∧ Keep h0 h [a2] ∧ Ar Z h a2 c2 .byte [.int (cB8 i1), .int (cB8 i2), .int 0, .int 0] ∧ Exa Z h a2 "[B") ∨ (v = some (.int 1) ∧ (¬ (255 : Int32) < i1) ∧ ((255 : Int32) < i2) ∧ Keep h0 h [a2] ∧ Ar Z h a2 c2 .byte [.int (cB8 i1), .int 0, .int 0, .int 0] ∧ Exa Z h a2 "[B") ∨ (v = some (.int 0) ∧ ((255 : Int32) < i1) ∧ h0 = h)
def R_compress_63 : Room := { frames := 0, cells := 0, slots := 0, locals := 0 }
theorem rm_compress_63 {w : Bool} {Z : State} {a0 : Array Value} (hw : HW a0 Z) (Ts : List String) (a1 : Addr) (a2 : Addr) (i1 : Int32) (i2 : Int32) (i3 : Int32) (i4 : Int32) (c1 : ClassId) (c2 : ClassId) (h0 : Heap) (f : Nat) (Zf : Z.heap.size ≤ f) (Z0 : f ≤ h0.size) (A_a1 : Ar Z h0 a1 c1 .char [.int i1, .int i2, .int i3, .int i4]) (A_a2 : Ar Z h0 a2 c2 .byte [.int 0, .int 0, .int 0, .int 0]) (g_a2 : f ≤ a2) (E_a2 : Exa Z h0 a2 "[B") (E_a1 : Exa Z h0 a1 "[C") (r_i1 : 0 ≤ i1.toInt ∧ i1.toInt ≤ 65535) (r_i2 : 0 ≤ i2.toInt ∧ i2.toInt ≤ 65535) (r_i3 : 0 ≤ i3.toInt ∧ i3.toInt ≤ 65535) (r_i4 : 0 ≤ i4.toInt ∧ i4.toInt ≤ 65535) :
  Con w [] Z mn6 jdk_52_method_21_code 7 (some .int) R_compress_63 Ts Ts f #[.ref a1, .int 0, .ref a2, .int 0, .int 4] h0 (Q_compress_63 Z a2 i1 i2 i3 i4 c2 h0) := by
 refine con_of f #[vR a1, vI 0, vR a2, vI 0, vI 4, .unset, .unset] (plainFor_of_name pn_3) (fun m => rfl) Zf ?_
 intro C H hX0
 refine r_iconst H 1 0 d_j52_21_0 ?_
 refine r_istore H 3 #[vR a1, vI 0, vR a2, vI 0, vI 4, vI 0, .unset] d_j52_21_1 ?_
 refine r_iload H 5 d_j52_21_3 ?_
 refine r_iload H 7 d_j52_21_5 ?_
 refine r_icmpgeF H 10 d_j52_21_7 ?_
 refine r_aloadN H 11 d_j52_21_10 ?_
 refine r_iloadN H 12 d_j52_21_11 ?_
 refine r_caload H 13 i1 d_j52_21_12 A_a1 ?_
 refine r_istore H 15 #[vR a1, vI 0, vR a2, vI 0, vI 4, vI 0, vI i1] d_j52_21_13 ?_
 refine r_iload H 17 d_j52_21_15 ?_
 refine r_sipush H 20 255 d_j52_21_17 ?_
 refine r_icmple H 26 23 d_j52_21_20 (fun c1 => ?_) (fun c1 => ?_)
 ·
  refine r_aloadN H 27 d_j52_21_26 ?_
  refine r_iloadN H 28 d_j52_21_27 ?_
  refine r_iload H 30 d_j52_21_28 ?_
  obtain ⟨p3, ep3, rp3⟩ : ∃ p : Int32, (i1.toInt8.toInt32) = p ∧ -128 ≤ p.toInt ∧ p.toInt ≤ 127 := ⟨_, rfl, (by have h := c_i2b i1; omega)⟩
  refine r_i2b H 31 p3 d_j52_21_30 ep3 ?_
  refine r_bastore H 32 p3 d_j52_21_31 A_a2 g_a2 (nar_byte_id (by have := rp3; omega)) ?_
  intro h4 K4 A4
  change Ar Z h4 a2 c2 .byte [.int p3, .int 0, .int 0, .int 0] at A4
  refine r_iinc H 35 #[vR a1, vI 1, vR a2, vI 0, vI 4, vI 0, vI i1] 1 d_j52_21_32 ?_
  refine r_iinc H 38 #[vR a1, vI 1, vR a2, vI 1, vI 4, vI 0, vI i1] 1 d_j52_21_35 ?_
  refine r_iinc H 41 #[vR a1, vI 1, vR a2, vI 1, vI 4, vI 1, vI i1] 1 d_j52_21_38 ?_
  refine r_goto H 3 d_j52_21_41 ?_
  refine r_iload H 5 d_j52_21_3 ?_
  refine r_iload H 7 d_j52_21_5 ?_
  refine r_icmpgeF H 10 d_j52_21_7 ?_
  refine r_aloadN H 11 d_j52_21_10 ?_
  refine r_iloadN H 12 d_j52_21_11 ?_
  have q5 := (E_a1.keep K4)
  have q6 := (E_a2.keep K4)
  have q7 := (A_a1.keep K4 (ninS (ne_exa q5 q6 (by decide)) nin0))
  refine r_caload H 13 i2 d_j52_21_12 q7 ?_
  refine r_istore H 15 #[vR a1, vI 1, vR a2, vI 1, vI 4, vI 1, vI i2] d_j52_21_13 ?_
  refine r_iload H 17 d_j52_21_15 ?_
  refine r_sipush H 20 255 d_j52_21_17 ?_
  refine r_icmple H 26 23 d_j52_21_20 (fun c8 => ?_) (fun c8 => ?_)
  ·
   refine r_aloadN H 27 d_j52_21_26 ?_
   refine r_iloadN H 28 d_j52_21_27 ?_
   refine r_iload H 30 d_j52_21_28 ?_
   obtain ⟨p10, ep10, rp10⟩ : ∃ p : Int32, (i2.toInt8.toInt32) = p ∧ -128 ≤ p.toInt ∧ p.toInt ≤ 127 := ⟨_, rfl, (by have h := c_i2b i2; omega)⟩
   refine r_i2b H 31 p10 d_j52_21_30 ep10 ?_
   refine r_bastore H 32 p10 d_j52_21_31 A4 g_a2 (nar_byte_id (by have := rp10; omega)) ?_
   intro h11 K11 A11
   change Ar Z h11 a2 c2 .byte [.int p3, .int p10, .int 0, .int 0] at A11
   refine r_iinc H 35 #[vR a1, vI 2, vR a2, vI 1, vI 4, vI 1, vI i2] 2 d_j52_21_32 ?_
   refine r_iinc H 38 #[vR a1, vI 2, vR a2, vI 2, vI 4, vI 1, vI i2] 2 d_j52_21_35 ?_
   refine r_iinc H 41 #[vR a1, vI 2, vR a2, vI 2, vI 4, vI 2, vI i2] 2 d_j52_21_38 ?_
   refine r_goto H 3 d_j52_21_41 ?_
   refine r_iload H 5 d_j52_21_3 ?_
   refine r_iload H 7 d_j52_21_5 ?_
   refine r_icmpgeF H 10 d_j52_21_7 ?_
   refine r_aloadN H 11 d_j52_21_10 ?_
   refine r_iloadN H 12 d_j52_21_11 ?_
   have q12 := (q5.keep K11)
   have q13 := (q6.keep K11)
   have q14 := (q7.keep K11 (ninS (ne_exa q12 q13 (by decide)) nin0))
   refine r_caload H 13 i3 d_j52_21_12 q14 ?_
   refine r_istore H 15 #[vR a1, vI 2, vR a2, vI 2, vI 4, vI 2, vI i3] d_j52_21_13 ?_
   refine r_iload H 17 d_j52_21_15 ?_
   refine r_sipush H 20 255 d_j52_21_17 ?_
   refine r_icmple H 26 23 d_j52_21_20 (fun c15 => ?_) (fun c15 => ?_)
   ·
    refine r_aloadN H 27 d_j52_21_26 ?_
    refine r_iloadN H 28 d_j52_21_27 ?_
    refine r_iload H 30 d_j52_21_28 ?_
    obtain ⟨p17, ep17, rp17⟩ : ∃ p : Int32, (i3.toInt8.toInt32) = p ∧ -128 ≤ p.toInt ∧ p.toInt ≤ 127 := ⟨_, rfl, (by have h := c_i2b i3; omega)⟩
    refine r_i2b H 31 p17 d_j52_21_30 ep17 ?_
    refine r_bastore H 32 p17 d_j52_21_31 A11 g_a2 (nar_byte_id (by have := rp17; omega)) ?_
    intro h18 K18 A18
    change Ar Z h18 a2 c2 .byte [.int p3, .int p10, .int p17, .int 0] at A18
    refine r_iinc H 35 #[vR a1, vI 3, vR a2, vI 2, vI 4, vI 2, vI i3] 3 d_j52_21_32 ?_
    refine r_iinc H 38 #[vR a1, vI 3, vR a2, vI 3, vI 4, vI 2, vI i3] 3 d_j52_21_35 ?_
    refine r_iinc H 41 #[vR a1, vI 3, vR a2, vI 3, vI 4, vI 3, vI i3] 3 d_j52_21_38 ?_
    refine r_goto H 3 d_j52_21_41 ?_
    refine r_iload H 5 d_j52_21_3 ?_
    refine r_iload H 7 d_j52_21_5 ?_
    refine r_icmpgeF H 10 d_j52_21_7 ?_
    refine r_aloadN H 11 d_j52_21_10 ?_
    refine r_iloadN H 12 d_j52_21_11 ?_
    have q19 := (q12.keep K18)
    have q20 := (q13.keep K18)
    have q21 := (q14.keep K18 (ninS (ne_exa q19 q20 (by decide)) nin0))
    refine r_caload H 13 i4 d_j52_21_12 q21 ?_
    refine r_istore H 15 #[vR a1, vI 3, vR a2, vI 3, vI 4, vI 3, vI i4] d_j52_21_13 ?_
    refine r_iload H 17 d_j52_21_15 ?_
    refine r_sipush H 20 255 d_j52_21_17 ?_
    refine r_icmple H 26 23 d_j52_21_20 (fun c22 => ?_) (fun c22 => ?_)
    ·
     refine r_aloadN H 27 d_j52_21_26 ?_
     refine r_iloadN H 28 d_j52_21_27 ?_
     refine r_iload H 30 d_j52_21_28 ?_
     obtain ⟨p24, ep24, rp24⟩ : ∃ p : Int32, (i4.toInt8.toInt32) = p ∧ -128 ≤ p.toInt ∧ p.toInt ≤ 127 := ⟨_, rfl, (by have h := c_i2b i4; omega)⟩
     refine r_i2b H 31 p24 d_j52_21_30 ep24 ?_
     refine r_bastore H 32 p24 d_j52_21_31 A18 g_a2 (nar_byte_id (by have := rp24; omega)) ?_
     intro h25 K25 A25
     change Ar Z h25 a2 c2 .byte [.int p3, .int p10, .int p17, .int p24] at A25
     refine r_iinc H 35 #[vR a1, vI 4, vR a2, vI 3, vI 4, vI 3, vI i4] 4 d_j52_21_32 ?_
     refine r_iinc H 38 #[vR a1, vI 4, vR a2, vI 4, vI 4, vI 3, vI i4] 4 d_j52_21_35 ?_
     refine r_iinc H 41 #[vR a1, vI 4, vR a2, vI 4, vI 4, vI 4, vI i4] 4 d_j52_21_38 ?_
     refine r_goto H 3 d_j52_21_41 ?_
     refine r_iload H 5 d_j52_21_3 ?_
     refine r_iload H 7 d_j52_21_5 ?_
     refine r_icmpgeT H 44 d_j52_21_7 ?_
     refine r_iload H 46 d_j52_21_44 ?_
     have k26 : Keep h0 h4 [a2] := Keep.trans (Keep.refl h0 [a2]) K4 (allS (Or.inl (List.mem_of_getElem? (i := 0) rfl)) all0)
     have k27 : Keep h0 h11 [a2] := Keep.trans k26 K11 (allS (Or.inl (List.mem_of_getElem? (i := 0) rfl)) all0)
     have k28 : Keep h0 h18 [a2] := Keep.trans k27 K18 (allS (Or.inl (List.mem_of_getElem? (i := 0) rfl)) all0)
     have k29 : Keep h0 h25 [a2] := Keep.trans k28 K25 (allS (Or.inl (List.mem_of_getElem? (i := 0) rfl)) all0)
     have q30 := (q20.keep K25)
     subst ep3 ep10 ep17 ep24
     exact r_ireturn H d_j52_21_46 (Or.inl ⟨rfl, c1, c8, c15, c22, k29, A25, q30⟩)
    ·
     refine r_iload H 25 d_j52_21_23 ?_
     have k32 : Keep h0 h4 [a2] := Keep.trans (Keep.refl h0 [a2]) K4 (allS (Or.inl (List.mem_of_getElem? (i := 0) rfl)) all0)
     have k33 : Keep h0 h11 [a2] := Keep.trans k32 K11 (allS (Or.inl (List.mem_of_getElem? (i := 0) rfl)) all0)
     have k34 : Keep h0 h18 [a2] := Keep.trans k33 K18 (allS (Or.inl (List.mem_of_getElem? (i := 0) rfl)) all0)
     subst ep3 ep10 ep17
     exact r_ireturn H d_j52_21_25 (Or.inr (Or.inl ⟨rfl, c1, c8, c15, c22, k34, A18, q20⟩))
   ·
    refine r_iload H 25 d_j52_21_23 ?_
    have k36 : Keep h0 h4 [a2] := Keep.trans (Keep.refl h0 [a2]) K4 (allS (Or.inl (List.mem_of_getElem? (i := 0) rfl)) all0)
    have k37 : Keep h0 h11 [a2] := Keep.trans k36 K11 (allS (Or.inl (List.mem_of_getElem? (i := 0) rfl)) all0)
    subst ep3 ep10
    exact r_ireturn H d_j52_21_25 (Or.inr (Or.inr (Or.inl ⟨rfl, c1, c8, c15, k37, A11, q13⟩)))
  ·
   refine r_iload H 25 d_j52_21_23 ?_
   have k39 : Keep h0 h4 [a2] := Keep.trans (Keep.refl h0 [a2]) K4 (allS (Or.inl (List.mem_of_getElem? (i := 0) rfl)) all0)
   subst ep3
   exact r_ireturn H d_j52_21_25 (Or.inr (Or.inr (Or.inr (Or.inl ⟨rfl, c1, c8, k39, A4, q6⟩))))
 ·
  refine r_iload H 25 d_j52_21_23 ?_
  exact r_ireturn H d_j52_21_25 (Or.inr (Or.inr (Or.inr (Or.inr (⟨rfl, c1, rfl⟩)))))
def Q_newBytesLength_66 (Z : State) (h0 : Heap) (v : Option Value) (h : Heap) : Prop := v = some (.int 8) ∧ h0 = h
def R_newBytesLength_66 : Room := { frames := 0, cells := 0, slots := 0, locals := 0 }
theorem rm_newBytesLength_66 {w : Bool} {Z : State} {a0 : Array Value} (hw : HW a0 Z) (Ts : List String) (h0 : Heap) (f : Nat) (Zf : Z.heap.size ≤ f) (Z0 : f ≤ h0.size) :
  Con w [] Z mn7 jdk_52_method_3_code 1 (some .int) R_newBytesLength_66 Ts Ts f #[.int 4] h0 (Q_newBytesLength_66 Z h0) := by
 refine con_of f #[vI 4] (plainFor_of_name pn_3) (fun m => rfl) Zf ?_
 intro C H hX0
 refine r_iloadN H 1 d_j52_3_0 ?_
 refine r_ifgeT H 12 d_j52_3_1 ?_
 refine r_iloadN H 13 d_j52_3_12 ?_
 refine r_ldcI H 15 d_j52_3_13 (tw83 hw) ?_
 refine r_icmpltT H 55 d_j52_3_15 ?_
 refine r_iloadN H 56 d_j52_3_55 ?_
 refine r_iconst H 57 1 d_j52_3_56 ?_
 refine r_ishl H 58 8 d_j52_3_57 ?_
 exact r_ireturn H d_j52_3_58 (⟨rfl, rfl⟩)
def Q_newBytesFor_65 (Z : State) (h0 : Heap) (v : Option Value) (h : Heap) : Prop := ∃ (b2 : Addr) (kc2 : ClassId), v = some (.ref b2) ∧ Keep h0 h [] ∧ h0.size ≤ b2 ∧ Ar Z h b2 kc2 .byte [.int 0, .int 0, .int 0, .int 0, .int 0, .int 0, .int 0, .int 0] ∧ Exa Z h b2 "[B"
def R_newBytesFor_65 : Room := { frames := 1, cells := 1, slots := 8, locals := 12 }
theorem rm_newBytesFor_65 {w : Bool} {Z : State} {a0 : Array Value} (hw : HW a0 Z) (Ts : List String) (h0 : Heap) (f : Nat) (Zf : Z.heap.size ≤ f) (Z0 : f ≤ h0.size) :
  Con w [] Z mn8 jdk_52_method_2_code 1 (some (.array .byte)) R_newBytesFor_65 Ts Ts f #[.int 4] h0 (Q_newBytesFor_65 Z h0) := by
 refine con_of f #[vI 4] (plainFor_of_name pn_3) (fun m => rfl) Zf ?_
 intro C H hX0
 refine r_iloadN H 1 d_j52_2_0 ?_
 refine r_static (argsL := [.int 4]) (rest := []) (W := 0) H 4 d_j52_2_1 (tw80 hw) (tw81 hw) (tw43 hw) (tw82 hw) (lenOf pd_7 rfl) (rm_newBytesLength_66 hw Ts h0 f Zf Z0) ?_
 rintro _ _ ⟨rfl, rfl⟩
 refine r_newP H 6 "[B" 8 d_j52_2_4 (tw19 hw) ?_
 intro h2 b2 kc2 g2 l2 K2 E2 A2
 change Ar Z h2 b2 kc2 .byte [.int 0, .int 0, .int 0, .int 0, .int 0, .int 0, .int 0, .int 0] at A2
 have k3 : Keep h0 h2 [] := Keep.trans (Keep.refl h0 []) K2 all0
 exact r_areturn H d_j52_2_6 (⟨b2, kc2, rfl, k3, (nlt nlr (Nat.le_of_eq g2.symm)), A2, E2⟩)
def Q_putChar_67 (Z : State) (a1 : Addr) (i1 : Int32) (i4 : Int32) (i5 : Int32) (i6 : Int32) (i7 : Int32) (i8 : Int32) (i9 : Int32) (c1 : ClassId) (h0 : Heap) (v : Option Value) (h : Heap) : Prop := v = none ∧ Keep h0 h [a1] ∧ Ar Z h a1 c1 .byte [.int (cL8 i1), .int (cH8 i1), .int i4, .int i5, .int i6, .int i7, .int i8, .int i9] ∧ Exa Z h a1 "[B"
def R_putChar_67 : Room := { frames := 0, cells := 0, slots := 0, locals := 0 }
theorem rm_putChar_67 {w : Bool} {Z : State} {a0 : Array Value} (hw : HW a0 Z) (Ts : List String) (a1 : Addr) (i1 : Int32) (i2 : Int32) (i3 : Int32) (i4 : Int32) (i5 : Int32) (i6 : Int32) (i7 : Int32) (i8 : Int32) (i9 : Int32) (c1 : ClassId) (h0 : Heap) (f : Nat) (Zf : Z.heap.size ≤ f) (Z0 : f ≤ h0.size) (A_a1 : Ar Z h0 a1 c1 .byte [.int i2, .int i3, .int i4, .int i5, .int i6, .int i7, .int i8, .int i9]) (g_a1 : f ≤ a1) (E_a1 : Exa Z h0 a1 "[B") (r_i1 : 0 ≤ i1.toInt ∧ i1.toInt ≤ 65535) (S__assertionsDisabled : G_S__assertionsDisabled Z) (S_HI_BYTE_SHIFT : G_S_HI_BYTE_SHIFT Z) (S_LO_BYTE_SHIFT : G_S_LO_BYTE_SHIFT Z) :
  Con w [] Z mn9 jdk_52_method_4_code 3 none R_putChar_67 Ts Ts f #[.ref a1, .int 0, .int i1] h0 (Q_putChar_67 Z a1 i1 i4 i5 i6 i7 i8 i9 c1 h0) := by
 refine con_of f #[vR a1, vI 0, vI i1] (plainFor_of_name pn_3) (fun m => rfl) Zf ?_
 intro C H hX0
 refine r_gets H 3 d_j52_4_0 (tw87 hw) S__assertionsDisabled ?_
 refine r_ifneT H 28 d_j52_4_3 (by decide) (by decide) (by decide) ?_
 refine r_iloadN H 29 d_j52_4_28 ?_
 refine r_iconst H 30 1 d_j52_4_29 ?_
 refine r_ishl H 31 0 d_j52_4_30 ?_
 refine r_istoreN H 32 #[vR a1, vI 0, vI i1] d_j52_4_31 ?_
 refine r_aloadN H 33 d_j52_4_32 ?_
 refine r_iloadN H 34 d_j52_4_33 ?_
 refine r_iinc H 37 #[vR a1, vI 1, vI i1] 1 d_j52_4_34 ?_
 refine r_iloadN H 38 d_j52_4_37 ?_
 refine r_gets H 41 d_j52_4_38 (tw88 hw) S_HI_BYTE_SHIFT ?_
 obtain ⟨p1, ep1, rp1⟩ : ∃ p : Int32, (i1 >>> ((0 : Int32) &&& 31)) = p ∧ 0 ≤ p.toInt ∧ p.toInt ≤ 65535 := ⟨_, rfl, (by have := r_i1; have h1 := c_ishr i1 (0 : Int32) 0 (by decide); omega)⟩
 refine r_ishr H 42 p1 d_j52_4_41 ep1 ?_
 obtain ⟨p2, ep2, rp2⟩ : ∃ p : Int32, (p1.toInt8.toInt32) = p ∧ -128 ≤ p.toInt ∧ p.toInt ≤ 127 := ⟨_, rfl, (by have h := c_i2b p1; omega)⟩
 refine r_i2b H 43 p2 d_j52_4_42 ep2 ?_
 refine r_bastore H 44 p2 d_j52_4_43 A_a1 g_a1 (nar_byte_id (by have := rp2; omega)) ?_
 intro h3 K3 A3
 change Ar Z h3 a1 c1 .byte [.int p2, .int i3, .int i4, .int i5, .int i6, .int i7, .int i8, .int i9] at A3
 refine r_aloadN H 45 d_j52_4_44 ?_
 refine r_iloadN H 46 d_j52_4_45 ?_
 refine r_iloadN H 47 d_j52_4_46 ?_
 refine r_gets H 50 d_j52_4_47 (tw89 hw) S_LO_BYTE_SHIFT ?_
 obtain ⟨p4, ep4, rp4⟩ : ∃ p : Int32, (i1 >>> ((8 : Int32) &&& 31)) = p ∧ 0 ≤ p.toInt ∧ p.toInt ≤ 255 := ⟨_, rfl, (by have := r_i1; have h1 := c_ishr i1 (8 : Int32) 8 (by decide); omega)⟩
 refine r_ishr H 51 p4 d_j52_4_50 ep4 ?_
 obtain ⟨p5, ep5, rp5⟩ : ∃ p : Int32, (p4.toInt8.toInt32) = p ∧ -128 ≤ p.toInt ∧ p.toInt ≤ 127 := ⟨_, rfl, (by have h := c_i2b p4; omega)⟩
 refine r_i2b H 52 p5 d_j52_4_51 ep5 ?_
 refine r_bastore H 53 p5 d_j52_4_52 A3 g_a1 (nar_byte_id (by have := rp5; omega)) ?_
 intro h6 K6 A6
 have q7 := (E_a1.keep K3)
 change Ar Z h6 a1 c1 .byte [.int p2, .int p5, .int i4, .int i5, .int i6, .int i7, .int i8, .int i9] at A6
 have k8 : Keep h0 h3 [a1] := Keep.trans (Keep.refl h0 [a1]) K3 (allS (Or.inl (List.mem_of_getElem? (i := 0) rfl)) all0)
 have k9 : Keep h0 h6 [a1] := Keep.trans k8 K6 (allS (Or.inl (List.mem_of_getElem? (i := 0) rfl)) all0)
 have q10 := (q7.keep K6)
 subst ep1 ep2 ep4 ep5
 exact r_return H d_j52_4_53 (⟨rfl, k9, A6, q10⟩)
def Q_putChar_68 (Z : State) (a1 : Addr) (i1 : Int32) (i2 : Int32) (i3 : Int32) (i6 : Int32) (i7 : Int32) (i8 : Int32) (i9 : Int32) (c1 : ClassId) (h0 : Heap) (v : Option Value) (h : Heap) : Prop := v = none ∧ Keep h0 h [a1] ∧ Ar Z h a1 c1 .byte [.int i2, .int i3, .int (cL8 i1), .int (cH8 i1), .int i6, .int i7, .int i8, .int i9] ∧ Exa Z h a1 "[B"
def R_putChar_68 : Room := { frames := 0, cells := 0, slots := 0, locals := 0 }
theorem rm_putChar_68 {w : Bool} {Z : State} {a0 : Array Value} (hw : HW a0 Z) (Ts : List String) (a1 : Addr) (i1 : Int32) (i2 : Int32) (i3 : Int32) (i4 : Int32) (i5 : Int32) (i6 : Int32) (i7 : Int32) (i8 : Int32) (i9 : Int32) (c1 : ClassId) (h0 : Heap) (f : Nat) (Zf : Z.heap.size ≤ f) (Z0 : f ≤ h0.size) (A_a1 : Ar Z h0 a1 c1 .byte [.int i2, .int i3, .int i4, .int i5, .int i6, .int i7, .int i8, .int i9]) (g_a1 : f ≤ a1) (E_a1 : Exa Z h0 a1 "[B") (r_i1 : 0 ≤ i1.toInt ∧ i1.toInt ≤ 65535) (S__assertionsDisabled : G_S__assertionsDisabled Z) (S_HI_BYTE_SHIFT : G_S_HI_BYTE_SHIFT Z) (S_LO_BYTE_SHIFT : G_S_LO_BYTE_SHIFT Z) :
  Con w [] Z mn9 jdk_52_method_4_code 3 none R_putChar_68 Ts Ts f #[.ref a1, .int 1, .int i1] h0 (Q_putChar_68 Z a1 i1 i2 i3 i6 i7 i8 i9 c1 h0) := by
 refine con_of f #[vR a1, vI 1, vI i1] (plainFor_of_name pn_3) (fun m => rfl) Zf ?_
 intro C H hX0
 refine r_gets H 3 d_j52_4_0 (tw87 hw) S__assertionsDisabled ?_
 refine r_ifneT H 28 d_j52_4_3 (by decide) (by decide) (by decide) ?_
 refine r_iloadN H 29 d_j52_4_28 ?_
 refine r_iconst H 30 1 d_j52_4_29 ?_
 refine r_ishl H 31 2 d_j52_4_30 ?_
 refine r_istoreN H 32 #[vR a1, vI 2, vI i1] d_j52_4_31 ?_
 refine r_aloadN H 33 d_j52_4_32 ?_
 refine r_iloadN H 34 d_j52_4_33 ?_
 refine r_iinc H 37 #[vR a1, vI 3, vI i1] 3 d_j52_4_34 ?_
 refine r_iloadN H 38 d_j52_4_37 ?_
 refine r_gets H 41 d_j52_4_38 (tw88 hw) S_HI_BYTE_SHIFT ?_
 obtain ⟨p1, ep1, rp1⟩ : ∃ p : Int32, (i1 >>> ((0 : Int32) &&& 31)) = p ∧ 0 ≤ p.toInt ∧ p.toInt ≤ 65535 := ⟨_, rfl, (by have := r_i1; have h1 := c_ishr i1 (0 : Int32) 0 (by decide); omega)⟩
 refine r_ishr H 42 p1 d_j52_4_41 ep1 ?_
 obtain ⟨p2, ep2, rp2⟩ : ∃ p : Int32, (p1.toInt8.toInt32) = p ∧ -128 ≤ p.toInt ∧ p.toInt ≤ 127 := ⟨_, rfl, (by have h := c_i2b p1; omega)⟩
 refine r_i2b H 43 p2 d_j52_4_42 ep2 ?_
 refine r_bastore H 44 p2 d_j52_4_43 A_a1 g_a1 (nar_byte_id (by have := rp2; omega)) ?_
 intro h3 K3 A3
 change Ar Z h3 a1 c1 .byte [.int i2, .int i3, .int p2, .int i5, .int i6, .int i7, .int i8, .int i9] at A3
 refine r_aloadN H 45 d_j52_4_44 ?_
 refine r_iloadN H 46 d_j52_4_45 ?_
 refine r_iloadN H 47 d_j52_4_46 ?_
 refine r_gets H 50 d_j52_4_47 (tw89 hw) S_LO_BYTE_SHIFT ?_
 obtain ⟨p4, ep4, rp4⟩ : ∃ p : Int32, (i1 >>> ((8 : Int32) &&& 31)) = p ∧ 0 ≤ p.toInt ∧ p.toInt ≤ 255 := ⟨_, rfl, (by have := r_i1; have h1 := c_ishr i1 (8 : Int32) 8 (by decide); omega)⟩
 refine r_ishr H 51 p4 d_j52_4_50 ep4 ?_
 obtain ⟨p5, ep5, rp5⟩ : ∃ p : Int32, (p4.toInt8.toInt32) = p ∧ -128 ≤ p.toInt ∧ p.toInt ≤ 127 := ⟨_, rfl, (by have h := c_i2b p4; omega)⟩
 refine r_i2b H 52 p5 d_j52_4_51 ep5 ?_
 refine r_bastore H 53 p5 d_j52_4_52 A3 g_a1 (nar_byte_id (by have := rp5; omega)) ?_
 intro h6 K6 A6
 have q7 := (E_a1.keep K3)
 change Ar Z h6 a1 c1 .byte [.int i2, .int i3, .int p2, .int p5, .int i6, .int i7, .int i8, .int i9] at A6
 have k8 : Keep h0 h3 [a1] := Keep.trans (Keep.refl h0 [a1]) K3 (allS (Or.inl (List.mem_of_getElem? (i := 0) rfl)) all0)
 have k9 : Keep h0 h6 [a1] := Keep.trans k8 K6 (allS (Or.inl (List.mem_of_getElem? (i := 0) rfl)) all0)
 have q10 := (q7.keep K6)
 subst ep1 ep2 ep4 ep5
 exact r_return H d_j52_4_53 (⟨rfl, k9, A6, q10⟩)
def Q_putChar_69 (Z : State) (a1 : Addr) (i1 : Int32) (i2 : Int32) (i3 : Int32) (i4 : Int32) (i5 : Int32) (i8 : Int32) (i9 : Int32) (c1 : ClassId) (h0 : Heap) (v : Option Value) (h : Heap) : Prop := v = none ∧ Keep h0 h [a1] ∧ Ar Z h a1 c1 .byte [.int i2, .int i3, .int i4, .int i5, .int (cL8 i1), .int (cH8 i1), .int i8, .int i9] ∧ Exa Z h a1 "[B"
def R_putChar_69 : Room := { frames := 0, cells := 0, slots := 0, locals := 0 }
theorem rm_putChar_69 {w : Bool} {Z : State} {a0 : Array Value} (hw : HW a0 Z) (Ts : List String) (a1 : Addr) (i1 : Int32) (i2 : Int32) (i3 : Int32) (i4 : Int32) (i5 : Int32) (i6 : Int32) (i7 : Int32) (i8 : Int32) (i9 : Int32) (c1 : ClassId) (h0 : Heap) (f : Nat) (Zf : Z.heap.size ≤ f) (Z0 : f ≤ h0.size) (A_a1 : Ar Z h0 a1 c1 .byte [.int i2, .int i3, .int i4, .int i5, .int i6, .int i7, .int i8, .int i9]) (g_a1 : f ≤ a1) (E_a1 : Exa Z h0 a1 "[B") (r_i1 : 0 ≤ i1.toInt ∧ i1.toInt ≤ 65535) (S__assertionsDisabled : G_S__assertionsDisabled Z) (S_HI_BYTE_SHIFT : G_S_HI_BYTE_SHIFT Z) (S_LO_BYTE_SHIFT : G_S_LO_BYTE_SHIFT Z) :
  Con w [] Z mn9 jdk_52_method_4_code 3 none R_putChar_69 Ts Ts f #[.ref a1, .int 2, .int i1] h0 (Q_putChar_69 Z a1 i1 i2 i3 i4 i5 i8 i9 c1 h0) := by
 refine con_of f #[vR a1, vI 2, vI i1] (plainFor_of_name pn_3) (fun m => rfl) Zf ?_
 intro C H hX0
 refine r_gets H 3 d_j52_4_0 (tw87 hw) S__assertionsDisabled ?_
 refine r_ifneT H 28 d_j52_4_3 (by decide) (by decide) (by decide) ?_
 refine r_iloadN H 29 d_j52_4_28 ?_
 refine r_iconst H 30 1 d_j52_4_29 ?_
 refine r_ishl H 31 4 d_j52_4_30 ?_
 refine r_istoreN H 32 #[vR a1, vI 4, vI i1] d_j52_4_31 ?_
 refine r_aloadN H 33 d_j52_4_32 ?_
 refine r_iloadN H 34 d_j52_4_33 ?_
 refine r_iinc H 37 #[vR a1, vI 5, vI i1] 5 d_j52_4_34 ?_
 refine r_iloadN H 38 d_j52_4_37 ?_
 refine r_gets H 41 d_j52_4_38 (tw88 hw) S_HI_BYTE_SHIFT ?_
 obtain ⟨p1, ep1, rp1⟩ : ∃ p : Int32, (i1 >>> ((0 : Int32) &&& 31)) = p ∧ 0 ≤ p.toInt ∧ p.toInt ≤ 65535 := ⟨_, rfl, (by have := r_i1; have h1 := c_ishr i1 (0 : Int32) 0 (by decide); omega)⟩
 refine r_ishr H 42 p1 d_j52_4_41 ep1 ?_
 obtain ⟨p2, ep2, rp2⟩ : ∃ p : Int32, (p1.toInt8.toInt32) = p ∧ -128 ≤ p.toInt ∧ p.toInt ≤ 127 := ⟨_, rfl, (by have h := c_i2b p1; omega)⟩
 refine r_i2b H 43 p2 d_j52_4_42 ep2 ?_
 refine r_bastore H 44 p2 d_j52_4_43 A_a1 g_a1 (nar_byte_id (by have := rp2; omega)) ?_
 intro h3 K3 A3
 change Ar Z h3 a1 c1 .byte [.int i2, .int i3, .int i4, .int i5, .int p2, .int i7, .int i8, .int i9] at A3
 refine r_aloadN H 45 d_j52_4_44 ?_
 refine r_iloadN H 46 d_j52_4_45 ?_
 refine r_iloadN H 47 d_j52_4_46 ?_
 refine r_gets H 50 d_j52_4_47 (tw89 hw) S_LO_BYTE_SHIFT ?_
 obtain ⟨p4, ep4, rp4⟩ : ∃ p : Int32, (i1 >>> ((8 : Int32) &&& 31)) = p ∧ 0 ≤ p.toInt ∧ p.toInt ≤ 255 := ⟨_, rfl, (by have := r_i1; have h1 := c_ishr i1 (8 : Int32) 8 (by decide); omega)⟩
 refine r_ishr H 51 p4 d_j52_4_50 ep4 ?_
 obtain ⟨p5, ep5, rp5⟩ : ∃ p : Int32, (p4.toInt8.toInt32) = p ∧ -128 ≤ p.toInt ∧ p.toInt ≤ 127 := ⟨_, rfl, (by have h := c_i2b p4; omega)⟩
 refine r_i2b H 52 p5 d_j52_4_51 ep5 ?_
 refine r_bastore H 53 p5 d_j52_4_52 A3 g_a1 (nar_byte_id (by have := rp5; omega)) ?_
 intro h6 K6 A6
 have q7 := (E_a1.keep K3)
 change Ar Z h6 a1 c1 .byte [.int i2, .int i3, .int i4, .int i5, .int p2, .int p5, .int i8, .int i9] at A6
 have k8 : Keep h0 h3 [a1] := Keep.trans (Keep.refl h0 [a1]) K3 (allS (Or.inl (List.mem_of_getElem? (i := 0) rfl)) all0)
 have k9 : Keep h0 h6 [a1] := Keep.trans k8 K6 (allS (Or.inl (List.mem_of_getElem? (i := 0) rfl)) all0)
 have q10 := (q7.keep K6)
 subst ep1 ep2 ep4 ep5
 exact r_return H d_j52_4_53 (⟨rfl, k9, A6, q10⟩)
def Q_putChar_70 (Z : State) (a1 : Addr) (i1 : Int32) (i2 : Int32) (i3 : Int32) (i4 : Int32) (i5 : Int32) (i6 : Int32) (i7 : Int32) (c1 : ClassId) (h0 : Heap) (v : Option Value) (h : Heap) : Prop := v = none ∧ Keep h0 h [a1] ∧ Ar Z h a1 c1 .byte [.int i2, .int i3, .int i4, .int i5, .int i6, .int i7, .int (cL8 i1), .int (cH8 i1)] ∧ Exa Z h a1 "[B"
def R_putChar_70 : Room := { frames := 0, cells := 0, slots := 0, locals := 0 }
theorem rm_putChar_70 {w : Bool} {Z : State} {a0 : Array Value} (hw : HW a0 Z) (Ts : List String) (a1 : Addr) (i1 : Int32) (i2 : Int32) (i3 : Int32) (i4 : Int32) (i5 : Int32) (i6 : Int32) (i7 : Int32) (i8 : Int32) (i9 : Int32) (c1 : ClassId) (h0 : Heap) (f : Nat) (Zf : Z.heap.size ≤ f) (Z0 : f ≤ h0.size) (A_a1 : Ar Z h0 a1 c1 .byte [.int i2, .int i3, .int i4, .int i5, .int i6, .int i7, .int i8, .int i9]) (g_a1 : f ≤ a1) (E_a1 : Exa Z h0 a1 "[B") (r_i1 : 0 ≤ i1.toInt ∧ i1.toInt ≤ 65535) (S__assertionsDisabled : G_S__assertionsDisabled Z) (S_HI_BYTE_SHIFT : G_S_HI_BYTE_SHIFT Z) (S_LO_BYTE_SHIFT : G_S_LO_BYTE_SHIFT Z) :
  Con w [] Z mn9 jdk_52_method_4_code 3 none R_putChar_70 Ts Ts f #[.ref a1, .int 3, .int i1] h0 (Q_putChar_70 Z a1 i1 i2 i3 i4 i5 i6 i7 c1 h0) := by
 refine con_of f #[vR a1, vI 3, vI i1] (plainFor_of_name pn_3) (fun m => rfl) Zf ?_
 intro C H hX0
 refine r_gets H 3 d_j52_4_0 (tw87 hw) S__assertionsDisabled ?_
 refine r_ifneT H 28 d_j52_4_3 (by decide) (by decide) (by decide) ?_
 refine r_iloadN H 29 d_j52_4_28 ?_
 refine r_iconst H 30 1 d_j52_4_29 ?_
 refine r_ishl H 31 6 d_j52_4_30 ?_
 refine r_istoreN H 32 #[vR a1, vI 6, vI i1] d_j52_4_31 ?_
 refine r_aloadN H 33 d_j52_4_32 ?_
 refine r_iloadN H 34 d_j52_4_33 ?_
 refine r_iinc H 37 #[vR a1, vI 7, vI i1] 7 d_j52_4_34 ?_
 refine r_iloadN H 38 d_j52_4_37 ?_
 refine r_gets H 41 d_j52_4_38 (tw88 hw) S_HI_BYTE_SHIFT ?_
 obtain ⟨p1, ep1, rp1⟩ : ∃ p : Int32, (i1 >>> ((0 : Int32) &&& 31)) = p ∧ 0 ≤ p.toInt ∧ p.toInt ≤ 65535 := ⟨_, rfl, (by have := r_i1; have h1 := c_ishr i1 (0 : Int32) 0 (by decide); omega)⟩
 refine r_ishr H 42 p1 d_j52_4_41 ep1 ?_
 obtain ⟨p2, ep2, rp2⟩ : ∃ p : Int32, (p1.toInt8.toInt32) = p ∧ -128 ≤ p.toInt ∧ p.toInt ≤ 127 := ⟨_, rfl, (by have h := c_i2b p1; omega)⟩
 refine r_i2b H 43 p2 d_j52_4_42 ep2 ?_
 refine r_bastore H 44 p2 d_j52_4_43 A_a1 g_a1 (nar_byte_id (by have := rp2; omega)) ?_
 intro h3 K3 A3
 change Ar Z h3 a1 c1 .byte [.int i2, .int i3, .int i4, .int i5, .int i6, .int i7, .int p2, .int i9] at A3
 refine r_aloadN H 45 d_j52_4_44 ?_
 refine r_iloadN H 46 d_j52_4_45 ?_
 refine r_iloadN H 47 d_j52_4_46 ?_
 refine r_gets H 50 d_j52_4_47 (tw89 hw) S_LO_BYTE_SHIFT ?_
 obtain ⟨p4, ep4, rp4⟩ : ∃ p : Int32, (i1 >>> ((8 : Int32) &&& 31)) = p ∧ 0 ≤ p.toInt ∧ p.toInt ≤ 255 := ⟨_, rfl, (by have := r_i1; have h1 := c_ishr i1 (8 : Int32) 8 (by decide); omega)⟩
 refine r_ishr H 51 p4 d_j52_4_50 ep4 ?_
 obtain ⟨p5, ep5, rp5⟩ : ∃ p : Int32, (p4.toInt8.toInt32) = p ∧ -128 ≤ p.toInt ∧ p.toInt ≤ 127 := ⟨_, rfl, (by have h := c_i2b p4; omega)⟩
 refine r_i2b H 52 p5 d_j52_4_51 ep5 ?_
 refine r_bastore H 53 p5 d_j52_4_52 A3 g_a1 (nar_byte_id (by have := rp5; omega)) ?_
 intro h6 K6 A6
 have q7 := (E_a1.keep K3)
 change Ar Z h6 a1 c1 .byte [.int i2, .int i3, .int i4, .int i5, .int i6, .int i7, .int p2, .int p5] at A6
 have k8 : Keep h0 h3 [a1] := Keep.trans (Keep.refl h0 [a1]) K3 (allS (Or.inl (List.mem_of_getElem? (i := 0) rfl)) all0)
 have k9 : Keep h0 h6 [a1] := Keep.trans k8 K6 (allS (Or.inl (List.mem_of_getElem? (i := 0) rfl)) all0)
 have q10 := (q7.keep K6)
 subst ep1 ep2 ep4 ep5
 exact r_return H d_j52_4_53 (⟨rfl, k9, A6, q10⟩)
def Q_toBytes_64 (Z : State) (i1 : Int32) (i2 : Int32) (i3 : Int32) (i4 : Int32) (h0 : Heap) (v : Option Value) (h : Heap) : Prop := ∃ (b1 : Addr) (kc2 : ClassId), v = some (.ref b1) ∧ Keep h0 h [] ∧ h0.size ≤ b1 ∧ Ar Z h b1 kc2 .byte [.int (cL8 i1), .int (cH8 i1), .int (cL8 i2), .int (cH8 i2), .int (cL8 i3), .int (cH8 i3), .int (cL8 i4), .int (cH8 i4)] ∧ Exa Z h b1 "[B"
def R_toBytes_64 : Room := { frames := 2, cells := 1, slots := 8, locals := 24 }
theorem rm_toBytes_64 {w : Bool} {Z : State} {a0 : Array Value} (hw : HW a0 Z) (Ts : List String) (a1 : Addr) (i1 : Int32) (i2 : Int32) (i3 : Int32) (i4 : Int32) (c1 : ClassId) (h0 : Heap) (f : Nat) (Zf : Z.heap.size ≤ f) (Z0 : f ≤ h0.size) (A_a1 : Ar Z h0 a1 c1 .char [.int i1, .int i2, .int i3, .int i4]) (r_i1 : 0 ≤ i1.toInt ∧ i1.toInt ≤ 65535) (r_i2 : 0 ≤ i2.toInt ∧ i2.toInt ≤ 65535) (r_i3 : 0 ≤ i3.toInt ∧ i3.toInt ≤ 65535) (r_i4 : 0 ≤ i4.toInt ∧ i4.toInt ≤ 65535) (S__assertionsDisabled : G_S__assertionsDisabled Z) (S_HI_BYTE_SHIFT : G_S_HI_BYTE_SHIFT Z) (S_LO_BYTE_SHIFT : G_S_LO_BYTE_SHIFT Z) :
  Con w [] Z mn10 jdk_52_method_14_code 5 (some (.array .byte)) R_toBytes_64 Ts Ts f #[.ref a1, .int 0, .int 4] h0 (Q_toBytes_64 Z i1 i2 i3 i4 h0) := by
 refine con_of f #[vR a1, vI 0, vI 4, .unset, .unset] (plainFor_of_name pn_3) (fun m => rfl) Zf ?_
 intro C H hX0
 refine r_iloadN H 1 d_j52_14_0 ?_
 refine r_static (argsL := [.int 4]) (rest := []) (W := 0) H 4 d_j52_14_1 (tw77 hw) (tw78 hw) (tw43 hw) (tw79 hw) (lenOf pd_8 rfl) (rm_newBytesFor_65 hw Ts h0 f Zf Z0) ?_
 rintro _ hh7 ⟨b1, kc2, rfl, K3, g4, q5, q6⟩
 refine r_astoreN H 5 #[vR a1, vI 0, vI 4, vR b1, .unset] d_j52_14_4 ?_
 refine r_iconst H 6 0 d_j52_14_5 ?_
 refine r_istore H 8 #[vR a1, vI 0, vI 4, vR b1, vI 0] d_j52_14_6 ?_
 refine r_iload H 10 d_j52_14_8 ?_
 refine r_iloadN H 11 d_j52_14_10 ?_
 refine r_icmpgeF H 14 d_j52_14_11 ?_
 refine r_aloadN H 15 d_j52_14_14 ?_
 refine r_iload H 17 d_j52_14_15 ?_
 refine r_aloadN H 18 d_j52_14_17 ?_
 refine r_iloadN H 19 d_j52_14_18 ?_
 have q8 := (A_a1.keep K3 nin0)
 refine r_caload H 20 i1 d_j52_14_19 q8 ?_
 refine r_static (argsL := [.ref b1, .int 0, .int i1]) (rest := []) (W := 0) H 23 d_j52_14_20 (tw84 hw) (tw85 hw) (tw43 hw) (tw86 hw) (lenOf pd_9 rfl) (rm_putChar_67 hw Ts b1 i1 (0 : Int32) (0 : Int32) (0 : Int32) (0 : Int32) (0 : Int32) (0 : Int32) (0 : Int32) (0 : Int32) kc2 hh7 f Zf (nlt Z0 K3.1) q5 (nlt Z0 g4) q6 (by have := r_i1; omega) S__assertionsDisabled S_HI_BYTE_SHIFT S_LO_BYTE_SHIFT) ?_
 rintro _ hh12 ⟨rfl, K9, q10, q11⟩
 refine r_iinc H 26 #[vR a1, vI 1, vI 4, vR b1, vI 0] 1 d_j52_14_23 ?_
 refine r_iinc H 29 #[vR a1, vI 1, vI 4, vR b1, vI 1] 1 d_j52_14_26 ?_
 refine r_goto H 8 d_j52_14_29 ?_
 refine r_iload H 10 d_j52_14_8 ?_
 refine r_iloadN H 11 d_j52_14_10 ?_
 refine r_icmpgeF H 14 d_j52_14_11 ?_
 refine r_aloadN H 15 d_j52_14_14 ?_
 refine r_iload H 17 d_j52_14_15 ?_
 refine r_aloadN H 18 d_j52_14_17 ?_
 refine r_iloadN H 19 d_j52_14_18 ?_
 have q13 := (q8.keep K9 (ninS (Nat.ne_of_lt (Nat.lt_of_lt_of_le A_a1.lt (nlt nlr g4))) nin0))
 refine r_caload H 20 i2 d_j52_14_19 q13 ?_
 have z14 := Nat.le_trans K3.1 K9.1
 refine r_static (argsL := [.ref b1, .int 1, .int i2]) (rest := []) (W := 0) H 23 d_j52_14_20 (tw84 hw) (tw85 hw) (tw43 hw) (tw86 hw) (lenOf pd_9 rfl) (rm_putChar_68 hw Ts b1 i2 (cL8 i1) (cH8 i1) (0 : Int32) (0 : Int32) (0 : Int32) (0 : Int32) (0 : Int32) (0 : Int32) kc2 hh12 f Zf (nlt Z0 z14) q10 (nlt Z0 g4) q11 (by have := r_i2; omega) S__assertionsDisabled S_HI_BYTE_SHIFT S_LO_BYTE_SHIFT) ?_
 rintro _ hh18 ⟨rfl, K15, q16, q17⟩
 refine r_iinc H 26 #[vR a1, vI 2, vI 4, vR b1, vI 1] 2 d_j52_14_23 ?_
 refine r_iinc H 29 #[vR a1, vI 2, vI 4, vR b1, vI 2] 2 d_j52_14_26 ?_
 refine r_goto H 8 d_j52_14_29 ?_
 refine r_iload H 10 d_j52_14_8 ?_
 refine r_iloadN H 11 d_j52_14_10 ?_
 refine r_icmpgeF H 14 d_j52_14_11 ?_
 refine r_aloadN H 15 d_j52_14_14 ?_
 refine r_iload H 17 d_j52_14_15 ?_
 refine r_aloadN H 18 d_j52_14_17 ?_
 refine r_iloadN H 19 d_j52_14_18 ?_
 have q19 := (q13.keep K15 (ninS (Nat.ne_of_lt (Nat.lt_of_lt_of_le A_a1.lt (nlt nlr g4))) nin0))
 refine r_caload H 20 i3 d_j52_14_19 q19 ?_
 have z20 := Nat.le_trans z14 K15.1
 refine r_static (argsL := [.ref b1, .int 2, .int i3]) (rest := []) (W := 0) H 23 d_j52_14_20 (tw84 hw) (tw85 hw) (tw43 hw) (tw86 hw) (lenOf pd_9 rfl) (rm_putChar_69 hw Ts b1 i3 (cL8 i1) (cH8 i1) (cL8 i2) (cH8 i2) (0 : Int32) (0 : Int32) (0 : Int32) (0 : Int32) kc2 hh18 f Zf (nlt Z0 z20) q16 (nlt Z0 g4) q17 (by have := r_i3; omega) S__assertionsDisabled S_HI_BYTE_SHIFT S_LO_BYTE_SHIFT) ?_
 rintro _ hh24 ⟨rfl, K21, q22, q23⟩
 refine r_iinc H 26 #[vR a1, vI 3, vI 4, vR b1, vI 2] 3 d_j52_14_23 ?_
 refine r_iinc H 29 #[vR a1, vI 3, vI 4, vR b1, vI 3] 3 d_j52_14_26 ?_
 refine r_goto H 8 d_j52_14_29 ?_
 refine r_iload H 10 d_j52_14_8 ?_
 refine r_iloadN H 11 d_j52_14_10 ?_
 refine r_icmpgeF H 14 d_j52_14_11 ?_
 refine r_aloadN H 15 d_j52_14_14 ?_
 refine r_iload H 17 d_j52_14_15 ?_
 refine r_aloadN H 18 d_j52_14_17 ?_
 refine r_iloadN H 19 d_j52_14_18 ?_
 have q25 := (q19.keep K21 (ninS (Nat.ne_of_lt (Nat.lt_of_lt_of_le A_a1.lt (nlt nlr g4))) nin0))
 refine r_caload H 20 i4 d_j52_14_19 q25 ?_
 have z26 := Nat.le_trans z20 K21.1
 refine r_static (argsL := [.ref b1, .int 3, .int i4]) (rest := []) (W := 0) H 23 d_j52_14_20 (tw84 hw) (tw85 hw) (tw43 hw) (tw86 hw) (lenOf pd_9 rfl) (rm_putChar_70 hw Ts b1 i4 (cL8 i1) (cH8 i1) (cL8 i2) (cH8 i2) (cL8 i3) (cH8 i3) (0 : Int32) (0 : Int32) kc2 hh24 f Zf (nlt Z0 z26) q22 (nlt Z0 g4) q23 (by have := r_i4; omega) S__assertionsDisabled S_HI_BYTE_SHIFT S_LO_BYTE_SHIFT) ?_
 rintro _ hh30 ⟨rfl, K27, q28, q29⟩
 refine r_iinc H 26 #[vR a1, vI 4, vI 4, vR b1, vI 3] 4 d_j52_14_23 ?_
 refine r_iinc H 29 #[vR a1, vI 4, vI 4, vR b1, vI 4] 4 d_j52_14_26 ?_
 refine r_goto H 8 d_j52_14_29 ?_
 refine r_iload H 10 d_j52_14_8 ?_
 refine r_iloadN H 11 d_j52_14_10 ?_
 refine r_icmpgeT H 32 d_j52_14_11 ?_
 refine r_aloadN H 33 d_j52_14_32 ?_
 have k31 : Keep h0 hh7 [] := Keep.trans (Keep.refl h0 []) K3 all0
 have k32 : Keep h0 hh12 [] := Keep.trans k31 K9 (allS (Or.inr (nlt nlr g4)) all0)
 have k33 : Keep h0 hh18 [] := Keep.trans k32 K15 (allS (Or.inr (nlt nlr g4)) all0)
 have k34 : Keep h0 hh24 [] := Keep.trans k33 K21 (allS (Or.inr (nlt nlr g4)) all0)
 have k35 : Keep h0 hh30 [] := Keep.trans k34 K27 (allS (Or.inr (nlt nlr g4)) all0)
 exact r_areturn H d_j52_14_33 (⟨b1, kc2, rfl, k35, (nlt nlr g4), q28, q29⟩)
def Q_compress_62 (Z : State) (i1 : Int32) (i2 : Int32) (i3 : Int32) (i4 : Int32) (h0 : Heap) (v : Option Value) (h : Heap) : Prop := (∃ (b1 : Addr) (kc1 : ClassId), v = some (.ref b1) ∧ (¬ (255 : Int32) < i1) ∧ (¬ (255 : Int32) < i2) ∧ (¬ (255 : Int32) < i3) ∧ (¬ (255 : Int32) < i4) ∧ Keep h0 h [] ∧ h0.size ≤ b1 ∧ Ar Z h b1 kc1 .byte [.int (cB8 i1), .int (cB8 i2), .int (cB8 i3), .int (cB8 i4)] ∧ Exa Z h b1 "[B") ∨ (∃ (b44 : Addr) (kc45 : ClassId), v = some (.ref b44) ∧ Keep h0 h [] ∧ h0.size ≤ b44 ∧ Ar Z h b44 kc45 .byte [.int (cL8 i1), .int (cH8 i1), .int (cL8 i2), .int (cH8 i2), .int (cL8 i3), .int (cH8 i3), .int (cL8 i4), .int (cH8 i4)] ∧ Exa Z h b44 "[B")
def R_compress_62 : Room := { frames := 3, cells := 2, slots := 12, locals := 40 }
theorem rm_compress_62 {w : Bool} {Z : State} {a0 : Array Value} (hw : HW a0 Z) (Ts : List String) (a1 : Addr) (i1 : Int32) (i2 : Int32) (i3 : Int32) (i4 : Int32) (c1 : ClassId) (h0 : Heap) (f : Nat) (Zf : Z.heap.size ≤ f) (Z0 : f ≤ h0.size) (A_a1 : Ar Z h0 a1 c1 .char [.int i1, .int i2, .int i3, .int i4]) (E_a1 : Exa Z h0 a1 "[C") (r_i1 : 0 ≤ i1.toInt ∧ i1.toInt ≤ 65535) (r_i2 : 0 ≤ i2.toInt ∧ i2.toInt ≤ 65535) (r_i3 : 0 ≤ i3.toInt ∧ i3.toInt ≤ 65535) (r_i4 : 0 ≤ i4.toInt ∧ i4.toInt ≤ 65535) (S__assertionsDisabled : G_S__assertionsDisabled Z) (S_HI_BYTE_SHIFT : G_S_HI_BYTE_SHIFT Z) (S_LO_BYTE_SHIFT : G_S_LO_BYTE_SHIFT Z) :
  Con w [] Z mn12 jdk_52_method_16_code 6 (some (.array .byte)) R_compress_62 Ts Ts f #[.ref a1, .int 0, .int 4] h0 (Q_compress_62 Z i1 i2 i3 i4 h0) := by
 refine con_of f #[vR a1, vI 0, vI 4, .unset, .unset, .unset] (plainFor_of_name pn_3) (fun m => rfl) Zf ?_
 intro C H hX0
 refine r_iloadN H 1 d_j52_16_0 ?_
 refine r_newP H 3 "[B" 4 d_j52_16_1 (tw19 hw) ?_
 intro h1 b1 kc1 g1 l1 K1 E1 A1
 change Ar Z h1 b1 kc1 .byte [.int 0, .int 0, .int 0, .int 0] at A1
 refine r_astoreN H 4 #[vR a1, vI 0, vI 4, vR b1, .unset, .unset] d_j52_16_3 ?_
 refine r_aloadN H 5 d_j52_16_4 ?_
 refine r_iloadN H 6 d_j52_16_5 ?_
 refine r_aloadN H 7 d_j52_16_6 ?_
 refine r_iconst H 8 0 d_j52_16_7 ?_
 refine r_iloadN H 9 d_j52_16_8 ?_
 have q2 := (A_a1.keep K1 nin0)
 have q3 := (E_a1.keep K1)
 refine r_static (argsL := [.ref a1, .int 0, .ref b1, .int 0, .int 4]) (rest := []) (W := 0) H 12 d_j52_16_9 (tw45 hw) (tw46 hw) (tw43 hw) (tw47 hw) (lenOf pd_6 rfl) (rm_compress_63 hw Ts a1 b1 i1 i2 i3 i4 c1 kc1 h1 f Zf (nlt Z0 K1.1) q2 A1 (nlt Z0 (Nat.le_of_eq g1.symm)) E1 q3 r_i1 r_i2 r_i3 r_i4) ?_
 rintro _ hh31 (⟨rfl, c5, c6, c7, c8, K4, q9, q10⟩ | ⟨rfl, c12, c13, c14, c15, K11, q16, q17⟩ | ⟨rfl, c19, c20, c21, K18, q22, q23⟩ | ⟨rfl, c25, c26, K24, q27, q28⟩ | ⟨rfl, c30, rfl⟩)
 ·
  refine r_istore H 14 #[vR a1, vI 0, vI 4, vR b1, vI 4, .unset] d_j52_16_12 ?_
  refine r_iload H 16 d_j52_16_14 ?_
  refine r_iloadN H 17 d_j52_16_16 ?_
  refine r_icmpeqT H 57 d_j52_16_17 ?_
  refine r_aloadN H 58 d_j52_16_57 ?_
  have k36 : Keep h0 h1 [] := Keep.trans (Keep.refl h0 []) K1 all0
  have k37 : Keep h0 hh31 [] := Keep.trans k36 K4 (allS (Or.inr (nlt nlr (Nat.le_of_eq g1.symm))) all0)
  exact r_areturn H d_j52_16_58 (Or.inl ⟨b1, kc1, rfl, c5, c6, c7, c8, k37, (nlt nlr (Nat.le_of_eq g1.symm)), q9, q10⟩)
 ·
  have rr38 : 0 ≤ i1.toInt ∧ i1.toInt ≤ 255 := by have := r_i1; have : (255 : Int32).toInt = 255 := (by decide); have hc_ := c12; simp only [Int32.lt_iff_toInt_lt, ← Int32.toInt_inj] at hc_; omega
  have rr39 : 0 ≤ i2.toInt ∧ i2.toInt ≤ 255 := by have := r_i2; have : (255 : Int32).toInt = 255 := (by decide); have hc_ := c13; simp only [Int32.lt_iff_toInt_lt, ← Int32.toInt_inj] at hc_; omega
  have rr40 : 0 ≤ i3.toInt ∧ i3.toInt ≤ 255 := by have := r_i3; have : (255 : Int32).toInt = 255 := (by decide); have hc_ := c14; simp only [Int32.lt_iff_toInt_lt, ← Int32.toInt_inj] at hc_; omega
  have rr41 : 256 ≤ i4.toInt ∧ i4.toInt ≤ 65535 := by have := r_i4; have : (255 : Int32).toInt = 255 := (by decide); have hc_ := c15; simp only [Int32.lt_iff_toInt_lt, ← Int32.toInt_inj] at hc_; omega
  refine r_istore H 14 #[vR a1, vI 0, vI 4, vR b1, vI 3, .unset] d_j52_16_12 ?_
  refine r_iload H 16 d_j52_16_14 ?_
  refine r_iloadN H 17 d_j52_16_16 ?_
  refine r_icmpeqF H 20 d_j52_16_17 ?_
  refine r_aloadN H 21 d_j52_16_20 ?_
  refine r_iloadN H 22 d_j52_16_21 ?_
  refine r_iloadN H 23 d_j52_16_22 ?_
  have q42 := (q2.keep K11 (ninS (Nat.ne_of_lt (Nat.lt_of_lt_of_le A_a1.lt (nlt nlr (Nat.le_of_eq g1.symm)))) nin0))
  have z43 := Nat.le_trans K1.1 K11.1
  refine r_static (argsL := [.ref a1, .int 0, .int 4]) (rest := []) (W := 0) H 26 d_j52_16_23 (tw74 hw) (tw75 hw) (tw43 hw) (tw76 hw) (lenOf pd_10 rfl) (rm_toBytes_64 hw Ts a1 i1 i2 i3 i4 c1 hh31 f Zf (nlt Z0 z43) q42 (by have := rr38; omega) (by have := rr39; omega) (by have := rr40; omega) (by have := rr41; omega) S__assertionsDisabled S_HI_BYTE_SHIFT S_LO_BYTE_SHIFT) ?_
  rintro _ hh50 ⟨b44, kc45, rfl, K46, g47, q48, q49⟩
  refine r_astore H 28 #[vR a1, vI 0, vI 4, vR b1, vI 3, vR b44] d_j52_16_26 ?_
  refine r_aload H 30 d_j52_16_28 ?_
  refine r_iload H 32 d_j52_16_30 ?_
  have z51 := Nat.le_trans z43 K46.1
  refine r_static (argsL := [.ref b44, .int 3]) (rest := []) (W := 0) H 35 d_j52_16_32 (tw90 hw) (tw91 hw) (tw43 hw) (tw92 hw) (lenOf pd_11 rfl) (rm_getChar_15 hw Ts b44 (3 : Int32) kc45 _ (cL8 i4) (cH8 i4) hh50 f Zf (nlt Z0 z51) q48 rfl (by decide) rfl (by decide) S__assertionsDisabled S_HI_BYTE_SHIFT S_LO_BYTE_SHIFT) ?_
  rintro _ _ ⟨p52, rfl, ep52, rp52, rfl⟩
  have hzp52 : i4 = p52 := by rw [← ep52]; exact (own_u16 i4 (by have := rr41; omega)).symm
  subst hzp52
  refine r_sipush H 38 255 d_j52_16_35 ?_
  refine r_icmpgtT H 54 d_j52_16_38 (by have := rr41; have : (255 : Int32).toInt = 255 := (by decide); simp only [Int32.lt_iff_toInt_lt, ← Int32.toInt_inj]; omega) ?_
  refine r_aload H 56 d_j52_16_54 ?_
  have k54 : Keep h0 h1 [] := Keep.trans (Keep.refl h0 []) K1 all0
  have k55 : Keep h0 hh31 [] := Keep.trans k54 K11 (allS (Or.inr (nlt nlr (Nat.le_of_eq g1.symm))) all0)
  have k56 : Keep h0 hh50 [] := Keep.trans k55 K46 all0
  exact r_areturn H d_j52_16_56 (Or.inr (⟨b44, kc45, rfl, k56, (nlt z43 g47), q48, q49⟩))
 ·
  have rr57 : 0 ≤ i1.toInt ∧ i1.toInt ≤ 255 := by have := r_i1; have : (255 : Int32).toInt = 255 := (by decide); have hc_ := c19; simp only [Int32.lt_iff_toInt_lt, ← Int32.toInt_inj] at hc_; omega
  have rr58 : 0 ≤ i2.toInt ∧ i2.toInt ≤ 255 := by have := r_i2; have : (255 : Int32).toInt = 255 := (by decide); have hc_ := c20; simp only [Int32.lt_iff_toInt_lt, ← Int32.toInt_inj] at hc_; omega
  have rr59 : 256 ≤ i3.toInt ∧ i3.toInt ≤ 65535 := by have := r_i3; have : (255 : Int32).toInt = 255 := (by decide); have hc_ := c21; simp only [Int32.lt_iff_toInt_lt, ← Int32.toInt_inj] at hc_; omega
  refine r_istore H 14 #[vR a1, vI 0, vI 4, vR b1, vI 2, .unset] d_j52_16_12 ?_
  refine r_iload H 16 d_j52_16_14 ?_
  refine r_iloadN H 17 d_j52_16_16 ?_
  refine r_icmpeqF H 20 d_j52_16_17 ?_
  refine r_aloadN H 21 d_j52_16_20 ?_
  refine r_iloadN H 22 d_j52_16_21 ?_
  refine r_iloadN H 23 d_j52_16_22 ?_
  have q60 := (q2.keep K18 (ninS (Nat.ne_of_lt (Nat.lt_of_lt_of_le A_a1.lt (nlt nlr (Nat.le_of_eq g1.symm)))) nin0))
  have z61 := Nat.le_trans K1.1 K18.1
  refine r_static (argsL := [.ref a1, .int 0, .int 4]) (rest := []) (W := 0) H 26 d_j52_16_23 (tw74 hw) (tw75 hw) (tw43 hw) (tw76 hw) (lenOf pd_10 rfl) (rm_toBytes_64 hw Ts a1 i1 i2 i3 i4 c1 hh31 f Zf (nlt Z0 z61) q60 (by have := rr57; omega) (by have := rr58; omega) (by have := rr59; omega) (by have := r_i4; omega) S__assertionsDisabled S_HI_BYTE_SHIFT S_LO_BYTE_SHIFT) ?_
  rintro _ hh68 ⟨b62, kc63, rfl, K64, g65, q66, q67⟩
  refine r_astore H 28 #[vR a1, vI 0, vI 4, vR b1, vI 2, vR b62] d_j52_16_26 ?_
  refine r_aload H 30 d_j52_16_28 ?_
  refine r_iload H 32 d_j52_16_30 ?_
  have z69 := Nat.le_trans z61 K64.1
  refine r_static (argsL := [.ref b62, .int 2]) (rest := []) (W := 0) H 35 d_j52_16_32 (tw90 hw) (tw91 hw) (tw43 hw) (tw92 hw) (lenOf pd_11 rfl) (rm_getChar_15 hw Ts b62 (2 : Int32) kc63 _ (cL8 i3) (cH8 i3) hh68 f Zf (nlt Z0 z69) q66 rfl (by decide) rfl (by decide) S__assertionsDisabled S_HI_BYTE_SHIFT S_LO_BYTE_SHIFT) ?_
  rintro _ _ ⟨p70, rfl, ep70, rp70, rfl⟩
  have hzp70 : i3 = p70 := by rw [← ep70]; exact (own_u16 i3 (by have := rr59; omega)).symm
  subst hzp70
  refine r_sipush H 38 255 d_j52_16_35 ?_
  refine r_icmpgtT H 54 d_j52_16_38 (by have := rr59; have : (255 : Int32).toInt = 255 := (by decide); simp only [Int32.lt_iff_toInt_lt, ← Int32.toInt_inj]; omega) ?_
  refine r_aload H 56 d_j52_16_54 ?_
  have k72 : Keep h0 h1 [] := Keep.trans (Keep.refl h0 []) K1 all0
  have k73 : Keep h0 hh31 [] := Keep.trans k72 K18 (allS (Or.inr (nlt nlr (Nat.le_of_eq g1.symm))) all0)
  have k74 : Keep h0 hh68 [] := Keep.trans k73 K64 all0
  exact r_areturn H d_j52_16_56 (Or.inr (⟨b62, kc63, rfl, k74, (nlt z61 g65), q66, q67⟩))
 ·
  have rr75 : 0 ≤ i1.toInt ∧ i1.toInt ≤ 255 := by have := r_i1; have : (255 : Int32).toInt = 255 := (by decide); have hc_ := c25; simp only [Int32.lt_iff_toInt_lt, ← Int32.toInt_inj] at hc_; omega
  have rr76 : 256 ≤ i2.toInt ∧ i2.toInt ≤ 65535 := by have := r_i2; have : (255 : Int32).toInt = 255 := (by decide); have hc_ := c26; simp only [Int32.lt_iff_toInt_lt, ← Int32.toInt_inj] at hc_; omega
  refine r_istore H 14 #[vR a1, vI 0, vI 4, vR b1, vI 1, .unset] d_j52_16_12 ?_
  refine r_iload H 16 d_j52_16_14 ?_
  refine r_iloadN H 17 d_j52_16_16 ?_
  refine r_icmpeqF H 20 d_j52_16_17 ?_
  refine r_aloadN H 21 d_j52_16_20 ?_
  refine r_iloadN H 22 d_j52_16_21 ?_
  refine r_iloadN H 23 d_j52_16_22 ?_
  have q77 := (q2.keep K24 (ninS (Nat.ne_of_lt (Nat.lt_of_lt_of_le A_a1.lt (nlt nlr (Nat.le_of_eq g1.symm)))) nin0))
  have z78 := Nat.le_trans K1.1 K24.1
  refine r_static (argsL := [.ref a1, .int 0, .int 4]) (rest := []) (W := 0) H 26 d_j52_16_23 (tw74 hw) (tw75 hw) (tw43 hw) (tw76 hw) (lenOf pd_10 rfl) (rm_toBytes_64 hw Ts a1 i1 i2 i3 i4 c1 hh31 f Zf (nlt Z0 z78) q77 (by have := rr75; omega) (by have := rr76; omega) (by have := r_i3; omega) (by have := r_i4; omega) S__assertionsDisabled S_HI_BYTE_SHIFT S_LO_BYTE_SHIFT) ?_
  rintro _ hh85 ⟨b79, kc80, rfl, K81, g82, q83, q84⟩
  refine r_astore H 28 #[vR a1, vI 0, vI 4, vR b1, vI 1, vR b79] d_j52_16_26 ?_
  refine r_aload H 30 d_j52_16_28 ?_
  refine r_iload H 32 d_j52_16_30 ?_
  have z86 := Nat.le_trans z78 K81.1
  refine r_static (argsL := [.ref b79, .int 1]) (rest := []) (W := 0) H 35 d_j52_16_32 (tw90 hw) (tw91 hw) (tw43 hw) (tw92 hw) (lenOf pd_11 rfl) (rm_getChar_15 hw Ts b79 (1 : Int32) kc80 _ (cL8 i2) (cH8 i2) hh85 f Zf (nlt Z0 z86) q83 rfl (by decide) rfl (by decide) S__assertionsDisabled S_HI_BYTE_SHIFT S_LO_BYTE_SHIFT) ?_
  rintro _ _ ⟨p87, rfl, ep87, rp87, rfl⟩
  have hzp87 : i2 = p87 := by rw [← ep87]; exact (own_u16 i2 (by have := rr76; omega)).symm
  subst hzp87
  refine r_sipush H 38 255 d_j52_16_35 ?_
  refine r_icmpgtT H 54 d_j52_16_38 (by have := rr76; have : (255 : Int32).toInt = 255 := (by decide); simp only [Int32.lt_iff_toInt_lt, ← Int32.toInt_inj]; omega) ?_
  refine r_aload H 56 d_j52_16_54 ?_
  have k89 : Keep h0 h1 [] := Keep.trans (Keep.refl h0 []) K1 all0
  have k90 : Keep h0 hh31 [] := Keep.trans k89 K24 (allS (Or.inr (nlt nlr (Nat.le_of_eq g1.symm))) all0)
  have k91 : Keep h0 hh85 [] := Keep.trans k90 K81 all0
  exact r_areturn H d_j52_16_56 (Or.inr (⟨b79, kc80, rfl, k91, (nlt z78 g82), q83, q84⟩))
 ·
  have rr92 : 256 ≤ i1.toInt ∧ i1.toInt ≤ 65535 := by have := r_i1; have : (255 : Int32).toInt = 255 := (by decide); have hc_ := c30; simp only [Int32.lt_iff_toInt_lt, ← Int32.toInt_inj] at hc_; omega
  refine r_istore H 14 #[vR a1, vI 0, vI 4, vR b1, vI 0, .unset] d_j52_16_12 ?_
  refine r_iload H 16 d_j52_16_14 ?_
  refine r_iloadN H 17 d_j52_16_16 ?_
  refine r_icmpeqF H 20 d_j52_16_17 ?_
  refine r_aloadN H 21 d_j52_16_20 ?_
  refine r_iloadN H 22 d_j52_16_21 ?_
  refine r_iloadN H 23 d_j52_16_22 ?_
  refine r_static (argsL := [.ref a1, .int 0, .int 4]) (rest := []) (W := 0) H 26 d_j52_16_23 (tw74 hw) (tw75 hw) (tw43 hw) (tw76 hw) (lenOf pd_10 rfl) (rm_toBytes_64 hw Ts a1 i1 i2 i3 i4 c1 h1 f Zf (nlt Z0 K1.1) q2 (by have := rr92; omega) (by have := r_i2; omega) (by have := r_i3; omega) (by have := r_i4; omega) S__assertionsDisabled S_HI_BYTE_SHIFT S_LO_BYTE_SHIFT) ?_
  rintro _ hh99 ⟨b93, kc94, rfl, K95, g96, q97, q98⟩
  refine r_astore H 28 #[vR a1, vI 0, vI 4, vR b1, vI 0, vR b93] d_j52_16_26 ?_
  refine r_aload H 30 d_j52_16_28 ?_
  refine r_iload H 32 d_j52_16_30 ?_
  have z100 := Nat.le_trans K1.1 K95.1
  refine r_static (argsL := [.ref b93, .int 0]) (rest := []) (W := 0) H 35 d_j52_16_32 (tw90 hw) (tw91 hw) (tw43 hw) (tw92 hw) (lenOf pd_11 rfl) (rm_getChar_15 hw Ts b93 (0 : Int32) kc94 _ (cL8 i1) (cH8 i1) hh99 f Zf (nlt Z0 z100) q97 rfl (by decide) rfl (by decide) S__assertionsDisabled S_HI_BYTE_SHIFT S_LO_BYTE_SHIFT) ?_
  rintro _ _ ⟨p101, rfl, ep101, rp101, rfl⟩
  have hzp101 : i1 = p101 := by rw [← ep101]; exact (own_u16 i1 (by have := rr92; omega)).symm
  subst hzp101
  refine r_sipush H 38 255 d_j52_16_35 ?_
  refine r_icmpgtT H 54 d_j52_16_38 (by have := rr92; have : (255 : Int32).toInt = 255 := (by decide); simp only [Int32.lt_iff_toInt_lt, ← Int32.toInt_inj]; omega) ?_
  refine r_aload H 56 d_j52_16_54 ?_
  have k103 : Keep h0 h1 [] := Keep.trans (Keep.refl h0 []) K1 all0
  have k104 : Keep h0 hh99 [] := Keep.trans k103 K95 all0
  exact r_areturn H d_j52_16_56 (Or.inr (⟨b93, kc94, rfl, k104, (nlt K1.1 g96), q97, q98⟩))
def Q_coderFromArrayLen_71 (Z : State) (h0 : Heap) (v : Option Value) (h : Heap) : Prop := v = some (.int 0) ∧ h0 = h
def R_coderFromArrayLen_71 : Room := { frames := 0, cells := 0, slots := 0, locals := 0 }
theorem rm_coderFromArrayLen_71 {w : Bool} {Z : State} {a0 : Array Value} (hw : HW a0 Z) (Ts : List String) (a1 : Addr) (i1 : Int32) (i2 : Int32) (i3 : Int32) (i4 : Int32) (c1 : ClassId) (h0 : Heap) (f : Nat) (Zf : Z.heap.size ≤ f) (Z0 : f ≤ h0.size) (A_a1 : Ar Z h0 a1 c1 .byte [.int (cB8 i1), .int (cB8 i2), .int (cB8 i3), .int (cB8 i4)]) :
  Con w [] Z mn13 jdk_52_method_15_code 2 (some .byte) R_coderFromArrayLen_71 Ts Ts f #[.ref a1, .int 4] h0 (Q_coderFromArrayLen_71 Z h0) := by
 refine con_of f #[vR a1, vI 4] (plainFor_of_name pn_3) (fun m => rfl) Zf ?_
 intro C H hX0
 refine r_iloadN H 1 d_j52_15_0 ?_
 refine r_aloadN H 2 d_j52_15_1 ?_
 refine r_alen H 3 4 d_j52_15_2 A_a1 ?_
 refine r_isub H 4 0 d_j52_15_3 ?_
 refine r_bipush H 6 31 d_j52_15_4 ?_
 refine r_iushr H 7 0 d_j52_15_6 (by decide) ?_
 refine r_i2b H 8 0 d_j52_15_7 (by decide) ?_
 exact r_nreturn (0 : Int32) H d_j52_15_8 (by decide) (⟨rfl, rfl⟩)
def Q_coderFromArrayLen_72 (Z : State) (h0 : Heap) (v : Option Value) (h : Heap) : Prop := v = some (.int 1) ∧ h0 = h
def R_coderFromArrayLen_72 : Room := { frames := 0, cells := 0, slots := 0, locals := 0 }
theorem rm_coderFromArrayLen_72 {w : Bool} {Z : State} {a0 : Array Value} (hw : HW a0 Z) (Ts : List String) (a1 : Addr) (i1 : Int32) (i2 : Int32) (i3 : Int32) (i4 : Int32) (c1 : ClassId) (h0 : Heap) (f : Nat) (Zf : Z.heap.size ≤ f) (Z0 : f ≤ h0.size) (A_a1 : Ar Z h0 a1 c1 .byte [.int (cL8 i1), .int (cH8 i1), .int (cL8 i2), .int (cH8 i2), .int (cL8 i3), .int (cH8 i3), .int (cL8 i4), .int (cH8 i4)]) :
  Con w [] Z mn13 jdk_52_method_15_code 2 (some .byte) R_coderFromArrayLen_72 Ts Ts f #[.ref a1, .int 4] h0 (Q_coderFromArrayLen_72 Z h0) := by
 refine con_of f #[vR a1, vI 4] (plainFor_of_name pn_3) (fun m => rfl) Zf ?_
 intro C H hX0
 refine r_iloadN H 1 d_j52_15_0 ?_
 refine r_aloadN H 2 d_j52_15_1 ?_
 refine r_alen H 3 8 d_j52_15_2 A_a1 ?_
 refine r_isub H 4 (-4 : Int32) d_j52_15_3 ?_
 refine r_bipush H 6 31 d_j52_15_4 ?_
 refine r_iushr H 7 1 d_j52_15_6 (by decide) ?_
 refine r_i2b H 8 1 d_j52_15_7 (by decide) ?_
 exact r_nreturn (1 : Int32) H d_j52_15_8 (by decide) (⟨rfl, rfl⟩)
def Q_init_61 (Z : State) (a1 : Addr) (i1 : Int32) (i2 : Int32) (i3 : Int32) (i4 : Int32) (h0 : Heap) (v : Option Value) (h : Heap) : Prop := (∃ (b1 : Addr) (kc2 : ClassId), v = none ∧ (¬ (255 : Int32) < i1) ∧ (¬ (255 : Int32) < i2) ∧ (¬ (255 : Int32) < i3) ∧ (¬ (255 : Int32) < i4) ∧ Keep h0 h [a1] ∧ h0.size ≤ b1 ∧ Exa Z h a1 "java/lang/String" ∧ Fld Z h a1 "java/lang/String" "coder" "B" (.int 0) ∧ Fld Z h a1 "java/lang/String" "value" "[B" (.ref b1) ∧ Ar Z h b1 kc2 .byte [.int (cB8 i1), .int (cB8 i2), .int (cB8 i3), .int (cB8 i4)] ∧ Exa Z h b1 "[B") ∨ (∃ (b11 : Addr) (kc12 : ClassId), v = none ∧ Keep h0 h [a1] ∧ h0.size ≤ b11 ∧ Exa Z h a1 "java/lang/String" ∧ Fld Z h a1 "java/lang/String" "coder" "B" (.int 1) ∧ Fld Z h a1 "java/lang/String" "value" "[B" (.ref b11) ∧ Ar Z h b11 kc12 .byte [.int (cL8 i1), .int (cH8 i1), .int (cL8 i2), .int (cH8 i2), .int (cL8 i3), .int (cH8 i3), .int (cL8 i4), .int (cH8 i4)] ∧ Exa Z h b11 "[B")
def R_init_61 : Room := { frames := 4, cells := 2, slots := 12, locals := 57 }
theorem rm_init_61 {w : Bool} {Z : State} {a0 : Array Value} (hw : HW a0 Z) (Ts : List String) (a1 : Addr) (a2 : Addr) (i1 : Int32) (i2 : Int32) (i3 : Int32) (i4 : Int32) (c1 : ClassId) (cs : Int32) (h0 : Heap) (f : Nat) (Zf : Z.heap.size ≤ f) (Z0 : f ≤ h0.size) (A_a2 : Ar Z h0 a2 c1 .char [.int i1, .int i2, .int i3, .int i4]) (E_a2 : Exa Z h0 a2 "[C") (E_a1 : Exa Z h0 a1 "java/lang/String") (F_coder_a1 : Fld Z h0 a1 "java/lang/String" "coder" "B" (.int 0)) (g_a1 : f ≤ a1) (F_value_a1 : Fld Z h0 a1 "java/lang/String" "value" "[B" .null) (r_i1 : 0 ≤ i1.toInt ∧ i1.toInt ≤ 65535) (r_i2 : 0 ≤ i2.toInt ∧ i2.toInt ≤ 65535) (r_i3 : 0 ≤ i3.toInt ∧ i3.toInt ≤ 65535) (r_i4 : 0 ≤ i4.toInt ∧ i4.toInt ≤ 65535) (S_cs : G_S_cs Z cs) (S__assertionsDisabled : G_S__assertionsDisabled Z) (S_HI_BYTE_SHIFT : G_S_HI_BYTE_SHIFT Z) (S_LO_BYTE_SHIFT : G_S_LO_BYTE_SHIFT Z) (hcs : ¬ cs = 0) :
  Con w [] Z mn1 jdk_42_method_149_code 6 none R_init_61 Ts Ts f #[.ref a1, .ref a2, .int 0, .int 4, .null] h0 (Q_init_61 Z a1 i1 i2 i3 i4 h0) := by
 refine con_of f #[vR a1, vR a2, vI 0, vI 4, .val .null, .unset] (plainFor_of_name pn_1) (fun m => rfl) Zf ?_
 intro C H hX0
 refine r_aloadN H 1 d_j42_149_0 ?_
 refine r_initO (W := 0) H 4 d_j42_149_1 (tw15 hw) (tw16 hw) (tw17 hw) ?_
 refine r_iloadN H 5 d_j42_149_4 ?_
 refine r_ifneT H 27 d_j42_149_5 (by decide) (by decide) (by decide) ?_
 refine r_gets H 30 d_j42_149_27 (tw40 hw) S_cs ?_
 refine r_ifeqF H 33 d_j42_149_30 rfl hcs ?_
 refine r_aloadN H 34 d_j42_149_33 ?_
 refine r_iloadN H 35 d_j42_149_34 ?_
 refine r_iloadN H 36 d_j42_149_35 ?_
 refine r_static (argsL := [.ref a2, .int 0, .int 4]) (rest := []) (W := 0) H 39 d_j42_149_36 (tw41 hw) (tw42 hw) (tw43 hw) (tw44 hw) (lenOf pd_10 rfl) (rm_compress_62 hw Ts a2 i1 i2 i3 i4 c1 h0 f Zf Z0 A_a2 E_a2 r_i1 r_i2 r_i3 r_i4 S__assertionsDisabled S_HI_BYTE_SHIFT S_LO_BYTE_SHIFT) ?_
 rintro _ hh17 (⟨b1, kc2, rfl, c4, c5, c6, c7, K3, g8, q9, q10⟩ | ⟨b11, kc12, rfl, K13, g14, q15, q16⟩)
 ·
  refine r_astore H 41 #[vR a1, vR a2, vI 0, vI 4, .val .null, vR b1] d_j42_149_39 ?_
  refine r_aloadN H 42 d_j42_149_41 ?_
  refine r_aload H 44 d_j42_149_42 ?_
  refine r_iloadN H 45 d_j42_149_44 ?_
  refine r_static (argsL := [.ref b1, .int 4]) (rest := [.ref a1]) (W := 1) H 48 d_j42_149_45 (tw48 hw) (tw49 hw) (tw43 hw) (tw50 hw) (lenOf pd_12 rfl) (rm_coderFromArrayLen_71 hw Ts b1 i1 i2 i3 i4 kc2 hh17 f Zf (nlt Z0 K3.1) q9) ?_
  rintro _ _ ⟨rfl, rfl⟩
  have q23 := (E_a1.keep K3)
  have q24 := (F_coder_a1.keep K3 nin0)
  refine r_putn (v' := (.int 0)) (ty := .byte) H 51 d_j42_149_48 (tw25 hw) q24 q23 (Or.inr ⟨(tw21 hw), rfl, rfl⟩) (tw6 hw) g_a1 ?_
  intro h25 W25 K25 E25 F25
  refine r_aloadN H 52 d_j42_149_51 ?_
  refine r_aload H 54 d_j42_149_52 ?_
  have q26 := ((F_value_a1.keep K3 nin0).other W25 (Or.inr (slot_ne (Or.inr (tw20 hw)) (Or.inr (tw21 hw)) (by decide) (t := (.array .byte)) (t' := .byte) (by decide) (by decide))))
  refine r_putf (ty := (.array .byte)) H 57 d_j42_149_54 (tw24 hw) q26 E25 (Or.inr ⟨(tw20 hw), rfl, rfl⟩) (tw6 hw) g_a1 ?_
  intro h27 W27 K27 E27 F27
  have k28 : Keep h0 hh17 [a1] := Keep.trans (Keep.refl h0 [a1]) K3 all0
  have k29 : Keep h0 h25 [a1] := Keep.trans k28 K25 (allS (Or.inl (List.mem_of_getElem? (i := 0) rfl)) all0)
  have k30 : Keep h0 h27 [a1] := Keep.trans k29 K27 (allS (Or.inl (List.mem_of_getElem? (i := 0) rfl)) all0)
  have q31 := (F25.other W27 (Or.inr (slot_ne (Or.inr (tw21 hw)) (Or.inr (tw20 hw)) (by decide) (t := .byte) (t' := (.array .byte)) (by decide) (by decide))))
  have q32 := ((q9.keep K25 (ninS (Ne.symm (Nat.ne_of_lt (Nat.lt_of_lt_of_le E_a1.lt (nlt nlr g8)))) nin0)).keep K27 (ninS (Ne.symm (Nat.ne_of_lt (Nat.lt_of_lt_of_le E_a1.lt (nlt nlr g8)))) nin0))
  have q33 := ((q10.keep K25).keep K27)
  exact r_return H d_j42_149_57 (Or.inl ⟨b1, kc2, rfl, c4, c5, c6, c7, k30, (nlt nlr g8), E27, q31, F27, q32, q33⟩)
 ·
  refine r_astore H 41 #[vR a1, vR a2, vI 0, vI 4, .val .null, vR b11] d_j42_149_39 ?_
  refine r_aloadN H 42 d_j42_149_41 ?_
  refine r_aload H 44 d_j42_149_42 ?_
  refine r_iloadN H 45 d_j42_149_44 ?_
  refine r_static (argsL := [.ref b11, .int 4]) (rest := [.ref a1]) (W := 1) H 48 d_j42_149_45 (tw48 hw) (tw49 hw) (tw43 hw) (tw50 hw) (lenOf pd_12 rfl) (rm_coderFromArrayLen_72 hw Ts b11 i1 i2 i3 i4 kc12 hh17 f Zf (nlt Z0 K13.1) q15) ?_
  rintro _ _ ⟨rfl, rfl⟩
  have q35 := (E_a1.keep K13)
  have q36 := (F_coder_a1.keep K13 nin0)
  refine r_putn (v' := (.int 1)) (ty := .byte) H 51 d_j42_149_48 (tw25 hw) q36 q35 (Or.inr ⟨(tw21 hw), rfl, rfl⟩) (tw6 hw) g_a1 ?_
  intro h37 W37 K37 E37 F37
  refine r_aloadN H 52 d_j42_149_51 ?_
  refine r_aload H 54 d_j42_149_52 ?_
  have q38 := ((F_value_a1.keep K13 nin0).other W37 (Or.inr (slot_ne (Or.inr (tw20 hw)) (Or.inr (tw21 hw)) (by decide) (t := (.array .byte)) (t' := .byte) (by decide) (by decide))))
  refine r_putf (ty := (.array .byte)) H 57 d_j42_149_54 (tw24 hw) q38 E37 (Or.inr ⟨(tw20 hw), rfl, rfl⟩) (tw6 hw) g_a1 ?_
  intro h39 W39 K39 E39 F39
  have k40 : Keep h0 hh17 [a1] := Keep.trans (Keep.refl h0 [a1]) K13 all0
  have k41 : Keep h0 h37 [a1] := Keep.trans k40 K37 (allS (Or.inl (List.mem_of_getElem? (i := 0) rfl)) all0)
  have k42 : Keep h0 h39 [a1] := Keep.trans k41 K39 (allS (Or.inl (List.mem_of_getElem? (i := 0) rfl)) all0)
  have q43 := (F37.other W39 (Or.inr (slot_ne (Or.inr (tw21 hw)) (Or.inr (tw20 hw)) (by decide) (t := .byte) (t' := (.array .byte)) (by decide) (by decide))))
  have q44 := ((q15.keep K37 (ninS (Ne.symm (Nat.ne_of_lt (Nat.lt_of_lt_of_le E_a1.lt (nlt nlr g14)))) nin0)).keep K39 (ninS (Ne.symm (Nat.ne_of_lt (Nat.lt_of_lt_of_le E_a1.lt (nlt nlr g14)))) nin0))
  have q45 := ((q16.keep K37).keep K39)
  exact r_return H d_j42_149_57 (Or.inr (⟨b11, kc12, rfl, k42, (nlt nlr g14), E39, q43, F39, q44, q45⟩))
def Q_init_60 (Z : State) (a1 : Addr) (i1 : Int32) (i2 : Int32) (i3 : Int32) (i4 : Int32) (h0 : Heap) (v : Option Value) (h : Heap) : Prop := (∃ (b1 : Addr) (kc2 : ClassId), v = none ∧ (¬ (255 : Int32) < i1) ∧ (¬ (255 : Int32) < i2) ∧ (¬ (255 : Int32) < i3) ∧ (¬ (255 : Int32) < i4) ∧ Keep h0 h [a1] ∧ h0.size ≤ b1 ∧ Exa Z h a1 "java/lang/String" ∧ Fld Z h a1 "java/lang/String" "coder" "B" (.int 0) ∧ Fld Z h a1 "java/lang/String" "value" "[B" (.ref b1) ∧ Ar Z h b1 kc2 .byte [.int (cB8 i1), .int (cB8 i2), .int (cB8 i3), .int (cB8 i4)] ∧ Exa Z h b1 "[B") ∨ (∃ (b14 : Addr) (kc15 : ClassId), v = none ∧ Keep h0 h [a1] ∧ h0.size ≤ b14 ∧ Exa Z h a1 "java/lang/String" ∧ Fld Z h a1 "java/lang/String" "coder" "B" (.int 1) ∧ Fld Z h a1 "java/lang/String" "value" "[B" (.ref b14) ∧ Ar Z h b14 kc15 .byte [.int (cL8 i1), .int (cH8 i1), .int (cL8 i2), .int (cH8 i2), .int (cL8 i3), .int (cH8 i3), .int (cL8 i4), .int (cH8 i4)] ∧ Exa Z h b14 "[B")
def R_init_60 : Room := { frames := 5, cells := 2, slots := 12, locals := 74 }
theorem rm_init_60 {w : Bool} {Z : State} {a0 : Array Value} (hw : HW a0 Z) (Ts : List String) (a1 : Addr) (a2 : Addr) (i1 : Int32) (i2 : Int32) (i3 : Int32) (i4 : Int32) (c1 : ClassId) (cs : Int32) (h0 : Heap) (f : Nat) (Zf : Z.heap.size ≤ f) (Z0 : f ≤ h0.size) (A_a2 : Ar Z h0 a2 c1 .char [.int i1, .int i2, .int i3, .int i4]) (g_a1 : f ≤ a1) (E_a2 : Exa Z h0 a2 "[C") (E_a1 : Exa Z h0 a1 "java/lang/String") (F_coder_a1 : Fld Z h0 a1 "java/lang/String" "coder" "B" (.int 0)) (F_value_a1 : Fld Z h0 a1 "java/lang/String" "value" "[B" .null) (r_i1 : 0 ≤ i1.toInt ∧ i1.toInt ≤ 65535) (r_i2 : 0 ≤ i2.toInt ∧ i2.toInt ≤ 65535) (r_i3 : 0 ≤ i3.toInt ∧ i3.toInt ≤ 65535) (r_i4 : 0 ≤ i4.toInt ∧ i4.toInt ≤ 65535) (S_cs : G_S_cs Z cs) (S__assertionsDisabled : G_S__assertionsDisabled Z) (S_HI_BYTE_SHIFT : G_S_HI_BYTE_SHIFT Z) (S_LO_BYTE_SHIFT : G_S_LO_BYTE_SHIFT Z) (hcs : ¬ cs = 0) :
  Con w [] Z mn2 jdk_42_method_3_code 2 none R_init_60 Ts Ts f #[.ref a1, .ref a2] h0 (Q_init_60 Z a1 i1 i2 i3 i4 h0) := by
 refine con_of f #[vR a1, vR a2] (plainFor_of_name pn_1) (fun m => rfl) Zf ?_
 intro C H hX0
 refine r_aloadN H 1 d_j42_3_0 ?_
 refine r_aloadN H 2 d_j42_3_1 ?_
 refine r_iconst H 3 0 d_j42_3_2 ?_
 refine r_aloadN H 4 d_j42_3_3 ?_
 refine r_alen H 5 4 d_j42_3_4 A_a2 ?_
 refine r_null H 6 d_j42_3_5 ?_
 refine r_special (a := a1) (argsL := [.ref a2, .int 0, .int 4, .null]) (rest := []) (W := 0) H 9 d_j42_3_6 (tw11 hw) (tw12 hw) (tw7 hw) (tw14 hw) (lenOf pd_1 rfl) (rm_init_61 hw Ts a1 a2 i1 i2 i3 i4 c1 cs h0 f Zf Z0 A_a2 E_a2 E_a1 F_coder_a1 g_a1 F_value_a1 r_i1 r_i2 r_i3 r_i4 S_cs S__assertionsDisabled S_HI_BYTE_SHIFT S_LO_BYTE_SHIFT hcs) ?_
 rintro _ hh23 (⟨b1, kc2, rfl, c4, c5, c6, c7, K3, g8, q9, q10, q11, q12, q13⟩ | ⟨b14, kc15, rfl, K16, g17, q18, q19, q20, q21, q22⟩)
 ·
  have k28 : Keep h0 hh23 [a1] := Keep.trans (Keep.refl h0 [a1]) K3 (allS (Or.inl (List.mem_of_getElem? (i := 0) rfl)) all0)
  exact r_return H d_j42_3_9 (Or.inl ⟨b1, kc2, rfl, c4, c5, c6, c7, k28, (nlt nlr g8), q9, q10, q11, q12, q13⟩)
 ·
  have k29 : Keep h0 hh23 [a1] := Keep.trans (Keep.refl h0 [a1]) K16 (allS (Or.inl (List.mem_of_getElem? (i := 0) rfl)) all0)
  exact r_return H d_j42_3_9 (Or.inr (⟨b14, kc15, rfl, k29, (nlt nlr g17), q18, q19, q20, q21, q22⟩))
def fn_readAlikeByEitherSetting_73 (i1 : Int32) (i2 : Int32) (i3 : Int32) (i4 : Int32) : Int32 := (if (if i2 = (39 : Int32) then (if ((if i1 = (92 : Int32) then (1 : Int32) else (0 : Int32)) % (2 : Int32)) = (0 : Int32) then (1 : Int32) else (0 : Int32)) else (1 : Int32)) = (0 : Int32) then (if i2 = (39 : Int32) then (if ((if i1 = (92 : Int32) then (1 : Int32) else (0 : Int32)) % (2 : Int32)) = (0 : Int32) then (1 : Int32) else (0 : Int32)) else (1 : Int32)) else (if (if i3 = (39 : Int32) then (if ((if i2 = (92 : Int32) then ((if i1 = (92 : Int32) then (1 : Int32) else (0 : Int32)) + (1 : Int32)) else (0 : Int32)) % (2 : Int32)) = (0 : Int32) then (1 : Int32) else (0 : Int32)) else (1 : Int32)) = (0 : Int32) then (if i3 = (39 : Int32) then (if ((if i2 = (92 : Int32) then ((if i1 = (92 : Int32) then (1 : Int32) else (0 : Int32)) + (1 : Int32)) else (0 : Int32)) % (2 : Int32)) = (0 : Int32) then (1 : Int32) else (0 : Int32)) else (1 : Int32)) else (if (if i4 = (39 : Int32) then (if ((if i3 = (92 : Int32) then ((if i2 = (92 : Int32) then ((if i1 = (92 : Int32) then (1 : Int32) else (0 : Int32)) + (1 : Int32)) else (0 : Int32)) + (1 : Int32)) else (0 : Int32)) % (2 : Int32)) = (0 : Int32) then (1 : Int32) else (0 : Int32)) else (1 : Int32)) = (0 : Int32) then (if i4 = (39 : Int32) then (if ((if i3 = (92 : Int32) then ((if i2 = (92 : Int32) then ((if i1 = (92 : Int32) then (1 : Int32) else (0 : Int32)) + (1 : Int32)) else (0 : Int32)) + (1 : Int32)) else (0 : Int32)) % (2 : Int32)) = (0 : Int32) then (1 : Int32) else (0 : Int32)) else (1 : Int32)) else (if i4 = (39 : Int32) then (if ((if i3 = (92 : Int32) then ((if i2 = (92 : Int32) then ((if i1 = (92 : Int32) then (1 : Int32) else (0 : Int32)) + (1 : Int32)) else (0 : Int32)) + (1 : Int32)) else (0 : Int32)) % (2 : Int32)) = (0 : Int32) then (1 : Int32) else (0 : Int32)) else (1 : Int32)))))
def Q_readAlikeByEitherSetting_73 (Z : State) (i1 : Int32) (i2 : Int32) (i3 : Int32) (i4 : Int32) (h0 : Heap) (v : Option Value) (h : Heap) : Prop := ∃ z : Int32, v = some (.int z) ∧ h0 = h ∧ (fn_readAlikeByEitherSetting_73 i1 i2 i3 i4) = z ∧ (0 ≤ z.toInt ∧ z.toInt ≤ 1)
def R_readAlikeByEitherSetting_73 : Room := { frames := 4, cells := 0, slots := 0, locals := 53 }
theorem rm_readAlikeByEitherSetting_73 {w : Bool} {Z : State} {a0 : Array Value} (hw : HW a0 Z) (Ts : List String) (a1 : Addr) (a2 : Addr) (i1 : Int32) (i2 : Int32) (i3 : Int32) (i4 : Int32) (c1 : ClassId) (cs : Int32) (sio : Value) (h0 : Heap) (f : Nat) (Zf : Z.heap.size ≤ f) (Z0 : f ≤ h0.size) (E_a1 : Exa Z h0 a1 "java/lang/String") (F_value_a1 : Fld Z h0 a1 "java/lang/String" "value" "[B" (.ref a2)) (A_a2 : Ar Z h0 a2 c1 .byte [.int (cB8 i1), .int (cB8 i2), .int (cB8 i3), .int (cB8 i4)]) (F_coder_a1 : Fld Z h0 a1 "java/lang/String" "coder" "B" (.int 0)) (r_i1 : 0 ≤ i1.toInt ∧ i1.toInt ≤ 255) (r_i2 : 0 ≤ i2.toInt ∧ i2.toInt ≤ 255) (r_i3 : 0 ≤ i3.toInt ∧ i3.toInt ≤ 255) (r_i4 : 0 ≤ i4.toInt ∧ i4.toInt ≤ 255) (S_cs : G_S_cs Z cs) (S_sio : G_S_sio Z sio) (hsio : G_hsio Z sio) (hcs : ¬ cs = 0) :
  Con w [] Z mn5 prog_52_method_4_code 5 (some .boolean) R_readAlikeByEitherSetting_73 Ts Ts f #[.ref a1] h0 (Q_readAlikeByEitherSetting_73 Z i1 i2 i3 i4 h0) := by
 refine con_of f #[vR a1, .unset, .unset, .unset, .unset] (plainFor_of_name pn_2) (fun m => rfl) Zf ?_
 intro C H hX0
 refine r_iconst H 1 1 d_g52_4_0 ?_
 refine r_istoreN H 2 #[vR a1, vI 1, .unset, .unset, .unset] d_g52_4_1 ?_
 refine r_iconst H 3 0 d_g52_4_2 ?_
 refine r_istoreN H 4 #[vR a1, vI 1, vI 0, .unset, .unset] d_g52_4_3 ?_
 refine r_iconst H 5 0 d_g52_4_4 ?_
 refine r_istoreN H 6 #[vR a1, vI 1, vI 0, vI 0, .unset] d_g52_4_5 ?_
 refine r_iloadN H 7 d_g52_4_6 ?_
 refine r_ifeqF H 10 d_g52_4_7 rfl (by decide) ?_
 refine r_iloadN H 11 d_g52_4_10 ?_
 refine r_aloadN H 12 d_g52_4_11 ?_
 refine r_virtual (z := mn4) (a := a1) (argsL := []) (rest := [.int 0]) (W := 1) H 15 d_g52_4_12 (tw30 hw) (tw31 hw) (nf_sel (tw33 hw)) (tw33 hw) (tw32 hw) (tw7 hw) (tw34 hw) E_a1 (lenOf pd_4 rfl) (rm_length_19 hw Ts a1 a2 c1 _ (4 : Int32) cs h0 f Zf Z0 F_value_a1 A_a2 E_a1 F_coder_a1 rfl S_cs hcs) ?_
 rintro _ _ ⟨p1, rfl, ep1, rfl⟩
 have hzp1 : (4 : Int32) = p1 := by rw [← ep1]; decide
 subst hzp1
 refine r_icmpgeF H 18 d_g52_4_15 ?_
 refine r_aloadN H 19 d_g52_4_18 ?_
 refine r_iloadN H 20 d_g52_4_19 ?_
 refine r_virtual (z := mn18) (a := a1) (argsL := [.int 0]) (rest := []) (W := 0) H 23 d_g52_4_20 (tw51 hw) (tw52 hw) (nf_sel (tw54 hw)) (tw54 hw) (tw53 hw) (tw7 hw) (tw55 hw) E_a1 (lenOf pd_16 rfl) (rm_charAt_20 hw Ts a1 (0 : Int32) a2 c1 _ (4 : Int32) (cB8 i1) cs sio h0 f Zf Z0 E_a1 F_coder_a1 F_value_a1 A_a2 rfl rfl (by decide) (by decide) (by decide) S_cs S_sio hsio hcs) ?_
 rintro _ _ ⟨p3, rfl, ep3, rp3, rfl⟩
 have hzp3 : i1 = p3 := by rw [← ep3]; exact (own_l8 i1 (by have := r_i1; omega)).symm
 subst hzp3
 refine r_istore H 25 #[vR a1, vI 1, vI 0, vI 0, vI i1] d_g52_4_23 ?_
 refine r_iload H 27 d_g52_4_25 ?_
 refine r_bipush H 29 39 d_g52_4_27 ?_
 refine Run.join (P := fun _ => True) (pcB := 43) (LB := fun _ => #[vR a1, vI 1, vI 0, vI 0, vI i1]) (SB := fun _ => [.int 1]) (fun key => ?_) ?_
 ·
  refine r_icmpne H 38 32 d_g52_4_29 (fun c5 => ?_) (fun c5 => ?_)
  ·
   refine r_iconst H 39 1 d_g52_4_38 ?_
   refine r_goto H 43 d_g52_4_39 ?_
   exact key 0 trivial
  ·
   refine r_iloadN H 33 d_g52_4_32 ?_
   refine r_iconst H 34 2 d_g52_4_33 ?_
   refine r_irem H 35 (0 : Int32) d_g52_4_34 (by decide) ?_
   refine r_ifneF H 38 d_g52_4_35 rfl (by decide) ?_
   refine r_iconst H 39 1 d_g52_4_38 ?_
   refine r_goto H 43 d_g52_4_39 ?_
   exact key 0 trivial
 rintro _ _
 refine r_istoreN H 44 #[vR a1, vI 1, vI 0, vI 0, vI i1] d_g52_4_43 ?_
 refine r_iload H 46 d_g52_4_44 ?_
 refine r_bipush H 48 92 d_g52_4_46 ?_
 refine Run.join (P := fun z => (if i1 = (92 : Int32) then (1 : Int32) else (0 : Int32)) = z ∧ (0 ≤ z.toInt ∧ z.toInt ≤ 1)) (pcB := 58) (LB := fun z => #[vR a1, vI 1, vI 0, vI 0, vI i1]) (SB := fun z => [.int z]) (fun key => ?_) ?_
 ·
  refine r_icmpne H 57 51 d_g52_4_48 (fun c7 => ?_) (fun c7 => ?_)
  ·
   refine r_iconst H 58 0 d_g52_4_57 ?_
   exact key (0 : Int32) ⟨(by rw [if_neg c7]), (by decide)⟩
  ·
   refine r_iloadN H 52 d_g52_4_51 ?_
   refine r_iconst H 53 1 d_g52_4_52 ?_
   refine r_iadd H 54 1 d_g52_4_53 (by decide) ?_
   refine r_goto H 58 d_g52_4_54 ?_
   exact key (1 : Int32) ⟨(by rw [if_pos c7]), (by decide)⟩
 rintro p9 ⟨ep9, rp9⟩
 refine r_istoreN H 59 #[vR a1, vI 1, vI p9, vI 0, vI i1] d_g52_4_58 ?_
 refine r_iinc H 62 #[vR a1, vI 1, vI p9, vI 1, vI i1] 1 d_g52_4_59 ?_
 refine r_goto H 6 d_g52_4_62 ?_
 refine r_iloadN H 7 d_g52_4_6 ?_
 refine r_ifeqF H 10 d_g52_4_7 rfl (by decide) ?_
 refine r_iloadN H 11 d_g52_4_10 ?_
 refine r_aloadN H 12 d_g52_4_11 ?_
 refine r_virtual (z := mn4) (a := a1) (argsL := []) (rest := [.int 1]) (W := 1) H 15 d_g52_4_12 (tw30 hw) (tw31 hw) (nf_sel (tw33 hw)) (tw33 hw) (tw32 hw) (tw7 hw) (tw34 hw) E_a1 (lenOf pd_4 rfl) (rm_length_19 hw Ts a1 a2 c1 _ (4 : Int32) cs h0 f Zf Z0 F_value_a1 A_a2 E_a1 F_coder_a1 rfl S_cs hcs) ?_
 rintro _ _ ⟨p10, rfl, ep10, rfl⟩
 have hzp10 : (4 : Int32) = p10 := by rw [← ep10]; decide
 subst hzp10
 refine r_icmpgeF H 18 d_g52_4_15 ?_
 refine r_aloadN H 19 d_g52_4_18 ?_
 refine r_iloadN H 20 d_g52_4_19 ?_
 refine r_virtual (z := mn18) (a := a1) (argsL := [.int 1]) (rest := []) (W := 0) H 23 d_g52_4_20 (tw51 hw) (tw52 hw) (nf_sel (tw54 hw)) (tw54 hw) (tw53 hw) (tw7 hw) (tw55 hw) E_a1 (lenOf pd_16 rfl) (rm_charAt_20 hw Ts a1 (1 : Int32) a2 c1 _ (4 : Int32) (cB8 i2) cs sio h0 f Zf Z0 E_a1 F_coder_a1 F_value_a1 A_a2 rfl rfl (by decide) (by decide) (by decide) S_cs S_sio hsio hcs) ?_
 rintro _ _ ⟨p12, rfl, ep12, rp12, rfl⟩
 have hzp12 : i2 = p12 := by rw [← ep12]; exact (own_l8 i2 (by have := r_i2; omega)).symm
 subst hzp12
 refine r_istore H 25 #[vR a1, vI 1, vI p9, vI 1, vI i2] d_g52_4_23 ?_
 refine r_iload H 27 d_g52_4_25 ?_
 refine r_bipush H 29 39 d_g52_4_27 ?_
 refine Run.join (P := fun z => (if i2 = (39 : Int32) then (if (p9 % (2 : Int32)) = (0 : Int32) then (1 : Int32) else (0 : Int32)) else (1 : Int32)) = z ∧ (0 ≤ z.toInt ∧ z.toInt ≤ 1)) (pcB := 43) (LB := fun z => #[vR a1, vI 1, vI p9, vI 1, vI i2]) (SB := fun z => [.int z]) (fun key => ?_) ?_
 ·
  refine r_icmpne H 38 32 d_g52_4_29 (fun c14 => ?_) (fun c14 => ?_)
  ·
   refine r_iconst H 39 1 d_g52_4_38 ?_
   refine r_goto H 43 d_g52_4_39 ?_
   exact key (1 : Int32) ⟨(by rw [if_neg c14]), (by decide)⟩
  ·
   refine r_iloadN H 33 d_g52_4_32 ?_
   refine r_iconst H 34 2 d_g52_4_33 ?_
   obtain ⟨p16, ep16, rp16⟩ : ∃ p : Int32, (p9 % (2 : Int32)) = p ∧ 0 ≤ p.toInt ∧ p.toInt ≤ 1 := ⟨_, rfl, (by have := rp9; have h := (c_irem p9 (2 : Int32) 2 (by decide)).1 (by omega); omega)⟩
   refine r_irem H 35 p16 d_g52_4_34 ep16 ?_
   refine Run.join (P := fun z => (if p16 = (0 : Int32) then (1 : Int32) else (0 : Int32)) = z ∧ (0 ≤ z.toInt ∧ z.toInt ≤ 1)) (pcB := 43) (LB := fun z => #[vR a1, vI 1, vI p9, vI 1, vI i2]) (SB := fun z => [.int z]) (fun key => ?_) ?_
   ·
    refine r_ifne H 42 38 d_g52_4_35 (fun c17 => ?_) (fun c17 => ?_)
    ·
     refine r_iconst H 43 0 d_g52_4_42 ?_
     exact key (0 : Int32) ⟨(by rw [if_neg c17]), (by decide)⟩
    ·
     refine r_iconst H 39 1 d_g52_4_38 ?_
     refine r_goto H 43 d_g52_4_39 ?_
     exact key (1 : Int32) ⟨(by rw [if_pos c17]), (by decide)⟩
   rintro p20 ⟨ep20, rp20⟩
   exact key p20 ⟨(by subst ep16 ep20; rw [if_pos c14]), (by have := rp20; omega)⟩
 rintro p21 ⟨ep21, rp21⟩
 refine r_istoreN H 44 #[vR a1, vI p21, vI p9, vI 1, vI i2] d_g52_4_43 ?_
 refine r_iload H 46 d_g52_4_44 ?_
 refine r_bipush H 48 92 d_g52_4_46 ?_
 refine Run.join (P := fun z => (if i2 = (92 : Int32) then (p9 + (1 : Int32)) else (0 : Int32)) = z ∧ (0 ≤ z.toInt ∧ z.toInt ≤ 2)) (pcB := 58) (LB := fun z => #[vR a1, vI p21, vI p9, vI 1, vI i2]) (SB := fun z => [.int z]) (fun key => ?_) ?_
 ·
  refine r_icmpne H 57 51 d_g52_4_48 (fun c22 => ?_) (fun c22 => ?_)
  ·
   refine r_iconst H 58 0 d_g52_4_57 ?_
   exact key (0 : Int32) ⟨(by rw [if_neg c22]), (by decide)⟩
  ·
   refine r_iloadN H 52 d_g52_4_51 ?_
   refine r_iconst H 53 1 d_g52_4_52 ?_
   obtain ⟨p24, ep24, rp24⟩ : ∃ p : Int32, (p9 + (1 : Int32)) = p ∧ 1 ≤ p.toInt ∧ p.toInt ≤ 2 := ⟨_, rfl, (by have := rp9; have : (1 : Int32).toInt = 1 := (by decide); have h1 := c_iadd p9 (1 : Int32); have h2 := rng32 (p9 + (1 : Int32)); omega)⟩
   refine r_iadd H 54 p24 d_g52_4_53 ep24 ?_
   refine r_goto H 58 d_g52_4_54 ?_
   exact key p24 ⟨(by subst ep24; rw [if_pos c22]), (by have := rp24; omega)⟩
 rintro p25 ⟨ep25, rp25⟩
 refine r_istoreN H 59 #[vR a1, vI p21, vI p25, vI 1, vI i2] d_g52_4_58 ?_
 refine r_iinc H 62 #[vR a1, vI p21, vI p25, vI 2, vI i2] 2 d_g52_4_59 ?_
 refine r_goto H 6 d_g52_4_62 ?_
 refine r_iloadN H 7 d_g52_4_6 ?_
 refine r_ifeq H 65 10 d_g52_4_7 (fun c26 => ?_) (fun c26 => ?_)
 ·
  have rr27 : 0 ≤ p21.toInt ∧ p21.toInt ≤ 0 := by have := rp21; have : (0 : Int32).toInt = 0 := (by decide); have hc_ := c26; simp only [Int32.lt_iff_toInt_lt, ← Int32.toInt_inj] at hc_; omega
  refine r_iloadN H 66 d_g52_4_65 ?_
  subst ep9 ep21 ep25
  exact r_nreturn (if i2 = (39 : Int32) then (if ((if i1 = (92 : Int32) then (1 : Int32) else (0 : Int32)) % (2 : Int32)) = (0 : Int32) then (1 : Int32) else (0 : Int32)) else (1 : Int32)) H d_g52_4_66 (nar_bool_id (by have := rr27; omega)) (⟨_, rfl, rfl, (by unfold fn_readAlikeByEitherSetting_73; rw [if_pos c26]), (by have := rr27; omega)⟩)
 ·
  refine r_iloadN H 11 d_g52_4_10 ?_
  refine r_aloadN H 12 d_g52_4_11 ?_
  refine r_virtual (z := mn4) (a := a1) (argsL := []) (rest := [.int 2]) (W := 1) H 15 d_g52_4_12 (tw30 hw) (tw31 hw) (nf_sel (tw33 hw)) (tw33 hw) (tw32 hw) (tw7 hw) (tw34 hw) E_a1 (lenOf pd_4 rfl) (rm_length_19 hw Ts a1 a2 c1 _ (4 : Int32) cs h0 f Zf Z0 F_value_a1 A_a2 E_a1 F_coder_a1 rfl S_cs hcs) ?_
  rintro _ _ ⟨p29, rfl, ep29, rfl⟩
  have hzp29 : (4 : Int32) = p29 := by rw [← ep29]; decide
  subst hzp29
  refine r_icmpgeF H 18 d_g52_4_15 ?_
  refine r_aloadN H 19 d_g52_4_18 ?_
  refine r_iloadN H 20 d_g52_4_19 ?_
  refine r_virtual (z := mn18) (a := a1) (argsL := [.int 2]) (rest := []) (W := 0) H 23 d_g52_4_20 (tw51 hw) (tw52 hw) (nf_sel (tw54 hw)) (tw54 hw) (tw53 hw) (tw7 hw) (tw55 hw) E_a1 (lenOf pd_16 rfl) (rm_charAt_20 hw Ts a1 (2 : Int32) a2 c1 _ (4 : Int32) (cB8 i3) cs sio h0 f Zf Z0 E_a1 F_coder_a1 F_value_a1 A_a2 rfl rfl (by decide) (by decide) (by decide) S_cs S_sio hsio hcs) ?_
  rintro _ _ ⟨p31, rfl, ep31, rp31, rfl⟩
  have hzp31 : i3 = p31 := by rw [← ep31]; exact (own_l8 i3 (by have := r_i3; omega)).symm
  subst hzp31
  refine r_istore H 25 #[vR a1, vI p21, vI p25, vI 2, vI i3] d_g52_4_23 ?_
  refine r_iload H 27 d_g52_4_25 ?_
  refine r_bipush H 29 39 d_g52_4_27 ?_
  refine Run.join (P := fun z => (if i3 = (39 : Int32) then (if (p25 % (2 : Int32)) = (0 : Int32) then (1 : Int32) else (0 : Int32)) else (1 : Int32)) = z ∧ (0 ≤ z.toInt ∧ z.toInt ≤ 1)) (pcB := 43) (LB := fun z => #[vR a1, vI p21, vI p25, vI 2, vI i3]) (SB := fun z => [.int z]) (fun key => ?_) ?_
  ·
   refine r_icmpne H 38 32 d_g52_4_29 (fun c33 => ?_) (fun c33 => ?_)
   ·
    refine r_iconst H 39 1 d_g52_4_38 ?_
    refine r_goto H 43 d_g52_4_39 ?_
    exact key (1 : Int32) ⟨(by rw [if_neg c33]), (by decide)⟩
   ·
    refine r_iloadN H 33 d_g52_4_32 ?_
    refine r_iconst H 34 2 d_g52_4_33 ?_
    obtain ⟨p35, ep35, rp35⟩ : ∃ p : Int32, (p25 % (2 : Int32)) = p ∧ 0 ≤ p.toInt ∧ p.toInt ≤ 1 := ⟨_, rfl, (by have := rp25; have h := (c_irem p25 (2 : Int32) 2 (by decide)).1 (by omega); omega)⟩
    refine r_irem H 35 p35 d_g52_4_34 ep35 ?_
    refine Run.join (P := fun z => (if p35 = (0 : Int32) then (1 : Int32) else (0 : Int32)) = z ∧ (0 ≤ z.toInt ∧ z.toInt ≤ 1)) (pcB := 43) (LB := fun z => #[vR a1, vI p21, vI p25, vI 2, vI i3]) (SB := fun z => [.int z]) (fun key => ?_) ?_
    ·
     refine r_ifne H 42 38 d_g52_4_35 (fun c36 => ?_) (fun c36 => ?_)
     ·
      refine r_iconst H 43 0 d_g52_4_42 ?_
      exact key (0 : Int32) ⟨(by rw [if_neg c36]), (by decide)⟩
     ·
      refine r_iconst H 39 1 d_g52_4_38 ?_
      refine r_goto H 43 d_g52_4_39 ?_
      exact key (1 : Int32) ⟨(by rw [if_pos c36]), (by decide)⟩
    rintro p39 ⟨ep39, rp39⟩
    exact key p39 ⟨(by subst ep35 ep39; rw [if_pos c33]), (by have := rp39; omega)⟩
  rintro p40 ⟨ep40, rp40⟩
  refine r_istoreN H 44 #[vR a1, vI p40, vI p25, vI 2, vI i3] d_g52_4_43 ?_
  refine r_iload H 46 d_g52_4_44 ?_
  refine r_bipush H 48 92 d_g52_4_46 ?_
  refine Run.join (P := fun z => (if i3 = (92 : Int32) then (p25 + (1 : Int32)) else (0 : Int32)) = z ∧ (0 ≤ z.toInt ∧ z.toInt ≤ 3)) (pcB := 58) (LB := fun z => #[vR a1, vI p40, vI p25, vI 2, vI i3]) (SB := fun z => [.int z]) (fun key => ?_) ?_
  ·
   refine r_icmpne H 57 51 d_g52_4_48 (fun c41 => ?_) (fun c41 => ?_)
   ·
    refine r_iconst H 58 0 d_g52_4_57 ?_
    exact key (0 : Int32) ⟨(by rw [if_neg c41]), (by decide)⟩
   ·
    refine r_iloadN H 52 d_g52_4_51 ?_
    refine r_iconst H 53 1 d_g52_4_52 ?_
    obtain ⟨p43, ep43, rp43⟩ : ∃ p : Int32, (p25 + (1 : Int32)) = p ∧ 1 ≤ p.toInt ∧ p.toInt ≤ 3 := ⟨_, rfl, (by have := rp25; have : (1 : Int32).toInt = 1 := (by decide); have h1 := c_iadd p25 (1 : Int32); have h2 := rng32 (p25 + (1 : Int32)); omega)⟩
    refine r_iadd H 54 p43 d_g52_4_53 ep43 ?_
    refine r_goto H 58 d_g52_4_54 ?_
    exact key p43 ⟨(by subst ep43; rw [if_pos c41]), (by have := rp43; omega)⟩
  rintro p44 ⟨ep44, rp44⟩
  refine r_istoreN H 59 #[vR a1, vI p40, vI p44, vI 2, vI i3] d_g52_4_58 ?_
  refine r_iinc H 62 #[vR a1, vI p40, vI p44, vI 3, vI i3] 3 d_g52_4_59 ?_
  refine r_goto H 6 d_g52_4_62 ?_
  refine r_iloadN H 7 d_g52_4_6 ?_
  refine r_ifeq H 65 10 d_g52_4_7 (fun c45 => ?_) (fun c45 => ?_)
  ·
   have rr46 : 0 ≤ p40.toInt ∧ p40.toInt ≤ 0 := by have := rp40; have : (0 : Int32).toInt = 0 := (by decide); have hc_ := c45; simp only [Int32.lt_iff_toInt_lt, ← Int32.toInt_inj] at hc_; omega
   refine r_iloadN H 66 d_g52_4_65 ?_
   subst ep9 ep21 ep25 ep40 ep44
   exact r_nreturn (if i3 = (39 : Int32) then (if ((if i2 = (92 : Int32) then ((if i1 = (92 : Int32) then (1 : Int32) else (0 : Int32)) + (1 : Int32)) else (0 : Int32)) % (2 : Int32)) = (0 : Int32) then (1 : Int32) else (0 : Int32)) else (1 : Int32)) H d_g52_4_66 (nar_bool_id (by have := rr46; omega)) (⟨_, rfl, rfl, (by unfold fn_readAlikeByEitherSetting_73; rw [if_neg c26, if_pos c45]), (by have := rr46; omega)⟩)
  ·
   refine r_iloadN H 11 d_g52_4_10 ?_
   refine r_aloadN H 12 d_g52_4_11 ?_
   refine r_virtual (z := mn4) (a := a1) (argsL := []) (rest := [.int 3]) (W := 1) H 15 d_g52_4_12 (tw30 hw) (tw31 hw) (nf_sel (tw33 hw)) (tw33 hw) (tw32 hw) (tw7 hw) (tw34 hw) E_a1 (lenOf pd_4 rfl) (rm_length_19 hw Ts a1 a2 c1 _ (4 : Int32) cs h0 f Zf Z0 F_value_a1 A_a2 E_a1 F_coder_a1 rfl S_cs hcs) ?_
   rintro _ _ ⟨p48, rfl, ep48, rfl⟩
   have hzp48 : (4 : Int32) = p48 := by rw [← ep48]; decide
   subst hzp48
   refine r_icmpgeF H 18 d_g52_4_15 ?_
   refine r_aloadN H 19 d_g52_4_18 ?_
   refine r_iloadN H 20 d_g52_4_19 ?_
   refine r_virtual (z := mn18) (a := a1) (argsL := [.int 3]) (rest := []) (W := 0) H 23 d_g52_4_20 (tw51 hw) (tw52 hw) (nf_sel (tw54 hw)) (tw54 hw) (tw53 hw) (tw7 hw) (tw55 hw) E_a1 (lenOf pd_16 rfl) (rm_charAt_20 hw Ts a1 (3 : Int32) a2 c1 _ (4 : Int32) (cB8 i4) cs sio h0 f Zf Z0 E_a1 F_coder_a1 F_value_a1 A_a2 rfl rfl (by decide) (by decide) (by decide) S_cs S_sio hsio hcs) ?_
   rintro _ _ ⟨p50, rfl, ep50, rp50, rfl⟩
   have hzp50 : i4 = p50 := by rw [← ep50]; exact (own_l8 i4 (by have := r_i4; omega)).symm
   subst hzp50
   refine r_istore H 25 #[vR a1, vI p40, vI p44, vI 3, vI i4] d_g52_4_23 ?_
   refine r_iload H 27 d_g52_4_25 ?_
   refine r_bipush H 29 39 d_g52_4_27 ?_
   refine Run.join (P := fun z => (if i4 = (39 : Int32) then (if (p44 % (2 : Int32)) = (0 : Int32) then (1 : Int32) else (0 : Int32)) else (1 : Int32)) = z ∧ (0 ≤ z.toInt ∧ z.toInt ≤ 1)) (pcB := 43) (LB := fun z => #[vR a1, vI p40, vI p44, vI 3, vI i4]) (SB := fun z => [.int z]) (fun key => ?_) ?_
   ·
    refine r_icmpne H 38 32 d_g52_4_29 (fun c52 => ?_) (fun c52 => ?_)
    ·
     refine r_iconst H 39 1 d_g52_4_38 ?_
     refine r_goto H 43 d_g52_4_39 ?_
     exact key (1 : Int32) ⟨(by rw [if_neg c52]), (by decide)⟩
    ·
     refine r_iloadN H 33 d_g52_4_32 ?_
     refine r_iconst H 34 2 d_g52_4_33 ?_
     obtain ⟨p54, ep54, rp54⟩ : ∃ p : Int32, (p44 % (2 : Int32)) = p ∧ 0 ≤ p.toInt ∧ p.toInt ≤ 1 := ⟨_, rfl, (by have := rp44; have h := (c_irem p44 (2 : Int32) 2 (by decide)).1 (by omega); omega)⟩
     refine r_irem H 35 p54 d_g52_4_34 ep54 ?_
     refine Run.join (P := fun z => (if p54 = (0 : Int32) then (1 : Int32) else (0 : Int32)) = z ∧ (0 ≤ z.toInt ∧ z.toInt ≤ 1)) (pcB := 43) (LB := fun z => #[vR a1, vI p40, vI p44, vI 3, vI i4]) (SB := fun z => [.int z]) (fun key => ?_) ?_
     ·
      refine r_ifne H 42 38 d_g52_4_35 (fun c55 => ?_) (fun c55 => ?_)
      ·
       refine r_iconst H 43 0 d_g52_4_42 ?_
       exact key (0 : Int32) ⟨(by rw [if_neg c55]), (by decide)⟩
      ·
       refine r_iconst H 39 1 d_g52_4_38 ?_
       refine r_goto H 43 d_g52_4_39 ?_
       exact key (1 : Int32) ⟨(by rw [if_pos c55]), (by decide)⟩
     rintro p58 ⟨ep58, rp58⟩
     exact key p58 ⟨(by subst ep54 ep58; rw [if_pos c52]), (by have := rp58; omega)⟩
   rintro p59 ⟨ep59, rp59⟩
   refine r_istoreN H 44 #[vR a1, vI p59, vI p44, vI 3, vI i4] d_g52_4_43 ?_
   refine r_iload H 46 d_g52_4_44 ?_
   refine r_bipush H 48 92 d_g52_4_46 ?_
   refine Run.join (P := fun z => (if i4 = (92 : Int32) then (p44 + (1 : Int32)) else (0 : Int32)) = z ∧ (0 ≤ z.toInt ∧ z.toInt ≤ 4)) (pcB := 58) (LB := fun z => #[vR a1, vI p59, vI p44, vI 3, vI i4]) (SB := fun z => [.int z]) (fun key => ?_) ?_
   ·
    refine r_icmpne H 57 51 d_g52_4_48 (fun c60 => ?_) (fun c60 => ?_)
    ·
     refine r_iconst H 58 0 d_g52_4_57 ?_
     exact key (0 : Int32) ⟨(by rw [if_neg c60]), (by decide)⟩
    ·
     refine r_iloadN H 52 d_g52_4_51 ?_
     refine r_iconst H 53 1 d_g52_4_52 ?_
     obtain ⟨p62, ep62, rp62⟩ : ∃ p : Int32, (p44 + (1 : Int32)) = p ∧ 1 ≤ p.toInt ∧ p.toInt ≤ 4 := ⟨_, rfl, (by have := rp44; have : (1 : Int32).toInt = 1 := (by decide); have h1 := c_iadd p44 (1 : Int32); have h2 := rng32 (p44 + (1 : Int32)); omega)⟩
     refine r_iadd H 54 p62 d_g52_4_53 ep62 ?_
     refine r_goto H 58 d_g52_4_54 ?_
     exact key p62 ⟨(by subst ep62; rw [if_pos c60]), (by have := rp62; omega)⟩
   rintro p63 ⟨ep63, rp63⟩
   refine r_istoreN H 59 #[vR a1, vI p59, vI p63, vI 3, vI i4] d_g52_4_58 ?_
   refine r_iinc H 62 #[vR a1, vI p59, vI p63, vI 4, vI i4] 4 d_g52_4_59 ?_
   refine r_goto H 6 d_g52_4_62 ?_
   refine r_iloadN H 7 d_g52_4_6 ?_
   refine r_ifeq H 65 10 d_g52_4_7 (fun c64 => ?_) (fun c64 => ?_)
   ·
    have rr65 : 0 ≤ p59.toInt ∧ p59.toInt ≤ 0 := by have := rp59; have : (0 : Int32).toInt = 0 := (by decide); have hc_ := c64; simp only [Int32.lt_iff_toInt_lt, ← Int32.toInt_inj] at hc_; omega
    refine r_iloadN H 66 d_g52_4_65 ?_
    subst ep9 ep21 ep25 ep40 ep44 ep59 ep63
    exact r_nreturn (if i4 = (39 : Int32) then (if ((if i3 = (92 : Int32) then ((if i2 = (92 : Int32) then ((if i1 = (92 : Int32) then (1 : Int32) else (0 : Int32)) + (1 : Int32)) else (0 : Int32)) + (1 : Int32)) else (0 : Int32)) % (2 : Int32)) = (0 : Int32) then (1 : Int32) else (0 : Int32)) else (1 : Int32)) H d_g52_4_66 (nar_bool_id (by have := rr65; omega)) (⟨_, rfl, rfl, (by unfold fn_readAlikeByEitherSetting_73; rw [if_neg c26, if_neg c45, if_pos c64]), (by have := rr65; omega)⟩)
   ·
    have rr66 : 1 ≤ p59.toInt ∧ p59.toInt ≤ 1 := by have := rp59; have : (0 : Int32).toInt = 0 := (by decide); have hc_ := c64; simp only [Int32.lt_iff_toInt_lt, ← Int32.toInt_inj] at hc_; omega
    refine r_iloadN H 11 d_g52_4_10 ?_
    refine r_aloadN H 12 d_g52_4_11 ?_
    refine r_virtual (z := mn4) (a := a1) (argsL := []) (rest := [.int 4]) (W := 1) H 15 d_g52_4_12 (tw30 hw) (tw31 hw) (nf_sel (tw33 hw)) (tw33 hw) (tw32 hw) (tw7 hw) (tw34 hw) E_a1 (lenOf pd_4 rfl) (rm_length_19 hw Ts a1 a2 c1 _ (4 : Int32) cs h0 f Zf Z0 F_value_a1 A_a2 E_a1 F_coder_a1 rfl S_cs hcs) ?_
    rintro _ _ ⟨p67, rfl, ep67, rfl⟩
    have hzp67 : (4 : Int32) = p67 := by rw [← ep67]; decide
    subst hzp67
    refine r_icmpgeT H 65 d_g52_4_15 ?_
    refine r_iloadN H 66 d_g52_4_65 ?_
    subst ep9 ep21 ep25 ep40 ep44 ep59 ep63
    exact r_nreturn (if i4 = (39 : Int32) then (if ((if i3 = (92 : Int32) then ((if i2 = (92 : Int32) then ((if i1 = (92 : Int32) then (1 : Int32) else (0 : Int32)) + (1 : Int32)) else (0 : Int32)) + (1 : Int32)) else (0 : Int32)) % (2 : Int32)) = (0 : Int32) then (1 : Int32) else (0 : Int32)) else (1 : Int32)) H d_g52_4_66 (nar_bool_id (by have := rr66; omega)) (⟨_, rfl, rfl, (by unfold fn_readAlikeByEitherSetting_73; rw [if_neg c26, if_neg c45, if_neg c64]), (by have := rr66; omega)⟩)
def fn_readAlikeByEitherSetting_74 (i1 : Int32) (i2 : Int32) (i3 : Int32) (i4 : Int32) : Int32 := (if (if i2 = (39 : Int32) then (if ((if i1 = (92 : Int32) then (1 : Int32) else (0 : Int32)) % (2 : Int32)) = (0 : Int32) then (1 : Int32) else (0 : Int32)) else (1 : Int32)) = (0 : Int32) then (if i2 = (39 : Int32) then (if ((if i1 = (92 : Int32) then (1 : Int32) else (0 : Int32)) % (2 : Int32)) = (0 : Int32) then (1 : Int32) else (0 : Int32)) else (1 : Int32)) else (if (if i3 = (39 : Int32) then (if ((if i2 = (92 : Int32) then ((if i1 = (92 : Int32) then (1 : Int32) else (0 : Int32)) + (1 : Int32)) else (0 : Int32)) % (2 : Int32)) = (0 : Int32) then (1 : Int32) else (0 : Int32)) else (1 : Int32)) = (0 : Int32) then (if i3 = (39 : Int32) then (if ((if i2 = (92 : Int32) then ((if i1 = (92 : Int32) then (1 : Int32) else (0 : Int32)) + (1 : Int32)) else (0 : Int32)) % (2 : Int32)) = (0 : Int32) then (1 : Int32) else (0 : Int32)) else (1 : Int32)) else (if (if i4 = (39 : Int32) then (if ((if i3 = (92 : Int32) then ((if i2 = (92 : Int32) then ((if i1 = (92 : Int32) then (1 : Int32) else (0 : Int32)) + (1 : Int32)) else (0 : Int32)) + (1 : Int32)) else (0 : Int32)) % (2 : Int32)) = (0 : Int32) then (1 : Int32) else (0 : Int32)) else (1 : Int32)) = (0 : Int32) then (if i4 = (39 : Int32) then (if ((if i3 = (92 : Int32) then ((if i2 = (92 : Int32) then ((if i1 = (92 : Int32) then (1 : Int32) else (0 : Int32)) + (1 : Int32)) else (0 : Int32)) + (1 : Int32)) else (0 : Int32)) % (2 : Int32)) = (0 : Int32) then (1 : Int32) else (0 : Int32)) else (1 : Int32)) else (if i4 = (39 : Int32) then (if ((if i3 = (92 : Int32) then ((if i2 = (92 : Int32) then ((if i1 = (92 : Int32) then (1 : Int32) else (0 : Int32)) + (1 : Int32)) else (0 : Int32)) + (1 : Int32)) else (0 : Int32)) % (2 : Int32)) = (0 : Int32) then (1 : Int32) else (0 : Int32)) else (1 : Int32)))))
def Q_readAlikeByEitherSetting_74 (Z : State) (i1 : Int32) (i2 : Int32) (i3 : Int32) (i4 : Int32) (h0 : Heap) (v : Option Value) (h : Heap) : Prop := ∃ z : Int32, v = some (.int z) ∧ h0 = h ∧ (fn_readAlikeByEitherSetting_74 i1 i2 i3 i4) = z ∧ (0 ≤ z.toInt ∧ z.toInt ≤ 1)
def R_readAlikeByEitherSetting_74 : Room := { frames := 5, cells := 0, slots := 0, locals := 66 }
theorem rm_readAlikeByEitherSetting_74 {w : Bool} {Z : State} {a0 : Array Value} (hw : HW a0 Z) (Ts : List String) (a1 : Addr) (a2 : Addr) (i1 : Int32) (i2 : Int32) (i3 : Int32) (i4 : Int32) (c1 : ClassId) (cs : Int32) (sio : Value) (h0 : Heap) (f : Nat) (Zf : Z.heap.size ≤ f) (Z0 : f ≤ h0.size) (E_a1 : Exa Z h0 a1 "java/lang/String") (F_value_a1 : Fld Z h0 a1 "java/lang/String" "value" "[B" (.ref a2)) (A_a2 : Ar Z h0 a2 c1 .byte [.int (cL8 i1), .int (cH8 i1), .int (cL8 i2), .int (cH8 i2), .int (cL8 i3), .int (cH8 i3), .int (cL8 i4), .int (cH8 i4)]) (F_coder_a1 : Fld Z h0 a1 "java/lang/String" "coder" "B" (.int 1)) (r_i1 : 0 ≤ i1.toInt ∧ i1.toInt ≤ 65535) (r_i2 : 0 ≤ i2.toInt ∧ i2.toInt ≤ 65535) (r_i3 : 0 ≤ i3.toInt ∧ i3.toInt ≤ 65535) (r_i4 : 0 ≤ i4.toInt ∧ i4.toInt ≤ 65535) (S_cs : G_S_cs Z cs) (S_sio : G_S_sio Z sio) (hsio : G_hsio Z sio) (S__assertionsDisabled : G_S__assertionsDisabled Z) (S_HI_BYTE_SHIFT : G_S_HI_BYTE_SHIFT Z) (S_LO_BYTE_SHIFT : G_S_LO_BYTE_SHIFT Z) (hcs : ¬ cs = 0) :
  Con w [] Z mn5 prog_52_method_4_code 5 (some .boolean) R_readAlikeByEitherSetting_74 Ts Ts f #[.ref a1] h0 (Q_readAlikeByEitherSetting_74 Z i1 i2 i3 i4 h0) := by
 refine con_of f #[vR a1, .unset, .unset, .unset, .unset] (plainFor_of_name pn_2) (fun m => rfl) Zf ?_
 intro C H hX0
 refine r_iconst H 1 1 d_g52_4_0 ?_
 refine r_istoreN H 2 #[vR a1, vI 1, .unset, .unset, .unset] d_g52_4_1 ?_
 refine r_iconst H 3 0 d_g52_4_2 ?_
 refine r_istoreN H 4 #[vR a1, vI 1, vI 0, .unset, .unset] d_g52_4_3 ?_
 refine r_iconst H 5 0 d_g52_4_4 ?_
 refine r_istoreN H 6 #[vR a1, vI 1, vI 0, vI 0, .unset] d_g52_4_5 ?_
 refine r_iloadN H 7 d_g52_4_6 ?_
 refine r_ifeqF H 10 d_g52_4_7 rfl (by decide) ?_
 refine r_iloadN H 11 d_g52_4_10 ?_
 refine r_aloadN H 12 d_g52_4_11 ?_
 refine r_virtual (z := mn4) (a := a1) (argsL := []) (rest := [.int 0]) (W := 1) H 15 d_g52_4_12 (tw30 hw) (tw31 hw) (nf_sel (tw33 hw)) (tw33 hw) (tw32 hw) (tw7 hw) (tw34 hw) E_a1 (lenOf pd_4 rfl) (rm_length_26 hw Ts a1 a2 c1 _ (8 : Int32) cs h0 f Zf Z0 F_value_a1 A_a2 E_a1 F_coder_a1 rfl S_cs hcs) ?_
 rintro _ _ ⟨p1, rfl, ep1, rfl⟩
 have hzp1 : (4 : Int32) = p1 := by rw [← ep1]; decide
 subst hzp1
 refine r_icmpgeF H 18 d_g52_4_15 ?_
 refine r_aloadN H 19 d_g52_4_18 ?_
 refine r_iloadN H 20 d_g52_4_19 ?_
 refine r_virtual (z := mn18) (a := a1) (argsL := [.int 0]) (rest := []) (W := 0) H 23 d_g52_4_20 (tw51 hw) (tw52 hw) (nf_sel (tw54 hw)) (tw54 hw) (tw53 hw) (tw7 hw) (tw55 hw) E_a1 (lenOf pd_16 rfl) (rm_charAt_28 hw Ts a1 (0 : Int32) a2 c1 _ (8 : Int32) (cL8 i1) (cH8 i1) cs sio h0 f Zf Z0 E_a1 F_coder_a1 F_value_a1 A_a2 rfl rfl rfl (by decide) (by decide) (by decide) (by decide) S_cs S_sio hsio S__assertionsDisabled S_HI_BYTE_SHIFT S_LO_BYTE_SHIFT hcs) ?_
 rintro _ _ ⟨p3, rfl, ep3, rp3, rfl⟩
 have hzp3 : i1 = p3 := by rw [← ep3]; exact (own_u16 i1 (by have := r_i1; omega)).symm
 subst hzp3
 refine r_istore H 25 #[vR a1, vI 1, vI 0, vI 0, vI i1] d_g52_4_23 ?_
 refine r_iload H 27 d_g52_4_25 ?_
 refine r_bipush H 29 39 d_g52_4_27 ?_
 refine Run.join (P := fun _ => True) (pcB := 43) (LB := fun _ => #[vR a1, vI 1, vI 0, vI 0, vI i1]) (SB := fun _ => [.int 1]) (fun key => ?_) ?_
 ·
  refine r_icmpne H 38 32 d_g52_4_29 (fun c5 => ?_) (fun c5 => ?_)
  ·
   refine r_iconst H 39 1 d_g52_4_38 ?_
   refine r_goto H 43 d_g52_4_39 ?_
   exact key 0 trivial
  ·
   refine r_iloadN H 33 d_g52_4_32 ?_
   refine r_iconst H 34 2 d_g52_4_33 ?_
   refine r_irem H 35 (0 : Int32) d_g52_4_34 (by decide) ?_
   refine r_ifneF H 38 d_g52_4_35 rfl (by decide) ?_
   refine r_iconst H 39 1 d_g52_4_38 ?_
   refine r_goto H 43 d_g52_4_39 ?_
   exact key 0 trivial
 rintro _ _
 refine r_istoreN H 44 #[vR a1, vI 1, vI 0, vI 0, vI i1] d_g52_4_43 ?_
 refine r_iload H 46 d_g52_4_44 ?_
 refine r_bipush H 48 92 d_g52_4_46 ?_
 refine Run.join (P := fun z => (if i1 = (92 : Int32) then (1 : Int32) else (0 : Int32)) = z ∧ (0 ≤ z.toInt ∧ z.toInt ≤ 1)) (pcB := 58) (LB := fun z => #[vR a1, vI 1, vI 0, vI 0, vI i1]) (SB := fun z => [.int z]) (fun key => ?_) ?_
 ·
  refine r_icmpne H 57 51 d_g52_4_48 (fun c7 => ?_) (fun c7 => ?_)
  ·
   refine r_iconst H 58 0 d_g52_4_57 ?_
   exact key (0 : Int32) ⟨(by rw [if_neg c7]), (by decide)⟩
  ·
   refine r_iloadN H 52 d_g52_4_51 ?_
   refine r_iconst H 53 1 d_g52_4_52 ?_
   refine r_iadd H 54 1 d_g52_4_53 (by decide) ?_
   refine r_goto H 58 d_g52_4_54 ?_
   exact key (1 : Int32) ⟨(by rw [if_pos c7]), (by decide)⟩
 rintro p9 ⟨ep9, rp9⟩
 refine r_istoreN H 59 #[vR a1, vI 1, vI p9, vI 0, vI i1] d_g52_4_58 ?_
 refine r_iinc H 62 #[vR a1, vI 1, vI p9, vI 1, vI i1] 1 d_g52_4_59 ?_
 refine r_goto H 6 d_g52_4_62 ?_
 refine r_iloadN H 7 d_g52_4_6 ?_
 refine r_ifeqF H 10 d_g52_4_7 rfl (by decide) ?_
 refine r_iloadN H 11 d_g52_4_10 ?_
 refine r_aloadN H 12 d_g52_4_11 ?_
 refine r_virtual (z := mn4) (a := a1) (argsL := []) (rest := [.int 1]) (W := 1) H 15 d_g52_4_12 (tw30 hw) (tw31 hw) (nf_sel (tw33 hw)) (tw33 hw) (tw32 hw) (tw7 hw) (tw34 hw) E_a1 (lenOf pd_4 rfl) (rm_length_26 hw Ts a1 a2 c1 _ (8 : Int32) cs h0 f Zf Z0 F_value_a1 A_a2 E_a1 F_coder_a1 rfl S_cs hcs) ?_
 rintro _ _ ⟨p10, rfl, ep10, rfl⟩
 have hzp10 : (4 : Int32) = p10 := by rw [← ep10]; decide
 subst hzp10
 refine r_icmpgeF H 18 d_g52_4_15 ?_
 refine r_aloadN H 19 d_g52_4_18 ?_
 refine r_iloadN H 20 d_g52_4_19 ?_
 refine r_virtual (z := mn18) (a := a1) (argsL := [.int 1]) (rest := []) (W := 0) H 23 d_g52_4_20 (tw51 hw) (tw52 hw) (nf_sel (tw54 hw)) (tw54 hw) (tw53 hw) (tw7 hw) (tw55 hw) E_a1 (lenOf pd_16 rfl) (rm_charAt_28 hw Ts a1 (1 : Int32) a2 c1 _ (8 : Int32) (cL8 i2) (cH8 i2) cs sio h0 f Zf Z0 E_a1 F_coder_a1 F_value_a1 A_a2 rfl rfl rfl (by decide) (by decide) (by decide) (by decide) S_cs S_sio hsio S__assertionsDisabled S_HI_BYTE_SHIFT S_LO_BYTE_SHIFT hcs) ?_
 rintro _ _ ⟨p12, rfl, ep12, rp12, rfl⟩
 have hzp12 : i2 = p12 := by rw [← ep12]; exact (own_u16 i2 (by have := r_i2; omega)).symm
 subst hzp12
 refine r_istore H 25 #[vR a1, vI 1, vI p9, vI 1, vI i2] d_g52_4_23 ?_
 refine r_iload H 27 d_g52_4_25 ?_
 refine r_bipush H 29 39 d_g52_4_27 ?_
 refine Run.join (P := fun z => (if i2 = (39 : Int32) then (if (p9 % (2 : Int32)) = (0 : Int32) then (1 : Int32) else (0 : Int32)) else (1 : Int32)) = z ∧ (0 ≤ z.toInt ∧ z.toInt ≤ 1)) (pcB := 43) (LB := fun z => #[vR a1, vI 1, vI p9, vI 1, vI i2]) (SB := fun z => [.int z]) (fun key => ?_) ?_
 ·
  refine r_icmpne H 38 32 d_g52_4_29 (fun c14 => ?_) (fun c14 => ?_)
  ·
   refine r_iconst H 39 1 d_g52_4_38 ?_
   refine r_goto H 43 d_g52_4_39 ?_
   exact key (1 : Int32) ⟨(by rw [if_neg c14]), (by decide)⟩
  ·
   refine r_iloadN H 33 d_g52_4_32 ?_
   refine r_iconst H 34 2 d_g52_4_33 ?_
   obtain ⟨p16, ep16, rp16⟩ : ∃ p : Int32, (p9 % (2 : Int32)) = p ∧ 0 ≤ p.toInt ∧ p.toInt ≤ 1 := ⟨_, rfl, (by have := rp9; have h := (c_irem p9 (2 : Int32) 2 (by decide)).1 (by omega); omega)⟩
   refine r_irem H 35 p16 d_g52_4_34 ep16 ?_
   refine Run.join (P := fun z => (if p16 = (0 : Int32) then (1 : Int32) else (0 : Int32)) = z ∧ (0 ≤ z.toInt ∧ z.toInt ≤ 1)) (pcB := 43) (LB := fun z => #[vR a1, vI 1, vI p9, vI 1, vI i2]) (SB := fun z => [.int z]) (fun key => ?_) ?_
   ·
    refine r_ifne H 42 38 d_g52_4_35 (fun c17 => ?_) (fun c17 => ?_)
    ·
     refine r_iconst H 43 0 d_g52_4_42 ?_
     exact key (0 : Int32) ⟨(by rw [if_neg c17]), (by decide)⟩
    ·
     refine r_iconst H 39 1 d_g52_4_38 ?_
     refine r_goto H 43 d_g52_4_39 ?_
     exact key (1 : Int32) ⟨(by rw [if_pos c17]), (by decide)⟩
   rintro p20 ⟨ep20, rp20⟩
   exact key p20 ⟨(by subst ep16 ep20; rw [if_pos c14]), (by have := rp20; omega)⟩
 rintro p21 ⟨ep21, rp21⟩
 refine r_istoreN H 44 #[vR a1, vI p21, vI p9, vI 1, vI i2] d_g52_4_43 ?_
 refine r_iload H 46 d_g52_4_44 ?_
 refine r_bipush H 48 92 d_g52_4_46 ?_
 refine Run.join (P := fun z => (if i2 = (92 : Int32) then (p9 + (1 : Int32)) else (0 : Int32)) = z ∧ (0 ≤ z.toInt ∧ z.toInt ≤ 2)) (pcB := 58) (LB := fun z => #[vR a1, vI p21, vI p9, vI 1, vI i2]) (SB := fun z => [.int z]) (fun key => ?_) ?_
 ·
  refine r_icmpne H 57 51 d_g52_4_48 (fun c22 => ?_) (fun c22 => ?_)
  ·
   refine r_iconst H 58 0 d_g52_4_57 ?_
   exact key (0 : Int32) ⟨(by rw [if_neg c22]), (by decide)⟩
  ·
   refine r_iloadN H 52 d_g52_4_51 ?_
   refine r_iconst H 53 1 d_g52_4_52 ?_
   obtain ⟨p24, ep24, rp24⟩ : ∃ p : Int32, (p9 + (1 : Int32)) = p ∧ 1 ≤ p.toInt ∧ p.toInt ≤ 2 := ⟨_, rfl, (by have := rp9; have : (1 : Int32).toInt = 1 := (by decide); have h1 := c_iadd p9 (1 : Int32); have h2 := rng32 (p9 + (1 : Int32)); omega)⟩
   refine r_iadd H 54 p24 d_g52_4_53 ep24 ?_
   refine r_goto H 58 d_g52_4_54 ?_
   exact key p24 ⟨(by subst ep24; rw [if_pos c22]), (by have := rp24; omega)⟩
 rintro p25 ⟨ep25, rp25⟩
 refine r_istoreN H 59 #[vR a1, vI p21, vI p25, vI 1, vI i2] d_g52_4_58 ?_
 refine r_iinc H 62 #[vR a1, vI p21, vI p25, vI 2, vI i2] 2 d_g52_4_59 ?_
 refine r_goto H 6 d_g52_4_62 ?_
 refine r_iloadN H 7 d_g52_4_6 ?_
 refine r_ifeq H 65 10 d_g52_4_7 (fun c26 => ?_) (fun c26 => ?_)
 ·
  have rr27 : 0 ≤ p21.toInt ∧ p21.toInt ≤ 0 := by have := rp21; have : (0 : Int32).toInt = 0 := (by decide); have hc_ := c26; simp only [Int32.lt_iff_toInt_lt, ← Int32.toInt_inj] at hc_; omega
  refine r_iloadN H 66 d_g52_4_65 ?_
  subst ep9 ep21 ep25
  exact r_nreturn (if i2 = (39 : Int32) then (if ((if i1 = (92 : Int32) then (1 : Int32) else (0 : Int32)) % (2 : Int32)) = (0 : Int32) then (1 : Int32) else (0 : Int32)) else (1 : Int32)) H d_g52_4_66 (nar_bool_id (by have := rr27; omega)) (⟨_, rfl, rfl, (by unfold fn_readAlikeByEitherSetting_74; rw [if_pos c26]), (by have := rr27; omega)⟩)
 ·
  refine r_iloadN H 11 d_g52_4_10 ?_
  refine r_aloadN H 12 d_g52_4_11 ?_
  refine r_virtual (z := mn4) (a := a1) (argsL := []) (rest := [.int 2]) (W := 1) H 15 d_g52_4_12 (tw30 hw) (tw31 hw) (nf_sel (tw33 hw)) (tw33 hw) (tw32 hw) (tw7 hw) (tw34 hw) E_a1 (lenOf pd_4 rfl) (rm_length_26 hw Ts a1 a2 c1 _ (8 : Int32) cs h0 f Zf Z0 F_value_a1 A_a2 E_a1 F_coder_a1 rfl S_cs hcs) ?_
  rintro _ _ ⟨p29, rfl, ep29, rfl⟩
  have hzp29 : (4 : Int32) = p29 := by rw [← ep29]; decide
  subst hzp29
  refine r_icmpgeF H 18 d_g52_4_15 ?_
  refine r_aloadN H 19 d_g52_4_18 ?_
  refine r_iloadN H 20 d_g52_4_19 ?_
  refine r_virtual (z := mn18) (a := a1) (argsL := [.int 2]) (rest := []) (W := 0) H 23 d_g52_4_20 (tw51 hw) (tw52 hw) (nf_sel (tw54 hw)) (tw54 hw) (tw53 hw) (tw7 hw) (tw55 hw) E_a1 (lenOf pd_16 rfl) (rm_charAt_28 hw Ts a1 (2 : Int32) a2 c1 _ (8 : Int32) (cL8 i3) (cH8 i3) cs sio h0 f Zf Z0 E_a1 F_coder_a1 F_value_a1 A_a2 rfl rfl rfl (by decide) (by decide) (by decide) (by decide) S_cs S_sio hsio S__assertionsDisabled S_HI_BYTE_SHIFT S_LO_BYTE_SHIFT hcs) ?_
  rintro _ _ ⟨p31, rfl, ep31, rp31, rfl⟩
  have hzp31 : i3 = p31 := by rw [← ep31]; exact (own_u16 i3 (by have := r_i3; omega)).symm
  subst hzp31
  refine r_istore H 25 #[vR a1, vI p21, vI p25, vI 2, vI i3] d_g52_4_23 ?_
  refine r_iload H 27 d_g52_4_25 ?_
  refine r_bipush H 29 39 d_g52_4_27 ?_
  refine Run.join (P := fun z => (if i3 = (39 : Int32) then (if (p25 % (2 : Int32)) = (0 : Int32) then (1 : Int32) else (0 : Int32)) else (1 : Int32)) = z ∧ (0 ≤ z.toInt ∧ z.toInt ≤ 1)) (pcB := 43) (LB := fun z => #[vR a1, vI p21, vI p25, vI 2, vI i3]) (SB := fun z => [.int z]) (fun key => ?_) ?_
  ·
   refine r_icmpne H 38 32 d_g52_4_29 (fun c33 => ?_) (fun c33 => ?_)
   ·
    refine r_iconst H 39 1 d_g52_4_38 ?_
    refine r_goto H 43 d_g52_4_39 ?_
    exact key (1 : Int32) ⟨(by rw [if_neg c33]), (by decide)⟩
   ·
    refine r_iloadN H 33 d_g52_4_32 ?_
    refine r_iconst H 34 2 d_g52_4_33 ?_
    obtain ⟨p35, ep35, rp35⟩ : ∃ p : Int32, (p25 % (2 : Int32)) = p ∧ 0 ≤ p.toInt ∧ p.toInt ≤ 1 := ⟨_, rfl, (by have := rp25; have h := (c_irem p25 (2 : Int32) 2 (by decide)).1 (by omega); omega)⟩
    refine r_irem H 35 p35 d_g52_4_34 ep35 ?_
    refine Run.join (P := fun z => (if p35 = (0 : Int32) then (1 : Int32) else (0 : Int32)) = z ∧ (0 ≤ z.toInt ∧ z.toInt ≤ 1)) (pcB := 43) (LB := fun z => #[vR a1, vI p21, vI p25, vI 2, vI i3]) (SB := fun z => [.int z]) (fun key => ?_) ?_
    ·
     refine r_ifne H 42 38 d_g52_4_35 (fun c36 => ?_) (fun c36 => ?_)
     ·
      refine r_iconst H 43 0 d_g52_4_42 ?_
      exact key (0 : Int32) ⟨(by rw [if_neg c36]), (by decide)⟩
     ·
      refine r_iconst H 39 1 d_g52_4_38 ?_
      refine r_goto H 43 d_g52_4_39 ?_
      exact key (1 : Int32) ⟨(by rw [if_pos c36]), (by decide)⟩
    rintro p39 ⟨ep39, rp39⟩
    exact key p39 ⟨(by subst ep35 ep39; rw [if_pos c33]), (by have := rp39; omega)⟩
  rintro p40 ⟨ep40, rp40⟩
  refine r_istoreN H 44 #[vR a1, vI p40, vI p25, vI 2, vI i3] d_g52_4_43 ?_
  refine r_iload H 46 d_g52_4_44 ?_
  refine r_bipush H 48 92 d_g52_4_46 ?_
  refine Run.join (P := fun z => (if i3 = (92 : Int32) then (p25 + (1 : Int32)) else (0 : Int32)) = z ∧ (0 ≤ z.toInt ∧ z.toInt ≤ 3)) (pcB := 58) (LB := fun z => #[vR a1, vI p40, vI p25, vI 2, vI i3]) (SB := fun z => [.int z]) (fun key => ?_) ?_
  ·
   refine r_icmpne H 57 51 d_g52_4_48 (fun c41 => ?_) (fun c41 => ?_)
   ·
    refine r_iconst H 58 0 d_g52_4_57 ?_
    exact key (0 : Int32) ⟨(by rw [if_neg c41]), (by decide)⟩
   ·
    refine r_iloadN H 52 d_g52_4_51 ?_
    refine r_iconst H 53 1 d_g52_4_52 ?_
    obtain ⟨p43, ep43, rp43⟩ : ∃ p : Int32, (p25 + (1 : Int32)) = p ∧ 1 ≤ p.toInt ∧ p.toInt ≤ 3 := ⟨_, rfl, (by have := rp25; have : (1 : Int32).toInt = 1 := (by decide); have h1 := c_iadd p25 (1 : Int32); have h2 := rng32 (p25 + (1 : Int32)); omega)⟩
    refine r_iadd H 54 p43 d_g52_4_53 ep43 ?_
    refine r_goto H 58 d_g52_4_54 ?_
    exact key p43 ⟨(by subst ep43; rw [if_pos c41]), (by have := rp43; omega)⟩
  rintro p44 ⟨ep44, rp44⟩
  refine r_istoreN H 59 #[vR a1, vI p40, vI p44, vI 2, vI i3] d_g52_4_58 ?_
  refine r_iinc H 62 #[vR a1, vI p40, vI p44, vI 3, vI i3] 3 d_g52_4_59 ?_
  refine r_goto H 6 d_g52_4_62 ?_
  refine r_iloadN H 7 d_g52_4_6 ?_
  refine r_ifeq H 65 10 d_g52_4_7 (fun c45 => ?_) (fun c45 => ?_)
  ·
   have rr46 : 0 ≤ p40.toInt ∧ p40.toInt ≤ 0 := by have := rp40; have : (0 : Int32).toInt = 0 := (by decide); have hc_ := c45; simp only [Int32.lt_iff_toInt_lt, ← Int32.toInt_inj] at hc_; omega
   refine r_iloadN H 66 d_g52_4_65 ?_
   subst ep9 ep21 ep25 ep40 ep44
   exact r_nreturn (if i3 = (39 : Int32) then (if ((if i2 = (92 : Int32) then ((if i1 = (92 : Int32) then (1 : Int32) else (0 : Int32)) + (1 : Int32)) else (0 : Int32)) % (2 : Int32)) = (0 : Int32) then (1 : Int32) else (0 : Int32)) else (1 : Int32)) H d_g52_4_66 (nar_bool_id (by have := rr46; omega)) (⟨_, rfl, rfl, (by unfold fn_readAlikeByEitherSetting_74; rw [if_neg c26, if_pos c45]), (by have := rr46; omega)⟩)
  ·
   refine r_iloadN H 11 d_g52_4_10 ?_
   refine r_aloadN H 12 d_g52_4_11 ?_
   refine r_virtual (z := mn4) (a := a1) (argsL := []) (rest := [.int 3]) (W := 1) H 15 d_g52_4_12 (tw30 hw) (tw31 hw) (nf_sel (tw33 hw)) (tw33 hw) (tw32 hw) (tw7 hw) (tw34 hw) E_a1 (lenOf pd_4 rfl) (rm_length_26 hw Ts a1 a2 c1 _ (8 : Int32) cs h0 f Zf Z0 F_value_a1 A_a2 E_a1 F_coder_a1 rfl S_cs hcs) ?_
   rintro _ _ ⟨p48, rfl, ep48, rfl⟩
   have hzp48 : (4 : Int32) = p48 := by rw [← ep48]; decide
   subst hzp48
   refine r_icmpgeF H 18 d_g52_4_15 ?_
   refine r_aloadN H 19 d_g52_4_18 ?_
   refine r_iloadN H 20 d_g52_4_19 ?_
   refine r_virtual (z := mn18) (a := a1) (argsL := [.int 3]) (rest := []) (W := 0) H 23 d_g52_4_20 (tw51 hw) (tw52 hw) (nf_sel (tw54 hw)) (tw54 hw) (tw53 hw) (tw7 hw) (tw55 hw) E_a1 (lenOf pd_16 rfl) (rm_charAt_28 hw Ts a1 (3 : Int32) a2 c1 _ (8 : Int32) (cL8 i4) (cH8 i4) cs sio h0 f Zf Z0 E_a1 F_coder_a1 F_value_a1 A_a2 rfl rfl rfl (by decide) (by decide) (by decide) (by decide) S_cs S_sio hsio S__assertionsDisabled S_HI_BYTE_SHIFT S_LO_BYTE_SHIFT hcs) ?_
   rintro _ _ ⟨p50, rfl, ep50, rp50, rfl⟩
   have hzp50 : i4 = p50 := by rw [← ep50]; exact (own_u16 i4 (by have := r_i4; omega)).symm
   subst hzp50
   refine r_istore H 25 #[vR a1, vI p40, vI p44, vI 3, vI i4] d_g52_4_23 ?_
   refine r_iload H 27 d_g52_4_25 ?_
   refine r_bipush H 29 39 d_g52_4_27 ?_
   refine Run.join (P := fun z => (if i4 = (39 : Int32) then (if (p44 % (2 : Int32)) = (0 : Int32) then (1 : Int32) else (0 : Int32)) else (1 : Int32)) = z ∧ (0 ≤ z.toInt ∧ z.toInt ≤ 1)) (pcB := 43) (LB := fun z => #[vR a1, vI p40, vI p44, vI 3, vI i4]) (SB := fun z => [.int z]) (fun key => ?_) ?_
   ·
    refine r_icmpne H 38 32 d_g52_4_29 (fun c52 => ?_) (fun c52 => ?_)
    ·
     refine r_iconst H 39 1 d_g52_4_38 ?_
     refine r_goto H 43 d_g52_4_39 ?_
     exact key (1 : Int32) ⟨(by rw [if_neg c52]), (by decide)⟩
    ·
     refine r_iloadN H 33 d_g52_4_32 ?_
     refine r_iconst H 34 2 d_g52_4_33 ?_
     obtain ⟨p54, ep54, rp54⟩ : ∃ p : Int32, (p44 % (2 : Int32)) = p ∧ 0 ≤ p.toInt ∧ p.toInt ≤ 1 := ⟨_, rfl, (by have := rp44; have h := (c_irem p44 (2 : Int32) 2 (by decide)).1 (by omega); omega)⟩
     refine r_irem H 35 p54 d_g52_4_34 ep54 ?_
     refine Run.join (P := fun z => (if p54 = (0 : Int32) then (1 : Int32) else (0 : Int32)) = z ∧ (0 ≤ z.toInt ∧ z.toInt ≤ 1)) (pcB := 43) (LB := fun z => #[vR a1, vI p40, vI p44, vI 3, vI i4]) (SB := fun z => [.int z]) (fun key => ?_) ?_
     ·
      refine r_ifne H 42 38 d_g52_4_35 (fun c55 => ?_) (fun c55 => ?_)
      ·
       refine r_iconst H 43 0 d_g52_4_42 ?_
       exact key (0 : Int32) ⟨(by rw [if_neg c55]), (by decide)⟩
      ·
       refine r_iconst H 39 1 d_g52_4_38 ?_
       refine r_goto H 43 d_g52_4_39 ?_
       exact key (1 : Int32) ⟨(by rw [if_pos c55]), (by decide)⟩
     rintro p58 ⟨ep58, rp58⟩
     exact key p58 ⟨(by subst ep54 ep58; rw [if_pos c52]), (by have := rp58; omega)⟩
   rintro p59 ⟨ep59, rp59⟩
   refine r_istoreN H 44 #[vR a1, vI p59, vI p44, vI 3, vI i4] d_g52_4_43 ?_
   refine r_iload H 46 d_g52_4_44 ?_
   refine r_bipush H 48 92 d_g52_4_46 ?_
   refine Run.join (P := fun z => (if i4 = (92 : Int32) then (p44 + (1 : Int32)) else (0 : Int32)) = z ∧ (0 ≤ z.toInt ∧ z.toInt ≤ 4)) (pcB := 58) (LB := fun z => #[vR a1, vI p59, vI p44, vI 3, vI i4]) (SB := fun z => [.int z]) (fun key => ?_) ?_
   ·
    refine r_icmpne H 57 51 d_g52_4_48 (fun c60 => ?_) (fun c60 => ?_)
    ·
     refine r_iconst H 58 0 d_g52_4_57 ?_
     exact key (0 : Int32) ⟨(by rw [if_neg c60]), (by decide)⟩
    ·
     refine r_iloadN H 52 d_g52_4_51 ?_
     refine r_iconst H 53 1 d_g52_4_52 ?_
     obtain ⟨p62, ep62, rp62⟩ : ∃ p : Int32, (p44 + (1 : Int32)) = p ∧ 1 ≤ p.toInt ∧ p.toInt ≤ 4 := ⟨_, rfl, (by have := rp44; have : (1 : Int32).toInt = 1 := (by decide); have h1 := c_iadd p44 (1 : Int32); have h2 := rng32 (p44 + (1 : Int32)); omega)⟩
     refine r_iadd H 54 p62 d_g52_4_53 ep62 ?_
     refine r_goto H 58 d_g52_4_54 ?_
     exact key p62 ⟨(by subst ep62; rw [if_pos c60]), (by have := rp62; omega)⟩
   rintro p63 ⟨ep63, rp63⟩
   refine r_istoreN H 59 #[vR a1, vI p59, vI p63, vI 3, vI i4] d_g52_4_58 ?_
   refine r_iinc H 62 #[vR a1, vI p59, vI p63, vI 4, vI i4] 4 d_g52_4_59 ?_
   refine r_goto H 6 d_g52_4_62 ?_
   refine r_iloadN H 7 d_g52_4_6 ?_
   refine r_ifeq H 65 10 d_g52_4_7 (fun c64 => ?_) (fun c64 => ?_)
   ·
    have rr65 : 0 ≤ p59.toInt ∧ p59.toInt ≤ 0 := by have := rp59; have : (0 : Int32).toInt = 0 := (by decide); have hc_ := c64; simp only [Int32.lt_iff_toInt_lt, ← Int32.toInt_inj] at hc_; omega
    refine r_iloadN H 66 d_g52_4_65 ?_
    subst ep9 ep21 ep25 ep40 ep44 ep59 ep63
    exact r_nreturn (if i4 = (39 : Int32) then (if ((if i3 = (92 : Int32) then ((if i2 = (92 : Int32) then ((if i1 = (92 : Int32) then (1 : Int32) else (0 : Int32)) + (1 : Int32)) else (0 : Int32)) + (1 : Int32)) else (0 : Int32)) % (2 : Int32)) = (0 : Int32) then (1 : Int32) else (0 : Int32)) else (1 : Int32)) H d_g52_4_66 (nar_bool_id (by have := rr65; omega)) (⟨_, rfl, rfl, (by unfold fn_readAlikeByEitherSetting_74; rw [if_neg c26, if_neg c45, if_pos c64]), (by have := rr65; omega)⟩)
   ·
    have rr66 : 1 ≤ p59.toInt ∧ p59.toInt ≤ 1 := by have := rp59; have : (0 : Int32).toInt = 0 := (by decide); have hc_ := c64; simp only [Int32.lt_iff_toInt_lt, ← Int32.toInt_inj] at hc_; omega
    refine r_iloadN H 11 d_g52_4_10 ?_
    refine r_aloadN H 12 d_g52_4_11 ?_
    refine r_virtual (z := mn4) (a := a1) (argsL := []) (rest := [.int 4]) (W := 1) H 15 d_g52_4_12 (tw30 hw) (tw31 hw) (nf_sel (tw33 hw)) (tw33 hw) (tw32 hw) (tw7 hw) (tw34 hw) E_a1 (lenOf pd_4 rfl) (rm_length_26 hw Ts a1 a2 c1 _ (8 : Int32) cs h0 f Zf Z0 F_value_a1 A_a2 E_a1 F_coder_a1 rfl S_cs hcs) ?_
    rintro _ _ ⟨p67, rfl, ep67, rfl⟩
    have hzp67 : (4 : Int32) = p67 := by rw [← ep67]; decide
    subst hzp67
    refine r_icmpgeT H 65 d_g52_4_15 ?_
    refine r_iloadN H 66 d_g52_4_65 ?_
    subst ep9 ep21 ep25 ep40 ep44 ep59 ep63
    exact r_nreturn (if i4 = (39 : Int32) then (if ((if i3 = (92 : Int32) then ((if i2 = (92 : Int32) then ((if i1 = (92 : Int32) then (1 : Int32) else (0 : Int32)) + (1 : Int32)) else (0 : Int32)) + (1 : Int32)) else (0 : Int32)) % (2 : Int32)) = (0 : Int32) then (1 : Int32) else (0 : Int32)) else (1 : Int32)) H d_g52_4_66 (nar_bool_id (by have := rr66; omega)) (⟨_, rfl, rfl, (by unfold fn_readAlikeByEitherSetting_74; rw [if_neg c26, if_neg c45, if_neg c64]), (by have := rr66; omega)⟩)
def Q_compress_78 (Z : State) (a2 : Addr) (i1 : Int32) (i2 : Int32) (i3 : Int32) (i4 : Int32) (i5 : Int32) (c2 : ClassId) (h0 : Heap) (v : Option Value) (h : Heap) : Prop := (v = some (.int 5) ∧ (¬ (255 : Int32) < i1) ∧ (¬ (255 : Int32) < i2) ∧ (¬ (255 : Int32) < i3) ∧ (¬ (255 : Int32) < i4) ∧ (¬ (255 : Int32) < i5) ∧ Keep h0 h [a2] ∧ Ar Z h a2 c2 .byte [.int (cB8 i1), .int (cB8 i2), .int (cB8 i3), .int (cB8 i4), .int (cB8 i5)] ∧ Exa Z h a2 "[B") ∨ (v = some (.int 4) ∧ (¬ (255 : Int32) < i1) ∧ (¬ (255 : Int32) < i2) ∧ (¬ (255 : Int32) < i3) ∧ (¬ (255 : Int32) < i4) ∧ ((255 : Int32) < i5) ∧ Keep h0 h [a2] ∧ Ar Z h a2 c2 .byte [.int (cB8 i1), .int (cB8 i2), .int (cB8 i3), .int (cB8 i4), .int 0] ∧ Exa Z h a2 "[B") ∨ (v = some (.int 3) ∧ (¬ (255 : Int32) < i1) ∧ (¬ (255 : Int32) < i2) ∧ (¬ (255 : Int32) < i3) ∧ ((255 : Int32) < i4) ∧ Keep h0 h [a2] ∧ Ar Z h a2 c2 .byte [.int (cB8 i1), .int (cB8 i2), .int (cB8 i3), .int 0, .int 0] ∧ Exa Z h a2 "[B") ∨ (v = some (.int 2) ∧ (¬ (255 : Int32) < i1) ∧ (¬ (255 : Int32) < i2) ∧ ((255 : Int32) < i3) ∧ Keep h0 h [a2] ∧ Ar Z h a2 c2 .byte [.int (cB8 i1), .int (cB8 i2), .int 0, .int 0, .int 0] ∧ Exa Z h a2 "[B") ∨ (v = some (.int 1) ∧ (¬ (255 : Int32) < i1) ∧ ((255 : Int32) < i2) ∧ Keep h0 h [a2] ∧ Ar Z h a2 c2 .byte [.int (cB8 i1), .int 0, .int 0, .int 0, .int 0] ∧ Exa Z h a2 "[B") ∨ (v = some (.int 0) ∧ ((255 : Int32) < i1) ∧ h0 = h)
def R_compress_78 : Room := { frames := 0, cells := 0, slots := 0, locals := 0 }
theorem rm_compress_78 {w : Bool} {Z : State} {a0 : Array Value} (hw : HW a0 Z) (Ts : List String) (a1 : Addr) (a2 : Addr) (i1 : Int32) (i2 : Int32) (i3 : Int32) (i4 : Int32) (i5 : Int32) (c1 : ClassId) (c2 : ClassId) (h0 : Heap) (f : Nat) (Zf : Z.heap.size ≤ f) (Z0 : f ≤ h0.size) (A_a1 : Ar Z h0 a1 c1 .char [.int i1, .int i2, .int i3, .int i4, .int i5]) (A_a2 : Ar Z h0 a2 c2 .byte [.int 0, .int 0, .int 0, .int 0, .int 0]) (g_a2 : f ≤ a2) (E_a2 : Exa Z h0 a2 "[B") (E_a1 : Exa Z h0 a1 "[C") (r_i1 : 0 ≤ i1.toInt ∧ i1.toInt ≤ 65535) (r_i2 : 0 ≤ i2.toInt ∧ i2.toInt ≤ 65535) (r_i3 : 0 ≤ i3.toInt ∧ i3.toInt ≤ 65535) (r_i4 : 0 ≤ i4.toInt ∧ i4.toInt ≤ 65535) (r_i5 : 0 ≤ i5.toInt ∧ i5.toInt ≤ 65535) :
  Con w [] Z mn6 jdk_52_method_21_code 7 (some .int) R_compress_78 Ts Ts f #[.ref a1, .int 0, .ref a2, .int 0, .int 5] h0 (Q_compress_78 Z a2 i1 i2 i3 i4 i5 c2 h0) := by
 refine con_of f #[vR a1, vI 0, vR a2, vI 0, vI 5, .unset, .unset] (plainFor_of_name pn_3) (fun m => rfl) Zf ?_
 intro C H hX0
 refine r_iconst H 1 0 d_j52_21_0 ?_
 refine r_istore H 3 #[vR a1, vI 0, vR a2, vI 0, vI 5, vI 0, .unset] d_j52_21_1 ?_
 refine r_iload H 5 d_j52_21_3 ?_
 refine r_iload H 7 d_j52_21_5 ?_
 refine r_icmpgeF H 10 d_j52_21_7 ?_
 refine r_aloadN H 11 d_j52_21_10 ?_
 refine r_iloadN H 12 d_j52_21_11 ?_
 refine r_caload H 13 i1 d_j52_21_12 A_a1 ?_
 refine r_istore H 15 #[vR a1, vI 0, vR a2, vI 0, vI 5, vI 0, vI i1] d_j52_21_13 ?_
 refine r_iload H 17 d_j52_21_15 ?_
 refine r_sipush H 20 255 d_j52_21_17 ?_
 refine r_icmple H 26 23 d_j52_21_20 (fun c1 => ?_) (fun c1 => ?_)
 ·
  refine r_aloadN H 27 d_j52_21_26 ?_
  refine r_iloadN H 28 d_j52_21_27 ?_
  refine r_iload H 30 d_j52_21_28 ?_
  obtain ⟨p3, ep3, rp3⟩ : ∃ p : Int32, (i1.toInt8.toInt32) = p ∧ -128 ≤ p.toInt ∧ p.toInt ≤ 127 := ⟨_, rfl, (by have h := c_i2b i1; omega)⟩
  refine r_i2b H 31 p3 d_j52_21_30 ep3 ?_
  refine r_bastore H 32 p3 d_j52_21_31 A_a2 g_a2 (nar_byte_id (by have := rp3; omega)) ?_
  intro h4 K4 A4
  change Ar Z h4 a2 c2 .byte [.int p3, .int 0, .int 0, .int 0, .int 0] at A4
  refine r_iinc H 35 #[vR a1, vI 1, vR a2, vI 0, vI 5, vI 0, vI i1] 1 d_j52_21_32 ?_
  refine r_iinc H 38 #[vR a1, vI 1, vR a2, vI 1, vI 5, vI 0, vI i1] 1 d_j52_21_35 ?_
  refine r_iinc H 41 #[vR a1, vI 1, vR a2, vI 1, vI 5, vI 1, vI i1] 1 d_j52_21_38 ?_
  refine r_goto H 3 d_j52_21_41 ?_
  refine r_iload H 5 d_j52_21_3 ?_
  refine r_iload H 7 d_j52_21_5 ?_
  refine r_icmpgeF H 10 d_j52_21_7 ?_
  refine r_aloadN H 11 d_j52_21_10 ?_
  refine r_iloadN H 12 d_j52_21_11 ?_
  have q5 := (E_a1.keep K4)
  have q6 := (E_a2.keep K4)
  have q7 := (A_a1.keep K4 (ninS (ne_exa q5 q6 (by decide)) nin0))
  refine r_caload H 13 i2 d_j52_21_12 q7 ?_
  refine r_istore H 15 #[vR a1, vI 1, vR a2, vI 1, vI 5, vI 1, vI i2] d_j52_21_13 ?_
  refine r_iload H 17 d_j52_21_15 ?_
  refine r_sipush H 20 255 d_j52_21_17 ?_
  refine r_icmple H 26 23 d_j52_21_20 (fun c8 => ?_) (fun c8 => ?_)
  ·
   refine r_aloadN H 27 d_j52_21_26 ?_
   refine r_iloadN H 28 d_j52_21_27 ?_
   refine r_iload H 30 d_j52_21_28 ?_
   obtain ⟨p10, ep10, rp10⟩ : ∃ p : Int32, (i2.toInt8.toInt32) = p ∧ -128 ≤ p.toInt ∧ p.toInt ≤ 127 := ⟨_, rfl, (by have h := c_i2b i2; omega)⟩
   refine r_i2b H 31 p10 d_j52_21_30 ep10 ?_
   refine r_bastore H 32 p10 d_j52_21_31 A4 g_a2 (nar_byte_id (by have := rp10; omega)) ?_
   intro h11 K11 A11
   change Ar Z h11 a2 c2 .byte [.int p3, .int p10, .int 0, .int 0, .int 0] at A11
   refine r_iinc H 35 #[vR a1, vI 2, vR a2, vI 1, vI 5, vI 1, vI i2] 2 d_j52_21_32 ?_
   refine r_iinc H 38 #[vR a1, vI 2, vR a2, vI 2, vI 5, vI 1, vI i2] 2 d_j52_21_35 ?_
   refine r_iinc H 41 #[vR a1, vI 2, vR a2, vI 2, vI 5, vI 2, vI i2] 2 d_j52_21_38 ?_
   refine r_goto H 3 d_j52_21_41 ?_
   refine r_iload H 5 d_j52_21_3 ?_
   refine r_iload H 7 d_j52_21_5 ?_
   refine r_icmpgeF H 10 d_j52_21_7 ?_
   refine r_aloadN H 11 d_j52_21_10 ?_
   refine r_iloadN H 12 d_j52_21_11 ?_
   have q12 := (q5.keep K11)
   have q13 := (q6.keep K11)
   have q14 := (q7.keep K11 (ninS (ne_exa q12 q13 (by decide)) nin0))
   refine r_caload H 13 i3 d_j52_21_12 q14 ?_
   refine r_istore H 15 #[vR a1, vI 2, vR a2, vI 2, vI 5, vI 2, vI i3] d_j52_21_13 ?_
   refine r_iload H 17 d_j52_21_15 ?_
   refine r_sipush H 20 255 d_j52_21_17 ?_
   refine r_icmple H 26 23 d_j52_21_20 (fun c15 => ?_) (fun c15 => ?_)
   ·
    refine r_aloadN H 27 d_j52_21_26 ?_
    refine r_iloadN H 28 d_j52_21_27 ?_
    refine r_iload H 30 d_j52_21_28 ?_
    obtain ⟨p17, ep17, rp17⟩ : ∃ p : Int32, (i3.toInt8.toInt32) = p ∧ -128 ≤ p.toInt ∧ p.toInt ≤ 127 := ⟨_, rfl, (by have h := c_i2b i3; omega)⟩
    refine r_i2b H 31 p17 d_j52_21_30 ep17 ?_
    refine r_bastore H 32 p17 d_j52_21_31 A11 g_a2 (nar_byte_id (by have := rp17; omega)) ?_
    intro h18 K18 A18
    change Ar Z h18 a2 c2 .byte [.int p3, .int p10, .int p17, .int 0, .int 0] at A18
    refine r_iinc H 35 #[vR a1, vI 3, vR a2, vI 2, vI 5, vI 2, vI i3] 3 d_j52_21_32 ?_
    refine r_iinc H 38 #[vR a1, vI 3, vR a2, vI 3, vI 5, vI 2, vI i3] 3 d_j52_21_35 ?_
    refine r_iinc H 41 #[vR a1, vI 3, vR a2, vI 3, vI 5, vI 3, vI i3] 3 d_j52_21_38 ?_
    refine r_goto H 3 d_j52_21_41 ?_
    refine r_iload H 5 d_j52_21_3 ?_
    refine r_iload H 7 d_j52_21_5 ?_
    refine r_icmpgeF H 10 d_j52_21_7 ?_
    refine r_aloadN H 11 d_j52_21_10 ?_
    refine r_iloadN H 12 d_j52_21_11 ?_
    have q19 := (q12.keep K18)
    have q20 := (q13.keep K18)
    have q21 := (q14.keep K18 (ninS (ne_exa q19 q20 (by decide)) nin0))
    refine r_caload H 13 i4 d_j52_21_12 q21 ?_
    refine r_istore H 15 #[vR a1, vI 3, vR a2, vI 3, vI 5, vI 3, vI i4] d_j52_21_13 ?_
    refine r_iload H 17 d_j52_21_15 ?_
    refine r_sipush H 20 255 d_j52_21_17 ?_
    refine r_icmple H 26 23 d_j52_21_20 (fun c22 => ?_) (fun c22 => ?_)
    ·
     refine r_aloadN H 27 d_j52_21_26 ?_
     refine r_iloadN H 28 d_j52_21_27 ?_
     refine r_iload H 30 d_j52_21_28 ?_
     obtain ⟨p24, ep24, rp24⟩ : ∃ p : Int32, (i4.toInt8.toInt32) = p ∧ -128 ≤ p.toInt ∧ p.toInt ≤ 127 := ⟨_, rfl, (by have h := c_i2b i4; omega)⟩
     refine r_i2b H 31 p24 d_j52_21_30 ep24 ?_
     refine r_bastore H 32 p24 d_j52_21_31 A18 g_a2 (nar_byte_id (by have := rp24; omega)) ?_
     intro h25 K25 A25
     change Ar Z h25 a2 c2 .byte [.int p3, .int p10, .int p17, .int p24, .int 0] at A25
     refine r_iinc H 35 #[vR a1, vI 4, vR a2, vI 3, vI 5, vI 3, vI i4] 4 d_j52_21_32 ?_
     refine r_iinc H 38 #[vR a1, vI 4, vR a2, vI 4, vI 5, vI 3, vI i4] 4 d_j52_21_35 ?_
     refine r_iinc H 41 #[vR a1, vI 4, vR a2, vI 4, vI 5, vI 4, vI i4] 4 d_j52_21_38 ?_
     refine r_goto H 3 d_j52_21_41 ?_
     refine r_iload H 5 d_j52_21_3 ?_
     refine r_iload H 7 d_j52_21_5 ?_
     refine r_icmpgeF H 10 d_j52_21_7 ?_
     refine r_aloadN H 11 d_j52_21_10 ?_
     refine r_iloadN H 12 d_j52_21_11 ?_
     have q26 := (q19.keep K25)
     have q27 := (q20.keep K25)
     have q28 := (q21.keep K25 (ninS (ne_exa q26 q27 (by decide)) nin0))
     refine r_caload H 13 i5 d_j52_21_12 q28 ?_
     refine r_istore H 15 #[vR a1, vI 4, vR a2, vI 4, vI 5, vI 4, vI i5] d_j52_21_13 ?_
     refine r_iload H 17 d_j52_21_15 ?_
     refine r_sipush H 20 255 d_j52_21_17 ?_
     refine r_icmple H 26 23 d_j52_21_20 (fun c29 => ?_) (fun c29 => ?_)
     ·
      refine r_aloadN H 27 d_j52_21_26 ?_
      refine r_iloadN H 28 d_j52_21_27 ?_
      refine r_iload H 30 d_j52_21_28 ?_
      obtain ⟨p31, ep31, rp31⟩ : ∃ p : Int32, (i5.toInt8.toInt32) = p ∧ -128 ≤ p.toInt ∧ p.toInt ≤ 127 := ⟨_, rfl, (by have h := c_i2b i5; omega)⟩
      refine r_i2b H 31 p31 d_j52_21_30 ep31 ?_
      refine r_bastore H 32 p31 d_j52_21_31 A25 g_a2 (nar_byte_id (by have := rp31; omega)) ?_
      intro h32 K32 A32
      change Ar Z h32 a2 c2 .byte [.int p3, .int p10, .int p17, .int p24, .int p31] at A32
      refine r_iinc H 35 #[vR a1, vI 5, vR a2, vI 4, vI 5, vI 4, vI i5] 5 d_j52_21_32 ?_
      refine r_iinc H 38 #[vR a1, vI 5, vR a2, vI 5, vI 5, vI 4, vI i5] 5 d_j52_21_35 ?_
      refine r_iinc H 41 #[vR a1, vI 5, vR a2, vI 5, vI 5, vI 5, vI i5] 5 d_j52_21_38 ?_
      refine r_goto H 3 d_j52_21_41 ?_
      refine r_iload H 5 d_j52_21_3 ?_
      refine r_iload H 7 d_j52_21_5 ?_
      refine r_icmpgeT H 44 d_j52_21_7 ?_
      refine r_iload H 46 d_j52_21_44 ?_
      have k33 : Keep h0 h4 [a2] := Keep.trans (Keep.refl h0 [a2]) K4 (allS (Or.inl (List.mem_of_getElem? (i := 0) rfl)) all0)
      have k34 : Keep h0 h11 [a2] := Keep.trans k33 K11 (allS (Or.inl (List.mem_of_getElem? (i := 0) rfl)) all0)
      have k35 : Keep h0 h18 [a2] := Keep.trans k34 K18 (allS (Or.inl (List.mem_of_getElem? (i := 0) rfl)) all0)
      have k36 : Keep h0 h25 [a2] := Keep.trans k35 K25 (allS (Or.inl (List.mem_of_getElem? (i := 0) rfl)) all0)
      have k37 : Keep h0 h32 [a2] := Keep.trans k36 K32 (allS (Or.inl (List.mem_of_getElem? (i := 0) rfl)) all0)
      have q38 := (q27.keep K32)
      subst ep3 ep10 ep17 ep24 ep31
      exact r_ireturn H d_j52_21_46 (Or.inl ⟨rfl, c1, c8, c15, c22, c29, k37, A32, q38⟩)
     ·
      refine r_iload H 25 d_j52_21_23 ?_
      have k40 : Keep h0 h4 [a2] := Keep.trans (Keep.refl h0 [a2]) K4 (allS (Or.inl (List.mem_of_getElem? (i := 0) rfl)) all0)
      have k41 : Keep h0 h11 [a2] := Keep.trans k40 K11 (allS (Or.inl (List.mem_of_getElem? (i := 0) rfl)) all0)
      have k42 : Keep h0 h18 [a2] := Keep.trans k41 K18 (allS (Or.inl (List.mem_of_getElem? (i := 0) rfl)) all0)
      have k43 : Keep h0 h25 [a2] := Keep.trans k42 K25 (allS (Or.inl (List.mem_of_getElem? (i := 0) rfl)) all0)
      subst ep3 ep10 ep17 ep24
      exact r_ireturn H d_j52_21_25 (Or.inr (Or.inl ⟨rfl, c1, c8, c15, c22, c29, k43, A25, q27⟩))
    ·
     refine r_iload H 25 d_j52_21_23 ?_
     have k45 : Keep h0 h4 [a2] := Keep.trans (Keep.refl h0 [a2]) K4 (allS (Or.inl (List.mem_of_getElem? (i := 0) rfl)) all0)
     have k46 : Keep h0 h11 [a2] := Keep.trans k45 K11 (allS (Or.inl (List.mem_of_getElem? (i := 0) rfl)) all0)
     have k47 : Keep h0 h18 [a2] := Keep.trans k46 K18 (allS (Or.inl (List.mem_of_getElem? (i := 0) rfl)) all0)
     subst ep3 ep10 ep17
     exact r_ireturn H d_j52_21_25 (Or.inr (Or.inr (Or.inl ⟨rfl, c1, c8, c15, c22, k47, A18, q20⟩)))
   ·
    refine r_iload H 25 d_j52_21_23 ?_
    have k49 : Keep h0 h4 [a2] := Keep.trans (Keep.refl h0 [a2]) K4 (allS (Or.inl (List.mem_of_getElem? (i := 0) rfl)) all0)
    have k50 : Keep h0 h11 [a2] := Keep.trans k49 K11 (allS (Or.inl (List.mem_of_getElem? (i := 0) rfl)) all0)
    subst ep3 ep10
    exact r_ireturn H d_j52_21_25 (Or.inr (Or.inr (Or.inr (Or.inl ⟨rfl, c1, c8, c15, k50, A11, q13⟩))))
  ·
   refine r_iload H 25 d_j52_21_23 ?_
   have k52 : Keep h0 h4 [a2] := Keep.trans (Keep.refl h0 [a2]) K4 (allS (Or.inl (List.mem_of_getElem? (i := 0) rfl)) all0)
   subst ep3
   exact r_ireturn H d_j52_21_25 (Or.inr (Or.inr (Or.inr (Or.inr (Or.inl ⟨rfl, c1, c8, k52, A4, q6⟩)))))
 ·
  refine r_iload H 25 d_j52_21_23 ?_
  exact r_ireturn H d_j52_21_25 (Or.inr (Or.inr (Or.inr (Or.inr (Or.inr (⟨rfl, c1, rfl⟩))))))
def Q_newBytesLength_81 (Z : State) (h0 : Heap) (v : Option Value) (h : Heap) : Prop := v = some (.int 10) ∧ h0 = h
def R_newBytesLength_81 : Room := { frames := 0, cells := 0, slots := 0, locals := 0 }
theorem rm_newBytesLength_81 {w : Bool} {Z : State} {a0 : Array Value} (hw : HW a0 Z) (Ts : List String) (h0 : Heap) (f : Nat) (Zf : Z.heap.size ≤ f) (Z0 : f ≤ h0.size) :
  Con w [] Z mn7 jdk_52_method_3_code 1 (some .int) R_newBytesLength_81 Ts Ts f #[.int 5] h0 (Q_newBytesLength_81 Z h0) := by
 refine con_of f #[vI 5] (plainFor_of_name pn_3) (fun m => rfl) Zf ?_
 intro C H hX0
 refine r_iloadN H 1 d_j52_3_0 ?_
 refine r_ifgeT H 12 d_j52_3_1 ?_
 refine r_iloadN H 13 d_j52_3_12 ?_
 refine r_ldcI H 15 d_j52_3_13 (tw83 hw) ?_
 refine r_icmpltT H 55 d_j52_3_15 ?_
 refine r_iloadN H 56 d_j52_3_55 ?_
 refine r_iconst H 57 1 d_j52_3_56 ?_
 refine r_ishl H 58 10 d_j52_3_57 ?_
 exact r_ireturn H d_j52_3_58 (⟨rfl, rfl⟩)
def Q_newBytesFor_80 (Z : State) (h0 : Heap) (v : Option Value) (h : Heap) : Prop := ∃ (b2 : Addr) (kc2 : ClassId), v = some (.ref b2) ∧ Keep h0 h [] ∧ h0.size ≤ b2 ∧ Ar Z h b2 kc2 .byte [.int 0, .int 0, .int 0, .int 0, .int 0, .int 0, .int 0, .int 0, .int 0, .int 0] ∧ Exa Z h b2 "[B"
def R_newBytesFor_80 : Room := { frames := 1, cells := 1, slots := 10, locals := 12 }
theorem rm_newBytesFor_80 {w : Bool} {Z : State} {a0 : Array Value} (hw : HW a0 Z) (Ts : List String) (h0 : Heap) (f : Nat) (Zf : Z.heap.size ≤ f) (Z0 : f ≤ h0.size) :
  Con w [] Z mn8 jdk_52_method_2_code 1 (some (.array .byte)) R_newBytesFor_80 Ts Ts f #[.int 5] h0 (Q_newBytesFor_80 Z h0) := by
 refine con_of f #[vI 5] (plainFor_of_name pn_3) (fun m => rfl) Zf ?_
 intro C H hX0
 refine r_iloadN H 1 d_j52_2_0 ?_
 refine r_static (argsL := [.int 5]) (rest := []) (W := 0) H 4 d_j52_2_1 (tw80 hw) (tw81 hw) (tw43 hw) (tw82 hw) (lenOf pd_7 rfl) (rm_newBytesLength_81 hw Ts h0 f Zf Z0) ?_
 rintro _ _ ⟨rfl, rfl⟩
 refine r_newP H 6 "[B" 10 d_j52_2_4 (tw19 hw) ?_
 intro h2 b2 kc2 g2 l2 K2 E2 A2
 change Ar Z h2 b2 kc2 .byte [.int 0, .int 0, .int 0, .int 0, .int 0, .int 0, .int 0, .int 0, .int 0, .int 0] at A2
 have k3 : Keep h0 h2 [] := Keep.trans (Keep.refl h0 []) K2 all0
 exact r_areturn H d_j52_2_6 (⟨b2, kc2, rfl, k3, (nlt nlr (Nat.le_of_eq g2.symm)), A2, E2⟩)
def Q_putChar_82 (Z : State) (a1 : Addr) (i1 : Int32) (i4 : Int32) (i5 : Int32) (i6 : Int32) (i7 : Int32) (i8 : Int32) (i9 : Int32) (i10 : Int32) (i11 : Int32) (c1 : ClassId) (h0 : Heap) (v : Option Value) (h : Heap) : Prop := v = none ∧ Keep h0 h [a1] ∧ Ar Z h a1 c1 .byte [.int (cL8 i1), .int (cH8 i1), .int i4, .int i5, .int i6, .int i7, .int i8, .int i9, .int i10, .int i11] ∧ Exa Z h a1 "[B"
def R_putChar_82 : Room := { frames := 0, cells := 0, slots := 0, locals := 0 }
theorem rm_putChar_82 {w : Bool} {Z : State} {a0 : Array Value} (hw : HW a0 Z) (Ts : List String) (a1 : Addr) (i1 : Int32) (i2 : Int32) (i3 : Int32) (i4 : Int32) (i5 : Int32) (i6 : Int32) (i7 : Int32) (i8 : Int32) (i9 : Int32) (i10 : Int32) (i11 : Int32) (c1 : ClassId) (h0 : Heap) (f : Nat) (Zf : Z.heap.size ≤ f) (Z0 : f ≤ h0.size) (A_a1 : Ar Z h0 a1 c1 .byte [.int i2, .int i3, .int i4, .int i5, .int i6, .int i7, .int i8, .int i9, .int i10, .int i11]) (g_a1 : f ≤ a1) (E_a1 : Exa Z h0 a1 "[B") (r_i1 : 0 ≤ i1.toInt ∧ i1.toInt ≤ 65535) (S__assertionsDisabled : G_S__assertionsDisabled Z) (S_HI_BYTE_SHIFT : G_S_HI_BYTE_SHIFT Z) (S_LO_BYTE_SHIFT : G_S_LO_BYTE_SHIFT Z) :
  Con w [] Z mn9 jdk_52_method_4_code 3 none R_putChar_82 Ts Ts f #[.ref a1, .int 0, .int i1] h0 (Q_putChar_82 Z a1 i1 i4 i5 i6 i7 i8 i9 i10 i11 c1 h0) := by
 refine con_of f #[vR a1, vI 0, vI i1] (plainFor_of_name pn_3) (fun m => rfl) Zf ?_
 intro C H hX0
 refine r_gets H 3 d_j52_4_0 (tw87 hw) S__assertionsDisabled ?_
 refine r_ifneT H 28 d_j52_4_3 (by decide) (by decide) (by decide) ?_
 refine r_iloadN H 29 d_j52_4_28 ?_
 refine r_iconst H 30 1 d_j52_4_29 ?_
 refine r_ishl H 31 0 d_j52_4_30 ?_
 refine r_istoreN H 32 #[vR a1, vI 0, vI i1] d_j52_4_31 ?_
 refine r_aloadN H 33 d_j52_4_32 ?_
 refine r_iloadN H 34 d_j52_4_33 ?_
 refine r_iinc H 37 #[vR a1, vI 1, vI i1] 1 d_j52_4_34 ?_
 refine r_iloadN H 38 d_j52_4_37 ?_
 refine r_gets H 41 d_j52_4_38 (tw88 hw) S_HI_BYTE_SHIFT ?_
 obtain ⟨p1, ep1, rp1⟩ : ∃ p : Int32, (i1 >>> ((0 : Int32) &&& 31)) = p ∧ 0 ≤ p.toInt ∧ p.toInt ≤ 65535 := ⟨_, rfl, (by have := r_i1; have h1 := c_ishr i1 (0 : Int32) 0 (by decide); omega)⟩
 refine r_ishr H 42 p1 d_j52_4_41 ep1 ?_
 obtain ⟨p2, ep2, rp2⟩ : ∃ p : Int32, (p1.toInt8.toInt32) = p ∧ -128 ≤ p.toInt ∧ p.toInt ≤ 127 := ⟨_, rfl, (by have h := c_i2b p1; omega)⟩
 refine r_i2b H 43 p2 d_j52_4_42 ep2 ?_
 refine r_bastore H 44 p2 d_j52_4_43 A_a1 g_a1 (nar_byte_id (by have := rp2; omega)) ?_
 intro h3 K3 A3
 change Ar Z h3 a1 c1 .byte [.int p2, .int i3, .int i4, .int i5, .int i6, .int i7, .int i8, .int i9, .int i10, .int i11] at A3
 refine r_aloadN H 45 d_j52_4_44 ?_
 refine r_iloadN H 46 d_j52_4_45 ?_
 refine r_iloadN H 47 d_j52_4_46 ?_
 refine r_gets H 50 d_j52_4_47 (tw89 hw) S_LO_BYTE_SHIFT ?_
 obtain ⟨p4, ep4, rp4⟩ : ∃ p : Int32, (i1 >>> ((8 : Int32) &&& 31)) = p ∧ 0 ≤ p.toInt ∧ p.toInt ≤ 255 := ⟨_, rfl, (by have := r_i1; have h1 := c_ishr i1 (8 : Int32) 8 (by decide); omega)⟩
 refine r_ishr H 51 p4 d_j52_4_50 ep4 ?_
 obtain ⟨p5, ep5, rp5⟩ : ∃ p : Int32, (p4.toInt8.toInt32) = p ∧ -128 ≤ p.toInt ∧ p.toInt ≤ 127 := ⟨_, rfl, (by have h := c_i2b p4; omega)⟩
 refine r_i2b H 52 p5 d_j52_4_51 ep5 ?_
 refine r_bastore H 53 p5 d_j52_4_52 A3 g_a1 (nar_byte_id (by have := rp5; omega)) ?_
 intro h6 K6 A6
 have q7 := (E_a1.keep K3)
 change Ar Z h6 a1 c1 .byte [.int p2, .int p5, .int i4, .int i5, .int i6, .int i7, .int i8, .int i9, .int i10, .int i11] at A6
 have k8 : Keep h0 h3 [a1] := Keep.trans (Keep.refl h0 [a1]) K3 (allS (Or.inl (List.mem_of_getElem? (i := 0) rfl)) all0)
 have k9 : Keep h0 h6 [a1] := Keep.trans k8 K6 (allS (Or.inl (List.mem_of_getElem? (i := 0) rfl)) all0)
 have q10 := (q7.keep K6)
 subst ep1 ep2 ep4 ep5
 exact r_return H d_j52_4_53 (⟨rfl, k9, A6, q10⟩)
def Q_putChar_83 (Z : State) (a1 : Addr) (i1 : Int32) (i2 : Int32) (i3 : Int32) (i6 : Int32) (i7 : Int32) (i8 : Int32) (i9 : Int32) (i10 : Int32) (i11 : Int32) (c1 : ClassId) (h0 : Heap) (v : Option Value) (h : Heap) : Prop := v = none ∧ Keep h0 h [a1] ∧ Ar Z h a1 c1 .byte [.int i2, .int i3, .int (cL8 i1), .int (cH8 i1), .int i6, .int i7, .int i8, .int i9, .int i10, .int i11] ∧ Exa Z h a1 "[B"
def R_putChar_83 : Room := { frames := 0, cells := 0, slots := 0, locals := 0 }
theorem rm_putChar_83 {w : Bool} {Z : State} {a0 : Array Value} (hw : HW a0 Z) (Ts : List String) (a1 : Addr) (i1 : Int32) (i2 : Int32) (i3 : Int32) (i4 : Int32) (i5 : Int32) (i6 : Int32) (i7 : Int32) (i8 : Int32) (i9 : Int32) (i10 : Int32) (i11 : Int32) (c1 : ClassId) (h0 : Heap) (f : Nat) (Zf : Z.heap.size ≤ f) (Z0 : f ≤ h0.size) (A_a1 : Ar Z h0 a1 c1 .byte [.int i2, .int i3, .int i4, .int i5, .int i6, .int i7, .int i8, .int i9, .int i10, .int i11]) (g_a1 : f ≤ a1) (E_a1 : Exa Z h0 a1 "[B") (r_i1 : 0 ≤ i1.toInt ∧ i1.toInt ≤ 65535) (S__assertionsDisabled : G_S__assertionsDisabled Z) (S_HI_BYTE_SHIFT : G_S_HI_BYTE_SHIFT Z) (S_LO_BYTE_SHIFT : G_S_LO_BYTE_SHIFT Z) :
  Con w [] Z mn9 jdk_52_method_4_code 3 none R_putChar_83 Ts Ts f #[.ref a1, .int 1, .int i1] h0 (Q_putChar_83 Z a1 i1 i2 i3 i6 i7 i8 i9 i10 i11 c1 h0) := by
 refine con_of f #[vR a1, vI 1, vI i1] (plainFor_of_name pn_3) (fun m => rfl) Zf ?_
 intro C H hX0
 refine r_gets H 3 d_j52_4_0 (tw87 hw) S__assertionsDisabled ?_
 refine r_ifneT H 28 d_j52_4_3 (by decide) (by decide) (by decide) ?_
 refine r_iloadN H 29 d_j52_4_28 ?_
 refine r_iconst H 30 1 d_j52_4_29 ?_
 refine r_ishl H 31 2 d_j52_4_30 ?_
 refine r_istoreN H 32 #[vR a1, vI 2, vI i1] d_j52_4_31 ?_
 refine r_aloadN H 33 d_j52_4_32 ?_
 refine r_iloadN H 34 d_j52_4_33 ?_
 refine r_iinc H 37 #[vR a1, vI 3, vI i1] 3 d_j52_4_34 ?_
 refine r_iloadN H 38 d_j52_4_37 ?_
 refine r_gets H 41 d_j52_4_38 (tw88 hw) S_HI_BYTE_SHIFT ?_
 obtain ⟨p1, ep1, rp1⟩ : ∃ p : Int32, (i1 >>> ((0 : Int32) &&& 31)) = p ∧ 0 ≤ p.toInt ∧ p.toInt ≤ 65535 := ⟨_, rfl, (by have := r_i1; have h1 := c_ishr i1 (0 : Int32) 0 (by decide); omega)⟩
 refine r_ishr H 42 p1 d_j52_4_41 ep1 ?_
 obtain ⟨p2, ep2, rp2⟩ : ∃ p : Int32, (p1.toInt8.toInt32) = p ∧ -128 ≤ p.toInt ∧ p.toInt ≤ 127 := ⟨_, rfl, (by have h := c_i2b p1; omega)⟩
 refine r_i2b H 43 p2 d_j52_4_42 ep2 ?_
 refine r_bastore H 44 p2 d_j52_4_43 A_a1 g_a1 (nar_byte_id (by have := rp2; omega)) ?_
 intro h3 K3 A3
 change Ar Z h3 a1 c1 .byte [.int i2, .int i3, .int p2, .int i5, .int i6, .int i7, .int i8, .int i9, .int i10, .int i11] at A3
 refine r_aloadN H 45 d_j52_4_44 ?_
 refine r_iloadN H 46 d_j52_4_45 ?_
 refine r_iloadN H 47 d_j52_4_46 ?_
 refine r_gets H 50 d_j52_4_47 (tw89 hw) S_LO_BYTE_SHIFT ?_
 obtain ⟨p4, ep4, rp4⟩ : ∃ p : Int32, (i1 >>> ((8 : Int32) &&& 31)) = p ∧ 0 ≤ p.toInt ∧ p.toInt ≤ 255 := ⟨_, rfl, (by have := r_i1; have h1 := c_ishr i1 (8 : Int32) 8 (by decide); omega)⟩
 refine r_ishr H 51 p4 d_j52_4_50 ep4 ?_
 obtain ⟨p5, ep5, rp5⟩ : ∃ p : Int32, (p4.toInt8.toInt32) = p ∧ -128 ≤ p.toInt ∧ p.toInt ≤ 127 := ⟨_, rfl, (by have h := c_i2b p4; omega)⟩
 refine r_i2b H 52 p5 d_j52_4_51 ep5 ?_
 refine r_bastore H 53 p5 d_j52_4_52 A3 g_a1 (nar_byte_id (by have := rp5; omega)) ?_
 intro h6 K6 A6
 have q7 := (E_a1.keep K3)
 change Ar Z h6 a1 c1 .byte [.int i2, .int i3, .int p2, .int p5, .int i6, .int i7, .int i8, .int i9, .int i10, .int i11] at A6
 have k8 : Keep h0 h3 [a1] := Keep.trans (Keep.refl h0 [a1]) K3 (allS (Or.inl (List.mem_of_getElem? (i := 0) rfl)) all0)
 have k9 : Keep h0 h6 [a1] := Keep.trans k8 K6 (allS (Or.inl (List.mem_of_getElem? (i := 0) rfl)) all0)
 have q10 := (q7.keep K6)
 subst ep1 ep2 ep4 ep5
 exact r_return H d_j52_4_53 (⟨rfl, k9, A6, q10⟩)
def Q_putChar_84 (Z : State) (a1 : Addr) (i1 : Int32) (i2 : Int32) (i3 : Int32) (i4 : Int32) (i5 : Int32) (i8 : Int32) (i9 : Int32) (i10 : Int32) (i11 : Int32) (c1 : ClassId) (h0 : Heap) (v : Option Value) (h : Heap) : Prop := v = none ∧ Keep h0 h [a1] ∧ Ar Z h a1 c1 .byte [.int i2, .int i3, .int i4, .int i5, .int (cL8 i1), .int (cH8 i1), .int i8, .int i9, .int i10, .int i11] ∧ Exa Z h a1 "[B"
def R_putChar_84 : Room := { frames := 0, cells := 0, slots := 0, locals := 0 }
theorem rm_putChar_84 {w : Bool} {Z : State} {a0 : Array Value} (hw : HW a0 Z) (Ts : List String) (a1 : Addr) (i1 : Int32) (i2 : Int32) (i3 : Int32) (i4 : Int32) (i5 : Int32) (i6 : Int32) (i7 : Int32) (i8 : Int32) (i9 : Int32) (i10 : Int32) (i11 : Int32) (c1 : ClassId) (h0 : Heap) (f : Nat) (Zf : Z.heap.size ≤ f) (Z0 : f ≤ h0.size) (A_a1 : Ar Z h0 a1 c1 .byte [.int i2, .int i3, .int i4, .int i5, .int i6, .int i7, .int i8, .int i9, .int i10, .int i11]) (g_a1 : f ≤ a1) (E_a1 : Exa Z h0 a1 "[B") (r_i1 : 0 ≤ i1.toInt ∧ i1.toInt ≤ 65535) (S__assertionsDisabled : G_S__assertionsDisabled Z) (S_HI_BYTE_SHIFT : G_S_HI_BYTE_SHIFT Z) (S_LO_BYTE_SHIFT : G_S_LO_BYTE_SHIFT Z) :
  Con w [] Z mn9 jdk_52_method_4_code 3 none R_putChar_84 Ts Ts f #[.ref a1, .int 2, .int i1] h0 (Q_putChar_84 Z a1 i1 i2 i3 i4 i5 i8 i9 i10 i11 c1 h0) := by
 refine con_of f #[vR a1, vI 2, vI i1] (plainFor_of_name pn_3) (fun m => rfl) Zf ?_
 intro C H hX0
 refine r_gets H 3 d_j52_4_0 (tw87 hw) S__assertionsDisabled ?_
 refine r_ifneT H 28 d_j52_4_3 (by decide) (by decide) (by decide) ?_
 refine r_iloadN H 29 d_j52_4_28 ?_
 refine r_iconst H 30 1 d_j52_4_29 ?_
 refine r_ishl H 31 4 d_j52_4_30 ?_
 refine r_istoreN H 32 #[vR a1, vI 4, vI i1] d_j52_4_31 ?_
 refine r_aloadN H 33 d_j52_4_32 ?_
 refine r_iloadN H 34 d_j52_4_33 ?_
 refine r_iinc H 37 #[vR a1, vI 5, vI i1] 5 d_j52_4_34 ?_
 refine r_iloadN H 38 d_j52_4_37 ?_
 refine r_gets H 41 d_j52_4_38 (tw88 hw) S_HI_BYTE_SHIFT ?_
 obtain ⟨p1, ep1, rp1⟩ : ∃ p : Int32, (i1 >>> ((0 : Int32) &&& 31)) = p ∧ 0 ≤ p.toInt ∧ p.toInt ≤ 65535 := ⟨_, rfl, (by have := r_i1; have h1 := c_ishr i1 (0 : Int32) 0 (by decide); omega)⟩
 refine r_ishr H 42 p1 d_j52_4_41 ep1 ?_
 obtain ⟨p2, ep2, rp2⟩ : ∃ p : Int32, (p1.toInt8.toInt32) = p ∧ -128 ≤ p.toInt ∧ p.toInt ≤ 127 := ⟨_, rfl, (by have h := c_i2b p1; omega)⟩
 refine r_i2b H 43 p2 d_j52_4_42 ep2 ?_
 refine r_bastore H 44 p2 d_j52_4_43 A_a1 g_a1 (nar_byte_id (by have := rp2; omega)) ?_
 intro h3 K3 A3
 change Ar Z h3 a1 c1 .byte [.int i2, .int i3, .int i4, .int i5, .int p2, .int i7, .int i8, .int i9, .int i10, .int i11] at A3
 refine r_aloadN H 45 d_j52_4_44 ?_
 refine r_iloadN H 46 d_j52_4_45 ?_
 refine r_iloadN H 47 d_j52_4_46 ?_
 refine r_gets H 50 d_j52_4_47 (tw89 hw) S_LO_BYTE_SHIFT ?_
 obtain ⟨p4, ep4, rp4⟩ : ∃ p : Int32, (i1 >>> ((8 : Int32) &&& 31)) = p ∧ 0 ≤ p.toInt ∧ p.toInt ≤ 255 := ⟨_, rfl, (by have := r_i1; have h1 := c_ishr i1 (8 : Int32) 8 (by decide); omega)⟩
 refine r_ishr H 51 p4 d_j52_4_50 ep4 ?_
 obtain ⟨p5, ep5, rp5⟩ : ∃ p : Int32, (p4.toInt8.toInt32) = p ∧ -128 ≤ p.toInt ∧ p.toInt ≤ 127 := ⟨_, rfl, (by have h := c_i2b p4; omega)⟩
 refine r_i2b H 52 p5 d_j52_4_51 ep5 ?_
 refine r_bastore H 53 p5 d_j52_4_52 A3 g_a1 (nar_byte_id (by have := rp5; omega)) ?_
 intro h6 K6 A6
 have q7 := (E_a1.keep K3)
 change Ar Z h6 a1 c1 .byte [.int i2, .int i3, .int i4, .int i5, .int p2, .int p5, .int i8, .int i9, .int i10, .int i11] at A6
 have k8 : Keep h0 h3 [a1] := Keep.trans (Keep.refl h0 [a1]) K3 (allS (Or.inl (List.mem_of_getElem? (i := 0) rfl)) all0)
 have k9 : Keep h0 h6 [a1] := Keep.trans k8 K6 (allS (Or.inl (List.mem_of_getElem? (i := 0) rfl)) all0)
 have q10 := (q7.keep K6)
 subst ep1 ep2 ep4 ep5
 exact r_return H d_j52_4_53 (⟨rfl, k9, A6, q10⟩)
def Q_putChar_85 (Z : State) (a1 : Addr) (i1 : Int32) (i2 : Int32) (i3 : Int32) (i4 : Int32) (i5 : Int32) (i6 : Int32) (i7 : Int32) (i10 : Int32) (i11 : Int32) (c1 : ClassId) (h0 : Heap) (v : Option Value) (h : Heap) : Prop := v = none ∧ Keep h0 h [a1] ∧ Ar Z h a1 c1 .byte [.int i2, .int i3, .int i4, .int i5, .int i6, .int i7, .int (cL8 i1), .int (cH8 i1), .int i10, .int i11] ∧ Exa Z h a1 "[B"
def R_putChar_85 : Room := { frames := 0, cells := 0, slots := 0, locals := 0 }
theorem rm_putChar_85 {w : Bool} {Z : State} {a0 : Array Value} (hw : HW a0 Z) (Ts : List String) (a1 : Addr) (i1 : Int32) (i2 : Int32) (i3 : Int32) (i4 : Int32) (i5 : Int32) (i6 : Int32) (i7 : Int32) (i8 : Int32) (i9 : Int32) (i10 : Int32) (i11 : Int32) (c1 : ClassId) (h0 : Heap) (f : Nat) (Zf : Z.heap.size ≤ f) (Z0 : f ≤ h0.size) (A_a1 : Ar Z h0 a1 c1 .byte [.int i2, .int i3, .int i4, .int i5, .int i6, .int i7, .int i8, .int i9, .int i10, .int i11]) (g_a1 : f ≤ a1) (E_a1 : Exa Z h0 a1 "[B") (r_i1 : 0 ≤ i1.toInt ∧ i1.toInt ≤ 65535) (S__assertionsDisabled : G_S__assertionsDisabled Z) (S_HI_BYTE_SHIFT : G_S_HI_BYTE_SHIFT Z) (S_LO_BYTE_SHIFT : G_S_LO_BYTE_SHIFT Z) :
  Con w [] Z mn9 jdk_52_method_4_code 3 none R_putChar_85 Ts Ts f #[.ref a1, .int 3, .int i1] h0 (Q_putChar_85 Z a1 i1 i2 i3 i4 i5 i6 i7 i10 i11 c1 h0) := by
 refine con_of f #[vR a1, vI 3, vI i1] (plainFor_of_name pn_3) (fun m => rfl) Zf ?_
 intro C H hX0
 refine r_gets H 3 d_j52_4_0 (tw87 hw) S__assertionsDisabled ?_
 refine r_ifneT H 28 d_j52_4_3 (by decide) (by decide) (by decide) ?_
 refine r_iloadN H 29 d_j52_4_28 ?_
 refine r_iconst H 30 1 d_j52_4_29 ?_
 refine r_ishl H 31 6 d_j52_4_30 ?_
 refine r_istoreN H 32 #[vR a1, vI 6, vI i1] d_j52_4_31 ?_
 refine r_aloadN H 33 d_j52_4_32 ?_
 refine r_iloadN H 34 d_j52_4_33 ?_
 refine r_iinc H 37 #[vR a1, vI 7, vI i1] 7 d_j52_4_34 ?_
 refine r_iloadN H 38 d_j52_4_37 ?_
 refine r_gets H 41 d_j52_4_38 (tw88 hw) S_HI_BYTE_SHIFT ?_
 obtain ⟨p1, ep1, rp1⟩ : ∃ p : Int32, (i1 >>> ((0 : Int32) &&& 31)) = p ∧ 0 ≤ p.toInt ∧ p.toInt ≤ 65535 := ⟨_, rfl, (by have := r_i1; have h1 := c_ishr i1 (0 : Int32) 0 (by decide); omega)⟩
 refine r_ishr H 42 p1 d_j52_4_41 ep1 ?_
 obtain ⟨p2, ep2, rp2⟩ : ∃ p : Int32, (p1.toInt8.toInt32) = p ∧ -128 ≤ p.toInt ∧ p.toInt ≤ 127 := ⟨_, rfl, (by have h := c_i2b p1; omega)⟩
 refine r_i2b H 43 p2 d_j52_4_42 ep2 ?_
 refine r_bastore H 44 p2 d_j52_4_43 A_a1 g_a1 (nar_byte_id (by have := rp2; omega)) ?_
 intro h3 K3 A3
 change Ar Z h3 a1 c1 .byte [.int i2, .int i3, .int i4, .int i5, .int i6, .int i7, .int p2, .int i9, .int i10, .int i11] at A3
 refine r_aloadN H 45 d_j52_4_44 ?_
 refine r_iloadN H 46 d_j52_4_45 ?_
 refine r_iloadN H 47 d_j52_4_46 ?_
 refine r_gets H 50 d_j52_4_47 (tw89 hw) S_LO_BYTE_SHIFT ?_
 obtain ⟨p4, ep4, rp4⟩ : ∃ p : Int32, (i1 >>> ((8 : Int32) &&& 31)) = p ∧ 0 ≤ p.toInt ∧ p.toInt ≤ 255 := ⟨_, rfl, (by have := r_i1; have h1 := c_ishr i1 (8 : Int32) 8 (by decide); omega)⟩
 refine r_ishr H 51 p4 d_j52_4_50 ep4 ?_
 obtain ⟨p5, ep5, rp5⟩ : ∃ p : Int32, (p4.toInt8.toInt32) = p ∧ -128 ≤ p.toInt ∧ p.toInt ≤ 127 := ⟨_, rfl, (by have h := c_i2b p4; omega)⟩
 refine r_i2b H 52 p5 d_j52_4_51 ep5 ?_
 refine r_bastore H 53 p5 d_j52_4_52 A3 g_a1 (nar_byte_id (by have := rp5; omega)) ?_
 intro h6 K6 A6
 have q7 := (E_a1.keep K3)
 change Ar Z h6 a1 c1 .byte [.int i2, .int i3, .int i4, .int i5, .int i6, .int i7, .int p2, .int p5, .int i10, .int i11] at A6
 have k8 : Keep h0 h3 [a1] := Keep.trans (Keep.refl h0 [a1]) K3 (allS (Or.inl (List.mem_of_getElem? (i := 0) rfl)) all0)
 have k9 : Keep h0 h6 [a1] := Keep.trans k8 K6 (allS (Or.inl (List.mem_of_getElem? (i := 0) rfl)) all0)
 have q10 := (q7.keep K6)
 subst ep1 ep2 ep4 ep5
 exact r_return H d_j52_4_53 (⟨rfl, k9, A6, q10⟩)
def Q_putChar_86 (Z : State) (a1 : Addr) (i1 : Int32) (i2 : Int32) (i3 : Int32) (i4 : Int32) (i5 : Int32) (i6 : Int32) (i7 : Int32) (i8 : Int32) (i9 : Int32) (c1 : ClassId) (h0 : Heap) (v : Option Value) (h : Heap) : Prop := v = none ∧ Keep h0 h [a1] ∧ Ar Z h a1 c1 .byte [.int i2, .int i3, .int i4, .int i5, .int i6, .int i7, .int i8, .int i9, .int (cL8 i1), .int (cH8 i1)] ∧ Exa Z h a1 "[B"
def R_putChar_86 : Room := { frames := 0, cells := 0, slots := 0, locals := 0 }
theorem rm_putChar_86 {w : Bool} {Z : State} {a0 : Array Value} (hw : HW a0 Z) (Ts : List String) (a1 : Addr) (i1 : Int32) (i2 : Int32) (i3 : Int32) (i4 : Int32) (i5 : Int32) (i6 : Int32) (i7 : Int32) (i8 : Int32) (i9 : Int32) (i10 : Int32) (i11 : Int32) (c1 : ClassId) (h0 : Heap) (f : Nat) (Zf : Z.heap.size ≤ f) (Z0 : f ≤ h0.size) (A_a1 : Ar Z h0 a1 c1 .byte [.int i2, .int i3, .int i4, .int i5, .int i6, .int i7, .int i8, .int i9, .int i10, .int i11]) (g_a1 : f ≤ a1) (E_a1 : Exa Z h0 a1 "[B") (r_i1 : 0 ≤ i1.toInt ∧ i1.toInt ≤ 65535) (S__assertionsDisabled : G_S__assertionsDisabled Z) (S_HI_BYTE_SHIFT : G_S_HI_BYTE_SHIFT Z) (S_LO_BYTE_SHIFT : G_S_LO_BYTE_SHIFT Z) :
  Con w [] Z mn9 jdk_52_method_4_code 3 none R_putChar_86 Ts Ts f #[.ref a1, .int 4, .int i1] h0 (Q_putChar_86 Z a1 i1 i2 i3 i4 i5 i6 i7 i8 i9 c1 h0) := by
 refine con_of f #[vR a1, vI 4, vI i1] (plainFor_of_name pn_3) (fun m => rfl) Zf ?_
 intro C H hX0
 refine r_gets H 3 d_j52_4_0 (tw87 hw) S__assertionsDisabled ?_
 refine r_ifneT H 28 d_j52_4_3 (by decide) (by decide) (by decide) ?_
 refine r_iloadN H 29 d_j52_4_28 ?_
 refine r_iconst H 30 1 d_j52_4_29 ?_
 refine r_ishl H 31 8 d_j52_4_30 ?_
 refine r_istoreN H 32 #[vR a1, vI 8, vI i1] d_j52_4_31 ?_
 refine r_aloadN H 33 d_j52_4_32 ?_
 refine r_iloadN H 34 d_j52_4_33 ?_
 refine r_iinc H 37 #[vR a1, vI 9, vI i1] 9 d_j52_4_34 ?_
 refine r_iloadN H 38 d_j52_4_37 ?_
 refine r_gets H 41 d_j52_4_38 (tw88 hw) S_HI_BYTE_SHIFT ?_
 obtain ⟨p1, ep1, rp1⟩ : ∃ p : Int32, (i1 >>> ((0 : Int32) &&& 31)) = p ∧ 0 ≤ p.toInt ∧ p.toInt ≤ 65535 := ⟨_, rfl, (by have := r_i1; have h1 := c_ishr i1 (0 : Int32) 0 (by decide); omega)⟩
 refine r_ishr H 42 p1 d_j52_4_41 ep1 ?_
 obtain ⟨p2, ep2, rp2⟩ : ∃ p : Int32, (p1.toInt8.toInt32) = p ∧ -128 ≤ p.toInt ∧ p.toInt ≤ 127 := ⟨_, rfl, (by have h := c_i2b p1; omega)⟩
 refine r_i2b H 43 p2 d_j52_4_42 ep2 ?_
 refine r_bastore H 44 p2 d_j52_4_43 A_a1 g_a1 (nar_byte_id (by have := rp2; omega)) ?_
 intro h3 K3 A3
 change Ar Z h3 a1 c1 .byte [.int i2, .int i3, .int i4, .int i5, .int i6, .int i7, .int i8, .int i9, .int p2, .int i11] at A3
 refine r_aloadN H 45 d_j52_4_44 ?_
 refine r_iloadN H 46 d_j52_4_45 ?_
 refine r_iloadN H 47 d_j52_4_46 ?_
 refine r_gets H 50 d_j52_4_47 (tw89 hw) S_LO_BYTE_SHIFT ?_
 obtain ⟨p4, ep4, rp4⟩ : ∃ p : Int32, (i1 >>> ((8 : Int32) &&& 31)) = p ∧ 0 ≤ p.toInt ∧ p.toInt ≤ 255 := ⟨_, rfl, (by have := r_i1; have h1 := c_ishr i1 (8 : Int32) 8 (by decide); omega)⟩
 refine r_ishr H 51 p4 d_j52_4_50 ep4 ?_
 obtain ⟨p5, ep5, rp5⟩ : ∃ p : Int32, (p4.toInt8.toInt32) = p ∧ -128 ≤ p.toInt ∧ p.toInt ≤ 127 := ⟨_, rfl, (by have h := c_i2b p4; omega)⟩
 refine r_i2b H 52 p5 d_j52_4_51 ep5 ?_
 refine r_bastore H 53 p5 d_j52_4_52 A3 g_a1 (nar_byte_id (by have := rp5; omega)) ?_
 intro h6 K6 A6
 have q7 := (E_a1.keep K3)
 change Ar Z h6 a1 c1 .byte [.int i2, .int i3, .int i4, .int i5, .int i6, .int i7, .int i8, .int i9, .int p2, .int p5] at A6
 have k8 : Keep h0 h3 [a1] := Keep.trans (Keep.refl h0 [a1]) K3 (allS (Or.inl (List.mem_of_getElem? (i := 0) rfl)) all0)
 have k9 : Keep h0 h6 [a1] := Keep.trans k8 K6 (allS (Or.inl (List.mem_of_getElem? (i := 0) rfl)) all0)
 have q10 := (q7.keep K6)
 subst ep1 ep2 ep4 ep5
 exact r_return H d_j52_4_53 (⟨rfl, k9, A6, q10⟩)
def Q_toBytes_79 (Z : State) (i1 : Int32) (i2 : Int32) (i3 : Int32) (i4 : Int32) (i5 : Int32) (h0 : Heap) (v : Option Value) (h : Heap) : Prop := ∃ (b1 : Addr) (kc2 : ClassId), v = some (.ref b1) ∧ Keep h0 h [] ∧ h0.size ≤ b1 ∧ Ar Z h b1 kc2 .byte [.int (cL8 i1), .int (cH8 i1), .int (cL8 i2), .int (cH8 i2), .int (cL8 i3), .int (cH8 i3), .int (cL8 i4), .int (cH8 i4), .int (cL8 i5), .int (cH8 i5)] ∧ Exa Z h b1 "[B"
def R_toBytes_79 : Room := { frames := 2, cells := 1, slots := 10, locals := 24 }
theorem rm_toBytes_79 {w : Bool} {Z : State} {a0 : Array Value} (hw : HW a0 Z) (Ts : List String) (a1 : Addr) (i1 : Int32) (i2 : Int32) (i3 : Int32) (i4 : Int32) (i5 : Int32) (c1 : ClassId) (h0 : Heap) (f : Nat) (Zf : Z.heap.size ≤ f) (Z0 : f ≤ h0.size) (A_a1 : Ar Z h0 a1 c1 .char [.int i1, .int i2, .int i3, .int i4, .int i5]) (r_i1 : 0 ≤ i1.toInt ∧ i1.toInt ≤ 65535) (r_i2 : 0 ≤ i2.toInt ∧ i2.toInt ≤ 65535) (r_i3 : 0 ≤ i3.toInt ∧ i3.toInt ≤ 65535) (r_i4 : 0 ≤ i4.toInt ∧ i4.toInt ≤ 65535) (r_i5 : 0 ≤ i5.toInt ∧ i5.toInt ≤ 65535) (S__assertionsDisabled : G_S__assertionsDisabled Z) (S_HI_BYTE_SHIFT : G_S_HI_BYTE_SHIFT Z) (S_LO_BYTE_SHIFT : G_S_LO_BYTE_SHIFT Z) :
  Con w [] Z mn10 jdk_52_method_14_code 5 (some (.array .byte)) R_toBytes_79 Ts Ts f #[.ref a1, .int 0, .int 5] h0 (Q_toBytes_79 Z i1 i2 i3 i4 i5 h0) := by
 refine con_of f #[vR a1, vI 0, vI 5, .unset, .unset] (plainFor_of_name pn_3) (fun m => rfl) Zf ?_
 intro C H hX0
 refine r_iloadN H 1 d_j52_14_0 ?_
 refine r_static (argsL := [.int 5]) (rest := []) (W := 0) H 4 d_j52_14_1 (tw77 hw) (tw78 hw) (tw43 hw) (tw79 hw) (lenOf pd_8 rfl) (rm_newBytesFor_80 hw Ts h0 f Zf Z0) ?_
 rintro _ hh7 ⟨b1, kc2, rfl, K3, g4, q5, q6⟩
 refine r_astoreN H 5 #[vR a1, vI 0, vI 5, vR b1, .unset] d_j52_14_4 ?_
 refine r_iconst H 6 0 d_j52_14_5 ?_
 refine r_istore H 8 #[vR a1, vI 0, vI 5, vR b1, vI 0] d_j52_14_6 ?_
 refine r_iload H 10 d_j52_14_8 ?_
 refine r_iloadN H 11 d_j52_14_10 ?_
 refine r_icmpgeF H 14 d_j52_14_11 ?_
 refine r_aloadN H 15 d_j52_14_14 ?_
 refine r_iload H 17 d_j52_14_15 ?_
 refine r_aloadN H 18 d_j52_14_17 ?_
 refine r_iloadN H 19 d_j52_14_18 ?_
 have q8 := (A_a1.keep K3 nin0)
 refine r_caload H 20 i1 d_j52_14_19 q8 ?_
 refine r_static (argsL := [.ref b1, .int 0, .int i1]) (rest := []) (W := 0) H 23 d_j52_14_20 (tw84 hw) (tw85 hw) (tw43 hw) (tw86 hw) (lenOf pd_9 rfl) (rm_putChar_82 hw Ts b1 i1 (0 : Int32) (0 : Int32) (0 : Int32) (0 : Int32) (0 : Int32) (0 : Int32) (0 : Int32) (0 : Int32) (0 : Int32) (0 : Int32) kc2 hh7 f Zf (nlt Z0 K3.1) q5 (nlt Z0 g4) q6 (by have := r_i1; omega) S__assertionsDisabled S_HI_BYTE_SHIFT S_LO_BYTE_SHIFT) ?_
 rintro _ hh12 ⟨rfl, K9, q10, q11⟩
 refine r_iinc H 26 #[vR a1, vI 1, vI 5, vR b1, vI 0] 1 d_j52_14_23 ?_
 refine r_iinc H 29 #[vR a1, vI 1, vI 5, vR b1, vI 1] 1 d_j52_14_26 ?_
 refine r_goto H 8 d_j52_14_29 ?_
 refine r_iload H 10 d_j52_14_8 ?_
 refine r_iloadN H 11 d_j52_14_10 ?_
 refine r_icmpgeF H 14 d_j52_14_11 ?_
 refine r_aloadN H 15 d_j52_14_14 ?_
 refine r_iload H 17 d_j52_14_15 ?_
 refine r_aloadN H 18 d_j52_14_17 ?_
 refine r_iloadN H 19 d_j52_14_18 ?_
 have q13 := (q8.keep K9 (ninS (Nat.ne_of_lt (Nat.lt_of_lt_of_le A_a1.lt (nlt nlr g4))) nin0))
 refine r_caload H 20 i2 d_j52_14_19 q13 ?_
 have z14 := Nat.le_trans K3.1 K9.1
 refine r_static (argsL := [.ref b1, .int 1, .int i2]) (rest := []) (W := 0) H 23 d_j52_14_20 (tw84 hw) (tw85 hw) (tw43 hw) (tw86 hw) (lenOf pd_9 rfl) (rm_putChar_83 hw Ts b1 i2 (cL8 i1) (cH8 i1) (0 : Int32) (0 : Int32) (0 : Int32) (0 : Int32) (0 : Int32) (0 : Int32) (0 : Int32) (0 : Int32) kc2 hh12 f Zf (nlt Z0 z14) q10 (nlt Z0 g4) q11 (by have := r_i2; omega) S__assertionsDisabled S_HI_BYTE_SHIFT S_LO_BYTE_SHIFT) ?_
 rintro _ hh18 ⟨rfl, K15, q16, q17⟩
 refine r_iinc H 26 #[vR a1, vI 2, vI 5, vR b1, vI 1] 2 d_j52_14_23 ?_
 refine r_iinc H 29 #[vR a1, vI 2, vI 5, vR b1, vI 2] 2 d_j52_14_26 ?_
 refine r_goto H 8 d_j52_14_29 ?_
 refine r_iload H 10 d_j52_14_8 ?_
 refine r_iloadN H 11 d_j52_14_10 ?_
 refine r_icmpgeF H 14 d_j52_14_11 ?_
 refine r_aloadN H 15 d_j52_14_14 ?_
 refine r_iload H 17 d_j52_14_15 ?_
 refine r_aloadN H 18 d_j52_14_17 ?_
 refine r_iloadN H 19 d_j52_14_18 ?_
 have q19 := (q13.keep K15 (ninS (Nat.ne_of_lt (Nat.lt_of_lt_of_le A_a1.lt (nlt nlr g4))) nin0))
 refine r_caload H 20 i3 d_j52_14_19 q19 ?_
 have z20 := Nat.le_trans z14 K15.1
 refine r_static (argsL := [.ref b1, .int 2, .int i3]) (rest := []) (W := 0) H 23 d_j52_14_20 (tw84 hw) (tw85 hw) (tw43 hw) (tw86 hw) (lenOf pd_9 rfl) (rm_putChar_84 hw Ts b1 i3 (cL8 i1) (cH8 i1) (cL8 i2) (cH8 i2) (0 : Int32) (0 : Int32) (0 : Int32) (0 : Int32) (0 : Int32) (0 : Int32) kc2 hh18 f Zf (nlt Z0 z20) q16 (nlt Z0 g4) q17 (by have := r_i3; omega) S__assertionsDisabled S_HI_BYTE_SHIFT S_LO_BYTE_SHIFT) ?_
 rintro _ hh24 ⟨rfl, K21, q22, q23⟩
 refine r_iinc H 26 #[vR a1, vI 3, vI 5, vR b1, vI 2] 3 d_j52_14_23 ?_
 refine r_iinc H 29 #[vR a1, vI 3, vI 5, vR b1, vI 3] 3 d_j52_14_26 ?_
 refine r_goto H 8 d_j52_14_29 ?_
 refine r_iload H 10 d_j52_14_8 ?_
 refine r_iloadN H 11 d_j52_14_10 ?_
 refine r_icmpgeF H 14 d_j52_14_11 ?_
 refine r_aloadN H 15 d_j52_14_14 ?_
 refine r_iload H 17 d_j52_14_15 ?_
 refine r_aloadN H 18 d_j52_14_17 ?_
 refine r_iloadN H 19 d_j52_14_18 ?_
 have q25 := (q19.keep K21 (ninS (Nat.ne_of_lt (Nat.lt_of_lt_of_le A_a1.lt (nlt nlr g4))) nin0))
 refine r_caload H 20 i4 d_j52_14_19 q25 ?_
 have z26 := Nat.le_trans z20 K21.1
 refine r_static (argsL := [.ref b1, .int 3, .int i4]) (rest := []) (W := 0) H 23 d_j52_14_20 (tw84 hw) (tw85 hw) (tw43 hw) (tw86 hw) (lenOf pd_9 rfl) (rm_putChar_85 hw Ts b1 i4 (cL8 i1) (cH8 i1) (cL8 i2) (cH8 i2) (cL8 i3) (cH8 i3) (0 : Int32) (0 : Int32) (0 : Int32) (0 : Int32) kc2 hh24 f Zf (nlt Z0 z26) q22 (nlt Z0 g4) q23 (by have := r_i4; omega) S__assertionsDisabled S_HI_BYTE_SHIFT S_LO_BYTE_SHIFT) ?_
 rintro _ hh30 ⟨rfl, K27, q28, q29⟩
 refine r_iinc H 26 #[vR a1, vI 4, vI 5, vR b1, vI 3] 4 d_j52_14_23 ?_
 refine r_iinc H 29 #[vR a1, vI 4, vI 5, vR b1, vI 4] 4 d_j52_14_26 ?_
 refine r_goto H 8 d_j52_14_29 ?_
 refine r_iload H 10 d_j52_14_8 ?_
 refine r_iloadN H 11 d_j52_14_10 ?_
 refine r_icmpgeF H 14 d_j52_14_11 ?_
 refine r_aloadN H 15 d_j52_14_14 ?_
 refine r_iload H 17 d_j52_14_15 ?_
 refine r_aloadN H 18 d_j52_14_17 ?_
 refine r_iloadN H 19 d_j52_14_18 ?_
 have q31 := (q25.keep K27 (ninS (Nat.ne_of_lt (Nat.lt_of_lt_of_le A_a1.lt (nlt nlr g4))) nin0))
 refine r_caload H 20 i5 d_j52_14_19 q31 ?_
 have z32 := Nat.le_trans z26 K27.1
 refine r_static (argsL := [.ref b1, .int 4, .int i5]) (rest := []) (W := 0) H 23 d_j52_14_20 (tw84 hw) (tw85 hw) (tw43 hw) (tw86 hw) (lenOf pd_9 rfl) (rm_putChar_86 hw Ts b1 i5 (cL8 i1) (cH8 i1) (cL8 i2) (cH8 i2) (cL8 i3) (cH8 i3) (cL8 i4) (cH8 i4) (0 : Int32) (0 : Int32) kc2 hh30 f Zf (nlt Z0 z32) q28 (nlt Z0 g4) q29 (by have := r_i5; omega) S__assertionsDisabled S_HI_BYTE_SHIFT S_LO_BYTE_SHIFT) ?_
 rintro _ hh36 ⟨rfl, K33, q34, q35⟩
 refine r_iinc H 26 #[vR a1, vI 5, vI 5, vR b1, vI 4] 5 d_j52_14_23 ?_
 refine r_iinc H 29 #[vR a1, vI 5, vI 5, vR b1, vI 5] 5 d_j52_14_26 ?_
 refine r_goto H 8 d_j52_14_29 ?_
 refine r_iload H 10 d_j52_14_8 ?_
 refine r_iloadN H 11 d_j52_14_10 ?_
 refine r_icmpgeT H 32 d_j52_14_11 ?_
 refine r_aloadN H 33 d_j52_14_32 ?_
 have k37 : Keep h0 hh7 [] := Keep.trans (Keep.refl h0 []) K3 all0
 have k38 : Keep h0 hh12 [] := Keep.trans k37 K9 (allS (Or.inr (nlt nlr g4)) all0)
 have k39 : Keep h0 hh18 [] := Keep.trans k38 K15 (allS (Or.inr (nlt nlr g4)) all0)
 have k40 : Keep h0 hh24 [] := Keep.trans k39 K21 (allS (Or.inr (nlt nlr g4)) all0)
 have k41 : Keep h0 hh30 [] := Keep.trans k40 K27 (allS (Or.inr (nlt nlr g4)) all0)
 have k42 : Keep h0 hh36 [] := Keep.trans k41 K33 (allS (Or.inr (nlt nlr g4)) all0)
 exact r_areturn H d_j52_14_33 (⟨b1, kc2, rfl, k42, (nlt nlr g4), q34, q35⟩)
def Q_compress_77 (Z : State) (i1 : Int32) (i2 : Int32) (i3 : Int32) (i4 : Int32) (i5 : Int32) (h0 : Heap) (v : Option Value) (h : Heap) : Prop := (∃ (b1 : Addr) (kc1 : ClassId), v = some (.ref b1) ∧ (¬ (255 : Int32) < i1) ∧ (¬ (255 : Int32) < i2) ∧ (¬ (255 : Int32) < i3) ∧ (¬ (255 : Int32) < i4) ∧ (¬ (255 : Int32) < i5) ∧ Keep h0 h [] ∧ h0.size ≤ b1 ∧ Ar Z h b1 kc1 .byte [.int (cB8 i1), .int (cB8 i2), .int (cB8 i3), .int (cB8 i4), .int (cB8 i5)] ∧ Exa Z h b1 "[B") ∨ (∃ (b55 : Addr) (kc56 : ClassId), v = some (.ref b55) ∧ Keep h0 h [] ∧ h0.size ≤ b55 ∧ Ar Z h b55 kc56 .byte [.int (cL8 i1), .int (cH8 i1), .int (cL8 i2), .int (cH8 i2), .int (cL8 i3), .int (cH8 i3), .int (cL8 i4), .int (cH8 i4), .int (cL8 i5), .int (cH8 i5)] ∧ Exa Z h b55 "[B")
def R_compress_77 : Room := { frames := 3, cells := 2, slots := 15, locals := 40 }
theorem rm_compress_77 {w : Bool} {Z : State} {a0 : Array Value} (hw : HW a0 Z) (Ts : List String) (a1 : Addr) (i1 : Int32) (i2 : Int32) (i3 : Int32) (i4 : Int32) (i5 : Int32) (c1 : ClassId) (h0 : Heap) (f : Nat) (Zf : Z.heap.size ≤ f) (Z0 : f ≤ h0.size) (A_a1 : Ar Z h0 a1 c1 .char [.int i1, .int i2, .int i3, .int i4, .int i5]) (E_a1 : Exa Z h0 a1 "[C") (r_i1 : 0 ≤ i1.toInt ∧ i1.toInt ≤ 65535) (r_i2 : 0 ≤ i2.toInt ∧ i2.toInt ≤ 65535) (r_i3 : 0 ≤ i3.toInt ∧ i3.toInt ≤ 65535) (r_i4 : 0 ≤ i4.toInt ∧ i4.toInt ≤ 65535) (r_i5 : 0 ≤ i5.toInt ∧ i5.toInt ≤ 65535) (S__assertionsDisabled : G_S__assertionsDisabled Z) (S_HI_BYTE_SHIFT : G_S_HI_BYTE_SHIFT Z) (S_LO_BYTE_SHIFT : G_S_LO_BYTE_SHIFT Z) :
  Con w [] Z mn12 jdk_52_method_16_code 6 (some (.array .byte)) R_compress_77 Ts Ts f #[.ref a1, .int 0, .int 5] h0 (Q_compress_77 Z i1 i2 i3 i4 i5 h0) := by
 refine con_of f #[vR a1, vI 0, vI 5, .unset, .unset, .unset] (plainFor_of_name pn_3) (fun m => rfl) Zf ?_
 intro C H hX0
 refine r_iloadN H 1 d_j52_16_0 ?_
 refine r_newP H 3 "[B" 5 d_j52_16_1 (tw19 hw) ?_
 intro h1 b1 kc1 g1 l1 K1 E1 A1
 change Ar Z h1 b1 kc1 .byte [.int 0, .int 0, .int 0, .int 0, .int 0] at A1
 refine r_astoreN H 4 #[vR a1, vI 0, vI 5, vR b1, .unset, .unset] d_j52_16_3 ?_
 refine r_aloadN H 5 d_j52_16_4 ?_
 refine r_iloadN H 6 d_j52_16_5 ?_
 refine r_aloadN H 7 d_j52_16_6 ?_
 refine r_iconst H 8 0 d_j52_16_7 ?_
 refine r_iloadN H 9 d_j52_16_8 ?_
 have q2 := (A_a1.keep K1 nin0)
 have q3 := (E_a1.keep K1)
 refine r_static (argsL := [.ref a1, .int 0, .ref b1, .int 0, .int 5]) (rest := []) (W := 0) H 12 d_j52_16_9 (tw45 hw) (tw46 hw) (tw43 hw) (tw47 hw) (lenOf pd_6 rfl) (rm_compress_78 hw Ts a1 b1 i1 i2 i3 i4 i5 c1 kc1 h1 f Zf (nlt Z0 K1.1) q2 A1 (nlt Z0 (Nat.le_of_eq g1.symm)) E1 q3 r_i1 r_i2 r_i3 r_i4 r_i5) ?_
 rintro _ hh40 (⟨rfl, c5, c6, c7, c8, c9, K4, q10, q11⟩ | ⟨rfl, c13, c14, c15, c16, c17, K12, q18, q19⟩ | ⟨rfl, c21, c22, c23, c24, K20, q25, q26⟩ | ⟨rfl, c28, c29, c30, K27, q31, q32⟩ | ⟨rfl, c34, c35, K33, q36, q37⟩ | ⟨rfl, c39, rfl⟩)
 ·
  refine r_istore H 14 #[vR a1, vI 0, vI 5, vR b1, vI 5, .unset] d_j52_16_12 ?_
  refine r_iload H 16 d_j52_16_14 ?_
  refine r_iloadN H 17 d_j52_16_16 ?_
  refine r_icmpeqT H 57 d_j52_16_17 ?_
  refine r_aloadN H 58 d_j52_16_57 ?_
  have k46 : Keep h0 h1 [] := Keep.trans (Keep.refl h0 []) K1 all0
  have k47 : Keep h0 hh40 [] := Keep.trans k46 K4 (allS (Or.inr (nlt nlr (Nat.le_of_eq g1.symm))) all0)
  exact r_areturn H d_j52_16_58 (Or.inl ⟨b1, kc1, rfl, c5, c6, c7, c8, c9, k47, (nlt nlr (Nat.le_of_eq g1.symm)), q10, q11⟩)
 ·
  have rr48 : 0 ≤ i1.toInt ∧ i1.toInt ≤ 255 := by have := r_i1; have : (255 : Int32).toInt = 255 := (by decide); have hc_ := c13; simp only [Int32.lt_iff_toInt_lt, ← Int32.toInt_inj] at hc_; omega
  have rr49 : 0 ≤ i2.toInt ∧ i2.toInt ≤ 255 := by have := r_i2; have : (255 : Int32).toInt = 255 := (by decide); have hc_ := c14; simp only [Int32.lt_iff_toInt_lt, ← Int32.toInt_inj] at hc_; omega
  have rr50 : 0 ≤ i3.toInt ∧ i3.toInt ≤ 255 := by have := r_i3; have : (255 : Int32).toInt = 255 := (by decide); have hc_ := c15; simp only [Int32.lt_iff_toInt_lt, ← Int32.toInt_inj] at hc_; omega
  have rr51 : 0 ≤ i4.toInt ∧ i4.toInt ≤ 255 := by have := r_i4; have : (255 : Int32).toInt = 255 := (by decide); have hc_ := c16; simp only [Int32.lt_iff_toInt_lt, ← Int32.toInt_inj] at hc_; omega
  have rr52 : 256 ≤ i5.toInt ∧ i5.toInt ≤ 65535 := by have := r_i5; have : (255 : Int32).toInt = 255 := (by decide); have hc_ := c17; simp only [Int32.lt_iff_toInt_lt, ← Int32.toInt_inj] at hc_; omega
  refine r_istore H 14 #[vR a1, vI 0, vI 5, vR b1, vI 4, .unset] d_j52_16_12 ?_
  refine r_iload H 16 d_j52_16_14 ?_
  refine r_iloadN H 17 d_j52_16_16 ?_
  refine r_icmpeqF H 20 d_j52_16_17 ?_
  refine r_aloadN H 21 d_j52_16_20 ?_
  refine r_iloadN H 22 d_j52_16_21 ?_
  refine r_iloadN H 23 d_j52_16_22 ?_
  have q53 := (q2.keep K12 (ninS (Nat.ne_of_lt (Nat.lt_of_lt_of_le A_a1.lt (nlt nlr (Nat.le_of_eq g1.symm)))) nin0))
  have z54 := Nat.le_trans K1.1 K12.1
  refine r_static (argsL := [.ref a1, .int 0, .int 5]) (rest := []) (W := 0) H 26 d_j52_16_23 (tw74 hw) (tw75 hw) (tw43 hw) (tw76 hw) (lenOf pd_10 rfl) (rm_toBytes_79 hw Ts a1 i1 i2 i3 i4 i5 c1 hh40 f Zf (nlt Z0 z54) q53 (by have := rr48; omega) (by have := rr49; omega) (by have := rr50; omega) (by have := rr51; omega) (by have := rr52; omega) S__assertionsDisabled S_HI_BYTE_SHIFT S_LO_BYTE_SHIFT) ?_
  rintro _ hh61 ⟨b55, kc56, rfl, K57, g58, q59, q60⟩
  refine r_astore H 28 #[vR a1, vI 0, vI 5, vR b1, vI 4, vR b55] d_j52_16_26 ?_
  refine r_aload H 30 d_j52_16_28 ?_
  refine r_iload H 32 d_j52_16_30 ?_
  have z62 := Nat.le_trans z54 K57.1
  refine r_static (argsL := [.ref b55, .int 4]) (rest := []) (W := 0) H 35 d_j52_16_32 (tw90 hw) (tw91 hw) (tw43 hw) (tw92 hw) (lenOf pd_11 rfl) (rm_getChar_15 hw Ts b55 (4 : Int32) kc56 _ (cL8 i5) (cH8 i5) hh61 f Zf (nlt Z0 z62) q59 rfl (by decide) rfl (by decide) S__assertionsDisabled S_HI_BYTE_SHIFT S_LO_BYTE_SHIFT) ?_
  rintro _ _ ⟨p63, rfl, ep63, rp63, rfl⟩
  have hzp63 : i5 = p63 := by rw [← ep63]; exact (own_u16 i5 (by have := rr52; omega)).symm
  subst hzp63
  refine r_sipush H 38 255 d_j52_16_35 ?_
  refine r_icmpgtT H 54 d_j52_16_38 (by have := rr52; have : (255 : Int32).toInt = 255 := (by decide); simp only [Int32.lt_iff_toInt_lt, ← Int32.toInt_inj]; omega) ?_
  refine r_aload H 56 d_j52_16_54 ?_
  have k65 : Keep h0 h1 [] := Keep.trans (Keep.refl h0 []) K1 all0
  have k66 : Keep h0 hh40 [] := Keep.trans k65 K12 (allS (Or.inr (nlt nlr (Nat.le_of_eq g1.symm))) all0)
  have k67 : Keep h0 hh61 [] := Keep.trans k66 K57 all0
  exact r_areturn H d_j52_16_56 (Or.inr (⟨b55, kc56, rfl, k67, (nlt z54 g58), q59, q60⟩))
 ·
  have rr68 : 0 ≤ i1.toInt ∧ i1.toInt ≤ 255 := by have := r_i1; have : (255 : Int32).toInt = 255 := (by decide); have hc_ := c21; simp only [Int32.lt_iff_toInt_lt, ← Int32.toInt_inj] at hc_; omega
  have rr69 : 0 ≤ i2.toInt ∧ i2.toInt ≤ 255 := by have := r_i2; have : (255 : Int32).toInt = 255 := (by decide); have hc_ := c22; simp only [Int32.lt_iff_toInt_lt, ← Int32.toInt_inj] at hc_; omega
  have rr70 : 0 ≤ i3.toInt ∧ i3.toInt ≤ 255 := by have := r_i3; have : (255 : Int32).toInt = 255 := (by decide); have hc_ := c23; simp only [Int32.lt_iff_toInt_lt, ← Int32.toInt_inj] at hc_; omega
  have rr71 : 256 ≤ i4.toInt ∧ i4.toInt ≤ 65535 := by have := r_i4; have : (255 : Int32).toInt = 255 := (by decide); have hc_ := c24; simp only [Int32.lt_iff_toInt_lt, ← Int32.toInt_inj] at hc_; omega
  refine r_istore H 14 #[vR a1, vI 0, vI 5, vR b1, vI 3, .unset] d_j52_16_12 ?_
  refine r_iload H 16 d_j52_16_14 ?_
  refine r_iloadN H 17 d_j52_16_16 ?_
  refine r_icmpeqF H 20 d_j52_16_17 ?_
  refine r_aloadN H 21 d_j52_16_20 ?_
  refine r_iloadN H 22 d_j52_16_21 ?_
  refine r_iloadN H 23 d_j52_16_22 ?_
  have q72 := (q2.keep K20 (ninS (Nat.ne_of_lt (Nat.lt_of_lt_of_le A_a1.lt (nlt nlr (Nat.le_of_eq g1.symm)))) nin0))
  have z73 := Nat.le_trans K1.1 K20.1
  refine r_static (argsL := [.ref a1, .int 0, .int 5]) (rest := []) (W := 0) H 26 d_j52_16_23 (tw74 hw) (tw75 hw) (tw43 hw) (tw76 hw) (lenOf pd_10 rfl) (rm_toBytes_79 hw Ts a1 i1 i2 i3 i4 i5 c1 hh40 f Zf (nlt Z0 z73) q72 (by have := rr68; omega) (by have := rr69; omega) (by have := rr70; omega) (by have := rr71; omega) (by have := r_i5; omega) S__assertionsDisabled S_HI_BYTE_SHIFT S_LO_BYTE_SHIFT) ?_
  rintro _ hh80 ⟨b74, kc75, rfl, K76, g77, q78, q79⟩
  refine r_astore H 28 #[vR a1, vI 0, vI 5, vR b1, vI 3, vR b74] d_j52_16_26 ?_
  refine r_aload H 30 d_j52_16_28 ?_
  refine r_iload H 32 d_j52_16_30 ?_
  have z81 := Nat.le_trans z73 K76.1
  refine r_static (argsL := [.ref b74, .int 3]) (rest := []) (W := 0) H 35 d_j52_16_32 (tw90 hw) (tw91 hw) (tw43 hw) (tw92 hw) (lenOf pd_11 rfl) (rm_getChar_15 hw Ts b74 (3 : Int32) kc75 _ (cL8 i4) (cH8 i4) hh80 f Zf (nlt Z0 z81) q78 rfl (by decide) rfl (by decide) S__assertionsDisabled S_HI_BYTE_SHIFT S_LO_BYTE_SHIFT) ?_
  rintro _ _ ⟨p82, rfl, ep82, rp82, rfl⟩
  have hzp82 : i4 = p82 := by rw [← ep82]; exact (own_u16 i4 (by have := rr71; omega)).symm
  subst hzp82
  refine r_sipush H 38 255 d_j52_16_35 ?_
  refine r_icmpgtT H 54 d_j52_16_38 (by have := rr71; have : (255 : Int32).toInt = 255 := (by decide); simp only [Int32.lt_iff_toInt_lt, ← Int32.toInt_inj]; omega) ?_
  refine r_aload H 56 d_j52_16_54 ?_
  have k84 : Keep h0 h1 [] := Keep.trans (Keep.refl h0 []) K1 all0
  have k85 : Keep h0 hh40 [] := Keep.trans k84 K20 (allS (Or.inr (nlt nlr (Nat.le_of_eq g1.symm))) all0)
  have k86 : Keep h0 hh80 [] := Keep.trans k85 K76 all0
  exact r_areturn H d_j52_16_56 (Or.inr (⟨b74, kc75, rfl, k86, (nlt z73 g77), q78, q79⟩))
 ·
  have rr87 : 0 ≤ i1.toInt ∧ i1.toInt ≤ 255 := by have := r_i1; have : (255 : Int32).toInt = 255 := (by decide); have hc_ := c28; simp only [Int32.lt_iff_toInt_lt, ← Int32.toInt_inj] at hc_; omega
  have rr88 : 0 ≤ i2.toInt ∧ i2.toInt ≤ 255 := by have := r_i2; have : (255 : Int32).toInt = 255 := (by decide); have hc_ := c29; simp only [Int32.lt_iff_toInt_lt, ← Int32.toInt_inj] at hc_; omega
  have rr89 : 256 ≤ i3.toInt ∧ i3.toInt ≤ 65535 := by have := r_i3; have : (255 : Int32).toInt = 255 := (by decide); have hc_ := c30; simp only [Int32.lt_iff_toInt_lt, ← Int32.toInt_inj] at hc_; omega
  refine r_istore H 14 #[vR a1, vI 0, vI 5, vR b1, vI 2, .unset] d_j52_16_12 ?_
  refine r_iload H 16 d_j52_16_14 ?_
  refine r_iloadN H 17 d_j52_16_16 ?_
  refine r_icmpeqF H 20 d_j52_16_17 ?_
  refine r_aloadN H 21 d_j52_16_20 ?_
  refine r_iloadN H 22 d_j52_16_21 ?_
  refine r_iloadN H 23 d_j52_16_22 ?_
  have q90 := (q2.keep K27 (ninS (Nat.ne_of_lt (Nat.lt_of_lt_of_le A_a1.lt (nlt nlr (Nat.le_of_eq g1.symm)))) nin0))
  have z91 := Nat.le_trans K1.1 K27.1
  refine r_static (argsL := [.ref a1, .int 0, .int 5]) (rest := []) (W := 0) H 26 d_j52_16_23 (tw74 hw) (tw75 hw) (tw43 hw) (tw76 hw) (lenOf pd_10 rfl) (rm_toBytes_79 hw Ts a1 i1 i2 i3 i4 i5 c1 hh40 f Zf (nlt Z0 z91) q90 (by have := rr87; omega) (by have := rr88; omega) (by have := rr89; omega) (by have := r_i4; omega) (by have := r_i5; omega) S__assertionsDisabled S_HI_BYTE_SHIFT S_LO_BYTE_SHIFT) ?_
  rintro _ hh98 ⟨b92, kc93, rfl, K94, g95, q96, q97⟩
  refine r_astore H 28 #[vR a1, vI 0, vI 5, vR b1, vI 2, vR b92] d_j52_16_26 ?_
  refine r_aload H 30 d_j52_16_28 ?_
  refine r_iload H 32 d_j52_16_30 ?_
  have z99 := Nat.le_trans z91 K94.1
  refine r_static (argsL := [.ref b92, .int 2]) (rest := []) (W := 0) H 35 d_j52_16_32 (tw90 hw) (tw91 hw) (tw43 hw) (tw92 hw) (lenOf pd_11 rfl) (rm_getChar_15 hw Ts b92 (2 : Int32) kc93 _ (cL8 i3) (cH8 i3) hh98 f Zf (nlt Z0 z99) q96 rfl (by decide) rfl (by decide) S__assertionsDisabled S_HI_BYTE_SHIFT S_LO_BYTE_SHIFT) ?_
  rintro _ _ ⟨p100, rfl, ep100, rp100, rfl⟩
  have hzp100 : i3 = p100 := by rw [← ep100]; exact (own_u16 i3 (by have := rr89; omega)).symm
  subst hzp100
  refine r_sipush H 38 255 d_j52_16_35 ?_
  refine r_icmpgtT H 54 d_j52_16_38 (by have := rr89; have : (255 : Int32).toInt = 255 := (by decide); simp only [Int32.lt_iff_toInt_lt, ← Int32.toInt_inj]; omega) ?_
  refine r_aload H 56 d_j52_16_54 ?_
  have k102 : Keep h0 h1 [] := Keep.trans (Keep.refl h0 []) K1 all0
  have k103 : Keep h0 hh40 [] := Keep.trans k102 K27 (allS (Or.inr (nlt nlr (Nat.le_of_eq g1.symm))) all0)
  have k104 : Keep h0 hh98 [] := Keep.trans k103 K94 all0
  exact r_areturn H d_j52_16_56 (Or.inr (⟨b92, kc93, rfl, k104, (nlt z91 g95), q96, q97⟩))
 ·
  have rr105 : 0 ≤ i1.toInt ∧ i1.toInt ≤ 255 := by have := r_i1; have : (255 : Int32).toInt = 255 := (by decide); have hc_ := c34; simp only [Int32.lt_iff_toInt_lt, ← Int32.toInt_inj] at hc_; omega
  have rr106 : 256 ≤ i2.toInt ∧ i2.toInt ≤ 65535 := by have := r_i2; have : (255 : Int32).toInt = 255 := (by decide); have hc_ := c35; simp only [Int32.lt_iff_toInt_lt, ← Int32.toInt_inj] at hc_; omega
  refine r_istore H 14 #[vR a1, vI 0, vI 5, vR b1, vI 1, .unset] d_j52_16_12 ?_
  refine r_iload H 16 d_j52_16_14 ?_
  refine r_iloadN H 17 d_j52_16_16 ?_
  refine r_icmpeqF H 20 d_j52_16_17 ?_
  refine r_aloadN H 21 d_j52_16_20 ?_
  refine r_iloadN H 22 d_j52_16_21 ?_
  refine r_iloadN H 23 d_j52_16_22 ?_
  have q107 := (q2.keep K33 (ninS (Nat.ne_of_lt (Nat.lt_of_lt_of_le A_a1.lt (nlt nlr (Nat.le_of_eq g1.symm)))) nin0))
  have z108 := Nat.le_trans K1.1 K33.1
  refine r_static (argsL := [.ref a1, .int 0, .int 5]) (rest := []) (W := 0) H 26 d_j52_16_23 (tw74 hw) (tw75 hw) (tw43 hw) (tw76 hw) (lenOf pd_10 rfl) (rm_toBytes_79 hw Ts a1 i1 i2 i3 i4 i5 c1 hh40 f Zf (nlt Z0 z108) q107 (by have := rr105; omega) (by have := rr106; omega) (by have := r_i3; omega) (by have := r_i4; omega) (by have := r_i5; omega) S__assertionsDisabled S_HI_BYTE_SHIFT S_LO_BYTE_SHIFT) ?_
  rintro _ hh115 ⟨b109, kc110, rfl, K111, g112, q113, q114⟩
  refine r_astore H 28 #[vR a1, vI 0, vI 5, vR b1, vI 1, vR b109] d_j52_16_26 ?_
  refine r_aload H 30 d_j52_16_28 ?_
  refine r_iload H 32 d_j52_16_30 ?_
  have z116 := Nat.le_trans z108 K111.1
  refine r_static (argsL := [.ref b109, .int 1]) (rest := []) (W := 0) H 35 d_j52_16_32 (tw90 hw) (tw91 hw) (tw43 hw) (tw92 hw) (lenOf pd_11 rfl) (rm_getChar_15 hw Ts b109 (1 : Int32) kc110 _ (cL8 i2) (cH8 i2) hh115 f Zf (nlt Z0 z116) q113 rfl (by decide) rfl (by decide) S__assertionsDisabled S_HI_BYTE_SHIFT S_LO_BYTE_SHIFT) ?_
  rintro _ _ ⟨p117, rfl, ep117, rp117, rfl⟩
  have hzp117 : i2 = p117 := by rw [← ep117]; exact (own_u16 i2 (by have := rr106; omega)).symm
  subst hzp117
  refine r_sipush H 38 255 d_j52_16_35 ?_
  refine r_icmpgtT H 54 d_j52_16_38 (by have := rr106; have : (255 : Int32).toInt = 255 := (by decide); simp only [Int32.lt_iff_toInt_lt, ← Int32.toInt_inj]; omega) ?_
  refine r_aload H 56 d_j52_16_54 ?_
  have k119 : Keep h0 h1 [] := Keep.trans (Keep.refl h0 []) K1 all0
  have k120 : Keep h0 hh40 [] := Keep.trans k119 K33 (allS (Or.inr (nlt nlr (Nat.le_of_eq g1.symm))) all0)
  have k121 : Keep h0 hh115 [] := Keep.trans k120 K111 all0
  exact r_areturn H d_j52_16_56 (Or.inr (⟨b109, kc110, rfl, k121, (nlt z108 g112), q113, q114⟩))
 ·
  have rr122 : 256 ≤ i1.toInt ∧ i1.toInt ≤ 65535 := by have := r_i1; have : (255 : Int32).toInt = 255 := (by decide); have hc_ := c39; simp only [Int32.lt_iff_toInt_lt, ← Int32.toInt_inj] at hc_; omega
  refine r_istore H 14 #[vR a1, vI 0, vI 5, vR b1, vI 0, .unset] d_j52_16_12 ?_
  refine r_iload H 16 d_j52_16_14 ?_
  refine r_iloadN H 17 d_j52_16_16 ?_
  refine r_icmpeqF H 20 d_j52_16_17 ?_
  refine r_aloadN H 21 d_j52_16_20 ?_
  refine r_iloadN H 22 d_j52_16_21 ?_
  refine r_iloadN H 23 d_j52_16_22 ?_
  refine r_static (argsL := [.ref a1, .int 0, .int 5]) (rest := []) (W := 0) H 26 d_j52_16_23 (tw74 hw) (tw75 hw) (tw43 hw) (tw76 hw) (lenOf pd_10 rfl) (rm_toBytes_79 hw Ts a1 i1 i2 i3 i4 i5 c1 h1 f Zf (nlt Z0 K1.1) q2 (by have := rr122; omega) (by have := r_i2; omega) (by have := r_i3; omega) (by have := r_i4; omega) (by have := r_i5; omega) S__assertionsDisabled S_HI_BYTE_SHIFT S_LO_BYTE_SHIFT) ?_
  rintro _ hh129 ⟨b123, kc124, rfl, K125, g126, q127, q128⟩
  refine r_astore H 28 #[vR a1, vI 0, vI 5, vR b1, vI 0, vR b123] d_j52_16_26 ?_
  refine r_aload H 30 d_j52_16_28 ?_
  refine r_iload H 32 d_j52_16_30 ?_
  have z130 := Nat.le_trans K1.1 K125.1
  refine r_static (argsL := [.ref b123, .int 0]) (rest := []) (W := 0) H 35 d_j52_16_32 (tw90 hw) (tw91 hw) (tw43 hw) (tw92 hw) (lenOf pd_11 rfl) (rm_getChar_15 hw Ts b123 (0 : Int32) kc124 _ (cL8 i1) (cH8 i1) hh129 f Zf (nlt Z0 z130) q127 rfl (by decide) rfl (by decide) S__assertionsDisabled S_HI_BYTE_SHIFT S_LO_BYTE_SHIFT) ?_
  rintro _ _ ⟨p131, rfl, ep131, rp131, rfl⟩
  have hzp131 : i1 = p131 := by rw [← ep131]; exact (own_u16 i1 (by have := rr122; omega)).symm
  subst hzp131
  refine r_sipush H 38 255 d_j52_16_35 ?_
  refine r_icmpgtT H 54 d_j52_16_38 (by have := rr122; have : (255 : Int32).toInt = 255 := (by decide); simp only [Int32.lt_iff_toInt_lt, ← Int32.toInt_inj]; omega) ?_
  refine r_aload H 56 d_j52_16_54 ?_
  have k133 : Keep h0 h1 [] := Keep.trans (Keep.refl h0 []) K1 all0
  have k134 : Keep h0 hh129 [] := Keep.trans k133 K125 all0
  exact r_areturn H d_j52_16_56 (Or.inr (⟨b123, kc124, rfl, k134, (nlt K1.1 g126), q127, q128⟩))
def Q_coderFromArrayLen_87 (Z : State) (h0 : Heap) (v : Option Value) (h : Heap) : Prop := v = some (.int 0) ∧ h0 = h
def R_coderFromArrayLen_87 : Room := { frames := 0, cells := 0, slots := 0, locals := 0 }
theorem rm_coderFromArrayLen_87 {w : Bool} {Z : State} {a0 : Array Value} (hw : HW a0 Z) (Ts : List String) (a1 : Addr) (i1 : Int32) (i2 : Int32) (i3 : Int32) (i4 : Int32) (i5 : Int32) (c1 : ClassId) (h0 : Heap) (f : Nat) (Zf : Z.heap.size ≤ f) (Z0 : f ≤ h0.size) (A_a1 : Ar Z h0 a1 c1 .byte [.int (cB8 i1), .int (cB8 i2), .int (cB8 i3), .int (cB8 i4), .int (cB8 i5)]) :
  Con w [] Z mn13 jdk_52_method_15_code 2 (some .byte) R_coderFromArrayLen_87 Ts Ts f #[.ref a1, .int 5] h0 (Q_coderFromArrayLen_87 Z h0) := by
 refine con_of f #[vR a1, vI 5] (plainFor_of_name pn_3) (fun m => rfl) Zf ?_
 intro C H hX0
 refine r_iloadN H 1 d_j52_15_0 ?_
 refine r_aloadN H 2 d_j52_15_1 ?_
 refine r_alen H 3 5 d_j52_15_2 A_a1 ?_
 refine r_isub H 4 0 d_j52_15_3 ?_
 refine r_bipush H 6 31 d_j52_15_4 ?_
 refine r_iushr H 7 0 d_j52_15_6 (by decide) ?_
 refine r_i2b H 8 0 d_j52_15_7 (by decide) ?_
 exact r_nreturn (0 : Int32) H d_j52_15_8 (by decide) (⟨rfl, rfl⟩)
def Q_coderFromArrayLen_88 (Z : State) (h0 : Heap) (v : Option Value) (h : Heap) : Prop := v = some (.int 1) ∧ h0 = h
def R_coderFromArrayLen_88 : Room := { frames := 0, cells := 0, slots := 0, locals := 0 }
theorem rm_coderFromArrayLen_88 {w : Bool} {Z : State} {a0 : Array Value} (hw : HW a0 Z) (Ts : List String) (a1 : Addr) (i1 : Int32) (i2 : Int32) (i3 : Int32) (i4 : Int32) (i5 : Int32) (c1 : ClassId) (h0 : Heap) (f : Nat) (Zf : Z.heap.size ≤ f) (Z0 : f ≤ h0.size) (A_a1 : Ar Z h0 a1 c1 .byte [.int (cL8 i1), .int (cH8 i1), .int (cL8 i2), .int (cH8 i2), .int (cL8 i3), .int (cH8 i3), .int (cL8 i4), .int (cH8 i4), .int (cL8 i5), .int (cH8 i5)]) :
  Con w [] Z mn13 jdk_52_method_15_code 2 (some .byte) R_coderFromArrayLen_88 Ts Ts f #[.ref a1, .int 5] h0 (Q_coderFromArrayLen_88 Z h0) := by
 refine con_of f #[vR a1, vI 5] (plainFor_of_name pn_3) (fun m => rfl) Zf ?_
 intro C H hX0
 refine r_iloadN H 1 d_j52_15_0 ?_
 refine r_aloadN H 2 d_j52_15_1 ?_
 refine r_alen H 3 10 d_j52_15_2 A_a1 ?_
 refine r_isub H 4 (-5 : Int32) d_j52_15_3 ?_
 refine r_bipush H 6 31 d_j52_15_4 ?_
 refine r_iushr H 7 1 d_j52_15_6 (by decide) ?_
 refine r_i2b H 8 1 d_j52_15_7 (by decide) ?_
 exact r_nreturn (1 : Int32) H d_j52_15_8 (by decide) (⟨rfl, rfl⟩)
def Q_init_76 (Z : State) (a1 : Addr) (i1 : Int32) (i2 : Int32) (i3 : Int32) (i4 : Int32) (i5 : Int32) (h0 : Heap) (v : Option Value) (h : Heap) : Prop := (∃ (b1 : Addr) (kc2 : ClassId), v = none ∧ (¬ (255 : Int32) < i1) ∧ (¬ (255 : Int32) < i2) ∧ (¬ (255 : Int32) < i3) ∧ (¬ (255 : Int32) < i4) ∧ (¬ (255 : Int32) < i5) ∧ Keep h0 h [a1] ∧ h0.size ≤ b1 ∧ Exa Z h a1 "java/lang/String" ∧ Fld Z h a1 "java/lang/String" "coder" "B" (.int 0) ∧ Fld Z h a1 "java/lang/String" "value" "[B" (.ref b1) ∧ Ar Z h b1 kc2 .byte [.int (cB8 i1), .int (cB8 i2), .int (cB8 i3), .int (cB8 i4), .int (cB8 i5)] ∧ Exa Z h b1 "[B") ∨ (∃ (b12 : Addr) (kc13 : ClassId), v = none ∧ Keep h0 h [a1] ∧ h0.size ≤ b12 ∧ Exa Z h a1 "java/lang/String" ∧ Fld Z h a1 "java/lang/String" "coder" "B" (.int 1) ∧ Fld Z h a1 "java/lang/String" "value" "[B" (.ref b12) ∧ Ar Z h b12 kc13 .byte [.int (cL8 i1), .int (cH8 i1), .int (cL8 i2), .int (cH8 i2), .int (cL8 i3), .int (cH8 i3), .int (cL8 i4), .int (cH8 i4), .int (cL8 i5), .int (cH8 i5)] ∧ Exa Z h b12 "[B")
def R_init_76 : Room := { frames := 4, cells := 2, slots := 15, locals := 57 }
theorem rm_init_76 {w : Bool} {Z : State} {a0 : Array Value} (hw : HW a0 Z) (Ts : List String) (a1 : Addr) (a2 : Addr) (i1 : Int32) (i2 : Int32) (i3 : Int32) (i4 : Int32) (i5 : Int32) (c1 : ClassId) (cs : Int32) (h0 : Heap) (f : Nat) (Zf : Z.heap.size ≤ f) (Z0 : f ≤ h0.size) (A_a2 : Ar Z h0 a2 c1 .char [.int i1, .int i2, .int i3, .int i4, .int i5]) (E_a2 : Exa Z h0 a2 "[C") (E_a1 : Exa Z h0 a1 "java/lang/String") (F_coder_a1 : Fld Z h0 a1 "java/lang/String" "coder" "B" (.int 0)) (g_a1 : f ≤ a1) (F_value_a1 : Fld Z h0 a1 "java/lang/String" "value" "[B" .null) (r_i1 : 0 ≤ i1.toInt ∧ i1.toInt ≤ 65535) (r_i2 : 0 ≤ i2.toInt ∧ i2.toInt ≤ 65535) (r_i3 : 0 ≤ i3.toInt ∧ i3.toInt ≤ 65535) (r_i4 : 0 ≤ i4.toInt ∧ i4.toInt ≤ 65535) (r_i5 : 0 ≤ i5.toInt ∧ i5.toInt ≤ 65535) (S_cs : G_S_cs Z cs) (S__assertionsDisabled : G_S__assertionsDisabled Z) (S_HI_BYTE_SHIFT : G_S_HI_BYTE_SHIFT Z) (S_LO_BYTE_SHIFT : G_S_LO_BYTE_SHIFT Z) (hcs : ¬ cs = 0) :
  Con w [] Z mn1 jdk_42_method_149_code 6 none R_init_76 Ts Ts f #[.ref a1, .ref a2, .int 0, .int 5, .null] h0 (Q_init_76 Z a1 i1 i2 i3 i4 i5 h0) := by
 refine con_of f #[vR a1, vR a2, vI 0, vI 5, .val .null, .unset] (plainFor_of_name pn_1) (fun m => rfl) Zf ?_
 intro C H hX0
 refine r_aloadN H 1 d_j42_149_0 ?_
 refine r_initO (W := 0) H 4 d_j42_149_1 (tw15 hw) (tw16 hw) (tw17 hw) ?_
 refine r_iloadN H 5 d_j42_149_4 ?_
 refine r_ifneT H 27 d_j42_149_5 (by decide) (by decide) (by decide) ?_
 refine r_gets H 30 d_j42_149_27 (tw40 hw) S_cs ?_
 refine r_ifeqF H 33 d_j42_149_30 rfl hcs ?_
 refine r_aloadN H 34 d_j42_149_33 ?_
 refine r_iloadN H 35 d_j42_149_34 ?_
 refine r_iloadN H 36 d_j42_149_35 ?_
 refine r_static (argsL := [.ref a2, .int 0, .int 5]) (rest := []) (W := 0) H 39 d_j42_149_36 (tw41 hw) (tw42 hw) (tw43 hw) (tw44 hw) (lenOf pd_10 rfl) (rm_compress_77 hw Ts a2 i1 i2 i3 i4 i5 c1 h0 f Zf Z0 A_a2 E_a2 r_i1 r_i2 r_i3 r_i4 r_i5 S__assertionsDisabled S_HI_BYTE_SHIFT S_LO_BYTE_SHIFT) ?_
 rintro _ hh18 (⟨b1, kc2, rfl, c4, c5, c6, c7, c8, K3, g9, q10, q11⟩ | ⟨b12, kc13, rfl, K14, g15, q16, q17⟩)
 ·
  refine r_astore H 41 #[vR a1, vR a2, vI 0, vI 5, .val .null, vR b1] d_j42_149_39 ?_
  refine r_aloadN H 42 d_j42_149_41 ?_
  refine r_aload H 44 d_j42_149_42 ?_
  refine r_iloadN H 45 d_j42_149_44 ?_
  refine r_static (argsL := [.ref b1, .int 5]) (rest := [.ref a1]) (W := 1) H 48 d_j42_149_45 (tw48 hw) (tw49 hw) (tw43 hw) (tw50 hw) (lenOf pd_12 rfl) (rm_coderFromArrayLen_87 hw Ts b1 i1 i2 i3 i4 i5 kc2 hh18 f Zf (nlt Z0 K3.1) q10) ?_
  rintro _ _ ⟨rfl, rfl⟩
  have q25 := (E_a1.keep K3)
  have q26 := (F_coder_a1.keep K3 nin0)
  refine r_putn (v' := (.int 0)) (ty := .byte) H 51 d_j42_149_48 (tw25 hw) q26 q25 (Or.inr ⟨(tw21 hw), rfl, rfl⟩) (tw6 hw) g_a1 ?_
  intro h27 W27 K27 E27 F27
  refine r_aloadN H 52 d_j42_149_51 ?_
  refine r_aload H 54 d_j42_149_52 ?_
  have q28 := ((F_value_a1.keep K3 nin0).other W27 (Or.inr (slot_ne (Or.inr (tw20 hw)) (Or.inr (tw21 hw)) (by decide) (t := (.array .byte)) (t' := .byte) (by decide) (by decide))))
  refine r_putf (ty := (.array .byte)) H 57 d_j42_149_54 (tw24 hw) q28 E27 (Or.inr ⟨(tw20 hw), rfl, rfl⟩) (tw6 hw) g_a1 ?_
  intro h29 W29 K29 E29 F29
  have k30 : Keep h0 hh18 [a1] := Keep.trans (Keep.refl h0 [a1]) K3 all0
  have k31 : Keep h0 h27 [a1] := Keep.trans k30 K27 (allS (Or.inl (List.mem_of_getElem? (i := 0) rfl)) all0)
  have k32 : Keep h0 h29 [a1] := Keep.trans k31 K29 (allS (Or.inl (List.mem_of_getElem? (i := 0) rfl)) all0)
  have q33 := (F27.other W29 (Or.inr (slot_ne (Or.inr (tw21 hw)) (Or.inr (tw20 hw)) (by decide) (t := .byte) (t' := (.array .byte)) (by decide) (by decide))))
  have q34 := ((q10.keep K27 (ninS (Ne.symm (Nat.ne_of_lt (Nat.lt_of_lt_of_le E_a1.lt (nlt nlr g9)))) nin0)).keep K29 (ninS (Ne.symm (Nat.ne_of_lt (Nat.lt_of_lt_of_le E_a1.lt (nlt nlr g9)))) nin0))
  have q35 := ((q11.keep K27).keep K29)
  exact r_return H d_j42_149_57 (Or.inl ⟨b1, kc2, rfl, c4, c5, c6, c7, c8, k32, (nlt nlr g9), E29, q33, F29, q34, q35⟩)
 ·
  refine r_astore H 41 #[vR a1, vR a2, vI 0, vI 5, .val .null, vR b12] d_j42_149_39 ?_
  refine r_aloadN H 42 d_j42_149_41 ?_
  refine r_aload H 44 d_j42_149_42 ?_
  refine r_iloadN H 45 d_j42_149_44 ?_
  refine r_static (argsL := [.ref b12, .int 5]) (rest := [.ref a1]) (W := 1) H 48 d_j42_149_45 (tw48 hw) (tw49 hw) (tw43 hw) (tw50 hw) (lenOf pd_12 rfl) (rm_coderFromArrayLen_88 hw Ts b12 i1 i2 i3 i4 i5 kc13 hh18 f Zf (nlt Z0 K14.1) q16) ?_
  rintro _ _ ⟨rfl, rfl⟩
  have q37 := (E_a1.keep K14)
  have q38 := (F_coder_a1.keep K14 nin0)
  refine r_putn (v' := (.int 1)) (ty := .byte) H 51 d_j42_149_48 (tw25 hw) q38 q37 (Or.inr ⟨(tw21 hw), rfl, rfl⟩) (tw6 hw) g_a1 ?_
  intro h39 W39 K39 E39 F39
  refine r_aloadN H 52 d_j42_149_51 ?_
  refine r_aload H 54 d_j42_149_52 ?_
  have q40 := ((F_value_a1.keep K14 nin0).other W39 (Or.inr (slot_ne (Or.inr (tw20 hw)) (Or.inr (tw21 hw)) (by decide) (t := (.array .byte)) (t' := .byte) (by decide) (by decide))))
  refine r_putf (ty := (.array .byte)) H 57 d_j42_149_54 (tw24 hw) q40 E39 (Or.inr ⟨(tw20 hw), rfl, rfl⟩) (tw6 hw) g_a1 ?_
  intro h41 W41 K41 E41 F41
  have k42 : Keep h0 hh18 [a1] := Keep.trans (Keep.refl h0 [a1]) K14 all0
  have k43 : Keep h0 h39 [a1] := Keep.trans k42 K39 (allS (Or.inl (List.mem_of_getElem? (i := 0) rfl)) all0)
  have k44 : Keep h0 h41 [a1] := Keep.trans k43 K41 (allS (Or.inl (List.mem_of_getElem? (i := 0) rfl)) all0)
  have q45 := (F39.other W41 (Or.inr (slot_ne (Or.inr (tw21 hw)) (Or.inr (tw20 hw)) (by decide) (t := .byte) (t' := (.array .byte)) (by decide) (by decide))))
  have q46 := ((q16.keep K39 (ninS (Ne.symm (Nat.ne_of_lt (Nat.lt_of_lt_of_le E_a1.lt (nlt nlr g15)))) nin0)).keep K41 (ninS (Ne.symm (Nat.ne_of_lt (Nat.lt_of_lt_of_le E_a1.lt (nlt nlr g15)))) nin0))
  have q47 := ((q17.keep K39).keep K41)
  exact r_return H d_j42_149_57 (Or.inr (⟨b12, kc13, rfl, k44, (nlt nlr g15), E41, q45, F41, q46, q47⟩))
def Q_init_75 (Z : State) (a1 : Addr) (i1 : Int32) (i2 : Int32) (i3 : Int32) (i4 : Int32) (i5 : Int32) (h0 : Heap) (v : Option Value) (h : Heap) : Prop := (∃ (b1 : Addr) (kc2 : ClassId), v = none ∧ (¬ (255 : Int32) < i1) ∧ (¬ (255 : Int32) < i2) ∧ (¬ (255 : Int32) < i3) ∧ (¬ (255 : Int32) < i4) ∧ (¬ (255 : Int32) < i5) ∧ Keep h0 h [a1] ∧ h0.size ≤ b1 ∧ Exa Z h a1 "java/lang/String" ∧ Fld Z h a1 "java/lang/String" "coder" "B" (.int 0) ∧ Fld Z h a1 "java/lang/String" "value" "[B" (.ref b1) ∧ Ar Z h b1 kc2 .byte [.int (cB8 i1), .int (cB8 i2), .int (cB8 i3), .int (cB8 i4), .int (cB8 i5)] ∧ Exa Z h b1 "[B") ∨ (∃ (b15 : Addr) (kc16 : ClassId), v = none ∧ Keep h0 h [a1] ∧ h0.size ≤ b15 ∧ Exa Z h a1 "java/lang/String" ∧ Fld Z h a1 "java/lang/String" "coder" "B" (.int 1) ∧ Fld Z h a1 "java/lang/String" "value" "[B" (.ref b15) ∧ Ar Z h b15 kc16 .byte [.int (cL8 i1), .int (cH8 i1), .int (cL8 i2), .int (cH8 i2), .int (cL8 i3), .int (cH8 i3), .int (cL8 i4), .int (cH8 i4), .int (cL8 i5), .int (cH8 i5)] ∧ Exa Z h b15 "[B")
def R_init_75 : Room := { frames := 5, cells := 2, slots := 15, locals := 74 }
theorem rm_init_75 {w : Bool} {Z : State} {a0 : Array Value} (hw : HW a0 Z) (Ts : List String) (a1 : Addr) (a2 : Addr) (i1 : Int32) (i2 : Int32) (i3 : Int32) (i4 : Int32) (i5 : Int32) (c1 : ClassId) (cs : Int32) (h0 : Heap) (f : Nat) (Zf : Z.heap.size ≤ f) (Z0 : f ≤ h0.size) (A_a2 : Ar Z h0 a2 c1 .char [.int i1, .int i2, .int i3, .int i4, .int i5]) (g_a1 : f ≤ a1) (E_a2 : Exa Z h0 a2 "[C") (E_a1 : Exa Z h0 a1 "java/lang/String") (F_coder_a1 : Fld Z h0 a1 "java/lang/String" "coder" "B" (.int 0)) (F_value_a1 : Fld Z h0 a1 "java/lang/String" "value" "[B" .null) (r_i1 : 0 ≤ i1.toInt ∧ i1.toInt ≤ 65535) (r_i2 : 0 ≤ i2.toInt ∧ i2.toInt ≤ 65535) (r_i3 : 0 ≤ i3.toInt ∧ i3.toInt ≤ 65535) (r_i4 : 0 ≤ i4.toInt ∧ i4.toInt ≤ 65535) (r_i5 : 0 ≤ i5.toInt ∧ i5.toInt ≤ 65535) (S_cs : G_S_cs Z cs) (S__assertionsDisabled : G_S__assertionsDisabled Z) (S_HI_BYTE_SHIFT : G_S_HI_BYTE_SHIFT Z) (S_LO_BYTE_SHIFT : G_S_LO_BYTE_SHIFT Z) (hcs : ¬ cs = 0) :
  Con w [] Z mn2 jdk_42_method_3_code 2 none R_init_75 Ts Ts f #[.ref a1, .ref a2] h0 (Q_init_75 Z a1 i1 i2 i3 i4 i5 h0) := by
 refine con_of f #[vR a1, vR a2] (plainFor_of_name pn_1) (fun m => rfl) Zf ?_
 intro C H hX0
 refine r_aloadN H 1 d_j42_3_0 ?_
 refine r_aloadN H 2 d_j42_3_1 ?_
 refine r_iconst H 3 0 d_j42_3_2 ?_
 refine r_aloadN H 4 d_j42_3_3 ?_
 refine r_alen H 5 5 d_j42_3_4 A_a2 ?_
 refine r_null H 6 d_j42_3_5 ?_
 refine r_special (a := a1) (argsL := [.ref a2, .int 0, .int 5, .null]) (rest := []) (W := 0) H 9 d_j42_3_6 (tw11 hw) (tw12 hw) (tw7 hw) (tw14 hw) (lenOf pd_1 rfl) (rm_init_76 hw Ts a1 a2 i1 i2 i3 i4 i5 c1 cs h0 f Zf Z0 A_a2 E_a2 E_a1 F_coder_a1 g_a1 F_value_a1 r_i1 r_i2 r_i3 r_i4 r_i5 S_cs S__assertionsDisabled S_HI_BYTE_SHIFT S_LO_BYTE_SHIFT hcs) ?_
 rintro _ hh24 (⟨b1, kc2, rfl, c4, c5, c6, c7, c8, K3, g9, q10, q11, q12, q13, q14⟩ | ⟨b15, kc16, rfl, K17, g18, q19, q20, q21, q22, q23⟩)
 ·
  have k30 : Keep h0 hh24 [a1] := Keep.trans (Keep.refl h0 [a1]) K3 (allS (Or.inl (List.mem_of_getElem? (i := 0) rfl)) all0)
  exact r_return H d_j42_3_9 (Or.inl ⟨b1, kc2, rfl, c4, c5, c6, c7, c8, k30, (nlt nlr g9), q10, q11, q12, q13, q14⟩)
 ·
  have k31 : Keep h0 hh24 [a1] := Keep.trans (Keep.refl h0 [a1]) K17 (allS (Or.inl (List.mem_of_getElem? (i := 0) rfl)) all0)
  exact r_return H d_j42_3_9 (Or.inr (⟨b15, kc16, rfl, k31, (nlt nlr g18), q19, q20, q21, q22, q23⟩))
def fn_readAlikeByEitherSetting_89 (i1 : Int32) (i2 : Int32) (i3 : Int32) (i4 : Int32) (i5 : Int32) : Int32 := (if (if i2 = (39 : Int32) then (if ((if i1 = (92 : Int32) then (1 : Int32) else (0 : Int32)) % (2 : Int32)) = (0 : Int32) then (1 : Int32) else (0 : Int32)) else (1 : Int32)) = (0 : Int32) then (if i2 = (39 : Int32) then (if ((if i1 = (92 : Int32) then (1 : Int32) else (0 : Int32)) % (2 : Int32)) = (0 : Int32) then (1 : Int32) else (0 : Int32)) else (1 : Int32)) else (if (if i3 = (39 : Int32) then (if ((if i2 = (92 : Int32) then ((if i1 = (92 : Int32) then (1 : Int32) else (0 : Int32)) + (1 : Int32)) else (0 : Int32)) % (2 : Int32)) = (0 : Int32) then (1 : Int32) else (0 : Int32)) else (1 : Int32)) = (0 : Int32) then (if i3 = (39 : Int32) then (if ((if i2 = (92 : Int32) then ((if i1 = (92 : Int32) then (1 : Int32) else (0 : Int32)) + (1 : Int32)) else (0 : Int32)) % (2 : Int32)) = (0 : Int32) then (1 : Int32) else (0 : Int32)) else (1 : Int32)) else (if (if i4 = (39 : Int32) then (if ((if i3 = (92 : Int32) then ((if i2 = (92 : Int32) then ((if i1 = (92 : Int32) then (1 : Int32) else (0 : Int32)) + (1 : Int32)) else (0 : Int32)) + (1 : Int32)) else (0 : Int32)) % (2 : Int32)) = (0 : Int32) then (1 : Int32) else (0 : Int32)) else (1 : Int32)) = (0 : Int32) then (if i4 = (39 : Int32) then (if ((if i3 = (92 : Int32) then ((if i2 = (92 : Int32) then ((if i1 = (92 : Int32) then (1 : Int32) else (0 : Int32)) + (1 : Int32)) else (0 : Int32)) + (1 : Int32)) else (0 : Int32)) % (2 : Int32)) = (0 : Int32) then (1 : Int32) else (0 : Int32)) else (1 : Int32)) else (if (if i5 = (39 : Int32) then (if ((if i4 = (92 : Int32) then ((if i3 = (92 : Int32) then ((if i2 = (92 : Int32) then ((if i1 = (92 : Int32) then (1 : Int32) else (0 : Int32)) + (1 : Int32)) else (0 : Int32)) + (1 : Int32)) else (0 : Int32)) + (1 : Int32)) else (0 : Int32)) % (2 : Int32)) = (0 : Int32) then (1 : Int32) else (0 : Int32)) else (1 : Int32)) = (0 : Int32) then (if i5 = (39 : Int32) then (if ((if i4 = (92 : Int32) then ((if i3 = (92 : Int32) then ((if i2 = (92 : Int32) then ((if i1 = (92 : Int32) then (1 : Int32) else (0 : Int32)) + (1 : Int32)) else (0 : Int32)) + (1 : Int32)) else (0 : Int32)) + (1 : Int32)) else (0 : Int32)) % (2 : Int32)) = (0 : Int32) then (1 : Int32) else (0 : Int32)) else (1 : Int32)) else (if i5 = (39 : Int32) then (if ((if i4 = (92 : Int32) then ((if i3 = (92 : Int32) then ((if i2 = (92 : Int32) then ((if i1 = (92 : Int32) then (1 : Int32) else (0 : Int32)) + (1 : Int32)) else (0 : Int32)) + (1 : Int32)) else (0 : Int32)) + (1 : Int32)) else (0 : Int32)) % (2 : Int32)) = (0 : Int32) then (1 : Int32) else (0 : Int32)) else (1 : Int32))))))
def Q_readAlikeByEitherSetting_89 (Z : State) (i1 : Int32) (i2 : Int32) (i3 : Int32) (i4 : Int32) (i5 : Int32) (h0 : Heap) (v : Option Value) (h : Heap) : Prop := ∃ z : Int32, v = some (.int z) ∧ h0 = h ∧ (fn_readAlikeByEitherSetting_89 i1 i2 i3 i4 i5) = z ∧ (0 ≤ z.toInt ∧ z.toInt ≤ 1)
def R_readAlikeByEitherSetting_89 : Room := { frames := 4, cells := 0, slots := 0, locals := 53 }
theorem rm_readAlikeByEitherSetting_89 {w : Bool} {Z : State} {a0 : Array Value} (hw : HW a0 Z) (Ts : List String) (a1 : Addr) (a2 : Addr) (i1 : Int32) (i2 : Int32) (i3 : Int32) (i4 : Int32) (i5 : Int32) (c1 : ClassId) (cs : Int32) (sio : Value) (h0 : Heap) (f : Nat) (Zf : Z.heap.size ≤ f) (Z0 : f ≤ h0.size) (E_a1 : Exa Z h0 a1 "java/lang/String") (F_value_a1 : Fld Z h0 a1 "java/lang/String" "value" "[B" (.ref a2)) (A_a2 : Ar Z h0 a2 c1 .byte [.int (cB8 i1), .int (cB8 i2), .int (cB8 i3), .int (cB8 i4), .int (cB8 i5)]) (F_coder_a1 : Fld Z h0 a1 "java/lang/String" "coder" "B" (.int 0)) (r_i1 : 0 ≤ i1.toInt ∧ i1.toInt ≤ 255) (r_i2 : 0 ≤ i2.toInt ∧ i2.toInt ≤ 255) (r_i3 : 0 ≤ i3.toInt ∧ i3.toInt ≤ 255) (r_i4 : 0 ≤ i4.toInt ∧ i4.toInt ≤ 255) (r_i5 : 0 ≤ i5.toInt ∧ i5.toInt ≤ 255) (S_cs : G_S_cs Z cs) (S_sio : G_S_sio Z sio) (hsio : G_hsio Z sio) (hcs : ¬ cs = 0) :
  Con w [] Z mn5 prog_52_method_4_code 5 (some .boolean) R_readAlikeByEitherSetting_89 Ts Ts f #[.ref a1] h0 (Q_readAlikeByEitherSetting_89 Z i1 i2 i3 i4 i5 h0) := by
 refine con_of f #[vR a1, .unset, .unset, .unset, .unset] (plainFor_of_name pn_2) (fun m => rfl) Zf ?_
 intro C H hX0
 refine r_iconst H 1 1 d_g52_4_0 ?_
 refine r_istoreN H 2 #[vR a1, vI 1, .unset, .unset, .unset] d_g52_4_1 ?_
 refine r_iconst H 3 0 d_g52_4_2 ?_
 refine r_istoreN H 4 #[vR a1, vI 1, vI 0, .unset, .unset] d_g52_4_3 ?_
 refine r_iconst H 5 0 d_g52_4_4 ?_
 refine r_istoreN H 6 #[vR a1, vI 1, vI 0, vI 0, .unset] d_g52_4_5 ?_
 refine r_iloadN H 7 d_g52_4_6 ?_
 refine r_ifeqF H 10 d_g52_4_7 rfl (by decide) ?_
 refine r_iloadN H 11 d_g52_4_10 ?_
 refine r_aloadN H 12 d_g52_4_11 ?_
 refine r_virtual (z := mn4) (a := a1) (argsL := []) (rest := [.int 0]) (W := 1) H 15 d_g52_4_12 (tw30 hw) (tw31 hw) (nf_sel (tw33 hw)) (tw33 hw) (tw32 hw) (tw7 hw) (tw34 hw) E_a1 (lenOf pd_4 rfl) (rm_length_19 hw Ts a1 a2 c1 _ (5 : Int32) cs h0 f Zf Z0 F_value_a1 A_a2 E_a1 F_coder_a1 rfl S_cs hcs) ?_
 rintro _ _ ⟨p1, rfl, ep1, rfl⟩
 have hzp1 : (5 : Int32) = p1 := by rw [← ep1]; decide
 subst hzp1
 refine r_icmpgeF H 18 d_g52_4_15 ?_
 refine r_aloadN H 19 d_g52_4_18 ?_
 refine r_iloadN H 20 d_g52_4_19 ?_
 refine r_virtual (z := mn18) (a := a1) (argsL := [.int 0]) (rest := []) (W := 0) H 23 d_g52_4_20 (tw51 hw) (tw52 hw) (nf_sel (tw54 hw)) (tw54 hw) (tw53 hw) (tw7 hw) (tw55 hw) E_a1 (lenOf pd_16 rfl) (rm_charAt_20 hw Ts a1 (0 : Int32) a2 c1 _ (5 : Int32) (cB8 i1) cs sio h0 f Zf Z0 E_a1 F_coder_a1 F_value_a1 A_a2 rfl rfl (by decide) (by decide) (by decide) S_cs S_sio hsio hcs) ?_
 rintro _ _ ⟨p3, rfl, ep3, rp3, rfl⟩
 have hzp3 : i1 = p3 := by rw [← ep3]; exact (own_l8 i1 (by have := r_i1; omega)).symm
 subst hzp3
 refine r_istore H 25 #[vR a1, vI 1, vI 0, vI 0, vI i1] d_g52_4_23 ?_
 refine r_iload H 27 d_g52_4_25 ?_
 refine r_bipush H 29 39 d_g52_4_27 ?_
 refine Run.join (P := fun _ => True) (pcB := 43) (LB := fun _ => #[vR a1, vI 1, vI 0, vI 0, vI i1]) (SB := fun _ => [.int 1]) (fun key => ?_) ?_
 ·
  refine r_icmpne H 38 32 d_g52_4_29 (fun c5 => ?_) (fun c5 => ?_)
  ·
   refine r_iconst H 39 1 d_g52_4_38 ?_
   refine r_goto H 43 d_g52_4_39 ?_
   exact key 0 trivial
  ·
   refine r_iloadN H 33 d_g52_4_32 ?_
   refine r_iconst H 34 2 d_g52_4_33 ?_
   refine r_irem H 35 (0 : Int32) d_g52_4_34 (by decide) ?_
   refine r_ifneF H 38 d_g52_4_35 rfl (by decide) ?_
   refine r_iconst H 39 1 d_g52_4_38 ?_
   refine r_goto H 43 d_g52_4_39 ?_
   exact key 0 trivial
 rintro _ _
 refine r_istoreN H 44 #[vR a1, vI 1, vI 0, vI 0, vI i1] d_g52_4_43 ?_
 refine r_iload H 46 d_g52_4_44 ?_
 refine r_bipush H 48 92 d_g52_4_46 ?_
 refine Run.join (P := fun z => (if i1 = (92 : Int32) then (1 : Int32) else (0 : Int32)) = z ∧ (0 ≤ z.toInt ∧ z.toInt ≤ 1)) (pcB := 58) (LB := fun z => #[vR a1, vI 1, vI 0, vI 0, vI i1]) (SB := fun z => [.int z]) (fun key => ?_) ?_
 ·
  refine r_icmpne H 57 51 d_g52_4_48 (fun c7 => ?_) (fun c7 => ?_)
  ·
   refine r_iconst H 58 0 d_g52_4_57 ?_
   exact key (0 : Int32) ⟨(by rw [if_neg c7]), (by decide)⟩
  ·
   refine r_iloadN H 52 d_g52_4_51 ?_
   refine r_iconst H 53 1 d_g52_4_52 ?_
   refine r_iadd H 54 1 d_g52_4_53 (by decide) ?_
   refine r_goto H 58 d_g52_4_54 ?_
   exact key (1 : Int32) ⟨(by rw [if_pos c7]), (by decide)⟩
 rintro p9 ⟨ep9, rp9⟩
 refine r_istoreN H 59 #[vR a1, vI 1, vI p9, vI 0, vI i1] d_g52_4_58 ?_
 refine r_iinc H 62 #[vR a1, vI 1, vI p9, vI 1, vI i1] 1 d_g52_4_59 ?_
 refine r_goto H 6 d_g52_4_62 ?_
 refine r_iloadN H 7 d_g52_4_6 ?_
 refine r_ifeqF H 10 d_g52_4_7 rfl (by decide) ?_
 refine r_iloadN H 11 d_g52_4_10 ?_
 refine r_aloadN H 12 d_g52_4_11 ?_
 refine r_virtual (z := mn4) (a := a1) (argsL := []) (rest := [.int 1]) (W := 1) H 15 d_g52_4_12 (tw30 hw) (tw31 hw) (nf_sel (tw33 hw)) (tw33 hw) (tw32 hw) (tw7 hw) (tw34 hw) E_a1 (lenOf pd_4 rfl) (rm_length_19 hw Ts a1 a2 c1 _ (5 : Int32) cs h0 f Zf Z0 F_value_a1 A_a2 E_a1 F_coder_a1 rfl S_cs hcs) ?_
 rintro _ _ ⟨p10, rfl, ep10, rfl⟩
 have hzp10 : (5 : Int32) = p10 := by rw [← ep10]; decide
 subst hzp10
 refine r_icmpgeF H 18 d_g52_4_15 ?_
 refine r_aloadN H 19 d_g52_4_18 ?_
 refine r_iloadN H 20 d_g52_4_19 ?_
 refine r_virtual (z := mn18) (a := a1) (argsL := [.int 1]) (rest := []) (W := 0) H 23 d_g52_4_20 (tw51 hw) (tw52 hw) (nf_sel (tw54 hw)) (tw54 hw) (tw53 hw) (tw7 hw) (tw55 hw) E_a1 (lenOf pd_16 rfl) (rm_charAt_20 hw Ts a1 (1 : Int32) a2 c1 _ (5 : Int32) (cB8 i2) cs sio h0 f Zf Z0 E_a1 F_coder_a1 F_value_a1 A_a2 rfl rfl (by decide) (by decide) (by decide) S_cs S_sio hsio hcs) ?_
 rintro _ _ ⟨p12, rfl, ep12, rp12, rfl⟩
 have hzp12 : i2 = p12 := by rw [← ep12]; exact (own_l8 i2 (by have := r_i2; omega)).symm
 subst hzp12
 refine r_istore H 25 #[vR a1, vI 1, vI p9, vI 1, vI i2] d_g52_4_23 ?_
 refine r_iload H 27 d_g52_4_25 ?_
 refine r_bipush H 29 39 d_g52_4_27 ?_
 refine Run.join (P := fun z => (if i2 = (39 : Int32) then (if (p9 % (2 : Int32)) = (0 : Int32) then (1 : Int32) else (0 : Int32)) else (1 : Int32)) = z ∧ (0 ≤ z.toInt ∧ z.toInt ≤ 1)) (pcB := 43) (LB := fun z => #[vR a1, vI 1, vI p9, vI 1, vI i2]) (SB := fun z => [.int z]) (fun key => ?_) ?_
 ·
  refine r_icmpne H 38 32 d_g52_4_29 (fun c14 => ?_) (fun c14 => ?_)
  ·
   refine r_iconst H 39 1 d_g52_4_38 ?_
   refine r_goto H 43 d_g52_4_39 ?_
   exact key (1 : Int32) ⟨(by rw [if_neg c14]), (by decide)⟩
  ·
   refine r_iloadN H 33 d_g52_4_32 ?_
   refine r_iconst H 34 2 d_g52_4_33 ?_
   obtain ⟨p16, ep16, rp16⟩ : ∃ p : Int32, (p9 % (2 : Int32)) = p ∧ 0 ≤ p.toInt ∧ p.toInt ≤ 1 := ⟨_, rfl, (by have := rp9; have h := (c_irem p9 (2 : Int32) 2 (by decide)).1 (by omega); omega)⟩
   refine r_irem H 35 p16 d_g52_4_34 ep16 ?_
   refine Run.join (P := fun z => (if p16 = (0 : Int32) then (1 : Int32) else (0 : Int32)) = z ∧ (0 ≤ z.toInt ∧ z.toInt ≤ 1)) (pcB := 43) (LB := fun z => #[vR a1, vI 1, vI p9, vI 1, vI i2]) (SB := fun z => [.int z]) (fun key => ?_) ?_
   ·
    refine r_ifne H 42 38 d_g52_4_35 (fun c17 => ?_) (fun c17 => ?_)
    ·
     refine r_iconst H 43 0 d_g52_4_42 ?_
     exact key (0 : Int32) ⟨(by rw [if_neg c17]), (by decide)⟩
    ·
     refine r_iconst H 39 1 d_g52_4_38 ?_
     refine r_goto H 43 d_g52_4_39 ?_
     exact key (1 : Int32) ⟨(by rw [if_pos c17]), (by decide)⟩
   rintro p20 ⟨ep20, rp20⟩
   exact key p20 ⟨(by subst ep16 ep20; rw [if_pos c14]), (by have := rp20; omega)⟩
 rintro p21 ⟨ep21, rp21⟩
 refine r_istoreN H 44 #[vR a1, vI p21, vI p9, vI 1, vI i2] d_g52_4_43 ?_
 refine r_iload H 46 d_g52_4_44 ?_
 refine r_bipush H 48 92 d_g52_4_46 ?_
 refine Run.join (P := fun z => (if i2 = (92 : Int32) then (p9 + (1 : Int32)) else (0 : Int32)) = z ∧ (0 ≤ z.toInt ∧ z.toInt ≤ 2)) (pcB := 58) (LB := fun z => #[vR a1, vI p21, vI p9, vI 1, vI i2]) (SB := fun z => [.int z]) (fun key => ?_) ?_
 ·
  refine r_icmpne H 57 51 d_g52_4_48 (fun c22 => ?_) (fun c22 => ?_)
  ·
   refine r_iconst H 58 0 d_g52_4_57 ?_
   exact key (0 : Int32) ⟨(by rw [if_neg c22]), (by decide)⟩
  ·
   refine r_iloadN H 52 d_g52_4_51 ?_
   refine r_iconst H 53 1 d_g52_4_52 ?_
   obtain ⟨p24, ep24, rp24⟩ : ∃ p : Int32, (p9 + (1 : Int32)) = p ∧ 1 ≤ p.toInt ∧ p.toInt ≤ 2 := ⟨_, rfl, (by have := rp9; have : (1 : Int32).toInt = 1 := (by decide); have h1 := c_iadd p9 (1 : Int32); have h2 := rng32 (p9 + (1 : Int32)); omega)⟩
   refine r_iadd H 54 p24 d_g52_4_53 ep24 ?_
   refine r_goto H 58 d_g52_4_54 ?_
   exact key p24 ⟨(by subst ep24; rw [if_pos c22]), (by have := rp24; omega)⟩
 rintro p25 ⟨ep25, rp25⟩
 refine r_istoreN H 59 #[vR a1, vI p21, vI p25, vI 1, vI i2] d_g52_4_58 ?_
 refine r_iinc H 62 #[vR a1, vI p21, vI p25, vI 2, vI i2] 2 d_g52_4_59 ?_
 refine r_goto H 6 d_g52_4_62 ?_
 refine r_iloadN H 7 d_g52_4_6 ?_
 refine r_ifeq H 65 10 d_g52_4_7 (fun c26 => ?_) (fun c26 => ?_)
 ·
  have rr27 : 0 ≤ p21.toInt ∧ p21.toInt ≤ 0 := by have := rp21; have : (0 : Int32).toInt = 0 := (by decide); have hc_ := c26; simp only [Int32.lt_iff_toInt_lt, ← Int32.toInt_inj] at hc_; omega
  refine r_iloadN H 66 d_g52_4_65 ?_
  subst ep9 ep21 ep25
  exact r_nreturn (if i2 = (39 : Int32) then (if ((if i1 = (92 : Int32) then (1 : Int32) else (0 : Int32)) % (2 : Int32)) = (0 : Int32) then (1 : Int32) else (0 : Int32)) else (1 : Int32)) H d_g52_4_66 (nar_bool_id (by have := rr27; omega)) (⟨_, rfl, rfl, (by unfold fn_readAlikeByEitherSetting_89; rw [if_pos c26]), (by have := rr27; omega)⟩)
 ·
  refine r_iloadN H 11 d_g52_4_10 ?_
  refine r_aloadN H 12 d_g52_4_11 ?_
  refine r_virtual (z := mn4) (a := a1) (argsL := []) (rest := [.int 2]) (W := 1) H 15 d_g52_4_12 (tw30 hw) (tw31 hw) (nf_sel (tw33 hw)) (tw33 hw) (tw32 hw) (tw7 hw) (tw34 hw) E_a1 (lenOf pd_4 rfl) (rm_length_19 hw Ts a1 a2 c1 _ (5 : Int32) cs h0 f Zf Z0 F_value_a1 A_a2 E_a1 F_coder_a1 rfl S_cs hcs) ?_
  rintro _ _ ⟨p29, rfl, ep29, rfl⟩
  have hzp29 : (5 : Int32) = p29 := by rw [← ep29]; decide
  subst hzp29
  refine r_icmpgeF H 18 d_g52_4_15 ?_
  refine r_aloadN H 19 d_g52_4_18 ?_
  refine r_iloadN H 20 d_g52_4_19 ?_
  refine r_virtual (z := mn18) (a := a1) (argsL := [.int 2]) (rest := []) (W := 0) H 23 d_g52_4_20 (tw51 hw) (tw52 hw) (nf_sel (tw54 hw)) (tw54 hw) (tw53 hw) (tw7 hw) (tw55 hw) E_a1 (lenOf pd_16 rfl) (rm_charAt_20 hw Ts a1 (2 : Int32) a2 c1 _ (5 : Int32) (cB8 i3) cs sio h0 f Zf Z0 E_a1 F_coder_a1 F_value_a1 A_a2 rfl rfl (by decide) (by decide) (by decide) S_cs S_sio hsio hcs) ?_
  rintro _ _ ⟨p31, rfl, ep31, rp31, rfl⟩
  have hzp31 : i3 = p31 := by rw [← ep31]; exact (own_l8 i3 (by have := r_i3; omega)).symm
  subst hzp31
  refine r_istore H 25 #[vR a1, vI p21, vI p25, vI 2, vI i3] d_g52_4_23 ?_
  refine r_iload H 27 d_g52_4_25 ?_
  refine r_bipush H 29 39 d_g52_4_27 ?_
  refine Run.join (P := fun z => (if i3 = (39 : Int32) then (if (p25 % (2 : Int32)) = (0 : Int32) then (1 : Int32) else (0 : Int32)) else (1 : Int32)) = z ∧ (0 ≤ z.toInt ∧ z.toInt ≤ 1)) (pcB := 43) (LB := fun z => #[vR a1, vI p21, vI p25, vI 2, vI i3]) (SB := fun z => [.int z]) (fun key => ?_) ?_
  ·
   refine r_icmpne H 38 32 d_g52_4_29 (fun c33 => ?_) (fun c33 => ?_)
   ·
    refine r_iconst H 39 1 d_g52_4_38 ?_
    refine r_goto H 43 d_g52_4_39 ?_
    exact key (1 : Int32) ⟨(by rw [if_neg c33]), (by decide)⟩
   ·
    refine r_iloadN H 33 d_g52_4_32 ?_
    refine r_iconst H 34 2 d_g52_4_33 ?_
    obtain ⟨p35, ep35, rp35⟩ : ∃ p : Int32, (p25 % (2 : Int32)) = p ∧ 0 ≤ p.toInt ∧ p.toInt ≤ 1 := ⟨_, rfl, (by have := rp25; have h := (c_irem p25 (2 : Int32) 2 (by decide)).1 (by omega); omega)⟩
    refine r_irem H 35 p35 d_g52_4_34 ep35 ?_
    refine Run.join (P := fun z => (if p35 = (0 : Int32) then (1 : Int32) else (0 : Int32)) = z ∧ (0 ≤ z.toInt ∧ z.toInt ≤ 1)) (pcB := 43) (LB := fun z => #[vR a1, vI p21, vI p25, vI 2, vI i3]) (SB := fun z => [.int z]) (fun key => ?_) ?_
    ·
     refine r_ifne H 42 38 d_g52_4_35 (fun c36 => ?_) (fun c36 => ?_)
     ·
      refine r_iconst H 43 0 d_g52_4_42 ?_
      exact key (0 : Int32) ⟨(by rw [if_neg c36]), (by decide)⟩
     ·
      refine r_iconst H 39 1 d_g52_4_38 ?_
      refine r_goto H 43 d_g52_4_39 ?_
      exact key (1 : Int32) ⟨(by rw [if_pos c36]), (by decide)⟩
    rintro p39 ⟨ep39, rp39⟩
    exact key p39 ⟨(by subst ep35 ep39; rw [if_pos c33]), (by have := rp39; omega)⟩
  rintro p40 ⟨ep40, rp40⟩
  refine r_istoreN H 44 #[vR a1, vI p40, vI p25, vI 2, vI i3] d_g52_4_43 ?_
  refine r_iload H 46 d_g52_4_44 ?_
  refine r_bipush H 48 92 d_g52_4_46 ?_
  refine Run.join (P := fun z => (if i3 = (92 : Int32) then (p25 + (1 : Int32)) else (0 : Int32)) = z ∧ (0 ≤ z.toInt ∧ z.toInt ≤ 3)) (pcB := 58) (LB := fun z => #[vR a1, vI p40, vI p25, vI 2, vI i3]) (SB := fun z => [.int z]) (fun key => ?_) ?_
  ·
   refine r_icmpne H 57 51 d_g52_4_48 (fun c41 => ?_) (fun c41 => ?_)
   ·
    refine r_iconst H 58 0 d_g52_4_57 ?_
    exact key (0 : Int32) ⟨(by rw [if_neg c41]), (by decide)⟩
   ·
    refine r_iloadN H 52 d_g52_4_51 ?_
    refine r_iconst H 53 1 d_g52_4_52 ?_
    obtain ⟨p43, ep43, rp43⟩ : ∃ p : Int32, (p25 + (1 : Int32)) = p ∧ 1 ≤ p.toInt ∧ p.toInt ≤ 3 := ⟨_, rfl, (by have := rp25; have : (1 : Int32).toInt = 1 := (by decide); have h1 := c_iadd p25 (1 : Int32); have h2 := rng32 (p25 + (1 : Int32)); omega)⟩
    refine r_iadd H 54 p43 d_g52_4_53 ep43 ?_
    refine r_goto H 58 d_g52_4_54 ?_
    exact key p43 ⟨(by subst ep43; rw [if_pos c41]), (by have := rp43; omega)⟩
  rintro p44 ⟨ep44, rp44⟩
  refine r_istoreN H 59 #[vR a1, vI p40, vI p44, vI 2, vI i3] d_g52_4_58 ?_
  refine r_iinc H 62 #[vR a1, vI p40, vI p44, vI 3, vI i3] 3 d_g52_4_59 ?_
  refine r_goto H 6 d_g52_4_62 ?_
  refine r_iloadN H 7 d_g52_4_6 ?_
  refine r_ifeq H 65 10 d_g52_4_7 (fun c45 => ?_) (fun c45 => ?_)
  ·
   have rr46 : 0 ≤ p40.toInt ∧ p40.toInt ≤ 0 := by have := rp40; have : (0 : Int32).toInt = 0 := (by decide); have hc_ := c45; simp only [Int32.lt_iff_toInt_lt, ← Int32.toInt_inj] at hc_; omega
   refine r_iloadN H 66 d_g52_4_65 ?_
   subst ep9 ep21 ep25 ep40 ep44
   exact r_nreturn (if i3 = (39 : Int32) then (if ((if i2 = (92 : Int32) then ((if i1 = (92 : Int32) then (1 : Int32) else (0 : Int32)) + (1 : Int32)) else (0 : Int32)) % (2 : Int32)) = (0 : Int32) then (1 : Int32) else (0 : Int32)) else (1 : Int32)) H d_g52_4_66 (nar_bool_id (by have := rr46; omega)) (⟨_, rfl, rfl, (by unfold fn_readAlikeByEitherSetting_89; rw [if_neg c26, if_pos c45]), (by have := rr46; omega)⟩)
  ·
   refine r_iloadN H 11 d_g52_4_10 ?_
   refine r_aloadN H 12 d_g52_4_11 ?_
   refine r_virtual (z := mn4) (a := a1) (argsL := []) (rest := [.int 3]) (W := 1) H 15 d_g52_4_12 (tw30 hw) (tw31 hw) (nf_sel (tw33 hw)) (tw33 hw) (tw32 hw) (tw7 hw) (tw34 hw) E_a1 (lenOf pd_4 rfl) (rm_length_19 hw Ts a1 a2 c1 _ (5 : Int32) cs h0 f Zf Z0 F_value_a1 A_a2 E_a1 F_coder_a1 rfl S_cs hcs) ?_
   rintro _ _ ⟨p48, rfl, ep48, rfl⟩
   have hzp48 : (5 : Int32) = p48 := by rw [← ep48]; decide
   subst hzp48
   refine r_icmpgeF H 18 d_g52_4_15 ?_
   refine r_aloadN H 19 d_g52_4_18 ?_
   refine r_iloadN H 20 d_g52_4_19 ?_
   refine r_virtual (z := mn18) (a := a1) (argsL := [.int 3]) (rest := []) (W := 0) H 23 d_g52_4_20 (tw51 hw) (tw52 hw) (nf_sel (tw54 hw)) (tw54 hw) (tw53 hw) (tw7 hw) (tw55 hw) E_a1 (lenOf pd_16 rfl) (rm_charAt_20 hw Ts a1 (3 : Int32) a2 c1 _ (5 : Int32) (cB8 i4) cs sio h0 f Zf Z0 E_a1 F_coder_a1 F_value_a1 A_a2 rfl rfl (by decide) (by decide) (by decide) S_cs S_sio hsio hcs) ?_
   rintro _ _ ⟨p50, rfl, ep50, rp50, rfl⟩
   have hzp50 : i4 = p50 := by rw [← ep50]; exact (own_l8 i4 (by have := r_i4; omega)).symm
   subst hzp50
   refine r_istore H 25 #[vR a1, vI p40, vI p44, vI 3, vI i4] d_g52_4_23 ?_
   refine r_iload H 27 d_g52_4_25 ?_
   refine r_bipush H 29 39 d_g52_4_27 ?_
   refine Run.join (P := fun z => (if i4 = (39 : Int32) then (if (p44 % (2 : Int32)) = (0 : Int32) then (1 : Int32) else (0 : Int32)) else (1 : Int32)) = z ∧ (0 ≤ z.toInt ∧ z.toInt ≤ 1)) (pcB := 43) (LB := fun z => #[vR a1, vI p40, vI p44, vI 3, vI i4]) (SB := fun z => [.int z]) (fun key => ?_) ?_
   ·
    refine r_icmpne H 38 32 d_g52_4_29 (fun c52 => ?_) (fun c52 => ?_)
    ·
     refine r_iconst H 39 1 d_g52_4_38 ?_
     refine r_goto H 43 d_g52_4_39 ?_
     exact key (1 : Int32) ⟨(by rw [if_neg c52]), (by decide)⟩
    ·
     refine r_iloadN H 33 d_g52_4_32 ?_
     refine r_iconst H 34 2 d_g52_4_33 ?_
     obtain ⟨p54, ep54, rp54⟩ : ∃ p : Int32, (p44 % (2 : Int32)) = p ∧ 0 ≤ p.toInt ∧ p.toInt ≤ 1 := ⟨_, rfl, (by have := rp44; have h := (c_irem p44 (2 : Int32) 2 (by decide)).1 (by omega); omega)⟩
     refine r_irem H 35 p54 d_g52_4_34 ep54 ?_
     refine Run.join (P := fun z => (if p54 = (0 : Int32) then (1 : Int32) else (0 : Int32)) = z ∧ (0 ≤ z.toInt ∧ z.toInt ≤ 1)) (pcB := 43) (LB := fun z => #[vR a1, vI p40, vI p44, vI 3, vI i4]) (SB := fun z => [.int z]) (fun key => ?_) ?_
     ·
      refine r_ifne H 42 38 d_g52_4_35 (fun c55 => ?_) (fun c55 => ?_)
      ·
       refine r_iconst H 43 0 d_g52_4_42 ?_
       exact key (0 : Int32) ⟨(by rw [if_neg c55]), (by decide)⟩
      ·
       refine r_iconst H 39 1 d_g52_4_38 ?_
       refine r_goto H 43 d_g52_4_39 ?_
       exact key (1 : Int32) ⟨(by rw [if_pos c55]), (by decide)⟩
     rintro p58 ⟨ep58, rp58⟩
     exact key p58 ⟨(by subst ep54 ep58; rw [if_pos c52]), (by have := rp58; omega)⟩
   rintro p59 ⟨ep59, rp59⟩
   refine r_istoreN H 44 #[vR a1, vI p59, vI p44, vI 3, vI i4] d_g52_4_43 ?_
   refine r_iload H 46 d_g52_4_44 ?_
   refine r_bipush H 48 92 d_g52_4_46 ?_
   refine Run.join (P := fun z => (if i4 = (92 : Int32) then (p44 + (1 : Int32)) else (0 : Int32)) = z ∧ (0 ≤ z.toInt ∧ z.toInt ≤ 4)) (pcB := 58) (LB := fun z => #[vR a1, vI p59, vI p44, vI 3, vI i4]) (SB := fun z => [.int z]) (fun key => ?_) ?_
   ·
    refine r_icmpne H 57 51 d_g52_4_48 (fun c60 => ?_) (fun c60 => ?_)
    ·
     refine r_iconst H 58 0 d_g52_4_57 ?_
     exact key (0 : Int32) ⟨(by rw [if_neg c60]), (by decide)⟩
    ·
     refine r_iloadN H 52 d_g52_4_51 ?_
     refine r_iconst H 53 1 d_g52_4_52 ?_
     obtain ⟨p62, ep62, rp62⟩ : ∃ p : Int32, (p44 + (1 : Int32)) = p ∧ 1 ≤ p.toInt ∧ p.toInt ≤ 4 := ⟨_, rfl, (by have := rp44; have : (1 : Int32).toInt = 1 := (by decide); have h1 := c_iadd p44 (1 : Int32); have h2 := rng32 (p44 + (1 : Int32)); omega)⟩
     refine r_iadd H 54 p62 d_g52_4_53 ep62 ?_
     refine r_goto H 58 d_g52_4_54 ?_
     exact key p62 ⟨(by subst ep62; rw [if_pos c60]), (by have := rp62; omega)⟩
   rintro p63 ⟨ep63, rp63⟩
   refine r_istoreN H 59 #[vR a1, vI p59, vI p63, vI 3, vI i4] d_g52_4_58 ?_
   refine r_iinc H 62 #[vR a1, vI p59, vI p63, vI 4, vI i4] 4 d_g52_4_59 ?_
   refine r_goto H 6 d_g52_4_62 ?_
   refine r_iloadN H 7 d_g52_4_6 ?_
   refine r_ifeq H 65 10 d_g52_4_7 (fun c64 => ?_) (fun c64 => ?_)
   ·
    have rr65 : 0 ≤ p59.toInt ∧ p59.toInt ≤ 0 := by have := rp59; have : (0 : Int32).toInt = 0 := (by decide); have hc_ := c64; simp only [Int32.lt_iff_toInt_lt, ← Int32.toInt_inj] at hc_; omega
    refine r_iloadN H 66 d_g52_4_65 ?_
    subst ep9 ep21 ep25 ep40 ep44 ep59 ep63
    exact r_nreturn (if i4 = (39 : Int32) then (if ((if i3 = (92 : Int32) then ((if i2 = (92 : Int32) then ((if i1 = (92 : Int32) then (1 : Int32) else (0 : Int32)) + (1 : Int32)) else (0 : Int32)) + (1 : Int32)) else (0 : Int32)) % (2 : Int32)) = (0 : Int32) then (1 : Int32) else (0 : Int32)) else (1 : Int32)) H d_g52_4_66 (nar_bool_id (by have := rr65; omega)) (⟨_, rfl, rfl, (by unfold fn_readAlikeByEitherSetting_89; rw [if_neg c26, if_neg c45, if_pos c64]), (by have := rr65; omega)⟩)
   ·
    refine r_iloadN H 11 d_g52_4_10 ?_
    refine r_aloadN H 12 d_g52_4_11 ?_
    refine r_virtual (z := mn4) (a := a1) (argsL := []) (rest := [.int 4]) (W := 1) H 15 d_g52_4_12 (tw30 hw) (tw31 hw) (nf_sel (tw33 hw)) (tw33 hw) (tw32 hw) (tw7 hw) (tw34 hw) E_a1 (lenOf pd_4 rfl) (rm_length_19 hw Ts a1 a2 c1 _ (5 : Int32) cs h0 f Zf Z0 F_value_a1 A_a2 E_a1 F_coder_a1 rfl S_cs hcs) ?_
    rintro _ _ ⟨p67, rfl, ep67, rfl⟩
    have hzp67 : (5 : Int32) = p67 := by rw [← ep67]; decide
    subst hzp67
    refine r_icmpgeF H 18 d_g52_4_15 ?_
    refine r_aloadN H 19 d_g52_4_18 ?_
    refine r_iloadN H 20 d_g52_4_19 ?_
    refine r_virtual (z := mn18) (a := a1) (argsL := [.int 4]) (rest := []) (W := 0) H 23 d_g52_4_20 (tw51 hw) (tw52 hw) (nf_sel (tw54 hw)) (tw54 hw) (tw53 hw) (tw7 hw) (tw55 hw) E_a1 (lenOf pd_16 rfl) (rm_charAt_20 hw Ts a1 (4 : Int32) a2 c1 _ (5 : Int32) (cB8 i5) cs sio h0 f Zf Z0 E_a1 F_coder_a1 F_value_a1 A_a2 rfl rfl (by decide) (by decide) (by decide) S_cs S_sio hsio hcs) ?_
    rintro _ _ ⟨p69, rfl, ep69, rp69, rfl⟩
    have hzp69 : i5 = p69 := by rw [← ep69]; exact (own_l8 i5 (by have := r_i5; omega)).symm
    subst hzp69
    refine r_istore H 25 #[vR a1, vI p59, vI p63, vI 4, vI i5] d_g52_4_23 ?_
    refine r_iload H 27 d_g52_4_25 ?_
    refine r_bipush H 29 39 d_g52_4_27 ?_
    refine Run.join (P := fun z => (if i5 = (39 : Int32) then (if (p63 % (2 : Int32)) = (0 : Int32) then (1 : Int32) else (0 : Int32)) else (1 : Int32)) = z ∧ (0 ≤ z.toInt ∧ z.toInt ≤ 1)) (pcB := 43) (LB := fun z => #[vR a1, vI p59, vI p63, vI 4, vI i5]) (SB := fun z => [.int z]) (fun key => ?_) ?_
    ·
     refine r_icmpne H 38 32 d_g52_4_29 (fun c71 => ?_) (fun c71 => ?_)
     ·
      refine r_iconst H 39 1 d_g52_4_38 ?_
      refine r_goto H 43 d_g52_4_39 ?_
      exact key (1 : Int32) ⟨(by rw [if_neg c71]), (by decide)⟩
     ·
      refine r_iloadN H 33 d_g52_4_32 ?_
      refine r_iconst H 34 2 d_g52_4_33 ?_
      obtain ⟨p73, ep73, rp73⟩ : ∃ p : Int32, (p63 % (2 : Int32)) = p ∧ 0 ≤ p.toInt ∧ p.toInt ≤ 1 := ⟨_, rfl, (by have := rp63; have h := (c_irem p63 (2 : Int32) 2 (by decide)).1 (by omega); omega)⟩
      refine r_irem H 35 p73 d_g52_4_34 ep73 ?_
      refine Run.join (P := fun z => (if p73 = (0 : Int32) then (1 : Int32) else (0 : Int32)) = z ∧ (0 ≤ z.toInt ∧ z.toInt ≤ 1)) (pcB := 43) (LB := fun z => #[vR a1, vI p59, vI p63, vI 4, vI i5]) (SB := fun z => [.int z]) (fun key => ?_) ?_
      ·
       refine r_ifne H 42 38 d_g52_4_35 (fun c74 => ?_) (fun c74 => ?_)
       ·
        refine r_iconst H 43 0 d_g52_4_42 ?_
        exact key (0 : Int32) ⟨(by rw [if_neg c74]), (by decide)⟩
       ·
        refine r_iconst H 39 1 d_g52_4_38 ?_
        refine r_goto H 43 d_g52_4_39 ?_
        exact key (1 : Int32) ⟨(by rw [if_pos c74]), (by decide)⟩
      rintro p77 ⟨ep77, rp77⟩
      exact key p77 ⟨(by subst ep73 ep77; rw [if_pos c71]), (by have := rp77; omega)⟩
    rintro p78 ⟨ep78, rp78⟩
    refine r_istoreN H 44 #[vR a1, vI p78, vI p63, vI 4, vI i5] d_g52_4_43 ?_
    refine r_iload H 46 d_g52_4_44 ?_
    refine r_bipush H 48 92 d_g52_4_46 ?_
    refine Run.join (P := fun z => (if i5 = (92 : Int32) then (p63 + (1 : Int32)) else (0 : Int32)) = z ∧ (0 ≤ z.toInt ∧ z.toInt ≤ 5)) (pcB := 58) (LB := fun z => #[vR a1, vI p78, vI p63, vI 4, vI i5]) (SB := fun z => [.int z]) (fun key => ?_) ?_
    ·
     refine r_icmpne H 57 51 d_g52_4_48 (fun c79 => ?_) (fun c79 => ?_)
     ·
      refine r_iconst H 58 0 d_g52_4_57 ?_
      exact key (0 : Int32) ⟨(by rw [if_neg c79]), (by decide)⟩
     ·
      refine r_iloadN H 52 d_g52_4_51 ?_
      refine r_iconst H 53 1 d_g52_4_52 ?_
      obtain ⟨p81, ep81, rp81⟩ : ∃ p : Int32, (p63 + (1 : Int32)) = p ∧ 1 ≤ p.toInt ∧ p.toInt ≤ 5 := ⟨_, rfl, (by have := rp63; have : (1 : Int32).toInt = 1 := (by decide); have h1 := c_iadd p63 (1 : Int32); have h2 := rng32 (p63 + (1 : Int32)); omega)⟩
      refine r_iadd H 54 p81 d_g52_4_53 ep81 ?_
      refine r_goto H 58 d_g52_4_54 ?_
      exact key p81 ⟨(by subst ep81; rw [if_pos c79]), (by have := rp81; omega)⟩
    rintro p82 ⟨ep82, rp82⟩
    refine r_istoreN H 59 #[vR a1, vI p78, vI p82, vI 4, vI i5] d_g52_4_58 ?_
    refine r_iinc H 62 #[vR a1, vI p78, vI p82, vI 5, vI i5] 5 d_g52_4_59 ?_
    refine r_goto H 6 d_g52_4_62 ?_
    refine r_iloadN H 7 d_g52_4_6 ?_
    refine r_ifeq H 65 10 d_g52_4_7 (fun c83 => ?_) (fun c83 => ?_)
    ·
     have rr84 : 0 ≤ p78.toInt ∧ p78.toInt ≤ 0 := by have := rp78; have : (0 : Int32).toInt = 0 := (by decide); have hc_ := c83; simp only [Int32.lt_iff_toInt_lt, ← Int32.toInt_inj] at hc_; omega
     refine r_iloadN H 66 d_g52_4_65 ?_
     subst ep9 ep21 ep25 ep40 ep44 ep59 ep63 ep78 ep82
     exact r_nreturn (if i5 = (39 : Int32) then (if ((if i4 = (92 : Int32) then ((if i3 = (92 : Int32) then ((if i2 = (92 : Int32) then ((if i1 = (92 : Int32) then (1 : Int32) else (0 : Int32)) + (1 : Int32)) else (0 : Int32)) + (1 : Int32)) else (0 : Int32)) + (1 : Int32)) else (0 : Int32)) % (2 : Int32)) = (0 : Int32) then (1 : Int32) else (0 : Int32)) else (1 : Int32)) H d_g52_4_66 (nar_bool_id (by have := rr84; omega)) (⟨_, rfl, rfl, (by unfold fn_readAlikeByEitherSetting_89; rw [if_neg c26, if_neg c45, if_neg c64, if_pos c83]), (by have := rr84; omega)⟩)
    ·
     have rr85 : 1 ≤ p78.toInt ∧ p78.toInt ≤ 1 := by have := rp78; have : (0 : Int32).toInt = 0 := (by decide); have hc_ := c83; simp only [Int32.lt_iff_toInt_lt, ← Int32.toInt_inj] at hc_; omega
     refine r_iloadN H 11 d_g52_4_10 ?_
     refine r_aloadN H 12 d_g52_4_11 ?_
     refine r_virtual (z := mn4) (a := a1) (argsL := []) (rest := [.int 5]) (W := 1) H 15 d_g52_4_12 (tw30 hw) (tw31 hw) (nf_sel (tw33 hw)) (tw33 hw) (tw32 hw) (tw7 hw) (tw34 hw) E_a1 (lenOf pd_4 rfl) (rm_length_19 hw Ts a1 a2 c1 _ (5 : Int32) cs h0 f Zf Z0 F_value_a1 A_a2 E_a1 F_coder_a1 rfl S_cs hcs) ?_
     rintro _ _ ⟨p86, rfl, ep86, rfl⟩
     have hzp86 : (5 : Int32) = p86 := by rw [← ep86]; decide
     subst hzp86
     refine r_icmpgeT H 65 d_g52_4_15 ?_
     refine r_iloadN H 66 d_g52_4_65 ?_
     subst ep9 ep21 ep25 ep40 ep44 ep59 ep63 ep78 ep82
     exact r_nreturn (if i5 = (39 : Int32) then (if ((if i4 = (92 : Int32) then ((if i3 = (92 : Int32) then ((if i2 = (92 : Int32) then ((if i1 = (92 : Int32) then (1 : Int32) else (0 : Int32)) + (1 : Int32)) else (0 : Int32)) + (1 : Int32)) else (0 : Int32)) + (1 : Int32)) else (0 : Int32)) % (2 : Int32)) = (0 : Int32) then (1 : Int32) else (0 : Int32)) else (1 : Int32)) H d_g52_4_66 (nar_bool_id (by have := rr85; omega)) (⟨_, rfl, rfl, (by unfold fn_readAlikeByEitherSetting_89; rw [if_neg c26, if_neg c45, if_neg c64, if_neg c83]), (by have := rr85; omega)⟩)
def fn_readAlikeByEitherSetting_90 (i1 : Int32) (i2 : Int32) (i3 : Int32) (i4 : Int32) (i5 : Int32) : Int32 := (if (if i2 = (39 : Int32) then (if ((if i1 = (92 : Int32) then (1 : Int32) else (0 : Int32)) % (2 : Int32)) = (0 : Int32) then (1 : Int32) else (0 : Int32)) else (1 : Int32)) = (0 : Int32) then (if i2 = (39 : Int32) then (if ((if i1 = (92 : Int32) then (1 : Int32) else (0 : Int32)) % (2 : Int32)) = (0 : Int32) then (1 : Int32) else (0 : Int32)) else (1 : Int32)) else (if (if i3 = (39 : Int32) then (if ((if i2 = (92 : Int32) then ((if i1 = (92 : Int32) then (1 : Int32) else (0 : Int32)) + (1 : Int32)) else (0 : Int32)) % (2 : Int32)) = (0 : Int32) then (1 : Int32) else (0 : Int32)) else (1 : Int32)) = (0 : Int32) then (if i3 = (39 : Int32) then (if ((if i2 = (92 : Int32) then ((if i1 = (92 : Int32) then (1 : Int32) else (0 : Int32)) + (1 : Int32)) else (0 : Int32)) % (2 : Int32)) = (0 : Int32) then (1 : Int32) else (0 : Int32)) else (1 : Int32)) else (if (if i4 = (39 : Int32) then (if ((if i3 = (92 : Int32) then ((if i2 = (92 : Int32) then ((if i1 = (92 : Int32) then (1 : Int32) else (0 : Int32)) + (1 : Int32)) else (0 : Int32)) + (1 : Int32)) else (0 : Int32)) % (2 : Int32)) = (0 : Int32) then (1 : Int32) else (0 : Int32)) else (1 : Int32)) = (0 : Int32) then (if i4 = (39 : Int32) then (if ((if i3 = (92 : Int32) then ((if i2 = (92 : Int32) then ((if i1 = (92 : Int32) then (1 : Int32) else (0 : Int32)) + (1 : Int32)) else (0 : Int32)) + (1 : Int32)) else (0 : Int32)) % (2 : Int32)) = (0 : Int32) then (1 : Int32) else (0 : Int32)) else (1 : Int32)) else (if (if i5 = (39 : Int32) then (if ((if i4 = (92 : Int32) then ((if i3 = (92 : Int32) then ((if i2 = (92 : Int32) then ((if i1 = (92 : Int32) then (1 : Int32) else (0 : Int32)) + (1 : Int32)) else (0 : Int32)) + (1 : Int32)) else (0 : Int32)) + (1 : Int32)) else (0 : Int32)) % (2 : Int32)) = (0 : Int32) then (1 : Int32) else (0 : Int32)) else (1 : Int32)) = (0 : Int32) then (if i5 = (39 : Int32) then (if ((if i4 = (92 : Int32) then ((if i3 = (92 : Int32) then ((if i2 = (92 : Int32) then ((if i1 = (92 : Int32) then (1 : Int32) else (0 : Int32)) + (1 : Int32)) else (0 : Int32)) + (1 : Int32)) else (0 : Int32)) + (1 : Int32)) else (0 : Int32)) % (2 : Int32)) = (0 : Int32) then (1 : Int32) else (0 : Int32)) else (1 : Int32)) else (if i5 = (39 : Int32) then (if ((if i4 = (92 : Int32) then ((if i3 = (92 : Int32) then ((if i2 = (92 : Int32) then ((if i1 = (92 : Int32) then (1 : Int32) else (0 : Int32)) + (1 : Int32)) else (0 : Int32)) + (1 : Int32)) else (0 : Int32)) + (1 : Int32)) else (0 : Int32)) % (2 : Int32)) = (0 : Int32) then (1 : Int32) else (0 : Int32)) else (1 : Int32))))))
def Q_readAlikeByEitherSetting_90 (Z : State) (i1 : Int32) (i2 : Int32) (i3 : Int32) (i4 : Int32) (i5 : Int32) (h0 : Heap) (v : Option Value) (h : Heap) : Prop := ∃ z : Int32, v = some (.int z) ∧ h0 = h ∧ (fn_readAlikeByEitherSetting_90 i1 i2 i3 i4 i5) = z ∧ (0 ≤ z.toInt ∧ z.toInt ≤ 1)
def R_readAlikeByEitherSetting_90 : Room := { frames := 5, cells := 0, slots := 0, locals := 66 }
theorem rm_readAlikeByEitherSetting_90 {w : Bool} {Z : State} {a0 : Array Value} (hw : HW a0 Z) (Ts : List String) (a1 : Addr) (a2 : Addr) (i1 : Int32) (i2 : Int32) (i3 : Int32) (i4 : Int32) (i5 : Int32) (c1 : ClassId) (cs : Int32) (sio : Value) (h0 : Heap) (f : Nat) (Zf : Z.heap.size ≤ f) (Z0 : f ≤ h0.size) (E_a1 : Exa Z h0 a1 "java/lang/String") (F_value_a1 : Fld Z h0 a1 "java/lang/String" "value" "[B" (.ref a2)) (A_a2 : Ar Z h0 a2 c1 .byte [.int (cL8 i1), .int (cH8 i1), .int (cL8 i2), .int (cH8 i2), .int (cL8 i3), .int (cH8 i3), .int (cL8 i4), .int (cH8 i4), .int (cL8 i5), .int (cH8 i5)]) (F_coder_a1 : Fld Z h0 a1 "java/lang/String" "coder" "B" (.int 1)) (r_i1 : 0 ≤ i1.toInt ∧ i1.toInt ≤ 65535) (r_i2 : 0 ≤ i2.toInt ∧ i2.toInt ≤ 65535) (r_i3 : 0 ≤ i3.toInt ∧ i3.toInt ≤ 65535) (r_i4 : 0 ≤ i4.toInt ∧ i4.toInt ≤ 65535) (r_i5 : 0 ≤ i5.toInt ∧ i5.toInt ≤ 65535) (S_cs : G_S_cs Z cs) (S_sio : G_S_sio Z sio) (hsio : G_hsio Z sio) (S__assertionsDisabled : G_S__assertionsDisabled Z) (S_HI_BYTE_SHIFT : G_S_HI_BYTE_SHIFT Z) (S_LO_BYTE_SHIFT : G_S_LO_BYTE_SHIFT Z) (hcs : ¬ cs = 0) :
  Con w [] Z mn5 prog_52_method_4_code 5 (some .boolean) R_readAlikeByEitherSetting_90 Ts Ts f #[.ref a1] h0 (Q_readAlikeByEitherSetting_90 Z i1 i2 i3 i4 i5 h0) := by
 refine con_of f #[vR a1, .unset, .unset, .unset, .unset] (plainFor_of_name pn_2) (fun m => rfl) Zf ?_
 intro C H hX0
 refine r_iconst H 1 1 d_g52_4_0 ?_
 refine r_istoreN H 2 #[vR a1, vI 1, .unset, .unset, .unset] d_g52_4_1 ?_
 refine r_iconst H 3 0 d_g52_4_2 ?_
 refine r_istoreN H 4 #[vR a1, vI 1, vI 0, .unset, .unset] d_g52_4_3 ?_
 refine r_iconst H 5 0 d_g52_4_4 ?_
 refine r_istoreN H 6 #[vR a1, vI 1, vI 0, vI 0, .unset] d_g52_4_5 ?_
 refine r_iloadN H 7 d_g52_4_6 ?_
 refine r_ifeqF H 10 d_g52_4_7 rfl (by decide) ?_
 refine r_iloadN H 11 d_g52_4_10 ?_
 refine r_aloadN H 12 d_g52_4_11 ?_
 refine r_virtual (z := mn4) (a := a1) (argsL := []) (rest := [.int 0]) (W := 1) H 15 d_g52_4_12 (tw30 hw) (tw31 hw) (nf_sel (tw33 hw)) (tw33 hw) (tw32 hw) (tw7 hw) (tw34 hw) E_a1 (lenOf pd_4 rfl) (rm_length_26 hw Ts a1 a2 c1 _ (10 : Int32) cs h0 f Zf Z0 F_value_a1 A_a2 E_a1 F_coder_a1 rfl S_cs hcs) ?_
 rintro _ _ ⟨p1, rfl, ep1, rfl⟩
 have hzp1 : (5 : Int32) = p1 := by rw [← ep1]; decide
 subst hzp1
 refine r_icmpgeF H 18 d_g52_4_15 ?_
 refine r_aloadN H 19 d_g52_4_18 ?_
 refine r_iloadN H 20 d_g52_4_19 ?_
 refine r_virtual (z := mn18) (a := a1) (argsL := [.int 0]) (rest := []) (W := 0) H 23 d_g52_4_20 (tw51 hw) (tw52 hw) (nf_sel (tw54 hw)) (tw54 hw) (tw53 hw) (tw7 hw) (tw55 hw) E_a1 (lenOf pd_16 rfl) (rm_charAt_28 hw Ts a1 (0 : Int32) a2 c1 _ (10 : Int32) (cL8 i1) (cH8 i1) cs sio h0 f Zf Z0 E_a1 F_coder_a1 F_value_a1 A_a2 rfl rfl rfl (by decide) (by decide) (by decide) (by decide) S_cs S_sio hsio S__assertionsDisabled S_HI_BYTE_SHIFT S_LO_BYTE_SHIFT hcs) ?_
 rintro _ _ ⟨p3, rfl, ep3, rp3, rfl⟩
 have hzp3 : i1 = p3 := by rw [← ep3]; exact (own_u16 i1 (by have := r_i1; omega)).symm
 subst hzp3
 refine r_istore H 25 #[vR a1, vI 1, vI 0, vI 0, vI i1] d_g52_4_23 ?_
 refine r_iload H 27 d_g52_4_25 ?_
 refine r_bipush H 29 39 d_g52_4_27 ?_
 refine Run.join (P := fun _ => True) (pcB := 43) (LB := fun _ => #[vR a1, vI 1, vI 0, vI 0, vI i1]) (SB := fun _ => [.int 1]) (fun key => ?_) ?_
 ·
  refine r_icmpne H 38 32 d_g52_4_29 (fun c5 => ?_) (fun c5 => ?_)
  ·
   refine r_iconst H 39 1 d_g52_4_38 ?_
   refine r_goto H 43 d_g52_4_39 ?_
   exact key 0 trivial
  ·
   refine r_iloadN H 33 d_g52_4_32 ?_
   refine r_iconst H 34 2 d_g52_4_33 ?_
   refine r_irem H 35 (0 : Int32) d_g52_4_34 (by decide) ?_
   refine r_ifneF H 38 d_g52_4_35 rfl (by decide) ?_
   refine r_iconst H 39 1 d_g52_4_38 ?_
   refine r_goto H 43 d_g52_4_39 ?_
   exact key 0 trivial
 rintro _ _
 refine r_istoreN H 44 #[vR a1, vI 1, vI 0, vI 0, vI i1] d_g52_4_43 ?_
 refine r_iload H 46 d_g52_4_44 ?_
 refine r_bipush H 48 92 d_g52_4_46 ?_
 refine Run.join (P := fun z => (if i1 = (92 : Int32) then (1 : Int32) else (0 : Int32)) = z ∧ (0 ≤ z.toInt ∧ z.toInt ≤ 1)) (pcB := 58) (LB := fun z => #[vR a1, vI 1, vI 0, vI 0, vI i1]) (SB := fun z => [.int z]) (fun key => ?_) ?_
 ·
  refine r_icmpne H 57 51 d_g52_4_48 (fun c7 => ?_) (fun c7 => ?_)
  ·
   refine r_iconst H 58 0 d_g52_4_57 ?_
   exact key (0 : Int32) ⟨(by rw [if_neg c7]), (by decide)⟩
  ·
   refine r_iloadN H 52 d_g52_4_51 ?_
   refine r_iconst H 53 1 d_g52_4_52 ?_
   refine r_iadd H 54 1 d_g52_4_53 (by decide) ?_
   refine r_goto H 58 d_g52_4_54 ?_
   exact key (1 : Int32) ⟨(by rw [if_pos c7]), (by decide)⟩
 rintro p9 ⟨ep9, rp9⟩
 refine r_istoreN H 59 #[vR a1, vI 1, vI p9, vI 0, vI i1] d_g52_4_58 ?_
 refine r_iinc H 62 #[vR a1, vI 1, vI p9, vI 1, vI i1] 1 d_g52_4_59 ?_
 refine r_goto H 6 d_g52_4_62 ?_
 refine r_iloadN H 7 d_g52_4_6 ?_
 refine r_ifeqF H 10 d_g52_4_7 rfl (by decide) ?_
 refine r_iloadN H 11 d_g52_4_10 ?_
 refine r_aloadN H 12 d_g52_4_11 ?_
 refine r_virtual (z := mn4) (a := a1) (argsL := []) (rest := [.int 1]) (W := 1) H 15 d_g52_4_12 (tw30 hw) (tw31 hw) (nf_sel (tw33 hw)) (tw33 hw) (tw32 hw) (tw7 hw) (tw34 hw) E_a1 (lenOf pd_4 rfl) (rm_length_26 hw Ts a1 a2 c1 _ (10 : Int32) cs h0 f Zf Z0 F_value_a1 A_a2 E_a1 F_coder_a1 rfl S_cs hcs) ?_
 rintro _ _ ⟨p10, rfl, ep10, rfl⟩
 have hzp10 : (5 : Int32) = p10 := by rw [← ep10]; decide
 subst hzp10
 refine r_icmpgeF H 18 d_g52_4_15 ?_
 refine r_aloadN H 19 d_g52_4_18 ?_
 refine r_iloadN H 20 d_g52_4_19 ?_
 refine r_virtual (z := mn18) (a := a1) (argsL := [.int 1]) (rest := []) (W := 0) H 23 d_g52_4_20 (tw51 hw) (tw52 hw) (nf_sel (tw54 hw)) (tw54 hw) (tw53 hw) (tw7 hw) (tw55 hw) E_a1 (lenOf pd_16 rfl) (rm_charAt_28 hw Ts a1 (1 : Int32) a2 c1 _ (10 : Int32) (cL8 i2) (cH8 i2) cs sio h0 f Zf Z0 E_a1 F_coder_a1 F_value_a1 A_a2 rfl rfl rfl (by decide) (by decide) (by decide) (by decide) S_cs S_sio hsio S__assertionsDisabled S_HI_BYTE_SHIFT S_LO_BYTE_SHIFT hcs) ?_
 rintro _ _ ⟨p12, rfl, ep12, rp12, rfl⟩
 have hzp12 : i2 = p12 := by rw [← ep12]; exact (own_u16 i2 (by have := r_i2; omega)).symm
 subst hzp12
 refine r_istore H 25 #[vR a1, vI 1, vI p9, vI 1, vI i2] d_g52_4_23 ?_
 refine r_iload H 27 d_g52_4_25 ?_
 refine r_bipush H 29 39 d_g52_4_27 ?_
 refine Run.join (P := fun z => (if i2 = (39 : Int32) then (if (p9 % (2 : Int32)) = (0 : Int32) then (1 : Int32) else (0 : Int32)) else (1 : Int32)) = z ∧ (0 ≤ z.toInt ∧ z.toInt ≤ 1)) (pcB := 43) (LB := fun z => #[vR a1, vI 1, vI p9, vI 1, vI i2]) (SB := fun z => [.int z]) (fun key => ?_) ?_
 ·
  refine r_icmpne H 38 32 d_g52_4_29 (fun c14 => ?_) (fun c14 => ?_)
  ·
   refine r_iconst H 39 1 d_g52_4_38 ?_
   refine r_goto H 43 d_g52_4_39 ?_
   exact key (1 : Int32) ⟨(by rw [if_neg c14]), (by decide)⟩
  ·
   refine r_iloadN H 33 d_g52_4_32 ?_
   refine r_iconst H 34 2 d_g52_4_33 ?_
   obtain ⟨p16, ep16, rp16⟩ : ∃ p : Int32, (p9 % (2 : Int32)) = p ∧ 0 ≤ p.toInt ∧ p.toInt ≤ 1 := ⟨_, rfl, (by have := rp9; have h := (c_irem p9 (2 : Int32) 2 (by decide)).1 (by omega); omega)⟩
   refine r_irem H 35 p16 d_g52_4_34 ep16 ?_
   refine Run.join (P := fun z => (if p16 = (0 : Int32) then (1 : Int32) else (0 : Int32)) = z ∧ (0 ≤ z.toInt ∧ z.toInt ≤ 1)) (pcB := 43) (LB := fun z => #[vR a1, vI 1, vI p9, vI 1, vI i2]) (SB := fun z => [.int z]) (fun key => ?_) ?_
   ·
    refine r_ifne H 42 38 d_g52_4_35 (fun c17 => ?_) (fun c17 => ?_)
    ·
     refine r_iconst H 43 0 d_g52_4_42 ?_
     exact key (0 : Int32) ⟨(by rw [if_neg c17]), (by decide)⟩
    ·
     refine r_iconst H 39 1 d_g52_4_38 ?_
     refine r_goto H 43 d_g52_4_39 ?_
     exact key (1 : Int32) ⟨(by rw [if_pos c17]), (by decide)⟩
   rintro p20 ⟨ep20, rp20⟩
   exact key p20 ⟨(by subst ep16 ep20; rw [if_pos c14]), (by have := rp20; omega)⟩
 rintro p21 ⟨ep21, rp21⟩
 refine r_istoreN H 44 #[vR a1, vI p21, vI p9, vI 1, vI i2] d_g52_4_43 ?_
 refine r_iload H 46 d_g52_4_44 ?_
 refine r_bipush H 48 92 d_g52_4_46 ?_
 refine Run.join (P := fun z => (if i2 = (92 : Int32) then (p9 + (1 : Int32)) else (0 : Int32)) = z ∧ (0 ≤ z.toInt ∧ z.toInt ≤ 2)) (pcB := 58) (LB := fun z => #[vR a1, vI p21, vI p9, vI 1, vI i2]) (SB := fun z => [.int z]) (fun key => ?_) ?_
 ·
  refine r_icmpne H 57 51 d_g52_4_48 (fun c22 => ?_) (fun c22 => ?_)
  ·
   refine r_iconst H 58 0 d_g52_4_57 ?_
   exact key (0 : Int32) ⟨(by rw [if_neg c22]), (by decide)⟩
  ·
   refine r_iloadN H 52 d_g52_4_51 ?_
   refine r_iconst H 53 1 d_g52_4_52 ?_
   obtain ⟨p24, ep24, rp24⟩ : ∃ p : Int32, (p9 + (1 : Int32)) = p ∧ 1 ≤ p.toInt ∧ p.toInt ≤ 2 := ⟨_, rfl, (by have := rp9; have : (1 : Int32).toInt = 1 := (by decide); have h1 := c_iadd p9 (1 : Int32); have h2 := rng32 (p9 + (1 : Int32)); omega)⟩
   refine r_iadd H 54 p24 d_g52_4_53 ep24 ?_
   refine r_goto H 58 d_g52_4_54 ?_
   exact key p24 ⟨(by subst ep24; rw [if_pos c22]), (by have := rp24; omega)⟩
 rintro p25 ⟨ep25, rp25⟩
 refine r_istoreN H 59 #[vR a1, vI p21, vI p25, vI 1, vI i2] d_g52_4_58 ?_
 refine r_iinc H 62 #[vR a1, vI p21, vI p25, vI 2, vI i2] 2 d_g52_4_59 ?_
 refine r_goto H 6 d_g52_4_62 ?_
 refine r_iloadN H 7 d_g52_4_6 ?_
 refine r_ifeq H 65 10 d_g52_4_7 (fun c26 => ?_) (fun c26 => ?_)
 ·
  have rr27 : 0 ≤ p21.toInt ∧ p21.toInt ≤ 0 := by have := rp21; have : (0 : Int32).toInt = 0 := (by decide); have hc_ := c26; simp only [Int32.lt_iff_toInt_lt, ← Int32.toInt_inj] at hc_; omega
  refine r_iloadN H 66 d_g52_4_65 ?_
  subst ep9 ep21 ep25
  exact r_nreturn (if i2 = (39 : Int32) then (if ((if i1 = (92 : Int32) then (1 : Int32) else (0 : Int32)) % (2 : Int32)) = (0 : Int32) then (1 : Int32) else (0 : Int32)) else (1 : Int32)) H d_g52_4_66 (nar_bool_id (by have := rr27; omega)) (⟨_, rfl, rfl, (by unfold fn_readAlikeByEitherSetting_90; rw [if_pos c26]), (by have := rr27; omega)⟩)
 ·
  refine r_iloadN H 11 d_g52_4_10 ?_
  refine r_aloadN H 12 d_g52_4_11 ?_
  refine r_virtual (z := mn4) (a := a1) (argsL := []) (rest := [.int 2]) (W := 1) H 15 d_g52_4_12 (tw30 hw) (tw31 hw) (nf_sel (tw33 hw)) (tw33 hw) (tw32 hw) (tw7 hw) (tw34 hw) E_a1 (lenOf pd_4 rfl) (rm_length_26 hw Ts a1 a2 c1 _ (10 : Int32) cs h0 f Zf Z0 F_value_a1 A_a2 E_a1 F_coder_a1 rfl S_cs hcs) ?_
  rintro _ _ ⟨p29, rfl, ep29, rfl⟩
  have hzp29 : (5 : Int32) = p29 := by rw [← ep29]; decide
  subst hzp29
  refine r_icmpgeF H 18 d_g52_4_15 ?_
  refine r_aloadN H 19 d_g52_4_18 ?_
  refine r_iloadN H 20 d_g52_4_19 ?_
  refine r_virtual (z := mn18) (a := a1) (argsL := [.int 2]) (rest := []) (W := 0) H 23 d_g52_4_20 (tw51 hw) (tw52 hw) (nf_sel (tw54 hw)) (tw54 hw) (tw53 hw) (tw7 hw) (tw55 hw) E_a1 (lenOf pd_16 rfl) (rm_charAt_28 hw Ts a1 (2 : Int32) a2 c1 _ (10 : Int32) (cL8 i3) (cH8 i3) cs sio h0 f Zf Z0 E_a1 F_coder_a1 F_value_a1 A_a2 rfl rfl rfl (by decide) (by decide) (by decide) (by decide) S_cs S_sio hsio S__assertionsDisabled S_HI_BYTE_SHIFT S_LO_BYTE_SHIFT hcs) ?_
  rintro _ _ ⟨p31, rfl, ep31, rp31, rfl⟩
  have hzp31 : i3 = p31 := by rw [← ep31]; exact (own_u16 i3 (by have := r_i3; omega)).symm
  subst hzp31
  refine r_istore H 25 #[vR a1, vI p21, vI p25, vI 2, vI i3] d_g52_4_23 ?_
  refine r_iload H 27 d_g52_4_25 ?_
  refine r_bipush H 29 39 d_g52_4_27 ?_
  refine Run.join (P := fun z => (if i3 = (39 : Int32) then (if (p25 % (2 : Int32)) = (0 : Int32) then (1 : Int32) else (0 : Int32)) else (1 : Int32)) = z ∧ (0 ≤ z.toInt ∧ z.toInt ≤ 1)) (pcB := 43) (LB := fun z => #[vR a1, vI p21, vI p25, vI 2, vI i3]) (SB := fun z => [.int z]) (fun key => ?_) ?_
  ·
   refine r_icmpne H 38 32 d_g52_4_29 (fun c33 => ?_) (fun c33 => ?_)
   ·
    refine r_iconst H 39 1 d_g52_4_38 ?_
    refine r_goto H 43 d_g52_4_39 ?_
    exact key (1 : Int32) ⟨(by rw [if_neg c33]), (by decide)⟩
   ·
    refine r_iloadN H 33 d_g52_4_32 ?_
    refine r_iconst H 34 2 d_g52_4_33 ?_
    obtain ⟨p35, ep35, rp35⟩ : ∃ p : Int32, (p25 % (2 : Int32)) = p ∧ 0 ≤ p.toInt ∧ p.toInt ≤ 1 := ⟨_, rfl, (by have := rp25; have h := (c_irem p25 (2 : Int32) 2 (by decide)).1 (by omega); omega)⟩
    refine r_irem H 35 p35 d_g52_4_34 ep35 ?_
    refine Run.join (P := fun z => (if p35 = (0 : Int32) then (1 : Int32) else (0 : Int32)) = z ∧ (0 ≤ z.toInt ∧ z.toInt ≤ 1)) (pcB := 43) (LB := fun z => #[vR a1, vI p21, vI p25, vI 2, vI i3]) (SB := fun z => [.int z]) (fun key => ?_) ?_
    ·
     refine r_ifne H 42 38 d_g52_4_35 (fun c36 => ?_) (fun c36 => ?_)
     ·
      refine r_iconst H 43 0 d_g52_4_42 ?_
      exact key (0 : Int32) ⟨(by rw [if_neg c36]), (by decide)⟩
     ·
      refine r_iconst H 39 1 d_g52_4_38 ?_
      refine r_goto H 43 d_g52_4_39 ?_
      exact key (1 : Int32) ⟨(by rw [if_pos c36]), (by decide)⟩
    rintro p39 ⟨ep39, rp39⟩
    exact key p39 ⟨(by subst ep35 ep39; rw [if_pos c33]), (by have := rp39; omega)⟩
  rintro p40 ⟨ep40, rp40⟩
  refine r_istoreN H 44 #[vR a1, vI p40, vI p25, vI 2, vI i3] d_g52_4_43 ?_
  refine r_iload H 46 d_g52_4_44 ?_
  refine r_bipush H 48 92 d_g52_4_46 ?_
  refine Run.join (P := fun z => (if i3 = (92 : Int32) then (p25 + (1 : Int32)) else (0 : Int32)) = z ∧ (0 ≤ z.toInt ∧ z.toInt ≤ 3)) (pcB := 58) (LB := fun z => #[vR a1, vI p40, vI p25, vI 2, vI i3]) (SB := fun z => [.int z]) (fun key => ?_) ?_
  ·
   refine r_icmpne H 57 51 d_g52_4_48 (fun c41 => ?_) (fun c41 => ?_)
   ·
    refine r_iconst H 58 0 d_g52_4_57 ?_
    exact key (0 : Int32) ⟨(by rw [if_neg c41]), (by decide)⟩
   ·
    refine r_iloadN H 52 d_g52_4_51 ?_
    refine r_iconst H 53 1 d_g52_4_52 ?_
    obtain ⟨p43, ep43, rp43⟩ : ∃ p : Int32, (p25 + (1 : Int32)) = p ∧ 1 ≤ p.toInt ∧ p.toInt ≤ 3 := ⟨_, rfl, (by have := rp25; have : (1 : Int32).toInt = 1 := (by decide); have h1 := c_iadd p25 (1 : Int32); have h2 := rng32 (p25 + (1 : Int32)); omega)⟩
    refine r_iadd H 54 p43 d_g52_4_53 ep43 ?_
    refine r_goto H 58 d_g52_4_54 ?_
    exact key p43 ⟨(by subst ep43; rw [if_pos c41]), (by have := rp43; omega)⟩
  rintro p44 ⟨ep44, rp44⟩
  refine r_istoreN H 59 #[vR a1, vI p40, vI p44, vI 2, vI i3] d_g52_4_58 ?_
  refine r_iinc H 62 #[vR a1, vI p40, vI p44, vI 3, vI i3] 3 d_g52_4_59 ?_
  refine r_goto H 6 d_g52_4_62 ?_
  refine r_iloadN H 7 d_g52_4_6 ?_
  refine r_ifeq H 65 10 d_g52_4_7 (fun c45 => ?_) (fun c45 => ?_)
  ·
   have rr46 : 0 ≤ p40.toInt ∧ p40.toInt ≤ 0 := by have := rp40; have : (0 : Int32).toInt = 0 := (by decide); have hc_ := c45; simp only [Int32.lt_iff_toInt_lt, ← Int32.toInt_inj] at hc_; omega
   refine r_iloadN H 66 d_g52_4_65 ?_
   subst ep9 ep21 ep25 ep40 ep44
   exact r_nreturn (if i3 = (39 : Int32) then (if ((if i2 = (92 : Int32) then ((if i1 = (92 : Int32) then (1 : Int32) else (0 : Int32)) + (1 : Int32)) else (0 : Int32)) % (2 : Int32)) = (0 : Int32) then (1 : Int32) else (0 : Int32)) else (1 : Int32)) H d_g52_4_66 (nar_bool_id (by have := rr46; omega)) (⟨_, rfl, rfl, (by unfold fn_readAlikeByEitherSetting_90; rw [if_neg c26, if_pos c45]), (by have := rr46; omega)⟩)
  ·
   refine r_iloadN H 11 d_g52_4_10 ?_
   refine r_aloadN H 12 d_g52_4_11 ?_
   refine r_virtual (z := mn4) (a := a1) (argsL := []) (rest := [.int 3]) (W := 1) H 15 d_g52_4_12 (tw30 hw) (tw31 hw) (nf_sel (tw33 hw)) (tw33 hw) (tw32 hw) (tw7 hw) (tw34 hw) E_a1 (lenOf pd_4 rfl) (rm_length_26 hw Ts a1 a2 c1 _ (10 : Int32) cs h0 f Zf Z0 F_value_a1 A_a2 E_a1 F_coder_a1 rfl S_cs hcs) ?_
   rintro _ _ ⟨p48, rfl, ep48, rfl⟩
   have hzp48 : (5 : Int32) = p48 := by rw [← ep48]; decide
   subst hzp48
   refine r_icmpgeF H 18 d_g52_4_15 ?_
   refine r_aloadN H 19 d_g52_4_18 ?_
   refine r_iloadN H 20 d_g52_4_19 ?_
   refine r_virtual (z := mn18) (a := a1) (argsL := [.int 3]) (rest := []) (W := 0) H 23 d_g52_4_20 (tw51 hw) (tw52 hw) (nf_sel (tw54 hw)) (tw54 hw) (tw53 hw) (tw7 hw) (tw55 hw) E_a1 (lenOf pd_16 rfl) (rm_charAt_28 hw Ts a1 (3 : Int32) a2 c1 _ (10 : Int32) (cL8 i4) (cH8 i4) cs sio h0 f Zf Z0 E_a1 F_coder_a1 F_value_a1 A_a2 rfl rfl rfl (by decide) (by decide) (by decide) (by decide) S_cs S_sio hsio S__assertionsDisabled S_HI_BYTE_SHIFT S_LO_BYTE_SHIFT hcs) ?_
   rintro _ _ ⟨p50, rfl, ep50, rp50, rfl⟩
   have hzp50 : i4 = p50 := by rw [← ep50]; exact (own_u16 i4 (by have := r_i4; omega)).symm
   subst hzp50
   refine r_istore H 25 #[vR a1, vI p40, vI p44, vI 3, vI i4] d_g52_4_23 ?_
   refine r_iload H 27 d_g52_4_25 ?_
   refine r_bipush H 29 39 d_g52_4_27 ?_
   refine Run.join (P := fun z => (if i4 = (39 : Int32) then (if (p44 % (2 : Int32)) = (0 : Int32) then (1 : Int32) else (0 : Int32)) else (1 : Int32)) = z ∧ (0 ≤ z.toInt ∧ z.toInt ≤ 1)) (pcB := 43) (LB := fun z => #[vR a1, vI p40, vI p44, vI 3, vI i4]) (SB := fun z => [.int z]) (fun key => ?_) ?_
   ·
    refine r_icmpne H 38 32 d_g52_4_29 (fun c52 => ?_) (fun c52 => ?_)
    ·
     refine r_iconst H 39 1 d_g52_4_38 ?_
     refine r_goto H 43 d_g52_4_39 ?_
     exact key (1 : Int32) ⟨(by rw [if_neg c52]), (by decide)⟩
    ·
     refine r_iloadN H 33 d_g52_4_32 ?_
     refine r_iconst H 34 2 d_g52_4_33 ?_
     obtain ⟨p54, ep54, rp54⟩ : ∃ p : Int32, (p44 % (2 : Int32)) = p ∧ 0 ≤ p.toInt ∧ p.toInt ≤ 1 := ⟨_, rfl, (by have := rp44; have h := (c_irem p44 (2 : Int32) 2 (by decide)).1 (by omega); omega)⟩
     refine r_irem H 35 p54 d_g52_4_34 ep54 ?_
     refine Run.join (P := fun z => (if p54 = (0 : Int32) then (1 : Int32) else (0 : Int32)) = z ∧ (0 ≤ z.toInt ∧ z.toInt ≤ 1)) (pcB := 43) (LB := fun z => #[vR a1, vI p40, vI p44, vI 3, vI i4]) (SB := fun z => [.int z]) (fun key => ?_) ?_
     ·
      refine r_ifne H 42 38 d_g52_4_35 (fun c55 => ?_) (fun c55 => ?_)
      ·
       refine r_iconst H 43 0 d_g52_4_42 ?_
       exact key (0 : Int32) ⟨(by rw [if_neg c55]), (by decide)⟩
      ·
       refine r_iconst H 39 1 d_g52_4_38 ?_
       refine r_goto H 43 d_g52_4_39 ?_
       exact key (1 : Int32) ⟨(by rw [if_pos c55]), (by decide)⟩
     rintro p58 ⟨ep58, rp58⟩
     exact key p58 ⟨(by subst ep54 ep58; rw [if_pos c52]), (by have := rp58; omega)⟩
   rintro p59 ⟨ep59, rp59⟩
   refine r_istoreN H 44 #[vR a1, vI p59, vI p44, vI 3, vI i4] d_g52_4_43 ?_
   refine r_iload H 46 d_g52_4_44 ?_
   refine r_bipush H 48 92 d_g52_4_46 ?_
   refine Run.join (P := fun z => (if i4 = (92 : Int32) then (p44 + (1 : Int32)) else (0 : Int32)) = z ∧ (0 ≤ z.toInt ∧ z.toInt ≤ 4)) (pcB := 58) (LB := fun z => #[vR a1, vI p59, vI p44, vI 3, vI i4]) (SB := fun z => [.int z]) (fun key => ?_) ?_
   ·
    refine r_icmpne H 57 51 d_g52_4_48 (fun c60 => ?_) (fun c60 => ?_)
    ·
     refine r_iconst H 58 0 d_g52_4_57 ?_
     exact key (0 : Int32) ⟨(by rw [if_neg c60]), (by decide)⟩
    ·
     refine r_iloadN H 52 d_g52_4_51 ?_
     refine r_iconst H 53 1 d_g52_4_52 ?_
     obtain ⟨p62, ep62, rp62⟩ : ∃ p : Int32, (p44 + (1 : Int32)) = p ∧ 1 ≤ p.toInt ∧ p.toInt ≤ 4 := ⟨_, rfl, (by have := rp44; have : (1 : Int32).toInt = 1 := (by decide); have h1 := c_iadd p44 (1 : Int32); have h2 := rng32 (p44 + (1 : Int32)); omega)⟩
     refine r_iadd H 54 p62 d_g52_4_53 ep62 ?_
     refine r_goto H 58 d_g52_4_54 ?_
     exact key p62 ⟨(by subst ep62; rw [if_pos c60]), (by have := rp62; omega)⟩
   rintro p63 ⟨ep63, rp63⟩
   refine r_istoreN H 59 #[vR a1, vI p59, vI p63, vI 3, vI i4] d_g52_4_58 ?_
   refine r_iinc H 62 #[vR a1, vI p59, vI p63, vI 4, vI i4] 4 d_g52_4_59 ?_
   refine r_goto H 6 d_g52_4_62 ?_
   refine r_iloadN H 7 d_g52_4_6 ?_
   refine r_ifeq H 65 10 d_g52_4_7 (fun c64 => ?_) (fun c64 => ?_)
   ·
    have rr65 : 0 ≤ p59.toInt ∧ p59.toInt ≤ 0 := by have := rp59; have : (0 : Int32).toInt = 0 := (by decide); have hc_ := c64; simp only [Int32.lt_iff_toInt_lt, ← Int32.toInt_inj] at hc_; omega
    refine r_iloadN H 66 d_g52_4_65 ?_
    subst ep9 ep21 ep25 ep40 ep44 ep59 ep63
    exact r_nreturn (if i4 = (39 : Int32) then (if ((if i3 = (92 : Int32) then ((if i2 = (92 : Int32) then ((if i1 = (92 : Int32) then (1 : Int32) else (0 : Int32)) + (1 : Int32)) else (0 : Int32)) + (1 : Int32)) else (0 : Int32)) % (2 : Int32)) = (0 : Int32) then (1 : Int32) else (0 : Int32)) else (1 : Int32)) H d_g52_4_66 (nar_bool_id (by have := rr65; omega)) (⟨_, rfl, rfl, (by unfold fn_readAlikeByEitherSetting_90; rw [if_neg c26, if_neg c45, if_pos c64]), (by have := rr65; omega)⟩)
   ·
    refine r_iloadN H 11 d_g52_4_10 ?_
    refine r_aloadN H 12 d_g52_4_11 ?_
    refine r_virtual (z := mn4) (a := a1) (argsL := []) (rest := [.int 4]) (W := 1) H 15 d_g52_4_12 (tw30 hw) (tw31 hw) (nf_sel (tw33 hw)) (tw33 hw) (tw32 hw) (tw7 hw) (tw34 hw) E_a1 (lenOf pd_4 rfl) (rm_length_26 hw Ts a1 a2 c1 _ (10 : Int32) cs h0 f Zf Z0 F_value_a1 A_a2 E_a1 F_coder_a1 rfl S_cs hcs) ?_
    rintro _ _ ⟨p67, rfl, ep67, rfl⟩
    have hzp67 : (5 : Int32) = p67 := by rw [← ep67]; decide
    subst hzp67
    refine r_icmpgeF H 18 d_g52_4_15 ?_
    refine r_aloadN H 19 d_g52_4_18 ?_
    refine r_iloadN H 20 d_g52_4_19 ?_
    refine r_virtual (z := mn18) (a := a1) (argsL := [.int 4]) (rest := []) (W := 0) H 23 d_g52_4_20 (tw51 hw) (tw52 hw) (nf_sel (tw54 hw)) (tw54 hw) (tw53 hw) (tw7 hw) (tw55 hw) E_a1 (lenOf pd_16 rfl) (rm_charAt_28 hw Ts a1 (4 : Int32) a2 c1 _ (10 : Int32) (cL8 i5) (cH8 i5) cs sio h0 f Zf Z0 E_a1 F_coder_a1 F_value_a1 A_a2 rfl rfl rfl (by decide) (by decide) (by decide) (by decide) S_cs S_sio hsio S__assertionsDisabled S_HI_BYTE_SHIFT S_LO_BYTE_SHIFT hcs) ?_
    rintro _ _ ⟨p69, rfl, ep69, rp69, rfl⟩
    have hzp69 : i5 = p69 := by rw [← ep69]; exact (own_u16 i5 (by have := r_i5; omega)).symm
    subst hzp69
    refine r_istore H 25 #[vR a1, vI p59, vI p63, vI 4, vI i5] d_g52_4_23 ?_
    refine r_iload H 27 d_g52_4_25 ?_
    refine r_bipush H 29 39 d_g52_4_27 ?_
    refine Run.join (P := fun z => (if i5 = (39 : Int32) then (if (p63 % (2 : Int32)) = (0 : Int32) then (1 : Int32) else (0 : Int32)) else (1 : Int32)) = z ∧ (0 ≤ z.toInt ∧ z.toInt ≤ 1)) (pcB := 43) (LB := fun z => #[vR a1, vI p59, vI p63, vI 4, vI i5]) (SB := fun z => [.int z]) (fun key => ?_) ?_
    ·
     refine r_icmpne H 38 32 d_g52_4_29 (fun c71 => ?_) (fun c71 => ?_)
     ·
      refine r_iconst H 39 1 d_g52_4_38 ?_
      refine r_goto H 43 d_g52_4_39 ?_
      exact key (1 : Int32) ⟨(by rw [if_neg c71]), (by decide)⟩
     ·
      refine r_iloadN H 33 d_g52_4_32 ?_
      refine r_iconst H 34 2 d_g52_4_33 ?_
      obtain ⟨p73, ep73, rp73⟩ : ∃ p : Int32, (p63 % (2 : Int32)) = p ∧ 0 ≤ p.toInt ∧ p.toInt ≤ 1 := ⟨_, rfl, (by have := rp63; have h := (c_irem p63 (2 : Int32) 2 (by decide)).1 (by omega); omega)⟩
      refine r_irem H 35 p73 d_g52_4_34 ep73 ?_
      refine Run.join (P := fun z => (if p73 = (0 : Int32) then (1 : Int32) else (0 : Int32)) = z ∧ (0 ≤ z.toInt ∧ z.toInt ≤ 1)) (pcB := 43) (LB := fun z => #[vR a1, vI p59, vI p63, vI 4, vI i5]) (SB := fun z => [.int z]) (fun key => ?_) ?_
      ·
       refine r_ifne H 42 38 d_g52_4_35 (fun c74 => ?_) (fun c74 => ?_)
       ·
        refine r_iconst H 43 0 d_g52_4_42 ?_
        exact key (0 : Int32) ⟨(by rw [if_neg c74]), (by decide)⟩
       ·
        refine r_iconst H 39 1 d_g52_4_38 ?_
        refine r_goto H 43 d_g52_4_39 ?_
        exact key (1 : Int32) ⟨(by rw [if_pos c74]), (by decide)⟩
      rintro p77 ⟨ep77, rp77⟩
      exact key p77 ⟨(by subst ep73 ep77; rw [if_pos c71]), (by have := rp77; omega)⟩
    rintro p78 ⟨ep78, rp78⟩
    refine r_istoreN H 44 #[vR a1, vI p78, vI p63, vI 4, vI i5] d_g52_4_43 ?_
    refine r_iload H 46 d_g52_4_44 ?_
    refine r_bipush H 48 92 d_g52_4_46 ?_
    refine Run.join (P := fun z => (if i5 = (92 : Int32) then (p63 + (1 : Int32)) else (0 : Int32)) = z ∧ (0 ≤ z.toInt ∧ z.toInt ≤ 5)) (pcB := 58) (LB := fun z => #[vR a1, vI p78, vI p63, vI 4, vI i5]) (SB := fun z => [.int z]) (fun key => ?_) ?_
    ·
     refine r_icmpne H 57 51 d_g52_4_48 (fun c79 => ?_) (fun c79 => ?_)
     ·
      refine r_iconst H 58 0 d_g52_4_57 ?_
      exact key (0 : Int32) ⟨(by rw [if_neg c79]), (by decide)⟩
     ·
      refine r_iloadN H 52 d_g52_4_51 ?_
      refine r_iconst H 53 1 d_g52_4_52 ?_
      obtain ⟨p81, ep81, rp81⟩ : ∃ p : Int32, (p63 + (1 : Int32)) = p ∧ 1 ≤ p.toInt ∧ p.toInt ≤ 5 := ⟨_, rfl, (by have := rp63; have : (1 : Int32).toInt = 1 := (by decide); have h1 := c_iadd p63 (1 : Int32); have h2 := rng32 (p63 + (1 : Int32)); omega)⟩
      refine r_iadd H 54 p81 d_g52_4_53 ep81 ?_
      refine r_goto H 58 d_g52_4_54 ?_
      exact key p81 ⟨(by subst ep81; rw [if_pos c79]), (by have := rp81; omega)⟩
    rintro p82 ⟨ep82, rp82⟩
    refine r_istoreN H 59 #[vR a1, vI p78, vI p82, vI 4, vI i5] d_g52_4_58 ?_
    refine r_iinc H 62 #[vR a1, vI p78, vI p82, vI 5, vI i5] 5 d_g52_4_59 ?_
    refine r_goto H 6 d_g52_4_62 ?_
    refine r_iloadN H 7 d_g52_4_6 ?_
    refine r_ifeq H 65 10 d_g52_4_7 (fun c83 => ?_) (fun c83 => ?_)
    ·
     have rr84 : 0 ≤ p78.toInt ∧ p78.toInt ≤ 0 := by have := rp78; have : (0 : Int32).toInt = 0 := (by decide); have hc_ := c83; simp only [Int32.lt_iff_toInt_lt, ← Int32.toInt_inj] at hc_; omega
     refine r_iloadN H 66 d_g52_4_65 ?_
     subst ep9 ep21 ep25 ep40 ep44 ep59 ep63 ep78 ep82
     exact r_nreturn (if i5 = (39 : Int32) then (if ((if i4 = (92 : Int32) then ((if i3 = (92 : Int32) then ((if i2 = (92 : Int32) then ((if i1 = (92 : Int32) then (1 : Int32) else (0 : Int32)) + (1 : Int32)) else (0 : Int32)) + (1 : Int32)) else (0 : Int32)) + (1 : Int32)) else (0 : Int32)) % (2 : Int32)) = (0 : Int32) then (1 : Int32) else (0 : Int32)) else (1 : Int32)) H d_g52_4_66 (nar_bool_id (by have := rr84; omega)) (⟨_, rfl, rfl, (by unfold fn_readAlikeByEitherSetting_90; rw [if_neg c26, if_neg c45, if_neg c64, if_pos c83]), (by have := rr84; omega)⟩)
    ·
     have rr85 : 1 ≤ p78.toInt ∧ p78.toInt ≤ 1 := by have := rp78; have : (0 : Int32).toInt = 0 := (by decide); have hc_ := c83; simp only [Int32.lt_iff_toInt_lt, ← Int32.toInt_inj] at hc_; omega
     refine r_iloadN H 11 d_g52_4_10 ?_
     refine r_aloadN H 12 d_g52_4_11 ?_
     refine r_virtual (z := mn4) (a := a1) (argsL := []) (rest := [.int 5]) (W := 1) H 15 d_g52_4_12 (tw30 hw) (tw31 hw) (nf_sel (tw33 hw)) (tw33 hw) (tw32 hw) (tw7 hw) (tw34 hw) E_a1 (lenOf pd_4 rfl) (rm_length_26 hw Ts a1 a2 c1 _ (10 : Int32) cs h0 f Zf Z0 F_value_a1 A_a2 E_a1 F_coder_a1 rfl S_cs hcs) ?_
     rintro _ _ ⟨p86, rfl, ep86, rfl⟩
     have hzp86 : (5 : Int32) = p86 := by rw [← ep86]; decide
     subst hzp86
     refine r_icmpgeT H 65 d_g52_4_15 ?_
     refine r_iloadN H 66 d_g52_4_65 ?_
     subst ep9 ep21 ep25 ep40 ep44 ep59 ep63 ep78 ep82
     exact r_nreturn (if i5 = (39 : Int32) then (if ((if i4 = (92 : Int32) then ((if i3 = (92 : Int32) then ((if i2 = (92 : Int32) then ((if i1 = (92 : Int32) then (1 : Int32) else (0 : Int32)) + (1 : Int32)) else (0 : Int32)) + (1 : Int32)) else (0 : Int32)) + (1 : Int32)) else (0 : Int32)) % (2 : Int32)) = (0 : Int32) then (1 : Int32) else (0 : Int32)) else (1 : Int32)) H d_g52_4_66 (nar_bool_id (by have := rr85; omega)) (⟨_, rfl, rfl, (by unfold fn_readAlikeByEitherSetting_90; rw [if_neg c26, if_neg c45, if_neg c64, if_neg c83]), (by have := rr85; omega)⟩)
def Q_compress_94 (Z : State) (a2 : Addr) (i1 : Int32) (i2 : Int32) (i3 : Int32) (i4 : Int32) (i5 : Int32) (i6 : Int32) (c2 : ClassId) (h0 : Heap) (v : Option Value) (h : Heap) : Prop := (v = some (.int 6) ∧ (¬ (255 : Int32) < i1) ∧ (¬ (255 : Int32) < i2) ∧ (¬ (255 : Int32) < i3) ∧ (¬ (255 : Int32) < i4) ∧ (¬ (255 : Int32) < i5) ∧ (¬ (255 : Int32) < i6) ∧ Keep h0 h [a2] ∧ Ar Z h a2 c2 .byte [.int (cB8 i1), .int (cB8 i2), .int (cB8 i3), .int (cB8 i4), .int (cB8 i5), .int (cB8 i6)] ∧ Exa Z h a2 "[B") ∨ (v = some (.int 5) ∧ (¬ (255 : Int32) < i1) ∧ (¬ (255 : Int32) < i2) ∧ (¬ (255 : Int32) < i3) ∧ (¬ (255 : Int32) < i4) ∧ (¬ (255 : Int32) < i5) ∧ ((255 : Int32) < i6) ∧ Keep h0 h [a2] ∧ Ar Z h a2 c2 .byte [.int (cB8 i1), .int (cB8 i2), .int (cB8 i3), .int (cB8 i4), .int (cB8 i5), .int 0] ∧ Exa Z h a2 "[B") ∨ (v = some (.int 4) ∧ (¬ (255 : Int32) < i1) ∧ (¬ (255 : Int32) < i2) ∧ (¬ (255 : Int32) < i3) ∧ (¬ (255 : Int32) < i4) ∧ ((255 : Int32) < i5) ∧ Keep h0 h [a2] ∧ Ar Z h a2 c2 .byte [.int (cB8 i1), .int (cB8 i2), .int (cB8 i3), .int (cB8 i4), .int 0, .int 0] ∧ Exa Z h a2 "[B") ∨ (v = some (.int 3) ∧ (¬ (255 : Int32) < i1) ∧ (¬ (255 : Int32) < i2) ∧ (¬ (255 : Int32) < i3) ∧ ((255 : Int32) < i4) ∧ Keep h0 h [a2] ∧ Ar Z h a2 c2 .byte [.int (cB8 i1), .int (cB8 i2), .int (cB8 i3), .int 0, .int 0, .int 0] ∧ Exa Z h a2 "[B") ∨ (v = some (.int 2) ∧ (¬ (255 : Int32) < i1) ∧ (¬ (255 : Int32) < i2) ∧ ((255 : Int32) < i3) ∧ Keep h0 h [a2] ∧ Ar Z h a2 c2 .byte [.int (cB8 i1), .int (cB8 i2), .int 0, .int 0, .int 0, .int 0] ∧ Exa Z h a2 "[B") ∨ (v = some (.int 1) ∧ (¬ (255 : Int32) < i1) ∧ ((255 : Int32) < i2) ∧ Keep h0 h [a2] ∧ Ar Z h a2 c2 .byte [.int (cB8 i1), .int 0, .int 0, .int 0, .int 0, .int 0] ∧ Exa Z h a2 "[B") ∨ (v = some (.int 0) ∧ ((255 : Int32) < i1) ∧ h0 = h)
def R_compress_94 : Room := { frames := 0, cells := 0, slots := 0, locals := 0 }
theorem rm_compress_94 {w : Bool} {Z : State} {a0 : Array Value} (hw : HW a0 Z) (Ts : List String) (a1 : Addr) (a2 : Addr) (i1 : Int32) (i2 : Int32) (i3 : Int32) (i4 : Int32) (i5 : Int32) (i6 : Int32) (c1 : ClassId) (c2 : ClassId) (h0 : Heap) (f : Nat) (Zf : Z.heap.size ≤ f) (Z0 : f ≤ h0.size) (A_a1 : Ar Z h0 a1 c1 .char [.int i1, .int i2, .int i3, .int i4, .int i5, .int i6]) (A_a2 : Ar Z h0 a2 c2 .byte [.int 0, .int 0, .int 0, .int 0, .int 0, .int 0]) (g_a2 : f ≤ a2) (E_a2 : Exa Z h0 a2 "[B") (E_a1 : Exa Z h0 a1 "[C") (r_i1 : 0 ≤ i1.toInt ∧ i1.toInt ≤ 65535) (r_i2 : 0 ≤ i2.toInt ∧ i2.toInt ≤ 65535) (r_i3 : 0 ≤ i3.toInt ∧ i3.toInt ≤ 65535) (r_i4 : 0 ≤ i4.toInt ∧ i4.toInt ≤ 65535) (r_i5 : 0 ≤ i5.toInt ∧ i5.toInt ≤ 65535) (r_i6 : 0 ≤ i6.toInt ∧ i6.toInt ≤ 65535) :
  Con w [] Z mn6 jdk_52_method_21_code 7 (some .int) R_compress_94 Ts Ts f #[.ref a1, .int 0, .ref a2, .int 0, .int 6] h0 (Q_compress_94 Z a2 i1 i2 i3 i4 i5 i6 c2 h0) := by
 refine con_of f #[vR a1, vI 0, vR a2, vI 0, vI 6, .unset, .unset] (plainFor_of_name pn_3) (fun m => rfl) Zf ?_
 intro C H hX0
 refine r_iconst H 1 0 d_j52_21_0 ?_
 refine r_istore H 3 #[vR a1, vI 0, vR a2, vI 0, vI 6, vI 0, .unset] d_j52_21_1 ?_
 refine r_iload H 5 d_j52_21_3 ?_
 refine r_iload H 7 d_j52_21_5 ?_
 refine r_icmpgeF H 10 d_j52_21_7 ?_
 refine r_aloadN H 11 d_j52_21_10 ?_
 refine r_iloadN H 12 d_j52_21_11 ?_
 refine r_caload H 13 i1 d_j52_21_12 A_a1 ?_
 refine r_istore H 15 #[vR a1, vI 0, vR a2, vI 0, vI 6, vI 0, vI i1] d_j52_21_13 ?_
 refine r_iload H 17 d_j52_21_15 ?_
 refine r_sipush H 20 255 d_j52_21_17 ?_
 refine r_icmple H 26 23 d_j52_21_20 (fun c1 => ?_) (fun c1 => ?_)
 ·
  refine r_aloadN H 27 d_j52_21_26 ?_
  refine r_iloadN H 28 d_j52_21_27 ?_
  refine r_iload H 30 d_j52_21_28 ?_
  obtain ⟨p3, ep3, rp3⟩ : ∃ p : Int32, (i1.toInt8.toInt32) = p ∧ -128 ≤ p.toInt ∧ p.toInt ≤ 127 := ⟨_, rfl, (by have h := c_i2b i1; omega)⟩
  refine r_i2b H 31 p3 d_j52_21_30 ep3 ?_
  refine r_bastore H 32 p3 d_j52_21_31 A_a2 g_a2 (nar_byte_id (by have := rp3; omega)) ?_
  intro h4 K4 A4
  change Ar Z h4 a2 c2 .byte [.int p3, .int 0, .int 0, .int 0, .int 0, .int 0] at A4
  refine r_iinc H 35 #[vR a1, vI 1, vR a2, vI 0, vI 6, vI 0, vI i1] 1 d_j52_21_32 ?_
  refine r_iinc H 38 #[vR a1, vI 1, vR a2, vI 1, vI 6, vI 0, vI i1] 1 d_j52_21_35 ?_
  refine r_iinc H 41 #[vR a1, vI 1, vR a2, vI 1, vI 6, vI 1, vI i1] 1 d_j52_21_38 ?_
  refine r_goto H 3 d_j52_21_41 ?_
  refine r_iload H 5 d_j52_21_3 ?_
  refine r_iload H 7 d_j52_21_5 ?_
  refine r_icmpgeF H 10 d_j52_21_7 ?_
  refine r_aloadN H 11 d_j52_21_10 ?_
  refine r_iloadN H 12 d_j52_21_11 ?_
  have q5 := (E_a1.keep K4)
  have q6 := (E_a2.keep K4)
  have q7 := (A_a1.keep K4 (ninS (ne_exa q5 q6 (by decide)) nin0))
  refine r_caload H 13 i2 d_j52_21_12 q7 ?_
  refine r_istore H 15 #[vR a1, vI 1, vR a2, vI 1, vI 6, vI 1, vI i2] d_j52_21_13 ?_
  refine r_iload H 17 d_j52_21_15 ?_
  refine r_sipush H 20 255 d_j52_21_17 ?_
  refine r_icmple H 26 23 d_j52_21_20 (fun c8 => ?_) (fun c8 => ?_)
  ·
   refine r_aloadN H 27 d_j52_21_26 ?_
   refine r_iloadN H 28 d_j52_21_27 ?_
   refine r_iload H 30 d_j52_21_28 ?_
   obtain ⟨p10, ep10, rp10⟩ : ∃ p : Int32, (i2.toInt8.toInt32) = p ∧ -128 ≤ p.toInt ∧ p.toInt ≤ 127 := ⟨_, rfl, (by have h := c_i2b i2; omega)⟩
   refine r_i2b H 31 p10 d_j52_21_30 ep10 ?_
   refine r_bastore H 32 p10 d_j52_21_31 A4 g_a2 (nar_byte_id (by have := rp10; omega)) ?_
   intro h11 K11 A11
   change Ar Z h11 a2 c2 .byte [.int p3, .int p10, .int 0, .int 0, .int 0, .int 0] at A11
   refine r_iinc H 35 #[vR a1, vI 2, vR a2, vI 1, vI 6, vI 1, vI i2] 2 d_j52_21_32 ?_
   refine r_iinc H 38 #[vR a1, vI 2, vR a2, vI 2, vI 6, vI 1, vI i2] 2 d_j52_21_35 ?_
   refine r_iinc H 41 #[vR a1, vI 2, vR a2, vI 2, vI 6, vI 2, vI i2] 2 d_j52_21_38 ?_
   refine r_goto H 3 d_j52_21_41 ?_
   refine r_iload H 5 d_j52_21_3 ?_
   refine r_iload H 7 d_j52_21_5 ?_
   refine r_icmpgeF H 10 d_j52_21_7 ?_
   refine r_aloadN H 11 d_j52_21_10 ?_
   refine r_iloadN H 12 d_j52_21_11 ?_
   have q12 := (q5.keep K11)
   have q13 := (q6.keep K11)
   have q14 := (q7.keep K11 (ninS (ne_exa q12 q13 (by decide)) nin0))
   refine r_caload H 13 i3 d_j52_21_12 q14 ?_
   refine r_istore H 15 #[vR a1, vI 2, vR a2, vI 2, vI 6, vI 2, vI i3] d_j52_21_13 ?_
   refine r_iload H 17 d_j52_21_15 ?_
   refine r_sipush H 20 255 d_j52_21_17 ?_
   refine r_icmple H 26 23 d_j52_21_20 (fun c15 => ?_) (fun c15 => ?_)
   ·
    refine r_aloadN H 27 d_j52_21_26 ?_
    refine r_iloadN H 28 d_j52_21_27 ?_
    refine r_iload H 30 d_j52_21_28 ?_
    obtain ⟨p17, ep17, rp17⟩ : ∃ p : Int32, (i3.toInt8.toInt32) = p ∧ -128 ≤ p.toInt ∧ p.toInt ≤ 127 := ⟨_, rfl, (by have h := c_i2b i3; omega)⟩
    refine r_i2b H 31 p17 d_j52_21_30 ep17 ?_
    refine r_bastore H 32 p17 d_j52_21_31 A11 g_a2 (nar_byte_id (by have := rp17; omega)) ?_
    intro h18 K18 A18
    change Ar Z h18 a2 c2 .byte [.int p3, .int p10, .int p17, .int 0, .int 0, .int 0] at A18
    refine r_iinc H 35 #[vR a1, vI 3, vR a2, vI 2, vI 6, vI 2, vI i3] 3 d_j52_21_32 ?_
    refine r_iinc H 38 #[vR a1, vI 3, vR a2, vI 3, vI 6, vI 2, vI i3] 3 d_j52_21_35 ?_
    refine r_iinc H 41 #[vR a1, vI 3, vR a2, vI 3, vI 6, vI 3, vI i3] 3 d_j52_21_38 ?_
    refine r_goto H 3 d_j52_21_41 ?_
    refine r_iload H 5 d_j52_21_3 ?_
    refine r_iload H 7 d_j52_21_5 ?_
    refine r_icmpgeF H 10 d_j52_21_7 ?_
    refine r_aloadN H 11 d_j52_21_10 ?_
    refine r_iloadN H 12 d_j52_21_11 ?_
    have q19 := (q12.keep K18)
    have q20 := (q13.keep K18)
    have q21 := (q14.keep K18 (ninS (ne_exa q19 q20 (by decide)) nin0))
    refine r_caload H 13 i4 d_j52_21_12 q21 ?_
    refine r_istore H 15 #[vR a1, vI 3, vR a2, vI 3, vI 6, vI 3, vI i4] d_j52_21_13 ?_
    refine r_iload H 17 d_j52_21_15 ?_
    refine r_sipush H 20 255 d_j52_21_17 ?_
    refine r_icmple H 26 23 d_j52_21_20 (fun c22 => ?_) (fun c22 => ?_)
    ·
     refine r_aloadN H 27 d_j52_21_26 ?_
     refine r_iloadN H 28 d_j52_21_27 ?_
     refine r_iload H 30 d_j52_21_28 ?_
     obtain ⟨p24, ep24, rp24⟩ : ∃ p : Int32, (i4.toInt8.toInt32) = p ∧ -128 ≤ p.toInt ∧ p.toInt ≤ 127 := ⟨_, rfl, (by have h := c_i2b i4; omega)⟩
     refine r_i2b H 31 p24 d_j52_21_30 ep24 ?_
     refine r_bastore H 32 p24 d_j52_21_31 A18 g_a2 (nar_byte_id (by have := rp24; omega)) ?_
     intro h25 K25 A25
     change Ar Z h25 a2 c2 .byte [.int p3, .int p10, .int p17, .int p24, .int 0, .int 0] at A25
     refine r_iinc H 35 #[vR a1, vI 4, vR a2, vI 3, vI 6, vI 3, vI i4] 4 d_j52_21_32 ?_
     refine r_iinc H 38 #[vR a1, vI 4, vR a2, vI 4, vI 6, vI 3, vI i4] 4 d_j52_21_35 ?_
     refine r_iinc H 41 #[vR a1, vI 4, vR a2, vI 4, vI 6, vI 4, vI i4] 4 d_j52_21_38 ?_
     refine r_goto H 3 d_j52_21_41 ?_
     refine r_iload H 5 d_j52_21_3 ?_
     refine r_iload H 7 d_j52_21_5 ?_
     refine r_icmpgeF H 10 d_j52_21_7 ?_
     refine r_aloadN H 11 d_j52_21_10 ?_
     refine r_iloadN H 12 d_j52_21_11 ?_
     have q26 := (q19.keep K25)
     have q27 := (q20.keep K25)
     have q28 := (q21.keep K25 (ninS (ne_exa q26 q27 (by decide)) nin0))
     refine r_caload H 13 i5 d_j52_21_12 q28 ?_
     refine r_istore H 15 #[vR a1, vI 4, vR a2, vI 4, vI 6, vI 4, vI i5] d_j52_21_13 ?_
     refine r_iload H 17 d_j52_21_15 ?_
     refine r_sipush H 20 255 d_j52_21_17 ?_
     refine r_icmple H 26 23 d_j52_21_20 (fun c29 => ?_) (fun c29 => ?_)
     ·
      refine r_aloadN H 27 d_j52_21_26 ?_
      refine r_iloadN H 28 d_j52_21_27 ?_
      refine r_iload H 30 d_j52_21_28 ?_
      obtain ⟨p31, ep31, rp31⟩ : ∃ p : Int32, (i5.toInt8.toInt32) = p ∧ -128 ≤ p.toInt ∧ p.toInt ≤ 127 := ⟨_, rfl, (by have h := c_i2b i5; omega)⟩
      refine r_i2b H 31 p31 d_j52_21_30 ep31 ?_
      refine r_bastore H 32 p31 d_j52_21_31 A25 g_a2 (nar_byte_id (by have := rp31; omega)) ?_
      intro h32 K32 A32
      change Ar Z h32 a2 c2 .byte [.int p3, .int p10, .int p17, .int p24, .int p31, .int 0] at A32
      refine r_iinc H 35 #[vR a1, vI 5, vR a2, vI 4, vI 6, vI 4, vI i5] 5 d_j52_21_32 ?_
      refine r_iinc H 38 #[vR a1, vI 5, vR a2, vI 5, vI 6, vI 4, vI i5] 5 d_j52_21_35 ?_
      refine r_iinc H 41 #[vR a1, vI 5, vR a2, vI 5, vI 6, vI 5, vI i5] 5 d_j52_21_38 ?_
      refine r_goto H 3 d_j52_21_41 ?_
      refine r_iload H 5 d_j52_21_3 ?_
      refine r_iload H 7 d_j52_21_5 ?_
      refine r_icmpgeF H 10 d_j52_21_7 ?_
      refine r_aloadN H 11 d_j52_21_10 ?_
      refine r_iloadN H 12 d_j52_21_11 ?_
      have q33 := (q26.keep K32)
      have q34 := (q27.keep K32)
      have q35 := (q28.keep K32 (ninS (ne_exa q33 q34 (by decide)) nin0))
      refine r_caload H 13 i6 d_j52_21_12 q35 ?_
      refine r_istore H 15 #[vR a1, vI 5, vR a2, vI 5, vI 6, vI 5, vI i6] d_j52_21_13 ?_
      refine r_iload H 17 d_j52_21_15 ?_
      refine r_sipush H 20 255 d_j52_21_17 ?_
      refine r_icmple H 26 23 d_j52_21_20 (fun c36 => ?_) (fun c36 => ?_)
      ·
       refine r_aloadN H 27 d_j52_21_26 ?_
       refine r_iloadN H 28 d_j52_21_27 ?_
       refine r_iload H 30 d_j52_21_28 ?_
       obtain ⟨p38, ep38, rp38⟩ : ∃ p : Int32, (i6.toInt8.toInt32) = p ∧ -128 ≤ p.toInt ∧ p.toInt ≤ 127 := ⟨_, rfl, (by have h := c_i2b i6; omega)⟩
       refine r_i2b H 31 p38 d_j52_21_30 ep38 ?_
       refine r_bastore H 32 p38 d_j52_21_31 A32 g_a2 (nar_byte_id (by have := rp38; omega)) ?_
       intro h39 K39 A39
       change Ar Z h39 a2 c2 .byte [.int p3, .int p10, .int p17, .int p24, .int p31, .int p38] at A39
       refine r_iinc H 35 #[vR a1, vI 6, vR a2, vI 5, vI 6, vI 5, vI i6] 6 d_j52_21_32 ?_
       refine r_iinc H 38 #[vR a1, vI 6, vR a2, vI 6, vI 6, vI 5, vI i6] 6 d_j52_21_35 ?_
       refine r_iinc H 41 #[vR a1, vI 6, vR a2, vI 6, vI 6, vI 6, vI i6] 6 d_j52_21_38 ?_
       refine r_goto H 3 d_j52_21_41 ?_
       refine r_iload H 5 d_j52_21_3 ?_
       refine r_iload H 7 d_j52_21_5 ?_
       refine r_icmpgeT H 44 d_j52_21_7 ?_
       refine r_iload H 46 d_j52_21_44 ?_
       have k40 : Keep h0 h4 [a2] := Keep.trans (Keep.refl h0 [a2]) K4 (allS (Or.inl (List.mem_of_getElem? (i := 0) rfl)) all0)
       have k41 : Keep h0 h11 [a2] := Keep.trans k40 K11 (allS (Or.inl (List.mem_of_getElem? (i := 0) rfl)) all0)
       have k42 : Keep h0 h18 [a2] := Keep.trans k41 K18 (allS (Or.inl (List.mem_of_getElem? (i := 0) rfl)) all0)
       have k43 : Keep h0 h25 [a2] := Keep.trans k42 K25 (allS (Or.inl (List.mem_of_getElem? (i := 0) rfl)) all0)
       have k44 : Keep h0 h32 [a2] := Keep.trans k43 K32 (allS (Or.inl (List.mem_of_getElem? (i := 0) rfl)) all0)
       have k45 : Keep h0 h39 [a2] := Keep.trans k44 K39 (allS (Or.inl (List.mem_of_getElem? (i := 0) rfl)) all0)
       have q46 := (q34.keep K39)
       subst ep3 ep10 ep17 ep24 ep31 ep38
       exact r_ireturn H d_j52_21_46 (Or.inl ⟨rfl, c1, c8, c15, c22, c29, c36, k45, A39, q46⟩)
      ·
       refine r_iload H 25 d_j52_21_23 ?_
       have k48 : Keep h0 h4 [a2] := Keep.trans (Keep.refl h0 [a2]) K4 (allS (Or.inl (List.mem_of_getElem? (i := 0) rfl)) all0)
       have k49 : Keep h0 h11 [a2] := Keep.trans k48 K11 (allS (Or.inl (List.mem_of_getElem? (i := 0) rfl)) all0)
       have k50 : Keep h0 h18 [a2] := Keep.trans k49 K18 (allS (Or.inl (List.mem_of_getElem? (i := 0) rfl)) all0)
       have k51 : Keep h0 h25 [a2] := Keep.trans k50 K25 (allS (Or.inl (List.mem_of_getElem? (i := 0) rfl)) all0)
       have k52 : Keep h0 h32 [a2] := Keep.trans k51 K32 (allS (Or.inl (List.mem_of_getElem? (i := 0) rfl)) all0)
       subst ep3 ep10 ep17 ep24 ep31
       exact r_ireturn H d_j52_21_25 (Or.inr (Or.inl ⟨rfl, c1, c8, c15, c22, c29, c36, k52, A32, q34⟩))
     ·
      refine r_iload H 25 d_j52_21_23 ?_
      have k54 : Keep h0 h4 [a2] := Keep.trans (Keep.refl h0 [a2]) K4 (allS (Or.inl (List.mem_of_getElem? (i := 0) rfl)) all0)
      have k55 : Keep h0 h11 [a2] := Keep.trans k54 K11 (allS (Or.inl (List.mem_of_getElem? (i := 0) rfl)) all0)
      have k56 : Keep h0 h18 [a2] := Keep.trans k55 K18 (allS (Or.inl (List.mem_of_getElem? (i := 0) rfl)) all0)
      have k57 : Keep h0 h25 [a2] := Keep.trans k56 K25 (allS (Or.inl (List.mem_of_getElem? (i := 0) rfl)) all0)
      subst ep3 ep10 ep17 ep24
      exact r_ireturn H d_j52_21_25 (Or.inr (Or.inr (Or.inl ⟨rfl, c1, c8, c15, c22, c29, k57, A25, q27⟩)))
    ·
     refine r_iload H 25 d_j52_21_23 ?_
     have k59 : Keep h0 h4 [a2] := Keep.trans (Keep.refl h0 [a2]) K4 (allS (Or.inl (List.mem_of_getElem? (i := 0) rfl)) all0)
     have k60 : Keep h0 h11 [a2] := Keep.trans k59 K11 (allS (Or.inl (List.mem_of_getElem? (i := 0) rfl)) all0)
     have k61 : Keep h0 h18 [a2] := Keep.trans k60 K18 (allS (Or.inl (List.mem_of_getElem? (i := 0) rfl)) all0)
     subst ep3 ep10 ep17
     exact r_ireturn H d_j52_21_25 (Or.inr (Or.inr (Or.inr (Or.inl ⟨rfl, c1, c8, c15, c22, k61, A18, q20⟩))))
   ·
    refine r_iload H 25 d_j52_21_23 ?_
    have k63 : Keep h0 h4 [a2] := Keep.trans (Keep.refl h0 [a2]) K4 (allS (Or.inl (List.mem_of_getElem? (i := 0) rfl)) all0)
    have k64 : Keep h0 h11 [a2] := Keep.trans k63 K11 (allS (Or.inl (List.mem_of_getElem? (i := 0) rfl)) all0)
    subst ep3 ep10
    exact r_ireturn H d_j52_21_25 (Or.inr (Or.inr (Or.inr (Or.inr (Or.inl ⟨rfl, c1, c8, c15, k64, A11, q13⟩)))))
  ·
   refine r_iload H 25 d_j52_21_23 ?_
   have k66 : Keep h0 h4 [a2] := Keep.trans (Keep.refl h0 [a2]) K4 (allS (Or.inl (List.mem_of_getElem? (i := 0) rfl)) all0)
   subst ep3
   exact r_ireturn H d_j52_21_25 (Or.inr (Or.inr (Or.inr (Or.inr (Or.inr (Or.inl ⟨rfl, c1, c8, k66, A4, q6⟩))))))
 ·
  refine r_iload H 25 d_j52_21_23 ?_
  exact r_ireturn H d_j52_21_25 (Or.inr (Or.inr (Or.inr (Or.inr (Or.inr (Or.inr (⟨rfl, c1, rfl⟩)))))))
def Q_newBytesLength_97 (Z : State) (h0 : Heap) (v : Option Value) (h : Heap) : Prop := v = some (.int 12) ∧ h0 = h
def R_newBytesLength_97 : Room := { frames := 0, cells := 0, slots := 0, locals := 0 }
theorem rm_newBytesLength_97 {w : Bool} {Z : State} {a0 : Array Value} (hw : HW a0 Z) (Ts : List String) (h0 : Heap) (f : Nat) (Zf : Z.heap.size ≤ f) (Z0 : f ≤ h0.size) :
  Con w [] Z mn7 jdk_52_method_3_code 1 (some .int) R_newBytesLength_97 Ts Ts f #[.int 6] h0 (Q_newBytesLength_97 Z h0) := by
 refine con_of f #[vI 6] (plainFor_of_name pn_3) (fun m => rfl) Zf ?_
 intro C H hX0
 refine r_iloadN H 1 d_j52_3_0 ?_
 refine r_ifgeT H 12 d_j52_3_1 ?_
 refine r_iloadN H 13 d_j52_3_12 ?_
 refine r_ldcI H 15 d_j52_3_13 (tw83 hw) ?_
 refine r_icmpltT H 55 d_j52_3_15 ?_
 refine r_iloadN H 56 d_j52_3_55 ?_
 refine r_iconst H 57 1 d_j52_3_56 ?_
 refine r_ishl H 58 12 d_j52_3_57 ?_
 exact r_ireturn H d_j52_3_58 (⟨rfl, rfl⟩)
def Q_newBytesFor_96 (Z : State) (h0 : Heap) (v : Option Value) (h : Heap) : Prop := ∃ (b2 : Addr) (kc2 : ClassId), v = some (.ref b2) ∧ Keep h0 h [] ∧ h0.size ≤ b2 ∧ Ar Z h b2 kc2 .byte [.int 0, .int 0, .int 0, .int 0, .int 0, .int 0, .int 0, .int 0, .int 0, .int 0, .int 0, .int 0] ∧ Exa Z h b2 "[B"
def R_newBytesFor_96 : Room := { frames := 1, cells := 1, slots := 12, locals := 12 }
theorem rm_newBytesFor_96 {w : Bool} {Z : State} {a0 : Array Value} (hw : HW a0 Z) (Ts : List String) (h0 : Heap) (f : Nat) (Zf : Z.heap.size ≤ f) (Z0 : f ≤ h0.size) :
  Con w [] Z mn8 jdk_52_method_2_code 1 (some (.array .byte)) R_newBytesFor_96 Ts Ts f #[.int 6] h0 (Q_newBytesFor_96 Z h0) := by
 refine con_of f #[vI 6] (plainFor_of_name pn_3) (fun m => rfl) Zf ?_
 intro C H hX0
 refine r_iloadN H 1 d_j52_2_0 ?_
 refine r_static (argsL := [.int 6]) (rest := []) (W := 0) H 4 d_j52_2_1 (tw80 hw) (tw81 hw) (tw43 hw) (tw82 hw) (lenOf pd_7 rfl) (rm_newBytesLength_97 hw Ts h0 f Zf Z0) ?_
 rintro _ _ ⟨rfl, rfl⟩
 refine r_newP H 6 "[B" 12 d_j52_2_4 (tw19 hw) ?_
 intro h2 b2 kc2 g2 l2 K2 E2 A2
 change Ar Z h2 b2 kc2 .byte [.int 0, .int 0, .int 0, .int 0, .int 0, .int 0, .int 0, .int 0, .int 0, .int 0, .int 0, .int 0] at A2
 have k3 : Keep h0 h2 [] := Keep.trans (Keep.refl h0 []) K2 all0
 exact r_areturn H d_j52_2_6 (⟨b2, kc2, rfl, k3, (nlt nlr (Nat.le_of_eq g2.symm)), A2, E2⟩)
def Q_putChar_98 (Z : State) (a1 : Addr) (i1 : Int32) (i4 : Int32) (i5 : Int32) (i6 : Int32) (i7 : Int32) (i8 : Int32) (i9 : Int32) (i10 : Int32) (i11 : Int32) (i12 : Int32) (i13 : Int32) (c1 : ClassId) (h0 : Heap) (v : Option Value) (h : Heap) : Prop := v = none ∧ Keep h0 h [a1] ∧ Ar Z h a1 c1 .byte [.int (cL8 i1), .int (cH8 i1), .int i4, .int i5, .int i6, .int i7, .int i8, .int i9, .int i10, .int i11, .int i12, .int i13] ∧ Exa Z h a1 "[B"
def R_putChar_98 : Room := { frames := 0, cells := 0, slots := 0, locals := 0 }
theorem rm_putChar_98 {w : Bool} {Z : State} {a0 : Array Value} (hw : HW a0 Z) (Ts : List String) (a1 : Addr) (i1 : Int32) (i2 : Int32) (i3 : Int32) (i4 : Int32) (i5 : Int32) (i6 : Int32) (i7 : Int32) (i8 : Int32) (i9 : Int32) (i10 : Int32) (i11 : Int32) (i12 : Int32) (i13 : Int32) (c1 : ClassId) (h0 : Heap) (f : Nat) (Zf : Z.heap.size ≤ f) (Z0 : f ≤ h0.size) (A_a1 : Ar Z h0 a1 c1 .byte [.int i2, .int i3, .int i4, .int i5, .int i6, .int i7, .int i8, .int i9, .int i10, .int i11, .int i12, .int i13]) (g_a1 : f ≤ a1) (E_a1 : Exa Z h0 a1 "[B") (r_i1 : 0 ≤ i1.toInt ∧ i1.toInt ≤ 65535) (S__assertionsDisabled : G_S__assertionsDisabled Z) (S_HI_BYTE_SHIFT : G_S_HI_BYTE_SHIFT Z) (S_LO_BYTE_SHIFT : G_S_LO_BYTE_SHIFT Z) :
  Con w [] Z mn9 jdk_52_method_4_code 3 none R_putChar_98 Ts Ts f #[.ref a1, .int 0, .int i1] h0 (Q_putChar_98 Z a1 i1 i4 i5 i6 i7 i8 i9 i10 i11 i12 i13 c1 h0) := by
 refine con_of f #[vR a1, vI 0, vI i1] (plainFor_of_name pn_3) (fun m => rfl) Zf ?_
 intro C H hX0
 refine r_gets H 3 d_j52_4_0 (tw87 hw) S__assertionsDisabled ?_
 refine r_ifneT H 28 d_j52_4_3 (by decide) (by decide) (by decide) ?_
 refine r_iloadN H 29 d_j52_4_28 ?_
 refine r_iconst H 30 1 d_j52_4_29 ?_
 refine r_ishl H 31 0 d_j52_4_30 ?_
 refine r_istoreN H 32 #[vR a1, vI 0, vI i1] d_j52_4_31 ?_
 refine r_aloadN H 33 d_j52_4_32 ?_
 refine r_iloadN H 34 d_j52_4_33 ?_
 refine r_iinc H 37 #[vR a1, vI 1, vI i1] 1 d_j52_4_34 ?_
 refine r_iloadN H 38 d_j52_4_37 ?_
 refine r_gets H 41 d_j52_4_38 (tw88 hw) S_HI_BYTE_SHIFT ?_
 obtain ⟨p1, ep1, rp1⟩ : ∃ p : Int32, (i1 >>> ((0 : Int32) &&& 31)) = p ∧ 0 ≤ p.toInt ∧ p.toInt ≤ 65535 := ⟨_, rfl, (by have := r_i1; have h1 := c_ishr i1 (0 : Int32) 0 (by decide); omega)⟩
 refine r_ishr H 42 p1 d_j52_4_41 ep1 ?_
 obtain ⟨p2, ep2, rp2⟩ : ∃ p : Int32, (p1.toInt8.toInt32) = p ∧ -128 ≤ p.toInt ∧ p.toInt ≤ 127 := ⟨_, rfl, (by have h := c_i2b p1; omega)⟩
 refine r_i2b H 43 p2 d_j52_4_42 ep2 ?_
 refine r_bastore H 44 p2 d_j52_4_43 A_a1 g_a1 (nar_byte_id (by have := rp2; omega)) ?_
 intro h3 K3 A3
 change Ar Z h3 a1 c1 .byte [.int p2, .int i3, .int i4, .int i5, .int i6, .int i7, .int i8, .int i9, .int i10, .int i11, .int i12, .int i13] at A3
 refine r_aloadN H 45 d_j52_4_44 ?_
 refine r_iloadN H 46 d_j52_4_45 ?_
 refine r_iloadN H 47 d_j52_4_46 ?_
 refine r_gets H 50 d_j52_4_47 (tw89 hw) S_LO_BYTE_SHIFT ?_
 obtain ⟨p4, ep4, rp4⟩ : ∃ p : Int32, (i1 >>> ((8 : Int32) &&& 31)) = p ∧ 0 ≤ p.toInt ∧ p.toInt ≤ 255 := ⟨_, rfl, (by have := r_i1; have h1 := c_ishr i1 (8 : Int32) 8 (by decide); omega)⟩
 refine r_ishr H 51 p4 d_j52_4_50 ep4 ?_
 obtain ⟨p5, ep5, rp5⟩ : ∃ p : Int32, (p4.toInt8.toInt32) = p ∧ -128 ≤ p.toInt ∧ p.toInt ≤ 127 := ⟨_, rfl, (by have h := c_i2b p4; omega)⟩
 refine r_i2b H 52 p5 d_j52_4_51 ep5 ?_
 refine r_bastore H 53 p5 d_j52_4_52 A3 g_a1 (nar_byte_id (by have := rp5; omega)) ?_
 intro h6 K6 A6
 have q7 := (E_a1.keep K3)
 change Ar Z h6 a1 c1 .byte [.int p2, .int p5, .int i4, .int i5, .int i6, .int i7, .int i8, .int i9, .int i10, .int i11, .int i12, .int i13] at A6
 have k8 : Keep h0 h3 [a1] := Keep.trans (Keep.refl h0 [a1]) K3 (allS (Or.inl (List.mem_of_getElem? (i := 0) rfl)) all0)
 have k9 : Keep h0 h6 [a1] := Keep.trans k8 K6 (allS (Or.inl (List.mem_of_getElem? (i := 0) rfl)) all0)
 have q10 := (q7.keep K6)
 subst ep1 ep2 ep4 ep5
 exact r_return H d_j52_4_53 (⟨rfl, k9, A6, q10⟩)
def Q_putChar_99 (Z : State) (a1 : Addr) (i1 : Int32) (i2 : Int32) (i3 : Int32) (i6 : Int32) (i7 : Int32) (i8 : Int32) (i9 : Int32) (i10 : Int32) (i11 : Int32) (i12 : Int32) (i13 : Int32) (c1 : ClassId) (h0 : Heap) (v : Option Value) (h : Heap) : Prop := v = none ∧ Keep h0 h [a1] ∧ Ar Z h a1 c1 .byte [.int i2, .int i3, .int (cL8 i1), .int (cH8 i1), .int i6, .int i7, .int i8, .int i9, .int i10, .int i11, .int i12, .int i13] ∧ Exa Z h a1 "[B"
def R_putChar_99 : Room := { frames := 0, cells := 0, slots := 0, locals := 0 }
theorem rm_putChar_99 {w : Bool} {Z : State} {a0 : Array Value} (hw : HW a0 Z) (Ts : List String) (a1 : Addr) (i1 : Int32) (i2 : Int32) (i3 : Int32) (i4 : Int32) (i5 : Int32) (i6 : Int32) (i7 : Int32) (i8 : Int32) (i9 : Int32) (i10 : Int32) (i11 : Int32) (i12 : Int32) (i13 : Int32) (c1 : ClassId) (h0 : Heap) (f : Nat) (Zf : Z.heap.size ≤ f) (Z0 : f ≤ h0.size) (A_a1 : Ar Z h0 a1 c1 .byte [.int i2, .int i3, .int i4, .int i5, .int i6, .int i7, .int i8, .int i9, .int i10, .int i11, .int i12, .int i13]) (g_a1 : f ≤ a1) (E_a1 : Exa Z h0 a1 "[B") (r_i1 : 0 ≤ i1.toInt ∧ i1.toInt ≤ 65535) (S__assertionsDisabled : G_S__assertionsDisabled Z) (S_HI_BYTE_SHIFT : G_S_HI_BYTE_SHIFT Z) (S_LO_BYTE_SHIFT : G_S_LO_BYTE_SHIFT Z) :
  Con w [] Z mn9 jdk_52_method_4_code 3 none R_putChar_99 Ts Ts f #[.ref a1, .int 1, .int i1] h0 (Q_putChar_99 Z a1 i1 i2 i3 i6 i7 i8 i9 i10 i11 i12 i13 c1 h0) := by
 refine con_of f #[vR a1, vI 1, vI i1] (plainFor_of_name pn_3) (fun m => rfl) Zf ?_
 intro C H hX0
 refine r_gets H 3 d_j52_4_0 (tw87 hw) S__assertionsDisabled ?_
 refine r_ifneT H 28 d_j52_4_3 (by decide) (by decide) (by decide) ?_
 refine r_iloadN H 29 d_j52_4_28 ?_
 refine r_iconst H 30 1 d_j52_4_29 ?_
 refine r_ishl H 31 2 d_j52_4_30 ?_
 refine r_istoreN H 32 #[vR a1, vI 2, vI i1] d_j52_4_31 ?_
 refine r_aloadN H 33 d_j52_4_32 ?_
 refine r_iloadN H 34 d_j52_4_33 ?_
 refine r_iinc H 37 #[vR a1, vI 3, vI i1] 3 d_j52_4_34 ?_
 refine r_iloadN H 38 d_j52_4_37 ?_
 refine r_gets H 41 d_j52_4_38 (tw88 hw) S_HI_BYTE_SHIFT ?_
 obtain ⟨p1, ep1, rp1⟩ : ∃ p : Int32, (i1 >>> ((0 : Int32) &&& 31)) = p ∧ 0 ≤ p.toInt ∧ p.toInt ≤ 65535 := ⟨_, rfl, (by have := r_i1; have h1 := c_ishr i1 (0 : Int32) 0 (by decide); omega)⟩
 refine r_ishr H 42 p1 d_j52_4_41 ep1 ?_
 obtain ⟨p2, ep2, rp2⟩ : ∃ p : Int32, (p1.toInt8.toInt32) = p ∧ -128 ≤ p.toInt ∧ p.toInt ≤ 127 := ⟨_, rfl, (by have h := c_i2b p1; omega)⟩
 refine r_i2b H 43 p2 d_j52_4_42 ep2 ?_
 refine r_bastore H 44 p2 d_j52_4_43 A_a1 g_a1 (nar_byte_id (by have := rp2; omega)) ?_
 intro h3 K3 A3
 change Ar Z h3 a1 c1 .byte [.int i2, .int i3, .int p2, .int i5, .int i6, .int i7, .int i8, .int i9, .int i10, .int i11, .int i12, .int i13] at A3
 refine r_aloadN H 45 d_j52_4_44 ?_
 refine r_iloadN H 46 d_j52_4_45 ?_
 refine r_iloadN H 47 d_j52_4_46 ?_
 refine r_gets H 50 d_j52_4_47 (tw89 hw) S_LO_BYTE_SHIFT ?_
 obtain ⟨p4, ep4, rp4⟩ : ∃ p : Int32, (i1 >>> ((8 : Int32) &&& 31)) = p ∧ 0 ≤ p.toInt ∧ p.toInt ≤ 255 := ⟨_, rfl, (by have := r_i1; have h1 := c_ishr i1 (8 : Int32) 8 (by decide); omega)⟩
 refine r_ishr H 51 p4 d_j52_4_50 ep4 ?_
 obtain ⟨p5, ep5, rp5⟩ : ∃ p : Int32, (p4.toInt8.toInt32) = p ∧ -128 ≤ p.toInt ∧ p.toInt ≤ 127 := ⟨_, rfl, (by have h := c_i2b p4; omega)⟩
 refine r_i2b H 52 p5 d_j52_4_51 ep5 ?_
 refine r_bastore H 53 p5 d_j52_4_52 A3 g_a1 (nar_byte_id (by have := rp5; omega)) ?_
 intro h6 K6 A6
 have q7 := (E_a1.keep K3)
 change Ar Z h6 a1 c1 .byte [.int i2, .int i3, .int p2, .int p5, .int i6, .int i7, .int i8, .int i9, .int i10, .int i11, .int i12, .int i13] at A6
 have k8 : Keep h0 h3 [a1] := Keep.trans (Keep.refl h0 [a1]) K3 (allS (Or.inl (List.mem_of_getElem? (i := 0) rfl)) all0)
 have k9 : Keep h0 h6 [a1] := Keep.trans k8 K6 (allS (Or.inl (List.mem_of_getElem? (i := 0) rfl)) all0)
 have q10 := (q7.keep K6)
 subst ep1 ep2 ep4 ep5
 exact r_return H d_j52_4_53 (⟨rfl, k9, A6, q10⟩)
def Q_putChar_100 (Z : State) (a1 : Addr) (i1 : Int32) (i2 : Int32) (i3 : Int32) (i4 : Int32) (i5 : Int32) (i8 : Int32) (i9 : Int32) (i10 : Int32) (i11 : Int32) (i12 : Int32) (i13 : Int32) (c1 : ClassId) (h0 : Heap) (v : Option Value) (h : Heap) : Prop := v = none ∧ Keep h0 h [a1] ∧ Ar Z h a1 c1 .byte [.int i2, .int i3, .int i4, .int i5, .int (cL8 i1), .int (cH8 i1), .int i8, .int i9, .int i10, .int i11, .int i12, .int i13] ∧ Exa Z h a1 "[B"
def R_putChar_100 : Room := { frames := 0, cells := 0, slots := 0, locals := 0 }
theorem rm_putChar_100 {w : Bool} {Z : State} {a0 : Array Value} (hw : HW a0 Z) (Ts : List String) (a1 : Addr) (i1 : Int32) (i2 : Int32) (i3 : Int32) (i4 : Int32) (i5 : Int32) (i6 : Int32) (i7 : Int32) (i8 : Int32) (i9 : Int32) (i10 : Int32) (i11 : Int32) (i12 : Int32) (i13 : Int32) (c1 : ClassId) (h0 : Heap) (f : Nat) (Zf : Z.heap.size ≤ f) (Z0 : f ≤ h0.size) (A_a1 : Ar Z h0 a1 c1 .byte [.int i2, .int i3, .int i4, .int i5, .int i6, .int i7, .int i8, .int i9, .int i10, .int i11, .int i12, .int i13]) (g_a1 : f ≤ a1) (E_a1 : Exa Z h0 a1 "[B") (r_i1 : 0 ≤ i1.toInt ∧ i1.toInt ≤ 65535) (S__assertionsDisabled : G_S__assertionsDisabled Z) (S_HI_BYTE_SHIFT : G_S_HI_BYTE_SHIFT Z) (S_LO_BYTE_SHIFT : G_S_LO_BYTE_SHIFT Z) :
  Con w [] Z mn9 jdk_52_method_4_code 3 none R_putChar_100 Ts Ts f #[.ref a1, .int 2, .int i1] h0 (Q_putChar_100 Z a1 i1 i2 i3 i4 i5 i8 i9 i10 i11 i12 i13 c1 h0) := by
 refine con_of f #[vR a1, vI 2, vI i1] (plainFor_of_name pn_3) (fun m => rfl) Zf ?_
 intro C H hX0
 refine r_gets H 3 d_j52_4_0 (tw87 hw) S__assertionsDisabled ?_
 refine r_ifneT H 28 d_j52_4_3 (by decide) (by decide) (by decide) ?_
 refine r_iloadN H 29 d_j52_4_28 ?_
 refine r_iconst H 30 1 d_j52_4_29 ?_
 refine r_ishl H 31 4 d_j52_4_30 ?_
 refine r_istoreN H 32 #[vR a1, vI 4, vI i1] d_j52_4_31 ?_
 refine r_aloadN H 33 d_j52_4_32 ?_
 refine r_iloadN H 34 d_j52_4_33 ?_
 refine r_iinc H 37 #[vR a1, vI 5, vI i1] 5 d_j52_4_34 ?_
 refine r_iloadN H 38 d_j52_4_37 ?_
 refine r_gets H 41 d_j52_4_38 (tw88 hw) S_HI_BYTE_SHIFT ?_
 obtain ⟨p1, ep1, rp1⟩ : ∃ p : Int32, (i1 >>> ((0 : Int32) &&& 31)) = p ∧ 0 ≤ p.toInt ∧ p.toInt ≤ 65535 := ⟨_, rfl, (by have := r_i1; have h1 := c_ishr i1 (0 : Int32) 0 (by decide); omega)⟩
 refine r_ishr H 42 p1 d_j52_4_41 ep1 ?_
 obtain ⟨p2, ep2, rp2⟩ : ∃ p : Int32, (p1.toInt8.toInt32) = p ∧ -128 ≤ p.toInt ∧ p.toInt ≤ 127 := ⟨_, rfl, (by have h := c_i2b p1; omega)⟩
 refine r_i2b H 43 p2 d_j52_4_42 ep2 ?_
 refine r_bastore H 44 p2 d_j52_4_43 A_a1 g_a1 (nar_byte_id (by have := rp2; omega)) ?_
 intro h3 K3 A3
 change Ar Z h3 a1 c1 .byte [.int i2, .int i3, .int i4, .int i5, .int p2, .int i7, .int i8, .int i9, .int i10, .int i11, .int i12, .int i13] at A3
 refine r_aloadN H 45 d_j52_4_44 ?_
 refine r_iloadN H 46 d_j52_4_45 ?_
 refine r_iloadN H 47 d_j52_4_46 ?_
 refine r_gets H 50 d_j52_4_47 (tw89 hw) S_LO_BYTE_SHIFT ?_
 obtain ⟨p4, ep4, rp4⟩ : ∃ p : Int32, (i1 >>> ((8 : Int32) &&& 31)) = p ∧ 0 ≤ p.toInt ∧ p.toInt ≤ 255 := ⟨_, rfl, (by have := r_i1; have h1 := c_ishr i1 (8 : Int32) 8 (by decide); omega)⟩
 refine r_ishr H 51 p4 d_j52_4_50 ep4 ?_
 obtain ⟨p5, ep5, rp5⟩ : ∃ p : Int32, (p4.toInt8.toInt32) = p ∧ -128 ≤ p.toInt ∧ p.toInt ≤ 127 := ⟨_, rfl, (by have h := c_i2b p4; omega)⟩
 refine r_i2b H 52 p5 d_j52_4_51 ep5 ?_
 refine r_bastore H 53 p5 d_j52_4_52 A3 g_a1 (nar_byte_id (by have := rp5; omega)) ?_
 intro h6 K6 A6
 have q7 := (E_a1.keep K3)
 change Ar Z h6 a1 c1 .byte [.int i2, .int i3, .int i4, .int i5, .int p2, .int p5, .int i8, .int i9, .int i10, .int i11, .int i12, .int i13] at A6
 have k8 : Keep h0 h3 [a1] := Keep.trans (Keep.refl h0 [a1]) K3 (allS (Or.inl (List.mem_of_getElem? (i := 0) rfl)) all0)
 have k9 : Keep h0 h6 [a1] := Keep.trans k8 K6 (allS (Or.inl (List.mem_of_getElem? (i := 0) rfl)) all0)
 have q10 := (q7.keep K6)
 subst ep1 ep2 ep4 ep5
 exact r_return H d_j52_4_53 (⟨rfl, k9, A6, q10⟩)
def Q_putChar_101 (Z : State) (a1 : Addr) (i1 : Int32) (i2 : Int32) (i3 : Int32) (i4 : Int32) (i5 : Int32) (i6 : Int32) (i7 : Int32) (i10 : Int32) (i11 : Int32) (i12 : Int32) (i13 : Int32) (c1 : ClassId) (h0 : Heap) (v : Option Value) (h : Heap) : Prop := v = none ∧ Keep h0 h [a1] ∧ Ar Z h a1 c1 .byte [.int i2, .int i3, .int i4, .int i5, .int i6, .int i7, .int (cL8 i1), .int (cH8 i1), .int i10, .int i11, .int i12, .int i13] ∧ Exa Z h a1 "[B"
def R_putChar_101 : Room := { frames := 0, cells := 0, slots := 0, locals := 0 }
theorem rm_putChar_101 {w : Bool} {Z : State} {a0 : Array Value} (hw : HW a0 Z) (Ts : List String) (a1 : Addr) (i1 : Int32) (i2 : Int32) (i3 : Int32) (i4 : Int32) (i5 : Int32) (i6 : Int32) (i7 : Int32) (i8 : Int32) (i9 : Int32) (i10 : Int32) (i11 : Int32) (i12 : Int32) (i13 : Int32) (c1 : ClassId) (h0 : Heap) (f : Nat) (Zf : Z.heap.size ≤ f) (Z0 : f ≤ h0.size) (A_a1 : Ar Z h0 a1 c1 .byte [.int i2, .int i3, .int i4, .int i5, .int i6, .int i7, .int i8, .int i9, .int i10, .int i11, .int i12, .int i13]) (g_a1 : f ≤ a1) (E_a1 : Exa Z h0 a1 "[B") (r_i1 : 0 ≤ i1.toInt ∧ i1.toInt ≤ 65535) (S__assertionsDisabled : G_S__assertionsDisabled Z) (S_HI_BYTE_SHIFT : G_S_HI_BYTE_SHIFT Z) (S_LO_BYTE_SHIFT : G_S_LO_BYTE_SHIFT Z) :
  Con w [] Z mn9 jdk_52_method_4_code 3 none R_putChar_101 Ts Ts f #[.ref a1, .int 3, .int i1] h0 (Q_putChar_101 Z a1 i1 i2 i3 i4 i5 i6 i7 i10 i11 i12 i13 c1 h0) := by
 refine con_of f #[vR a1, vI 3, vI i1] (plainFor_of_name pn_3) (fun m => rfl) Zf ?_
 intro C H hX0
 refine r_gets H 3 d_j52_4_0 (tw87 hw) S__assertionsDisabled ?_
 refine r_ifneT H 28 d_j52_4_3 (by decide) (by decide) (by decide) ?_
 refine r_iloadN H 29 d_j52_4_28 ?_
 refine r_iconst H 30 1 d_j52_4_29 ?_
 refine r_ishl H 31 6 d_j52_4_30 ?_
 refine r_istoreN H 32 #[vR a1, vI 6, vI i1] d_j52_4_31 ?_
 refine r_aloadN H 33 d_j52_4_32 ?_
 refine r_iloadN H 34 d_j52_4_33 ?_
 refine r_iinc H 37 #[vR a1, vI 7, vI i1] 7 d_j52_4_34 ?_
 refine r_iloadN H 38 d_j52_4_37 ?_
 refine r_gets H 41 d_j52_4_38 (tw88 hw) S_HI_BYTE_SHIFT ?_
 obtain ⟨p1, ep1, rp1⟩ : ∃ p : Int32, (i1 >>> ((0 : Int32) &&& 31)) = p ∧ 0 ≤ p.toInt ∧ p.toInt ≤ 65535 := ⟨_, rfl, (by have := r_i1; have h1 := c_ishr i1 (0 : Int32) 0 (by decide); omega)⟩
 refine r_ishr H 42 p1 d_j52_4_41 ep1 ?_
 obtain ⟨p2, ep2, rp2⟩ : ∃ p : Int32, (p1.toInt8.toInt32) = p ∧ -128 ≤ p.toInt ∧ p.toInt ≤ 127 := ⟨_, rfl, (by have h := c_i2b p1; omega)⟩
 refine r_i2b H 43 p2 d_j52_4_42 ep2 ?_
 refine r_bastore H 44 p2 d_j52_4_43 A_a1 g_a1 (nar_byte_id (by have := rp2; omega)) ?_
 intro h3 K3 A3
 change Ar Z h3 a1 c1 .byte [.int i2, .int i3, .int i4, .int i5, .int i6, .int i7, .int p2, .int i9, .int i10, .int i11, .int i12, .int i13] at A3
 refine r_aloadN H 45 d_j52_4_44 ?_
 refine r_iloadN H 46 d_j52_4_45 ?_
 refine r_iloadN H 47 d_j52_4_46 ?_
 refine r_gets H 50 d_j52_4_47 (tw89 hw) S_LO_BYTE_SHIFT ?_
 obtain ⟨p4, ep4, rp4⟩ : ∃ p : Int32, (i1 >>> ((8 : Int32) &&& 31)) = p ∧ 0 ≤ p.toInt ∧ p.toInt ≤ 255 := ⟨_, rfl, (by have := r_i1; have h1 := c_ishr i1 (8 : Int32) 8 (by decide); omega)⟩
 refine r_ishr H 51 p4 d_j52_4_50 ep4 ?_
 obtain ⟨p5, ep5, rp5⟩ : ∃ p : Int32, (p4.toInt8.toInt32) = p ∧ -128 ≤ p.toInt ∧ p.toInt ≤ 127 := ⟨_, rfl, (by have h := c_i2b p4; omega)⟩
 refine r_i2b H 52 p5 d_j52_4_51 ep5 ?_
 refine r_bastore H 53 p5 d_j52_4_52 A3 g_a1 (nar_byte_id (by have := rp5; omega)) ?_
 intro h6 K6 A6
 have q7 := (E_a1.keep K3)
 change Ar Z h6 a1 c1 .byte [.int i2, .int i3, .int i4, .int i5, .int i6, .int i7, .int p2, .int p5, .int i10, .int i11, .int i12, .int i13] at A6
 have k8 : Keep h0 h3 [a1] := Keep.trans (Keep.refl h0 [a1]) K3 (allS (Or.inl (List.mem_of_getElem? (i := 0) rfl)) all0)
 have k9 : Keep h0 h6 [a1] := Keep.trans k8 K6 (allS (Or.inl (List.mem_of_getElem? (i := 0) rfl)) all0)
 have q10 := (q7.keep K6)
 subst ep1 ep2 ep4 ep5
 exact r_return H d_j52_4_53 (⟨rfl, k9, A6, q10⟩)
def Q_putChar_102 (Z : State) (a1 : Addr) (i1 : Int32) (i2 : Int32) (i3 : Int32) (i4 : Int32) (i5 : Int32) (i6 : Int32) (i7 : Int32) (i8 : Int32) (i9 : Int32) (i12 : Int32) (i13 : Int32) (c1 : ClassId) (h0 : Heap) (v : Option Value) (h : Heap) : Prop := v = none ∧ Keep h0 h [a1] ∧ Ar Z h a1 c1 .byte [.int i2, .int i3, .int i4, .int i5, .int i6, .int i7, .int i8, .int i9, .int (cL8 i1), .int (cH8 i1), .int i12, .int i13] ∧ Exa Z h a1 "[B"
def R_putChar_102 : Room := { frames := 0, cells := 0, slots := 0, locals := 0 }
theorem rm_putChar_102 {w : Bool} {Z : State} {a0 : Array Value} (hw : HW a0 Z) (Ts : List String) (a1 : Addr) (i1 : Int32) (i2 : Int32) (i3 : Int32) (i4 : Int32) (i5 : Int32) (i6 : Int32) (i7 : Int32) (i8 : Int32) (i9 : Int32) (i10 : Int32) (i11 : Int32) (i12 : Int32) (i13 : Int32) (c1 : ClassId) (h0 : Heap) (f : Nat) (Zf : Z.heap.size ≤ f) (Z0 : f ≤ h0.size) (A_a1 : Ar Z h0 a1 c1 .byte [.int i2, .int i3, .int i4, .int i5, .int i6, .int i7, .int i8, .int i9, .int i10, .int i11, .int i12, .int i13]) (g_a1 : f ≤ a1) (E_a1 : Exa Z h0 a1 "[B") (r_i1 : 0 ≤ i1.toInt ∧ i1.toInt ≤ 65535) (S__assertionsDisabled : G_S__assertionsDisabled Z) (S_HI_BYTE_SHIFT : G_S_HI_BYTE_SHIFT Z) (S_LO_BYTE_SHIFT : G_S_LO_BYTE_SHIFT Z) :
  Con w [] Z mn9 jdk_52_method_4_code 3 none R_putChar_102 Ts Ts f #[.ref a1, .int 4, .int i1] h0 (Q_putChar_102 Z a1 i1 i2 i3 i4 i5 i6 i7 i8 i9 i12 i13 c1 h0) := by
 refine con_of f #[vR a1, vI 4, vI i1] (plainFor_of_name pn_3) (fun m => rfl) Zf ?_
 intro C H hX0
 refine r_gets H 3 d_j52_4_0 (tw87 hw) S__assertionsDisabled ?_
 refine r_ifneT H 28 d_j52_4_3 (by decide) (by decide) (by decide) ?_
 refine r_iloadN H 29 d_j52_4_28 ?_
 refine r_iconst H 30 1 d_j52_4_29 ?_
 refine r_ishl H 31 8 d_j52_4_30 ?_
 refine r_istoreN H 32 #[vR a1, vI 8, vI i1] d_j52_4_31 ?_
 refine r_aloadN H 33 d_j52_4_32 ?_
 refine r_iloadN H 34 d_j52_4_33 ?_
 refine r_iinc H 37 #[vR a1, vI 9, vI i1] 9 d_j52_4_34 ?_
 refine r_iloadN H 38 d_j52_4_37 ?_
 refine r_gets H 41 d_j52_4_38 (tw88 hw) S_HI_BYTE_SHIFT ?_
 obtain ⟨p1, ep1, rp1⟩ : ∃ p : Int32, (i1 >>> ((0 : Int32) &&& 31)) = p ∧ 0 ≤ p.toInt ∧ p.toInt ≤ 65535 := ⟨_, rfl, (by have := r_i1; have h1 := c_ishr i1 (0 : Int32) 0 (by decide); omega)⟩
 refine r_ishr H 42 p1 d_j52_4_41 ep1 ?_
 obtain ⟨p2, ep2, rp2⟩ : ∃ p : Int32, (p1.toInt8.toInt32) = p ∧ -128 ≤ p.toInt ∧ p.toInt ≤ 127 := ⟨_, rfl, (by have h := c_i2b p1; omega)⟩
 refine r_i2b H 43 p2 d_j52_4_42 ep2 ?_
 refine r_bastore H 44 p2 d_j52_4_43 A_a1 g_a1 (nar_byte_id (by have := rp2; omega)) ?_
 intro h3 K3 A3
 change Ar Z h3 a1 c1 .byte [.int i2, .int i3, .int i4, .int i5, .int i6, .int i7, .int i8, .int i9, .int p2, .int i11, .int i12, .int i13] at A3
 refine r_aloadN H 45 d_j52_4_44 ?_
 refine r_iloadN H 46 d_j52_4_45 ?_
 refine r_iloadN H 47 d_j52_4_46 ?_
 refine r_gets H 50 d_j52_4_47 (tw89 hw) S_LO_BYTE_SHIFT ?_
 obtain ⟨p4, ep4, rp4⟩ : ∃ p : Int32, (i1 >>> ((8 : Int32) &&& 31)) = p ∧ 0 ≤ p.toInt ∧ p.toInt ≤ 255 := ⟨_, rfl, (by have := r_i1; have h1 := c_ishr i1 (8 : Int32) 8 (by decide); omega)⟩
 refine r_ishr H 51 p4 d_j52_4_50 ep4 ?_
 obtain ⟨p5, ep5, rp5⟩ : ∃ p : Int32, (p4.toInt8.toInt32) = p ∧ -128 ≤ p.toInt ∧ p.toInt ≤ 127 := ⟨_, rfl, (by have h := c_i2b p4; omega)⟩
 refine r_i2b H 52 p5 d_j52_4_51 ep5 ?_
 refine r_bastore H 53 p5 d_j52_4_52 A3 g_a1 (nar_byte_id (by have := rp5; omega)) ?_
 intro h6 K6 A6
 have q7 := (E_a1.keep K3)
 change Ar Z h6 a1 c1 .byte [.int i2, .int i3, .int i4, .int i5, .int i6, .int i7, .int i8, .int i9, .int p2, .int p5, .int i12, .int i13] at A6
 have k8 : Keep h0 h3 [a1] := Keep.trans (Keep.refl h0 [a1]) K3 (allS (Or.inl (List.mem_of_getElem? (i := 0) rfl)) all0)
 have k9 : Keep h0 h6 [a1] := Keep.trans k8 K6 (allS (Or.inl (List.mem_of_getElem? (i := 0) rfl)) all0)
 have q10 := (q7.keep K6)
 subst ep1 ep2 ep4 ep5
 exact r_return H d_j52_4_53 (⟨rfl, k9, A6, q10⟩)
def Q_putChar_103 (Z : State) (a1 : Addr) (i1 : Int32) (i2 : Int32) (i3 : Int32) (i4 : Int32) (i5 : Int32) (i6 : Int32) (i7 : Int32) (i8 : Int32) (i9 : Int32) (i10 : Int32) (i11 : Int32) (c1 : ClassId) (h0 : Heap) (v : Option Value) (h : Heap) : Prop := v = none ∧ Keep h0 h [a1] ∧ Ar Z h a1 c1 .byte [.int i2, .int i3, .int i4, .int i5, .int i6, .int i7, .int i8, .int i9, .int i10, .int i11, .int (cL8 i1), .int (cH8 i1)] ∧ Exa Z h a1 "[B"
def R_putChar_103 : Room := { frames := 0, cells := 0, slots := 0, locals := 0 }
theorem rm_putChar_103 {w : Bool} {Z : State} {a0 : Array Value} (hw : HW a0 Z) (Ts : List String) (a1 : Addr) (i1 : Int32) (i2 : Int32) (i3 : Int32) (i4 : Int32) (i5 : Int32) (i6 : Int32) (i7 : Int32) (i8 : Int32) (i9 : Int32) (i10 : Int32) (i11 : Int32) (i12 : Int32) (i13 : Int32) (c1 : ClassId) (h0 : Heap) (f : Nat) (Zf : Z.heap.size ≤ f) (Z0 : f ≤ h0.size) (A_a1 : Ar Z h0 a1 c1 .byte [.int i2, .int i3, .int i4, .int i5, .int i6, .int i7, .int i8, .int i9, .int i10, .int i11, .int i12, .int i13]) (g_a1 : f ≤ a1) (E_a1 : Exa Z h0 a1 "[B") (r_i1 : 0 ≤ i1.toInt ∧ i1.toInt ≤ 65535) (S__assertionsDisabled : G_S__assertionsDisabled Z) (S_HI_BYTE_SHIFT : G_S_HI_BYTE_SHIFT Z) (S_LO_BYTE_SHIFT : G_S_LO_BYTE_SHIFT Z) :
  Con w [] Z mn9 jdk_52_method_4_code 3 none R_putChar_103 Ts Ts f #[.ref a1, .int 5, .int i1] h0 (Q_putChar_103 Z a1 i1 i2 i3 i4 i5 i6 i7 i8 i9 i10 i11 c1 h0) := by
 refine con_of f #[vR a1, vI 5, vI i1] (plainFor_of_name pn_3) (fun m => rfl) Zf ?_
 intro C H hX0
 refine r_gets H 3 d_j52_4_0 (tw87 hw) S__assertionsDisabled ?_
 refine r_ifneT H 28 d_j52_4_3 (by decide) (by decide) (by decide) ?_
 refine r_iloadN H 29 d_j52_4_28 ?_
 refine r_iconst H 30 1 d_j52_4_29 ?_
 refine r_ishl H 31 10 d_j52_4_30 ?_
 refine r_istoreN H 32 #[vR a1, vI 10, vI i1] d_j52_4_31 ?_
 refine r_aloadN H 33 d_j52_4_32 ?_
 refine r_iloadN H 34 d_j52_4_33 ?_
 refine r_iinc H 37 #[vR a1, vI 11, vI i1] 11 d_j52_4_34 ?_
 refine r_iloadN H 38 d_j52_4_37 ?_
 refine r_gets H 41 d_j52_4_38 (tw88 hw) S_HI_BYTE_SHIFT ?_
 obtain ⟨p1, ep1, rp1⟩ : ∃ p : Int32, (i1 >>> ((0 : Int32) &&& 31)) = p ∧ 0 ≤ p.toInt ∧ p.toInt ≤ 65535 := ⟨_, rfl, (by have := r_i1; have h1 := c_ishr i1 (0 : Int32) 0 (by decide); omega)⟩
 refine r_ishr H 42 p1 d_j52_4_41 ep1 ?_
 obtain ⟨p2, ep2, rp2⟩ : ∃ p : Int32, (p1.toInt8.toInt32) = p ∧ -128 ≤ p.toInt ∧ p.toInt ≤ 127 := ⟨_, rfl, (by have h := c_i2b p1; omega)⟩
 refine r_i2b H 43 p2 d_j52_4_42 ep2 ?_
 refine r_bastore H 44 p2 d_j52_4_43 A_a1 g_a1 (nar_byte_id (by have := rp2; omega)) ?_
 intro h3 K3 A3
 change Ar Z h3 a1 c1 .byte [.int i2, .int i3, .int i4, .int i5, .int i6, .int i7, .int i8, .int i9, .int i10, .int i11, .int p2, .int i13] at A3
 refine r_aloadN H 45 d_j52_4_44 ?_
 refine r_iloadN H 46 d_j52_4_45 ?_
 refine r_iloadN H 47 d_j52_4_46 ?_
 refine r_gets H 50 d_j52_4_47 (tw89 hw) S_LO_BYTE_SHIFT ?_
 obtain ⟨p4, ep4, rp4⟩ : ∃ p : Int32, (i1 >>> ((8 : Int32) &&& 31)) = p ∧ 0 ≤ p.toInt ∧ p.toInt ≤ 255 := ⟨_, rfl, (by have := r_i1; have h1 := c_ishr i1 (8 : Int32) 8 (by decide); omega)⟩
 refine r_ishr H 51 p4 d_j52_4_50 ep4 ?_
 obtain ⟨p5, ep5, rp5⟩ : ∃ p : Int32, (p4.toInt8.toInt32) = p ∧ -128 ≤ p.toInt ∧ p.toInt ≤ 127 := ⟨_, rfl, (by have h := c_i2b p4; omega)⟩
 refine r_i2b H 52 p5 d_j52_4_51 ep5 ?_
 refine r_bastore H 53 p5 d_j52_4_52 A3 g_a1 (nar_byte_id (by have := rp5; omega)) ?_
 intro h6 K6 A6
 have q7 := (E_a1.keep K3)
 change Ar Z h6 a1 c1 .byte [.int i2, .int i3, .int i4, .int i5, .int i6, .int i7, .int i8, .int i9, .int i10, .int i11, .int p2, .int p5] at A6
 have k8 : Keep h0 h3 [a1] := Keep.trans (Keep.refl h0 [a1]) K3 (allS (Or.inl (List.mem_of_getElem? (i := 0) rfl)) all0)
 have k9 : Keep h0 h6 [a1] := Keep.trans k8 K6 (allS (Or.inl (List.mem_of_getElem? (i := 0) rfl)) all0)
 have q10 := (q7.keep K6)
 subst ep1 ep2 ep4 ep5
 exact r_return H d_j52_4_53 (⟨rfl, k9, A6, q10⟩)
def Q_toBytes_95 (Z : State) (i1 : Int32) (i2 : Int32) (i3 : Int32) (i4 : Int32) (i5 : Int32) (i6 : Int32) (h0 : Heap) (v : Option Value) (h : Heap) : Prop := ∃ (b1 : Addr) (kc2 : ClassId), v = some (.ref b1) ∧ Keep h0 h [] ∧ h0.size ≤ b1 ∧ Ar Z h b1 kc2 .byte [.int (cL8 i1), .int (cH8 i1), .int (cL8 i2), .int (cH8 i2), .int (cL8 i3), .int (cH8 i3), .int (cL8 i4), .int (cH8 i4), .int (cL8 i5), .int (cH8 i5), .int (cL8 i6), .int (cH8 i6)] ∧ Exa Z h b1 "[B"
def R_toBytes_95 : Room := { frames := 2, cells := 1, slots := 12, locals := 24 }
theorem rm_toBytes_95 {w : Bool} {Z : State} {a0 : Array Value} (hw : HW a0 Z) (Ts : List String) (a1 : Addr) (i1 : Int32) (i2 : Int32) (i3 : Int32) (i4 : Int32) (i5 : Int32) (i6 : Int32) (c1 : ClassId) (h0 : Heap) (f : Nat) (Zf : Z.heap.size ≤ f) (Z0 : f ≤ h0.size) (A_a1 : Ar Z h0 a1 c1 .char [.int i1, .int i2, .int i3, .int i4, .int i5, .int i6]) (r_i1 : 0 ≤ i1.toInt ∧ i1.toInt ≤ 65535) (r_i2 : 0 ≤ i2.toInt ∧ i2.toInt ≤ 65535) (r_i3 : 0 ≤ i3.toInt ∧ i3.toInt ≤ 65535) (r_i4 : 0 ≤ i4.toInt ∧ i4.toInt ≤ 65535) (r_i5 : 0 ≤ i5.toInt ∧ i5.toInt ≤ 65535) (r_i6 : 0 ≤ i6.toInt ∧ i6.toInt ≤ 65535) (S__assertionsDisabled : G_S__assertionsDisabled Z) (S_HI_BYTE_SHIFT : G_S_HI_BYTE_SHIFT Z) (S_LO_BYTE_SHIFT : G_S_LO_BYTE_SHIFT Z) :
  Con w [] Z mn10 jdk_52_method_14_code 5 (some (.array .byte)) R_toBytes_95 Ts Ts f #[.ref a1, .int 0, .int 6] h0 (Q_toBytes_95 Z i1 i2 i3 i4 i5 i6 h0) := by
 refine con_of f #[vR a1, vI 0, vI 6, .unset, .unset] (plainFor_of_name pn_3) (fun m => rfl) Zf ?_
 intro C H hX0
 refine r_iloadN H 1 d_j52_14_0 ?_
 refine r_static (argsL := [.int 6]) (rest := []) (W := 0) H 4 d_j52_14_1 (tw77 hw) (tw78 hw) (tw43 hw) (tw79 hw) (lenOf pd_8 rfl) (rm_newBytesFor_96 hw Ts h0 f Zf Z0) ?_
 rintro _ hh7 ⟨b1, kc2, rfl, K3, g4, q5, q6⟩
 refine r_astoreN H 5 #[vR a1, vI 0, vI 6, vR b1, .unset] d_j52_14_4 ?_
 refine r_iconst H 6 0 d_j52_14_5 ?_
 refine r_istore H 8 #[vR a1, vI 0, vI 6, vR b1, vI 0] d_j52_14_6 ?_
 refine r_iload H 10 d_j52_14_8 ?_
 refine r_iloadN H 11 d_j52_14_10 ?_
 refine r_icmpgeF H 14 d_j52_14_11 ?_
 refine r_aloadN H 15 d_j52_14_14 ?_
 refine r_iload H 17 d_j52_14_15 ?_
 refine r_aloadN H 18 d_j52_14_17 ?_
 refine r_iloadN H 19 d_j52_14_18 ?_
 have q8 := (A_a1.keep K3 nin0)
 refine r_caload H 20 i1 d_j52_14_19 q8 ?_
 refine r_static (argsL := [.ref b1, .int 0, .int i1]) (rest := []) (W := 0) H 23 d_j52_14_20 (tw84 hw) (tw85 hw) (tw43 hw) (tw86 hw) (lenOf pd_9 rfl) (rm_putChar_98 hw Ts b1 i1 (0 : Int32) (0 : Int32) (0 : Int32) (0 : Int32) (0 : Int32) (0 : Int32) (0 : Int32) (0 : Int32) (0 : Int32) (0 : Int32) (0 : Int32) (0 : Int32) kc2 hh7 f Zf (nlt Z0 K3.1) q5 (nlt Z0 g4) q6 (by have := r_i1; omega) S__assertionsDisabled S_HI_BYTE_SHIFT S_LO_BYTE_SHIFT) ?_
 rintro _ hh12 ⟨rfl, K9, q10, q11⟩
 refine r_iinc H 26 #[vR a1, vI 1, vI 6, vR b1, vI 0] 1 d_j52_14_23 ?_
 refine r_iinc H 29 #[vR a1, vI 1, vI 6, vR b1, vI 1] 1 d_j52_14_26 ?_
 refine r_goto H 8 d_j52_14_29 ?_
 refine r_iload H 10 d_j52_14_8 ?_
 refine r_iloadN H 11 d_j52_14_10 ?_
 refine r_icmpgeF H 14 d_j52_14_11 ?_
 refine r_aloadN H 15 d_j52_14_14 ?_
 refine r_iload H 17 d_j52_14_15 ?_
 refine r_aloadN H 18 d_j52_14_17 ?_
 refine r_iloadN H 19 d_j52_14_18 ?_
 have q13 := (q8.keep K9 (ninS (Nat.ne_of_lt (Nat.lt_of_lt_of_le A_a1.lt (nlt nlr g4))) nin0))
 refine r_caload H 20 i2 d_j52_14_19 q13 ?_
 have z14 := Nat.le_trans K3.1 K9.1
 refine r_static (argsL := [.ref b1, .int 1, .int i2]) (rest := []) (W := 0) H 23 d_j52_14_20 (tw84 hw) (tw85 hw) (tw43 hw) (tw86 hw) (lenOf pd_9 rfl) (rm_putChar_99 hw Ts b1 i2 (cL8 i1) (cH8 i1) (0 : Int32) (0 : Int32) (0 : Int32) (0 : Int32) (0 : Int32) (0 : Int32) (0 : Int32) (0 : Int32) (0 : Int32) (0 : Int32) kc2 hh12 f Zf (nlt Z0 z14) q10 (nlt Z0 g4) q11 (by have := r_i2; omega) S__assertionsDisabled S_HI_BYTE_SHIFT S_LO_BYTE_SHIFT) ?_
 rintro _ hh18 ⟨rfl, K15, q16, q17⟩
 refine r_iinc H 26 #[vR a1, vI 2, vI 6, vR b1, vI 1] 2 d_j52_14_23 ?_
 refine r_iinc H 29 #[vR a1, vI 2, vI 6, vR b1, vI 2] 2 d_j52_14_26 ?_
 refine r_goto H 8 d_j52_14_29 ?_
 refine r_iload H 10 d_j52_14_8 ?_
 refine r_iloadN H 11 d_j52_14_10 ?_
 refine r_icmpgeF H 14 d_j52_14_11 ?_
 refine r_aloadN H 15 d_j52_14_14 ?_
 refine r_iload H 17 d_j52_14_15 ?_
 refine r_aloadN H 18 d_j52_14_17 ?_
 refine r_iloadN H 19 d_j52_14_18 ?_
 have q19 := (q13.keep K15 (ninS (Nat.ne_of_lt (Nat.lt_of_lt_of_le A_a1.lt (nlt nlr g4))) nin0))
 refine r_caload H 20 i3 d_j52_14_19 q19 ?_
 have z20 := Nat.le_trans z14 K15.1
 refine r_static (argsL := [.ref b1, .int 2, .int i3]) (rest := []) (W := 0) H 23 d_j52_14_20 (tw84 hw) (tw85 hw) (tw43 hw) (tw86 hw) (lenOf pd_9 rfl) (rm_putChar_100 hw Ts b1 i3 (cL8 i1) (cH8 i1) (cL8 i2) (cH8 i2) (0 : Int32) (0 : Int32) (0 : Int32) (0 : Int32) (0 : Int32) (0 : Int32) (0 : Int32) (0 : Int32) kc2 hh18 f Zf (nlt Z0 z20) q16 (nlt Z0 g4) q17 (by have := r_i3; omega) S__assertionsDisabled S_HI_BYTE_SHIFT S_LO_BYTE_SHIFT) ?_
 rintro _ hh24 ⟨rfl, K21, q22, q23⟩
 refine r_iinc H 26 #[vR a1, vI 3, vI 6, vR b1, vI 2] 3 d_j52_14_23 ?_
 refine r_iinc H 29 #[vR a1, vI 3, vI 6, vR b1, vI 3] 3 d_j52_14_26 ?_
 refine r_goto H 8 d_j52_14_29 ?_
 refine r_iload H 10 d_j52_14_8 ?_
 refine r_iloadN H 11 d_j52_14_10 ?_
 refine r_icmpgeF H 14 d_j52_14_11 ?_
 refine r_aloadN H 15 d_j52_14_14 ?_
 refine r_iload H 17 d_j52_14_15 ?_
 refine r_aloadN H 18 d_j52_14_17 ?_
 refine r_iloadN H 19 d_j52_14_18 ?_
 have q25 := (q19.keep K21 (ninS (Nat.ne_of_lt (Nat.lt_of_lt_of_le A_a1.lt (nlt nlr g4))) nin0))
 refine r_caload H 20 i4 d_j52_14_19 q25 ?_
 have z26 := Nat.le_trans z20 K21.1
 refine r_static (argsL := [.ref b1, .int 3, .int i4]) (rest := []) (W := 0) H 23 d_j52_14_20 (tw84 hw) (tw85 hw) (tw43 hw) (tw86 hw) (lenOf pd_9 rfl) (rm_putChar_101 hw Ts b1 i4 (cL8 i1) (cH8 i1) (cL8 i2) (cH8 i2) (cL8 i3) (cH8 i3) (0 : Int32) (0 : Int32) (0 : Int32) (0 : Int32) (0 : Int32) (0 : Int32) kc2 hh24 f Zf (nlt Z0 z26) q22 (nlt Z0 g4) q23 (by have := r_i4; omega) S__assertionsDisabled S_HI_BYTE_SHIFT S_LO_BYTE_SHIFT) ?_
 rintro _ hh30 ⟨rfl, K27, q28, q29⟩
 refine r_iinc H 26 #[vR a1, vI 4, vI 6, vR b1, vI 3] 4 d_j52_14_23 ?_
 refine r_iinc H 29 #[vR a1, vI 4, vI 6, vR b1, vI 4] 4 d_j52_14_26 ?_
 refine r_goto H 8 d_j52_14_29 ?_
 refine r_iload H 10 d_j52_14_8 ?_
 refine r_iloadN H 11 d_j52_14_10 ?_
 refine r_icmpgeF H 14 d_j52_14_11 ?_
 refine r_aloadN H 15 d_j52_14_14 ?_
 refine r_iload H 17 d_j52_14_15 ?_
 refine r_aloadN H 18 d_j52_14_17 ?_
 refine r_iloadN H 19 d_j52_14_18 ?_
 have q31 := (q25.keep K27 (ninS (Nat.ne_of_lt (Nat.lt_of_lt_of_le A_a1.lt (nlt nlr g4))) nin0))
 refine r_caload H 20 i5 d_j52_14_19 q31 ?_
 have z32 := Nat.le_trans z26 K27.1
 refine r_static (argsL := [.ref b1, .int 4, .int i5]) (rest := []) (W := 0) H 23 d_j52_14_20 (tw84 hw) (tw85 hw) (tw43 hw) (tw86 hw) (lenOf pd_9 rfl) (rm_putChar_102 hw Ts b1 i5 (cL8 i1) (cH8 i1) (cL8 i2) (cH8 i2) (cL8 i3) (cH8 i3) (cL8 i4) (cH8 i4) (0 : Int32) (0 : Int32) (0 : Int32) (0 : Int32) kc2 hh30 f Zf (nlt Z0 z32) q28 (nlt Z0 g4) q29 (by have := r_i5; omega) S__assertionsDisabled S_HI_BYTE_SHIFT S_LO_BYTE_SHIFT) ?_
 rintro _ hh36 ⟨rfl, K33, q34, q35⟩
 refine r_iinc H 26 #[vR a1, vI 5, vI 6, vR b1, vI 4] 5 d_j52_14_23 ?_
 refine r_iinc H 29 #[vR a1, vI 5, vI 6, vR b1, vI 5] 5 d_j52_14_26 ?_
 refine r_goto H 8 d_j52_14_29 ?_
 refine r_iload H 10 d_j52_14_8 ?_
 refine r_iloadN H 11 d_j52_14_10 ?_
 refine r_icmpgeF H 14 d_j52_14_11 ?_
 refine r_aloadN H 15 d_j52_14_14 ?_
 refine r_iload H 17 d_j52_14_15 ?_
 refine r_aloadN H 18 d_j52_14_17 ?_
 refine r_iloadN H 19 d_j52_14_18 ?_
 have q37 := (q31.keep K33 (ninS (Nat.ne_of_lt (Nat.lt_of_lt_of_le A_a1.lt (nlt nlr g4))) nin0))
 refine r_caload H 20 i6 d_j52_14_19 q37 ?_
 have z38 := Nat.le_trans z32 K33.1
 refine r_static (argsL := [.ref b1, .int 5, .int i6]) (rest := []) (W := 0) H 23 d_j52_14_20 (tw84 hw) (tw85 hw) (tw43 hw) (tw86 hw) (lenOf pd_9 rfl) (rm_putChar_103 hw Ts b1 i6 (cL8 i1) (cH8 i1) (cL8 i2) (cH8 i2) (cL8 i3) (cH8 i3) (cL8 i4) (cH8 i4) (cL8 i5) (cH8 i5) (0 : Int32) (0 : Int32) kc2 hh36 f Zf (nlt Z0 z38) q34 (nlt Z0 g4) q35 (by have := r_i6; omega) S__assertionsDisabled S_HI_BYTE_SHIFT S_LO_BYTE_SHIFT) ?_
 rintro _ hh42 ⟨rfl, K39, q40, q41⟩
 refine r_iinc H 26 #[vR a1, vI 6, vI 6, vR b1, vI 5] 6 d_j52_14_23 ?_
 refine r_iinc H 29 #[vR a1, vI 6, vI 6, vR b1, vI 6] 6 d_j52_14_26 ?_
 refine r_goto H 8 d_j52_14_29 ?_
 refine r_iload H 10 d_j52_14_8 ?_
 refine r_iloadN H 11 d_j52_14_10 ?_
 refine r_icmpgeT H 32 d_j52_14_11 ?_
 refine r_aloadN H 33 d_j52_14_32 ?_
 have k43 : Keep h0 hh7 [] := Keep.trans (Keep.refl h0 []) K3 all0
 have k44 : Keep h0 hh12 [] := Keep.trans k43 K9 (allS (Or.inr (nlt nlr g4)) all0)
 have k45 : Keep h0 hh18 [] := Keep.trans k44 K15 (allS (Or.inr (nlt nlr g4)) all0)
 have k46 : Keep h0 hh24 [] := Keep.trans k45 K21 (allS (Or.inr (nlt nlr g4)) all0)
 have k47 : Keep h0 hh30 [] := Keep.trans k46 K27 (allS (Or.inr (nlt nlr g4)) all0)
 have k48 : Keep h0 hh36 [] := Keep.trans k47 K33 (allS (Or.inr (nlt nlr g4)) all0)
 have k49 : Keep h0 hh42 [] := Keep.trans k48 K39 (allS (Or.inr (nlt nlr g4)) all0)
 exact r_areturn H d_j52_14_33 (⟨b1, kc2, rfl, k49, (nlt nlr g4), q40, q41⟩)
def Q_compress_93 (Z : State) (i1 : Int32) (i2 : Int32) (i3 : Int32) (i4 : Int32) (i5 : Int32) (i6 : Int32) (h0 : Heap) (v : Option Value) (h : Heap) : Prop := (∃ (b1 : Addr) (kc1 : ClassId), v = some (.ref b1) ∧ (¬ (255 : Int32) < i1) ∧ (¬ (255 : Int32) < i2) ∧ (¬ (255 : Int32) < i3) ∧ (¬ (255 : Int32) < i4) ∧ (¬ (255 : Int32) < i5) ∧ (¬ (255 : Int32) < i6) ∧ Keep h0 h [] ∧ h0.size ≤ b1 ∧ Ar Z h b1 kc1 .byte [.int (cB8 i1), .int (cB8 i2), .int (cB8 i3), .int (cB8 i4), .int (cB8 i5), .int (cB8 i6)] ∧ Exa Z h b1 "[B") ∨ (∃ (b67 : Addr) (kc68 : ClassId), v = some (.ref b67) ∧ Keep h0 h [] ∧ h0.size ≤ b67 ∧ Ar Z h b67 kc68 .byte [.int (cL8 i1), .int (cH8 i1), .int (cL8 i2), .int (cH8 i2), .int (cL8 i3), .int (cH8 i3), .int (cL8 i4), .int (cH8 i4), .int (cL8 i5), .int (cH8 i5), .int (cL8 i6), .int (cH8 i6)] ∧ Exa Z h b67 "[B")
def R_compress_93 : Room := { frames := 3, cells := 2, slots := 18, locals := 40 }
theorem rm_compress_93 {w : Bool} {Z : State} {a0 : Array Value} (hw : HW a0 Z) (Ts : List String) (a1 : Addr) (i1 : Int32) (i2 : Int32) (i3 : Int32) (i4 : Int32) (i5 : Int32) (i6 : Int32) (c1 : ClassId) (h0 : Heap) (f : Nat) (Zf : Z.heap.size ≤ f) (Z0 : f ≤ h0.size) (A_a1 : Ar Z h0 a1 c1 .char [.int i1, .int i2, .int i3, .int i4, .int i5, .int i6]) (E_a1 : Exa Z h0 a1 "[C") (r_i1 : 0 ≤ i1.toInt ∧ i1.toInt ≤ 65535) (r_i2 : 0 ≤ i2.toInt ∧ i2.toInt ≤ 65535) (r_i3 : 0 ≤ i3.toInt ∧ i3.toInt ≤ 65535) (r_i4 : 0 ≤ i4.toInt ∧ i4.toInt ≤ 65535) (r_i5 : 0 ≤ i5.toInt ∧ i5.toInt ≤ 65535) (r_i6 : 0 ≤ i6.toInt ∧ i6.toInt ≤ 65535) (S__assertionsDisabled : G_S__assertionsDisabled Z) (S_HI_BYTE_SHIFT : G_S_HI_BYTE_SHIFT Z) (S_LO_BYTE_SHIFT : G_S_LO_BYTE_SHIFT Z) :
  Con w [] Z mn12 jdk_52_method_16_code 6 (some (.array .byte)) R_compress_93 Ts Ts f #[.ref a1, .int 0, .int 6] h0 (Q_compress_93 Z i1 i2 i3 i4 i5 i6 h0) := by
 refine con_of f #[vR a1, vI 0, vI 6, .unset, .unset, .unset] (plainFor_of_name pn_3) (fun m => rfl) Zf ?_
 intro C H hX0
 refine r_iloadN H 1 d_j52_16_0 ?_
 refine r_newP H 3 "[B" 6 d_j52_16_1 (tw19 hw) ?_
 intro h1 b1 kc1 g1 l1 K1 E1 A1
 change Ar Z h1 b1 kc1 .byte [.int 0, .int 0, .int 0, .int 0, .int 0, .int 0] at A1
 refine r_astoreN H 4 #[vR a1, vI 0, vI 6, vR b1, .unset, .unset] d_j52_16_3 ?_
 refine r_aloadN H 5 d_j52_16_4 ?_
 refine r_iloadN H 6 d_j52_16_5 ?_
 refine r_aloadN H 7 d_j52_16_6 ?_
 refine r_iconst H 8 0 d_j52_16_7 ?_
 refine r_iloadN H 9 d_j52_16_8 ?_
 have q2 := (A_a1.keep K1 nin0)
 have q3 := (E_a1.keep K1)
 refine r_static (argsL := [.ref a1, .int 0, .ref b1, .int 0, .int 6]) (rest := []) (W := 0) H 12 d_j52_16_9 (tw45 hw) (tw46 hw) (tw43 hw) (tw47 hw) (lenOf pd_6 rfl) (rm_compress_94 hw Ts a1 b1 i1 i2 i3 i4 i5 i6 c1 kc1 h1 f Zf (nlt Z0 K1.1) q2 A1 (nlt Z0 (Nat.le_of_eq g1.symm)) E1 q3 r_i1 r_i2 r_i3 r_i4 r_i5 r_i6) ?_
 rintro _ hh50 (⟨rfl, c5, c6, c7, c8, c9, c10, K4, q11, q12⟩ | ⟨rfl, c14, c15, c16, c17, c18, c19, K13, q20, q21⟩ | ⟨rfl, c23, c24, c25, c26, c27, K22, q28, q29⟩ | ⟨rfl, c31, c32, c33, c34, K30, q35, q36⟩ | ⟨rfl, c38, c39, c40, K37, q41, q42⟩ | ⟨rfl, c44, c45, K43, q46, q47⟩ | ⟨rfl, c49, rfl⟩)
 ·
  refine r_istore H 14 #[vR a1, vI 0, vI 6, vR b1, vI 6, .unset] d_j52_16_12 ?_
  refine r_iload H 16 d_j52_16_14 ?_
  refine r_iloadN H 17 d_j52_16_16 ?_
  refine r_icmpeqT H 57 d_j52_16_17 ?_
  refine r_aloadN H 58 d_j52_16_57 ?_
  have k57 : Keep h0 h1 [] := Keep.trans (Keep.refl h0 []) K1 all0
  have k58 : Keep h0 hh50 [] := Keep.trans k57 K4 (allS (Or.inr (nlt nlr (Nat.le_of_eq g1.symm))) all0)
  exact r_areturn H d_j52_16_58 (Or.inl ⟨b1, kc1, rfl, c5, c6, c7, c8, c9, c10, k58, (nlt nlr (Nat.le_of_eq g1.symm)), q11, q12⟩)
 ·
  have rr59 : 0 ≤ i1.toInt ∧ i1.toInt ≤ 255 := by have := r_i1; have : (255 : Int32).toInt = 255 := (by decide); have hc_ := c14; simp only [Int32.lt_iff_toInt_lt, ← Int32.toInt_inj] at hc_; omega
  have rr60 : 0 ≤ i2.toInt ∧ i2.toInt ≤ 255 := by have := r_i2; have : (255 : Int32).toInt = 255 := (by decide); have hc_ := c15; simp only [Int32.lt_iff_toInt_lt, ← Int32.toInt_inj] at hc_; omega
  have rr61 : 0 ≤ i3.toInt ∧ i3.toInt ≤ 255 := by have := r_i3; have : (255 : Int32).toInt = 255 := (by decide); have hc_ := c16; simp only [Int32.lt_iff_toInt_lt, ← Int32.toInt_inj] at hc_; omega
  have rr62 : 0 ≤ i4.toInt ∧ i4.toInt ≤ 255 := by have := r_i4; have : (255 : Int32).toInt = 255 := (by decide); have hc_ := c17; simp only [Int32.lt_iff_toInt_lt, ← Int32.toInt_inj] at hc_; omega
  have rr63 : 0 ≤ i5.toInt ∧ i5.toInt ≤ 255 := by have := r_i5; have : (255 : Int32).toInt = 255 := (by decide); have hc_ := c18; simp only [Int32.lt_iff_toInt_lt, ← Int32.toInt_inj] at hc_; omega
  have rr64 : 256 ≤ i6.toInt ∧ i6.toInt ≤ 65535 := by have := r_i6; have : (255 : Int32).toInt = 255 := (by decide); have hc_ := c19; simp only [Int32.lt_iff_toInt_lt, ← Int32.toInt_inj] at hc_; omega
  refine r_istore H 14 #[vR a1, vI 0, vI 6, vR b1, vI 5, .unset] d_j52_16_12 ?_
  refine r_iload H 16 d_j52_16_14 ?_
  refine r_iloadN H 17 d_j52_16_16 ?_
  refine r_icmpeqF H 20 d_j52_16_17 ?_
  refine r_aloadN H 21 d_j52_16_20 ?_
  refine r_iloadN H 22 d_j52_16_21 ?_
  refine r_iloadN H 23 d_j52_16_22 ?_
  have q65 := (q2.keep K13 (ninS (Nat.ne_of_lt (Nat.lt_of_lt_of_le A_a1.lt (nlt nlr (Nat.le_of_eq g1.symm)))) nin0))
  have z66 := Nat.le_trans K1.1 K13.1
  refine r_static (argsL := [.ref a1, .int 0, .int 6]) (rest := []) (W := 0) H 26 d_j52_16_23 (tw74 hw) (tw75 hw) (tw43 hw) (tw76 hw) (lenOf pd_10 rfl) (rm_toBytes_95 hw Ts a1 i1 i2 i3 i4 i5 i6 c1 hh50 f Zf (nlt Z0 z66) q65 (by have := rr59; omega) (by have := rr60; omega) (by have := rr61; omega) (by have := rr62; omega) (by have := rr63; omega) (by have := rr64; omega) S__assertionsDisabled S_HI_BYTE_SHIFT S_LO_BYTE_SHIFT) ?_
  rintro _ hh73 ⟨b67, kc68, rfl, K69, g70, q71, q72⟩
  refine r_astore H 28 #[vR a1, vI 0, vI 6, vR b1, vI 5, vR b67] d_j52_16_26 ?_
  refine r_aload H 30 d_j52_16_28 ?_
  refine r_iload H 32 d_j52_16_30 ?_
  have z74 := Nat.le_trans z66 K69.1
  refine r_static (argsL := [.ref b67, .int 5]) (rest := []) (W := 0) H 35 d_j52_16_32 (tw90 hw) (tw91 hw) (tw43 hw) (tw92 hw) (lenOf pd_11 rfl) (rm_getChar_15 hw Ts b67 (5 : Int32) kc68 _ (cL8 i6) (cH8 i6) hh73 f Zf (nlt Z0 z74) q71 rfl (by decide) rfl (by decide) S__assertionsDisabled S_HI_BYTE_SHIFT S_LO_BYTE_SHIFT) ?_
  rintro _ _ ⟨p75, rfl, ep75, rp75, rfl⟩
  have hzp75 : i6 = p75 := by rw [← ep75]; exact (own_u16 i6 (by have := rr64; omega)).symm
  subst hzp75
  refine r_sipush H 38 255 d_j52_16_35 ?_
  refine r_icmpgtT H 54 d_j52_16_38 (by have := rr64; have : (255 : Int32).toInt = 255 := (by decide); simp only [Int32.lt_iff_toInt_lt, ← Int32.toInt_inj]; omega) ?_
  refine r_aload H 56 d_j52_16_54 ?_
  have k77 : Keep h0 h1 [] := Keep.trans (Keep.refl h0 []) K1 all0
  have k78 : Keep h0 hh50 [] := Keep.trans k77 K13 (allS (Or.inr (nlt nlr (Nat.le_of_eq g1.symm))) all0)
  have k79 : Keep h0 hh73 [] := Keep.trans k78 K69 all0
  exact r_areturn H d_j52_16_56 (Or.inr (⟨b67, kc68, rfl, k79, (nlt z66 g70), q71, q72⟩))
 ·
  have rr80 : 0 ≤ i1.toInt ∧ i1.toInt ≤ 255 := by have := r_i1; have : (255 : Int32).toInt = 255 := (by decide); have hc_ := c23; simp only [Int32.lt_iff_toInt_lt, ← Int32.toInt_inj] at hc_; omega
  have rr81 : 0 ≤ i2.toInt ∧ i2.toInt ≤ 255 := by have := r_i2; have : (255 : Int32).toInt = 255 := (by decide); have hc_ := c24; simp only [Int32.lt_iff_toInt_lt, ← Int32.toInt_inj] at hc_; omega
  have rr82 : 0 ≤ i3.toInt ∧ i3.toInt ≤ 255 := by have := r_i3; have : (255 : Int32).toInt = 255 := (by decide); have hc_ := c25; simp only [Int32.lt_iff_toInt_lt, ← Int32.toInt_inj] at hc_; omega
  have rr83 : 0 ≤ i4.toInt ∧ i4.toInt ≤ 255 := by have := r_i4; have : (255 : Int32).toInt = 255 := (by decide); have hc_ := c26; simp only [Int32.lt_iff_toInt_lt, ← Int32.toInt_inj] at hc_; omega
  have rr84 : 256 ≤ i5.toInt ∧ i5.toInt ≤ 65535 := by have := r_i5; have : (255 : Int32).toInt = 255 := (by decide); have hc_ := c27; simp only [Int32.lt_iff_toInt_lt, ← Int32.toInt_inj] at hc_; omega
  refine r_istore H 14 #[vR a1, vI 0, vI 6, vR b1, vI 4, .unset] d_j52_16_12 ?_
  refine r_iload H 16 d_j52_16_14 ?_
  refine r_iloadN H 17 d_j52_16_16 ?_
  refine r_icmpeqF H 20 d_j52_16_17 ?_
  refine r_aloadN H 21 d_j52_16_20 ?_
  refine r_iloadN H 22 d_j52_16_21 ?_
  refine r_iloadN H 23 d_j52_16_22 ?_
  have q85 := (q2.keep K22 (ninS (Nat.ne_of_lt (Nat.lt_of_lt_of_le A_a1.lt (nlt nlr (Nat.le_of_eq g1.symm)))) nin0))
  have z86 := Nat.le_trans K1.1 K22.1
  refine r_static (argsL := [.ref a1, .int 0, .int 6]) (rest := []) (W := 0) H 26 d_j52_16_23 (tw74 hw) (tw75 hw) (tw43 hw) (tw76 hw) (lenOf pd_10 rfl) (rm_toBytes_95 hw Ts a1 i1 i2 i3 i4 i5 i6 c1 hh50 f Zf (nlt Z0 z86) q85 (by have := rr80; omega) (by have := rr81; omega) (by have := rr82; omega) (by have := rr83; omega) (by have := rr84; omega) (by have := r_i6; omega) S__assertionsDisabled S_HI_BYTE_SHIFT S_LO_BYTE_SHIFT) ?_
  rintro _ hh93 ⟨b87, kc88, rfl, K89, g90, q91, q92⟩
  refine r_astore H 28 #[vR a1, vI 0, vI 6, vR b1, vI 4, vR b87] d_j52_16_26 ?_
  refine r_aload H 30 d_j52_16_28 ?_
  refine r_iload H 32 d_j52_16_30 ?_
  have z94 := Nat.le_trans z86 K89.1
  refine r_static (argsL := [.ref b87, .int 4]) (rest := []) (W := 0) H 35 d_j52_16_32 (tw90 hw) (tw91 hw) (tw43 hw) (tw92 hw) (lenOf pd_11 rfl) (rm_getChar_15 hw Ts b87 (4 : Int32) kc88 _ (cL8 i5) (cH8 i5) hh93 f Zf (nlt Z0 z94) q91 rfl (by decide) rfl (by decide) S__assertionsDisabled S_HI_BYTE_SHIFT S_LO_BYTE_SHIFT) ?_
  rintro _ _ ⟨p95, rfl, ep95, rp95, rfl⟩
  have hzp95 : i5 = p95 := by rw [← ep95]; exact (own_u16 i5 (by have := rr84; omega)).symm
  subst hzp95
  refine r_sipush H 38 255 d_j52_16_35 ?_
  refine r_icmpgtT H 54 d_j52_16_38 (by have := rr84; have : (255 : Int32).toInt = 255 := (by decide); simp only [Int32.lt_iff_toInt_lt, ← Int32.toInt_inj]; omega) ?_
  refine r_aload H 56 d_j52_16_54 ?_
  have k97 : Keep h0 h1 [] := Keep.trans (Keep.refl h0 []) K1 all0
  have k98 : Keep h0 hh50 [] := Keep.trans k97 K22 (allS (Or.inr (nlt nlr (Nat.le_of_eq g1.symm))) all0)
  have k99 : Keep h0 hh93 [] := Keep.trans k98 K89 all0
  exact r_areturn H d_j52_16_56 (Or.inr (⟨b87, kc88, rfl, k99, (nlt z86 g90), q91, q92⟩))
 ·
  have rr100 : 0 ≤ i1.toInt ∧ i1.toInt ≤ 255 := by have := r_i1; have : (255 : Int32).toInt = 255 := (by decide); have hc_ := c31; simp only [Int32.lt_iff_toInt_lt, ← Int32.toInt_inj] at hc_; omega
  have rr101 : 0 ≤ i2.toInt ∧ i2.toInt ≤ 255 := by have := r_i2; have : (255 : Int32).toInt = 255 := (by decide); have hc_ := c32; simp only [Int32.lt_iff_toInt_lt, ← Int32.toInt_inj] at hc_; omega
  have rr102 : 0 ≤ i3.toInt ∧ i3.toInt ≤ 255 := by have := r_i3; have : (255 : Int32).toInt = 255 := (by decide); have hc_ := c33; simp only [Int32.lt_iff_toInt_lt, ← Int32.toInt_inj] at hc_; omega
  have rr103 : 256 ≤ i4.toInt ∧ i4.toInt ≤ 65535 := by have := r_i4; have : (255 : Int32).toInt = 255 := (by decide); have hc_ := c34; simp only [Int32.lt_iff_toInt_lt, ← Int32.toInt_inj] at hc_; omega
  refine r_istore H 14 #[vR a1, vI 0, vI 6, vR b1, vI 3, .unset] d_j52_16_12 ?_
  refine r_iload H 16 d_j52_16_14 ?_
  refine r_iloadN H 17 d_j52_16_16 ?_
  refine r_icmpeqF H 20 d_j52_16_17 ?_
  refine r_aloadN H 21 d_j52_16_20 ?_
  refine r_iloadN H 22 d_j52_16_21 ?_
  refine r_iloadN H 23 d_j52_16_22 ?_
  have q104 := (q2.keep K30 (ninS (Nat.ne_of_lt (Nat.lt_of_lt_of_le A_a1.lt (nlt nlr (Nat.le_of_eq g1.symm)))) nin0))
  have z105 := Nat.le_trans K1.1 K30.1
  refine r_static (argsL := [.ref a1, .int 0, .int 6]) (rest := []) (W := 0) H 26 d_j52_16_23 (tw74 hw) (tw75 hw) (tw43 hw) (tw76 hw) (lenOf pd_10 rfl) (rm_toBytes_95 hw Ts a1 i1 i2 i3 i4 i5 i6 c1 hh50 f Zf (nlt Z0 z105) q104 (by have := rr100; omega) (by have := rr101; omega) (by have := rr102; omega) (by have := rr103; omega) (by have := r_i5; omega) (by have := r_i6; omega) S__assertionsDisabled S_HI_BYTE_SHIFT S_LO_BYTE_SHIFT) ?_
  rintro _ hh112 ⟨b106, kc107, rfl, K108, g109, q110, q111⟩
  refine r_astore H 28 #[vR a1, vI 0, vI 6, vR b1, vI 3, vR b106] d_j52_16_26 ?_
  refine r_aload H 30 d_j52_16_28 ?_
  refine r_iload H 32 d_j52_16_30 ?_
  have z113 := Nat.le_trans z105 K108.1
  refine r_static (argsL := [.ref b106, .int 3]) (rest := []) (W := 0) H 35 d_j52_16_32 (tw90 hw) (tw91 hw) (tw43 hw) (tw92 hw) (lenOf pd_11 rfl) (rm_getChar_15 hw Ts b106 (3 : Int32) kc107 _ (cL8 i4) (cH8 i4) hh112 f Zf (nlt Z0 z113) q110 rfl (by decide) rfl (by decide) S__assertionsDisabled S_HI_BYTE_SHIFT S_LO_BYTE_SHIFT) ?_
  rintro _ _ ⟨p114, rfl, ep114, rp114, rfl⟩
  have hzp114 : i4 = p114 := by rw [← ep114]; exact (own_u16 i4 (by have := rr103; omega)).symm
  subst hzp114
  refine r_sipush H 38 255 d_j52_16_35 ?_
  refine r_icmpgtT H 54 d_j52_16_38 (by have := rr103; have : (255 : Int32).toInt = 255 := (by decide); simp only [Int32.lt_iff_toInt_lt, ← Int32.toInt_inj]; omega) ?_
  refine r_aload H 56 d_j52_16_54 ?_
  have k116 : Keep h0 h1 [] := Keep.trans (Keep.refl h0 []) K1 all0
  have k117 : Keep h0 hh50 [] := Keep.trans k116 K30 (allS (Or.inr (nlt nlr (Nat.le_of_eq g1.symm))) all0)
  have k118 : Keep h0 hh112 [] := Keep.trans k117 K108 all0
  exact r_areturn H d_j52_16_56 (Or.inr (⟨b106, kc107, rfl, k118, (nlt z105 g109), q110, q111⟩))
 ·
  have rr119 : 0 ≤ i1.toInt ∧ i1.toInt ≤ 255 := by have := r_i1; have : (255 : Int32).toInt = 255 := (by decide); have hc_ := c38; simp only [Int32.lt_iff_toInt_lt, ← Int32.toInt_inj] at hc_; omega
  have rr120 : 0 ≤ i2.toInt ∧ i2.toInt ≤ 255 := by have := r_i2; have : (255 : Int32).toInt = 255 := (by decide); have hc_ := c39; simp only [Int32.lt_iff_toInt_lt, ← Int32.toInt_inj] at hc_; omega
  have rr121 : 256 ≤ i3.toInt ∧ i3.toInt ≤ 65535 := by have := r_i3; have : (255 : Int32).toInt = 255 := (by decide); have hc_ := c40; simp only [Int32.lt_iff_toInt_lt, ← Int32.toInt_inj] at hc_; omega
  refine r_istore H 14 #[vR a1, vI 0, vI 6, vR b1, vI 2, .unset] d_j52_16_12 ?_
  refine r_iload H 16 d_j52_16_14 ?_
  refine r_iloadN H 17 d_j52_16_16 ?_
  refine r_icmpeqF H 20 d_j52_16_17 ?_
  refine r_aloadN H 21 d_j52_16_20 ?_
  refine r_iloadN H 22 d_j52_16_21 ?_
  refine r_iloadN H 23 d_j52_16_22 ?_
  have q122 := (q2.keep K37 (ninS (Nat.ne_of_lt (Nat.lt_of_lt_of_le A_a1.lt (nlt nlr (Nat.le_of_eq g1.symm)))) nin0))
  have z123 := Nat.le_trans K1.1 K37.1
  refine r_static (argsL := [.ref a1, .int 0, .int 6]) (rest := []) (W := 0) H 26 d_j52_16_23 (tw74 hw) (tw75 hw) (tw43 hw) (tw76 hw) (lenOf pd_10 rfl) (rm_toBytes_95 hw Ts a1 i1 i2 i3 i4 i5 i6 c1 hh50 f Zf (nlt Z0 z123) q122 (by have := rr119; omega) (by have := rr120; omega) (by have := rr121; omega) (by have := r_i4; omega) (by have := r_i5; omega) (by have := r_i6; omega) S__assertionsDisabled S_HI_BYTE_SHIFT S_LO_BYTE_SHIFT) ?_
  rintro _ hh130 ⟨b124, kc125, rfl, K126, g127, q128, q129⟩
  refine r_astore H 28 #[vR a1, vI 0, vI 6, vR b1, vI 2, vR b124] d_j52_16_26 ?_
  refine r_aload H 30 d_j52_16_28 ?_
  refine r_iload H 32 d_j52_16_30 ?_
  have z131 := Nat.le_trans z123 K126.1
  refine r_static (argsL := [.ref b124, .int 2]) (rest := []) (W := 0) H 35 d_j52_16_32 (tw90 hw) (tw91 hw) (tw43 hw) (tw92 hw) (lenOf pd_11 rfl) (rm_getChar_15 hw Ts b124 (2 : Int32) kc125 _ (cL8 i3) (cH8 i3) hh130 f Zf (nlt Z0 z131) q128 rfl (by decide) rfl (by decide) S__assertionsDisabled S_HI_BYTE_SHIFT S_LO_BYTE_SHIFT) ?_
  rintro _ _ ⟨p132, rfl, ep132, rp132, rfl⟩
  have hzp132 : i3 = p132 := by rw [← ep132]; exact (own_u16 i3 (by have := rr121; omega)).symm
  subst hzp132
  refine r_sipush H 38 255 d_j52_16_35 ?_
  refine r_icmpgtT H 54 d_j52_16_38 (by have := rr121; have : (255 : Int32).toInt = 255 := (by decide); simp only [Int32.lt_iff_toInt_lt, ← Int32.toInt_inj]; omega) ?_
  refine r_aload H 56 d_j52_16_54 ?_
  have k134 : Keep h0 h1 [] := Keep.trans (Keep.refl h0 []) K1 all0
  have k135 : Keep h0 hh50 [] := Keep.trans k134 K37 (allS (Or.inr (nlt nlr (Nat.le_of_eq g1.symm))) all0)
  have k136 : Keep h0 hh130 [] := Keep.trans k135 K126 all0
  exact r_areturn H d_j52_16_56 (Or.inr (⟨b124, kc125, rfl, k136, (nlt z123 g127), q128, q129⟩))
 ·
  have rr137 : 0 ≤ i1.toInt ∧ i1.toInt ≤ 255 := by have := r_i1; have : (255 : Int32).toInt = 255 := (by decide); have hc_ := c44; simp only [Int32.lt_iff_toInt_lt, ← Int32.toInt_inj] at hc_; omega
  have rr138 : 256 ≤ i2.toInt ∧ i2.toInt ≤ 65535 := by have := r_i2; have : (255 : Int32).toInt = 255 := (by decide); have hc_ := c45; simp only [Int32.lt_iff_toInt_lt, ← Int32.toInt_inj] at hc_; omega
  refine r_istore H 14 #[vR a1, vI 0, vI 6, vR b1, vI 1, .unset] d_j52_16_12 ?_
  refine r_iload H 16 d_j52_16_14 ?_
  refine r_iloadN H 17 d_j52_16_16 ?_
  refine r_icmpeqF H 20 d_j52_16_17 ?_
  refine r_aloadN H 21 d_j52_16_20 ?_
  refine r_iloadN H 22 d_j52_16_21 ?_
  refine r_iloadN H 23 d_j52_16_22 ?_
  have q139 := (q2.keep K43 (ninS (Nat.ne_of_lt (Nat.lt_of_lt_of_le A_a1.lt (nlt nlr (Nat.le_of_eq g1.symm)))) nin0))
  have z140 := Nat.le_trans K1.1 K43.1
  refine r_static (argsL := [.ref a1, .int 0, .int 6]) (rest := []) (W := 0) H 26 d_j52_16_23 (tw74 hw) (tw75 hw) (tw43 hw) (tw76 hw) (lenOf pd_10 rfl) (rm_toBytes_95 hw Ts a1 i1 i2 i3 i4 i5 i6 c1 hh50 f Zf (nlt Z0 z140) q139 (by have := rr137; omega) (by have := rr138; omega) (by have := r_i3; omega) (by have := r_i4; omega) (by have := r_i5; omega) (by have := r_i6; omega) S__assertionsDisabled S_HI_BYTE_SHIFT S_LO_BYTE_SHIFT) ?_
  rintro _ hh147 ⟨b141, kc142, rfl, K143, g144, q145, q146⟩
  refine r_astore H 28 #[vR a1, vI 0, vI 6, vR b1, vI 1, vR b141] d_j52_16_26 ?_
  refine r_aload H 30 d_j52_16_28 ?_
  refine r_iload H 32 d_j52_16_30 ?_
  have z148 := Nat.le_trans z140 K143.1
  refine r_static (argsL := [.ref b141, .int 1]) (rest := []) (W := 0) H 35 d_j52_16_32 (tw90 hw) (tw91 hw) (tw43 hw) (tw92 hw) (lenOf pd_11 rfl) (rm_getChar_15 hw Ts b141 (1 : Int32) kc142 _ (cL8 i2) (cH8 i2) hh147 f Zf (nlt Z0 z148) q145 rfl (by decide) rfl (by decide) S__assertionsDisabled S_HI_BYTE_SHIFT S_LO_BYTE_SHIFT) ?_
  rintro _ _ ⟨p149, rfl, ep149, rp149, rfl⟩
  have hzp149 : i2 = p149 := by rw [← ep149]; exact (own_u16 i2 (by have := rr138; omega)).symm
  subst hzp149
  refine r_sipush H 38 255 d_j52_16_35 ?_
  refine r_icmpgtT H 54 d_j52_16_38 (by have := rr138; have : (255 : Int32).toInt = 255 := (by decide); simp only [Int32.lt_iff_toInt_lt, ← Int32.toInt_inj]; omega) ?_
  refine r_aload H 56 d_j52_16_54 ?_
  have k151 : Keep h0 h1 [] := Keep.trans (Keep.refl h0 []) K1 all0
  have k152 : Keep h0 hh50 [] := Keep.trans k151 K43 (allS (Or.inr (nlt nlr (Nat.le_of_eq g1.symm))) all0)
  have k153 : Keep h0 hh147 [] := Keep.trans k152 K143 all0
  exact r_areturn H d_j52_16_56 (Or.inr (⟨b141, kc142, rfl, k153, (nlt z140 g144), q145, q146⟩))
 ·
  have rr154 : 256 ≤ i1.toInt ∧ i1.toInt ≤ 65535 := by have := r_i1; have : (255 : Int32).toInt = 255 := (by decide); have hc_ := c49; simp only [Int32.lt_iff_toInt_lt, ← Int32.toInt_inj] at hc_; omega
  refine r_istore H 14 #[vR a1, vI 0, vI 6, vR b1, vI 0, .unset] d_j52_16_12 ?_
  refine r_iload H 16 d_j52_16_14 ?_
  refine r_iloadN H 17 d_j52_16_16 ?_
  refine r_icmpeqF H 20 d_j52_16_17 ?_
  refine r_aloadN H 21 d_j52_16_20 ?_
  refine r_iloadN H 22 d_j52_16_21 ?_
  refine r_iloadN H 23 d_j52_16_22 ?_
  refine r_static (argsL := [.ref a1, .int 0, .int 6]) (rest := []) (W := 0) H 26 d_j52_16_23 (tw74 hw) (tw75 hw) (tw43 hw) (tw76 hw) (lenOf pd_10 rfl) (rm_toBytes_95 hw Ts a1 i1 i2 i3 i4 i5 i6 c1 h1 f Zf (nlt Z0 K1.1) q2 (by have := rr154; omega) (by have := r_i2; omega) (by have := r_i3; omega) (by have := r_i4; omega) (by have := r_i5; omega) (by have := r_i6; omega) S__assertionsDisabled S_HI_BYTE_SHIFT S_LO_BYTE_SHIFT) ?_
  rintro _ hh161 ⟨b155, kc156, rfl, K157, g158, q159, q160⟩
  refine r_astore H 28 #[vR a1, vI 0, vI 6, vR b1, vI 0, vR b155] d_j52_16_26 ?_
  refine r_aload H 30 d_j52_16_28 ?_
  refine r_iload H 32 d_j52_16_30 ?_
  have z162 := Nat.le_trans K1.1 K157.1
  refine r_static (argsL := [.ref b155, .int 0]) (rest := []) (W := 0) H 35 d_j52_16_32 (tw90 hw) (tw91 hw) (tw43 hw) (tw92 hw) (lenOf pd_11 rfl) (rm_getChar_15 hw Ts b155 (0 : Int32) kc156 _ (cL8 i1) (cH8 i1) hh161 f Zf (nlt Z0 z162) q159 rfl (by decide) rfl (by decide) S__assertionsDisabled S_HI_BYTE_SHIFT S_LO_BYTE_SHIFT) ?_
  rintro _ _ ⟨p163, rfl, ep163, rp163, rfl⟩
  have hzp163 : i1 = p163 := by rw [← ep163]; exact (own_u16 i1 (by have := rr154; omega)).symm
  subst hzp163
  refine r_sipush H 38 255 d_j52_16_35 ?_
  refine r_icmpgtT H 54 d_j52_16_38 (by have := rr154; have : (255 : Int32).toInt = 255 := (by decide); simp only [Int32.lt_iff_toInt_lt, ← Int32.toInt_inj]; omega) ?_
  refine r_aload H 56 d_j52_16_54 ?_
  have k165 : Keep h0 h1 [] := Keep.trans (Keep.refl h0 []) K1 all0
  have k166 : Keep h0 hh161 [] := Keep.trans k165 K157 all0
  exact r_areturn H d_j52_16_56 (Or.inr (⟨b155, kc156, rfl, k166, (nlt K1.1 g158), q159, q160⟩))
def Q_coderFromArrayLen_104 (Z : State) (h0 : Heap) (v : Option Value) (h : Heap) : Prop := v = some (.int 0) ∧ h0 = h
def R_coderFromArrayLen_104 : Room := { frames := 0, cells := 0, slots := 0, locals := 0 }
theorem rm_coderFromArrayLen_104 {w : Bool} {Z : State} {a0 : Array Value} (hw : HW a0 Z) (Ts : List String) (a1 : Addr) (i1 : Int32) (i2 : Int32) (i3 : Int32) (i4 : Int32) (i5 : Int32) (i6 : Int32) (c1 : ClassId) (h0 : Heap) (f : Nat) (Zf : Z.heap.size ≤ f) (Z0 : f ≤ h0.size) (A_a1 : Ar Z h0 a1 c1 .byte [.int (cB8 i1), .int (cB8 i2), .int (cB8 i3), .int (cB8 i4), .int (cB8 i5), .int (cB8 i6)]) :
  Con w [] Z mn13 jdk_52_method_15_code 2 (some .byte) R_coderFromArrayLen_104 Ts Ts f #[.ref a1, .int 6] h0 (Q_coderFromArrayLen_104 Z h0) := by
 refine con_of f #[vR a1, vI 6] (plainFor_of_name pn_3) (fun m => rfl) Zf ?_
 intro C H hX0
 refine r_iloadN H 1 d_j52_15_0 ?_
 refine r_aloadN H 2 d_j52_15_1 ?_
 refine r_alen H 3 6 d_j52_15_2 A_a1 ?_
 refine r_isub H 4 0 d_j52_15_3 ?_
 refine r_bipush H 6 31 d_j52_15_4 ?_
 refine r_iushr H 7 0 d_j52_15_6 (by decide) ?_
 refine r_i2b H 8 0 d_j52_15_7 (by decide) ?_
 exact r_nreturn (0 : Int32) H d_j52_15_8 (by decide) (⟨rfl, rfl⟩)
def Q_coderFromArrayLen_105 (Z : State) (h0 : Heap) (v : Option Value) (h : Heap) : Prop := v = some (.int 1) ∧ h0 = h
def R_coderFromArrayLen_105 : Room := { frames := 0, cells := 0, slots := 0, locals := 0 }
theorem rm_coderFromArrayLen_105 {w : Bool} {Z : State} {a0 : Array Value} (hw : HW a0 Z) (Ts : List String) (a1 : Addr) (i1 : Int32) (i2 : Int32) (i3 : Int32) (i4 : Int32) (i5 : Int32) (i6 : Int32) (c1 : ClassId) (h0 : Heap) (f : Nat) (Zf : Z.heap.size ≤ f) (Z0 : f ≤ h0.size) (A_a1 : Ar Z h0 a1 c1 .byte [.int (cL8 i1), .int (cH8 i1), .int (cL8 i2), .int (cH8 i2), .int (cL8 i3), .int (cH8 i3), .int (cL8 i4), .int (cH8 i4), .int (cL8 i5), .int (cH8 i5), .int (cL8 i6), .int (cH8 i6)]) :
  Con w [] Z mn13 jdk_52_method_15_code 2 (some .byte) R_coderFromArrayLen_105 Ts Ts f #[.ref a1, .int 6] h0 (Q_coderFromArrayLen_105 Z h0) := by
 refine con_of f #[vR a1, vI 6] (plainFor_of_name pn_3) (fun m => rfl) Zf ?_
 intro C H hX0
 refine r_iloadN H 1 d_j52_15_0 ?_
 refine r_aloadN H 2 d_j52_15_1 ?_
 refine r_alen H 3 12 d_j52_15_2 A_a1 ?_
 refine r_isub H 4 (-6 : Int32) d_j52_15_3 ?_
 refine r_bipush H 6 31 d_j52_15_4 ?_
 refine r_iushr H 7 1 d_j52_15_6 (by decide) ?_
 refine r_i2b H 8 1 d_j52_15_7 (by decide) ?_
 exact r_nreturn (1 : Int32) H d_j52_15_8 (by decide) (⟨rfl, rfl⟩)
def Q_init_92 (Z : State) (a1 : Addr) (i1 : Int32) (i2 : Int32) (i3 : Int32) (i4 : Int32) (i5 : Int32) (i6 : Int32) (h0 : Heap) (v : Option Value) (h : Heap) : Prop := (∃ (b1 : Addr) (kc2 : ClassId), v = none ∧ (¬ (255 : Int32) < i1) ∧ (¬ (255 : Int32) < i2) ∧ (¬ (255 : Int32) < i3) ∧ (¬ (255 : Int32) < i4) ∧ (¬ (255 : Int32) < i5) ∧ (¬ (255 : Int32) < i6) ∧ Keep h0 h [a1] ∧ h0.size ≤ b1 ∧ Exa Z h a1 "java/lang/String" ∧ Fld Z h a1 "java/lang/String" "coder" "B" (.int 0) ∧ Fld Z h a1 "java/lang/String" "value" "[B" (.ref b1) ∧ Ar Z h b1 kc2 .byte [.int (cB8 i1), .int (cB8 i2), .int (cB8 i3), .int (cB8 i4), .int (cB8 i5), .int (cB8 i6)] ∧ Exa Z h b1 "[B") ∨ (∃ (b13 : Addr) (kc14 : ClassId), v = none ∧ Keep h0 h [a1] ∧ h0.size ≤ b13 ∧ Exa Z h a1 "java/lang/String" ∧ Fld Z h a1 "java/lang/String" "coder" "B" (.int 1) ∧ Fld Z h a1 "java/lang/String" "value" "[B" (.ref b13) ∧ Ar Z h b13 kc14 .byte [.int (cL8 i1), .int (cH8 i1), .int (cL8 i2), .int (cH8 i2), .int (cL8 i3), .int (cH8 i3), .int (cL8 i4), .int (cH8 i4), .int (cL8 i5), .int (cH8 i5), .int (cL8 i6), .int (cH8 i6)] ∧ Exa Z h b13 "[B")
def R_init_92 : Room := { frames := 4, cells := 2, slots := 18, locals := 57 }
theorem rm_init_92 {w : Bool} {Z : State} {a0 : Array Value} (hw : HW a0 Z) (Ts : List String) (a1 : Addr) (a2 : Addr) (i1 : Int32) (i2 : Int32) (i3 : Int32) (i4 : Int32) (i5 : Int32) (i6 : Int32) (c1 : ClassId) (cs : Int32) (h0 : Heap) (f : Nat) (Zf : Z.heap.size ≤ f) (Z0 : f ≤ h0.size) (A_a2 : Ar Z h0 a2 c1 .char [.int i1, .int i2, .int i3, .int i4, .int i5, .int i6]) (E_a2 : Exa Z h0 a2 "[C") (E_a1 : Exa Z h0 a1 "java/lang/String") (F_coder_a1 : Fld Z h0 a1 "java/lang/String" "coder" "B" (.int 0)) (g_a1 : f ≤ a1) (F_value_a1 : Fld Z h0 a1 "java/lang/String" "value" "[B" .null) (r_i1 : 0 ≤ i1.toInt ∧ i1.toInt ≤ 65535) (r_i2 : 0 ≤ i2.toInt ∧ i2.toInt ≤ 65535) (r_i3 : 0 ≤ i3.toInt ∧ i3.toInt ≤ 65535) (r_i4 : 0 ≤ i4.toInt ∧ i4.toInt ≤ 65535) (r_i5 : 0 ≤ i5.toInt ∧ i5.toInt ≤ 65535) (r_i6 : 0 ≤ i6.toInt ∧ i6.toInt ≤ 65535) (S_cs : G_S_cs Z cs) (S__assertionsDisabled : G_S__assertionsDisabled Z) (S_HI_BYTE_SHIFT : G_S_HI_BYTE_SHIFT Z) (S_LO_BYTE_SHIFT : G_S_LO_BYTE_SHIFT Z) (hcs : ¬ cs = 0) :
  Con w [] Z mn1 jdk_42_method_149_code 6 none R_init_92 Ts Ts f #[.ref a1, .ref a2, .int 0, .int 6, .null] h0 (Q_init_92 Z a1 i1 i2 i3 i4 i5 i6 h0) := by
 refine con_of f #[vR a1, vR a2, vI 0, vI 6, .val .null, .unset] (plainFor_of_name pn_1) (fun m => rfl) Zf ?_
 intro C H hX0
 refine r_aloadN H 1 d_j42_149_0 ?_
 refine r_initO (W := 0) H 4 d_j42_149_1 (tw15 hw) (tw16 hw) (tw17 hw) ?_
 refine r_iloadN H 5 d_j42_149_4 ?_
 refine r_ifneT H 27 d_j42_149_5 (by decide) (by decide) (by decide) ?_
 refine r_gets H 30 d_j42_149_27 (tw40 hw) S_cs ?_
 refine r_ifeqF H 33 d_j42_149_30 rfl hcs ?_
 refine r_aloadN H 34 d_j42_149_33 ?_
 refine r_iloadN H 35 d_j42_149_34 ?_
 refine r_iloadN H 36 d_j42_149_35 ?_
 refine r_static (argsL := [.ref a2, .int 0, .int 6]) (rest := []) (W := 0) H 39 d_j42_149_36 (tw41 hw) (tw42 hw) (tw43 hw) (tw44 hw) (lenOf pd_10 rfl) (rm_compress_93 hw Ts a2 i1 i2 i3 i4 i5 i6 c1 h0 f Zf Z0 A_a2 E_a2 r_i1 r_i2 r_i3 r_i4 r_i5 r_i6 S__assertionsDisabled S_HI_BYTE_SHIFT S_LO_BYTE_SHIFT) ?_
 rintro _ hh19 (⟨b1, kc2, rfl, c4, c5, c6, c7, c8, c9, K3, g10, q11, q12⟩ | ⟨b13, kc14, rfl, K15, g16, q17, q18⟩)
 ·
  refine r_astore H 41 #[vR a1, vR a2, vI 0, vI 6, .val .null, vR b1] d_j42_149_39 ?_
  refine r_aloadN H 42 d_j42_149_41 ?_
  refine r_aload H 44 d_j42_149_42 ?_
  refine r_iloadN H 45 d_j42_149_44 ?_
  refine r_static (argsL := [.ref b1, .int 6]) (rest := [.ref a1]) (W := 1) H 48 d_j42_149_45 (tw48 hw) (tw49 hw) (tw43 hw) (tw50 hw) (lenOf pd_12 rfl) (rm_coderFromArrayLen_104 hw Ts b1 i1 i2 i3 i4 i5 i6 kc2 hh19 f Zf (nlt Z0 K3.1) q11) ?_
  rintro _ _ ⟨rfl, rfl⟩
  have q27 := (E_a1.keep K3)
  have q28 := (F_coder_a1.keep K3 nin0)
  refine r_putn (v' := (.int 0)) (ty := .byte) H 51 d_j42_149_48 (tw25 hw) q28 q27 (Or.inr ⟨(tw21 hw), rfl, rfl⟩) (tw6 hw) g_a1 ?_
  intro h29 W29 K29 E29 F29
  refine r_aloadN H 52 d_j42_149_51 ?_
  refine r_aload H 54 d_j42_149_52 ?_
  have q30 := ((F_value_a1.keep K3 nin0).other W29 (Or.inr (slot_ne (Or.inr (tw20 hw)) (Or.inr (tw21 hw)) (by decide) (t := (.array .byte)) (t' := .byte) (by decide) (by decide))))
  refine r_putf (ty := (.array .byte)) H 57 d_j42_149_54 (tw24 hw) q30 E29 (Or.inr ⟨(tw20 hw), rfl, rfl⟩) (tw6 hw) g_a1 ?_
  intro h31 W31 K31 E31 F31
  have k32 : Keep h0 hh19 [a1] := Keep.trans (Keep.refl h0 [a1]) K3 all0
  have k33 : Keep h0 h29 [a1] := Keep.trans k32 K29 (allS (Or.inl (List.mem_of_getElem? (i := 0) rfl)) all0)
  have k34 : Keep h0 h31 [a1] := Keep.trans k33 K31 (allS (Or.inl (List.mem_of_getElem? (i := 0) rfl)) all0)
  have q35 := (F29.other W31 (Or.inr (slot_ne (Or.inr (tw21 hw)) (Or.inr (tw20 hw)) (by decide) (t := .byte) (t' := (.array .byte)) (by decide) (by decide))))
  have q36 := ((q11.keep K29 (ninS (Ne.symm (Nat.ne_of_lt (Nat.lt_of_lt_of_le E_a1.lt (nlt nlr g10)))) nin0)).keep K31 (ninS (Ne.symm (Nat.ne_of_lt (Nat.lt_of_lt_of_le E_a1.lt (nlt nlr g10)))) nin0))
  have q37 := ((q12.keep K29).keep K31)
  exact r_return H d_j42_149_57 (Or.inl ⟨b1, kc2, rfl, c4, c5, c6, c7, c8, c9, k34, (nlt nlr g10), E31, q35, F31, q36, q37⟩)
 ·
  refine r_astore H 41 #[vR a1, vR a2, vI 0, vI 6, .val .null, vR b13] d_j42_149_39 ?_
  refine r_aloadN H 42 d_j42_149_41 ?_
  refine r_aload H 44 d_j42_149_42 ?_
  refine r_iloadN H 45 d_j42_149_44 ?_
  refine r_static (argsL := [.ref b13, .int 6]) (rest := [.ref a1]) (W := 1) H 48 d_j42_149_45 (tw48 hw) (tw49 hw) (tw43 hw) (tw50 hw) (lenOf pd_12 rfl) (rm_coderFromArrayLen_105 hw Ts b13 i1 i2 i3 i4 i5 i6 kc14 hh19 f Zf (nlt Z0 K15.1) q17) ?_
  rintro _ _ ⟨rfl, rfl⟩
  have q39 := (E_a1.keep K15)
  have q40 := (F_coder_a1.keep K15 nin0)
  refine r_putn (v' := (.int 1)) (ty := .byte) H 51 d_j42_149_48 (tw25 hw) q40 q39 (Or.inr ⟨(tw21 hw), rfl, rfl⟩) (tw6 hw) g_a1 ?_
  intro h41 W41 K41 E41 F41
  refine r_aloadN H 52 d_j42_149_51 ?_
  refine r_aload H 54 d_j42_149_52 ?_
  have q42 := ((F_value_a1.keep K15 nin0).other W41 (Or.inr (slot_ne (Or.inr (tw20 hw)) (Or.inr (tw21 hw)) (by decide) (t := (.array .byte)) (t' := .byte) (by decide) (by decide))))
  refine r_putf (ty := (.array .byte)) H 57 d_j42_149_54 (tw24 hw) q42 E41 (Or.inr ⟨(tw20 hw), rfl, rfl⟩) (tw6 hw) g_a1 ?_
  intro h43 W43 K43 E43 F43
  have k44 : Keep h0 hh19 [a1] := Keep.trans (Keep.refl h0 [a1]) K15 all0
  have k45 : Keep h0 h41 [a1] := Keep.trans k44 K41 (allS (Or.inl (List.mem_of_getElem? (i := 0) rfl)) all0)
  have k46 : Keep h0 h43 [a1] := Keep.trans k45 K43 (allS (Or.inl (List.mem_of_getElem? (i := 0) rfl)) all0)
  have q47 := (F41.other W43 (Or.inr (slot_ne (Or.inr (tw21 hw)) (Or.inr (tw20 hw)) (by decide) (t := .byte) (t' := (.array .byte)) (by decide) (by decide))))
  have q48 := ((q17.keep K41 (ninS (Ne.symm (Nat.ne_of_lt (Nat.lt_of_lt_of_le E_a1.lt (nlt nlr g16)))) nin0)).keep K43 (ninS (Ne.symm (Nat.ne_of_lt (Nat.lt_of_lt_of_le E_a1.lt (nlt nlr g16)))) nin0))
  have q49 := ((q18.keep K41).keep K43)
  exact r_return H d_j42_149_57 (Or.inr (⟨b13, kc14, rfl, k46, (nlt nlr g16), E43, q47, F43, q48, q49⟩))
def Q_init_91 (Z : State) (a1 : Addr) (i1 : Int32) (i2 : Int32) (i3 : Int32) (i4 : Int32) (i5 : Int32) (i6 : Int32) (h0 : Heap) (v : Option Value) (h : Heap) : Prop := (∃ (b1 : Addr) (kc2 : ClassId), v = none ∧ (¬ (255 : Int32) < i1) ∧ (¬ (255 : Int32) < i2) ∧ (¬ (255 : Int32) < i3) ∧ (¬ (255 : Int32) < i4) ∧ (¬ (255 : Int32) < i5) ∧ (¬ (255 : Int32) < i6) ∧ Keep h0 h [a1] ∧ h0.size ≤ b1 ∧ Exa Z h a1 "java/lang/String" ∧ Fld Z h a1 "java/lang/String" "coder" "B" (.int 0) ∧ Fld Z h a1 "java/lang/String" "value" "[B" (.ref b1) ∧ Ar Z h b1 kc2 .byte [.int (cB8 i1), .int (cB8 i2), .int (cB8 i3), .int (cB8 i4), .int (cB8 i5), .int (cB8 i6)] ∧ Exa Z h b1 "[B") ∨ (∃ (b16 : Addr) (kc17 : ClassId), v = none ∧ Keep h0 h [a1] ∧ h0.size ≤ b16 ∧ Exa Z h a1 "java/lang/String" ∧ Fld Z h a1 "java/lang/String" "coder" "B" (.int 1) ∧ Fld Z h a1 "java/lang/String" "value" "[B" (.ref b16) ∧ Ar Z h b16 kc17 .byte [.int (cL8 i1), .int (cH8 i1), .int (cL8 i2), .int (cH8 i2), .int (cL8 i3), .int (cH8 i3), .int (cL8 i4), .int (cH8 i4), .int (cL8 i5), .int (cH8 i5), .int (cL8 i6), .int (cH8 i6)] ∧ Exa Z h b16 "[B")
def R_init_91 : Room := { frames := 5, cells := 2, slots := 18, locals := 74 }
theorem rm_init_91 {w : Bool} {Z : State} {a0 : Array Value} (hw : HW a0 Z) (Ts : List String) (a1 : Addr) (a2 : Addr) (i1 : Int32) (i2 : Int32) (i3 : Int32) (i4 : Int32) (i5 : Int32) (i6 : Int32) (c1 : ClassId) (cs : Int32) (h0 : Heap) (f : Nat) (Zf : Z.heap.size ≤ f) (Z0 : f ≤ h0.size) (A_a2 : Ar Z h0 a2 c1 .char [.int i1, .int i2, .int i3, .int i4, .int i5, .int i6]) (g_a1 : f ≤ a1) (E_a2 : Exa Z h0 a2 "[C") (E_a1 : Exa Z h0 a1 "java/lang/String") (F_coder_a1 : Fld Z h0 a1 "java/lang/String" "coder" "B" (.int 0)) (F_value_a1 : Fld Z h0 a1 "java/lang/String" "value" "[B" .null) (r_i1 : 0 ≤ i1.toInt ∧ i1.toInt ≤ 65535) (r_i2 : 0 ≤ i2.toInt ∧ i2.toInt ≤ 65535) (r_i3 : 0 ≤ i3.toInt ∧ i3.toInt ≤ 65535) (r_i4 : 0 ≤ i4.toInt ∧ i4.toInt ≤ 65535) (r_i5 : 0 ≤ i5.toInt ∧ i5.toInt ≤ 65535) (r_i6 : 0 ≤ i6.toInt ∧ i6.toInt ≤ 65535) (S_cs : G_S_cs Z cs) (S__assertionsDisabled : G_S__assertionsDisabled Z) (S_HI_BYTE_SHIFT : G_S_HI_BYTE_SHIFT Z) (S_LO_BYTE_SHIFT : G_S_LO_BYTE_SHIFT Z) (hcs : ¬ cs = 0) :
  Con w [] Z mn2 jdk_42_method_3_code 2 none R_init_91 Ts Ts f #[.ref a1, .ref a2] h0 (Q_init_91 Z a1 i1 i2 i3 i4 i5 i6 h0) := by
 refine con_of f #[vR a1, vR a2] (plainFor_of_name pn_1) (fun m => rfl) Zf ?_
 intro C H hX0
 refine r_aloadN H 1 d_j42_3_0 ?_
 refine r_aloadN H 2 d_j42_3_1 ?_
 refine r_iconst H 3 0 d_j42_3_2 ?_
 refine r_aloadN H 4 d_j42_3_3 ?_
 refine r_alen H 5 6 d_j42_3_4 A_a2 ?_
 refine r_null H 6 d_j42_3_5 ?_
 refine r_special (a := a1) (argsL := [.ref a2, .int 0, .int 6, .null]) (rest := []) (W := 0) H 9 d_j42_3_6 (tw11 hw) (tw12 hw) (tw7 hw) (tw14 hw) (lenOf pd_1 rfl) (rm_init_92 hw Ts a1 a2 i1 i2 i3 i4 i5 i6 c1 cs h0 f Zf Z0 A_a2 E_a2 E_a1 F_coder_a1 g_a1 F_value_a1 r_i1 r_i2 r_i3 r_i4 r_i5 r_i6 S_cs S__assertionsDisabled S_HI_BYTE_SHIFT S_LO_BYTE_SHIFT hcs) ?_
 rintro _ hh25 (⟨b1, kc2, rfl, c4, c5, c6, c7, c8, c9, K3, g10, q11, q12, q13, q14, q15⟩ | ⟨b16, kc17, rfl, K18, g19, q20, q21, q22, q23, q24⟩)
 ·
  have k32 : Keep h0 hh25 [a1] := Keep.trans (Keep.refl h0 [a1]) K3 (allS (Or.inl (List.mem_of_getElem? (i := 0) rfl)) all0)
  exact r_return H d_j42_3_9 (Or.inl ⟨b1, kc2, rfl, c4, c5, c6, c7, c8, c9, k32, (nlt nlr g10), q11, q12, q13, q14, q15⟩)
 ·
  have k33 : Keep h0 hh25 [a1] := Keep.trans (Keep.refl h0 [a1]) K18 (allS (Or.inl (List.mem_of_getElem? (i := 0) rfl)) all0)
  exact r_return H d_j42_3_9 (Or.inr (⟨b16, kc17, rfl, k33, (nlt nlr g19), q20, q21, q22, q23, q24⟩))
def fn_readAlikeByEitherSetting_106 (i1 : Int32) (i2 : Int32) (i3 : Int32) (i4 : Int32) (i5 : Int32) (i6 : Int32) : Int32 := (if (if i2 = (39 : Int32) then (if ((if i1 = (92 : Int32) then (1 : Int32) else (0 : Int32)) % (2 : Int32)) = (0 : Int32) then (1 : Int32) else (0 : Int32)) else (1 : Int32)) = (0 : Int32) then (if i2 = (39 : Int32) then (if ((if i1 = (92 : Int32) then (1 : Int32) else (0 : Int32)) % (2 : Int32)) = (0 : Int32) then (1 : Int32) else (0 : Int32)) else (1 : Int32)) else (if (if i3 = (39 : Int32) then (if ((if i2 = (92 : Int32) then ((if i1 = (92 : Int32) then (1 : Int32) else (0 : Int32)) + (1 : Int32)) else (0 : Int32)) % (2 : Int32)) = (0 : Int32) then (1 : Int32) else (0 : Int32)) else (1 : Int32)) = (0 : Int32) then (if i3 = (39 : Int32) then (if ((if i2 = (92 : Int32) then ((if i1 = (92 : Int32) then (1 : Int32) else (0 : Int32)) + (1 : Int32)) else (0 : Int32)) % (2 : Int32)) = (0 : Int32) then (1 : Int32) else (0 : Int32)) else (1 : Int32)) else (if (if i4 = (39 : Int32) then (if ((if i3 = (92 : Int32) then ((if i2 = (92 : Int32) then ((if i1 = (92 : Int32) then (1 : Int32) else (0 : Int32)) + (1 : Int32)) else (0 : Int32)) + (1 : Int32)) else (0 : Int32)) % (2 : Int32)) = (0 : Int32) then (1 : Int32) else (0 : Int32)) else (1 : Int32)) = (0 : Int32) then (if i4 = (39 : Int32) then (if ((if i3 = (92 : Int32) then ((if i2 = (92 : Int32) then ((if i1 = (92 : Int32) then (1 : Int32) else (0 : Int32)) + (1 : Int32)) else (0 : Int32)) + (1 : Int32)) else (0 : Int32)) % (2 : Int32)) = (0 : Int32) then (1 : Int32) else (0 : Int32)) else (1 : Int32)) else (if (if i5 = (39 : Int32) then (if ((if i4 = (92 : Int32) then ((if i3 = (92 : Int32) then ((if i2 = (92 : Int32) then ((if i1 = (92 : Int32) then (1 : Int32) else (0 : Int32)) + (1 : Int32)) else (0 : Int32)) + (1 : Int32)) else (0 : Int32)) + (1 : Int32)) else (0 : Int32)) % (2 : Int32)) = (0 : Int32) then (1 : Int32) else (0 : Int32)) else (1 : Int32)) = (0 : Int32) then (if i5 = (39 : Int32) then (if ((if i4 = (92 : Int32) then ((if i3 = (92 : Int32) then ((if i2 = (92 : Int32) then ((if i1 = (92 : Int32) then (1 : Int32) else (0 : Int32)) + (1 : Int32)) else (0 : Int32)) + (1 : Int32)) else (0 : Int32)) + (1 : Int32)) else (0 : Int32)) % (2 : Int32)) = (0 : Int32) then (1 : Int32) else (0 : Int32)) else (1 : Int32)) else (if (if i6 = (39 : Int32) then (if ((if i5 = (92 : Int32) then ((if i4 = (92 : Int32) then ((if i3 = (92 : Int32) then ((if i2 = (92 : Int32) then ((if i1 = (92 : Int32) then (1 : Int32) else (0 : Int32)) + (1 : Int32)) else (0 : Int32)) + (1 : Int32)) else (0 : Int32)) + (1 : Int32)) else (0 : Int32)) + (1 : Int32)) else (0 : Int32)) % (2 : Int32)) = (0 : Int32) then (1 : Int32) else (0 : Int32)) else (1 : Int32)) = (0 : Int32) then (if i6 = (39 : Int32) then (if ((if i5 = (92 : Int32) then ((if i4 = (92 : Int32) then ((if i3 = (92 : Int32) then ((if i2 = (92 : Int32) then ((if i1 = (92 : Int32) then (1 : Int32) else (0 : Int32)) + (1 : Int32)) else (0 : Int32)) + (1 : Int32)) else (0 : Int32)) + (1 : Int32)) else (0 : Int32)) + (1 : Int32)) else (0 : Int32)) % (2 : Int32)) = (0 : Int32) then (1 : Int32) else (0 : Int32)) else (1 : Int32)) else (if i6 = (39 : Int32) then (if ((if i5 = (92 : Int32) then ((if i4 = (92 : Int32) then ((if i3 = (92 : Int32) then ((if i2 = (92 : Int32) then ((if i1 = (92 : Int32) then (1 : Int32) else (0 : Int32)) + (1 : Int32)) else (0 : Int32)) + (1 : Int32)) else (0 : Int32)) + (1 : Int32)) else (0 : Int32)) + (1 : Int32)) else (0 : Int32)) % (2 : Int32)) = (0 : Int32) then (1 : Int32) else (0 : Int32)) else (1 : Int32)))))))
def Q_readAlikeByEitherSetting_106 (Z : State) (i1 : Int32) (i2 : Int32) (i3 : Int32) (i4 : Int32) (i5 : Int32) (i6 : Int32) (h0 : Heap) (v : Option Value) (h : Heap) : Prop := ∃ z : Int32, v = some (.int z) ∧ h0 = h ∧ (fn_readAlikeByEitherSetting_106 i1 i2 i3 i4 i5 i6) = z ∧ (0 ≤ z.toInt ∧ z.toInt ≤ 1)
def R_readAlikeByEitherSetting_106 : Room := { frames := 4, cells := 0, slots := 0, locals := 53 }
theorem rm_readAlikeByEitherSetting_106 {w : Bool} {Z : State} {a0 : Array Value} (hw : HW a0 Z) (Ts : List String) (a1 : Addr) (a2 : Addr) (i1 : Int32) (i2 : Int32) (i3 : Int32) (i4 : Int32) (i5 : Int32) (i6 : Int32) (c1 : ClassId) (cs : Int32) (sio : Value) (h0 : Heap) (f : Nat) (Zf : Z.heap.size ≤ f) (Z0 : f ≤ h0.size) (E_a1 : Exa Z h0 a1 "java/lang/String") (F_value_a1 : Fld Z h0 a1 "java/lang/String" "value" "[B" (.ref a2)) (A_a2 : Ar Z h0 a2 c1 .byte [.int (cB8 i1), .int (cB8 i2), .int (cB8 i3), .int (cB8 i4), .int (cB8 i5), .int (cB8 i6)]) (F_coder_a1 : Fld Z h0 a1 "java/lang/String" "coder" "B" (.int 0)) (r_i1 : 0 ≤ i1.toInt ∧ i1.toInt ≤ 255) (r_i2 : 0 ≤ i2.toInt ∧ i2.toInt ≤ 255) (r_i3 : 0 ≤ i3.toInt ∧ i3.toInt ≤ 255) (r_i4 : 0 ≤ i4.toInt ∧ i4.toInt ≤ 255) (r_i5 : 0 ≤ i5.toInt ∧ i5.toInt ≤ 255) (r_i6 : 0 ≤ i6.toInt ∧ i6.toInt ≤ 255) (S_cs : G_S_cs Z cs) (S_sio : G_S_sio Z sio) (hsio : G_hsio Z sio) (hcs : ¬ cs = 0) :
  Con w [] Z mn5 prog_52_method_4_code 5 (some .boolean) R_readAlikeByEitherSetting_106 Ts Ts f #[.ref a1] h0 (Q_readAlikeByEitherSetting_106 Z i1 i2 i3 i4 i5 i6 h0) := by
 refine con_of f #[vR a1, .unset, .unset, .unset, .unset] (plainFor_of_name pn_2) (fun m => rfl) Zf ?_
 intro C H hX0
 refine r_iconst H 1 1 d_g52_4_0 ?_
 refine r_istoreN H 2 #[vR a1, vI 1, .unset, .unset, .unset] d_g52_4_1 ?_
 refine r_iconst H 3 0 d_g52_4_2 ?_
 refine r_istoreN H 4 #[vR a1, vI 1, vI 0, .unset, .unset] d_g52_4_3 ?_
 refine r_iconst H 5 0 d_g52_4_4 ?_
 refine r_istoreN H 6 #[vR a1, vI 1, vI 0, vI 0, .unset] d_g52_4_5 ?_
 refine r_iloadN H 7 d_g52_4_6 ?_
 refine r_ifeqF H 10 d_g52_4_7 rfl (by decide) ?_
 refine r_iloadN H 11 d_g52_4_10 ?_
 refine r_aloadN H 12 d_g52_4_11 ?_
 refine r_virtual (z := mn4) (a := a1) (argsL := []) (rest := [.int 0]) (W := 1) H 15 d_g52_4_12 (tw30 hw) (tw31 hw) (nf_sel (tw33 hw)) (tw33 hw) (tw32 hw) (tw7 hw) (tw34 hw) E_a1 (lenOf pd_4 rfl) (rm_length_19 hw Ts a1 a2 c1 _ (6 : Int32) cs h0 f Zf Z0 F_value_a1 A_a2 E_a1 F_coder_a1 rfl S_cs hcs) ?_
 rintro _ _ ⟨p1, rfl, ep1, rfl⟩
 have hzp1 : (6 : Int32) = p1 := by rw [← ep1]; decide
 subst hzp1
 refine r_icmpgeF H 18 d_g52_4_15 ?_
 refine r_aloadN H 19 d_g52_4_18 ?_
 refine r_iloadN H 20 d_g52_4_19 ?_
 refine r_virtual (z := mn18) (a := a1) (argsL := [.int 0]) (rest := []) (W := 0) H 23 d_g52_4_20 (tw51 hw) (tw52 hw) (nf_sel (tw54 hw)) (tw54 hw) (tw53 hw) (tw7 hw) (tw55 hw) E_a1 (lenOf pd_16 rfl) (rm_charAt_20 hw Ts a1 (0 : Int32) a2 c1 _ (6 : Int32) (cB8 i1) cs sio h0 f Zf Z0 E_a1 F_coder_a1 F_value_a1 A_a2 rfl rfl (by decide) (by decide) (by decide) S_cs S_sio hsio hcs) ?_
 rintro _ _ ⟨p3, rfl, ep3, rp3, rfl⟩
 have hzp3 : i1 = p3 := by rw [← ep3]; exact (own_l8 i1 (by have := r_i1; omega)).symm
 subst hzp3
 refine r_istore H 25 #[vR a1, vI 1, vI 0, vI 0, vI i1] d_g52_4_23 ?_
 refine r_iload H 27 d_g52_4_25 ?_
 refine r_bipush H 29 39 d_g52_4_27 ?_
 refine Run.join (P := fun _ => True) (pcB := 43) (LB := fun _ => #[vR a1, vI 1, vI 0, vI 0, vI i1]) (SB := fun _ => [.int 1]) (fun key => ?_) ?_
 ·
  refine r_icmpne H 38 32 d_g52_4_29 (fun c5 => ?_) (fun c5 => ?_)
  ·
   refine r_iconst H 39 1 d_g52_4_38 ?_
   refine r_goto H 43 d_g52_4_39 ?_
   exact key 0 trivial
  ·
   refine r_iloadN H 33 d_g52_4_32 ?_
   refine r_iconst H 34 2 d_g52_4_33 ?_
   refine r_irem H 35 (0 : Int32) d_g52_4_34 (by decide) ?_
   refine r_ifneF H 38 d_g52_4_35 rfl (by decide) ?_
   refine r_iconst H 39 1 d_g52_4_38 ?_
   refine r_goto H 43 d_g52_4_39 ?_
   exact key 0 trivial
 rintro _ _
 refine r_istoreN H 44 #[vR a1, vI 1, vI 0, vI 0, vI i1] d_g52_4_43 ?_
 refine r_iload H 46 d_g52_4_44 ?_
 refine r_bipush H 48 92 d_g52_4_46 ?_
 refine Run.join (P := fun z => (if i1 = (92 : Int32) then (1 : Int32) else (0 : Int32)) = z ∧ (0 ≤ z.toInt ∧ z.toInt ≤ 1)) (pcB := 58) (LB := fun z => #[vR a1, vI 1, vI 0, vI 0, vI i1]) (SB := fun z => [.int z]) (fun key => ?_) ?_
 ·
  refine r_icmpne H 57 51 d_g52_4_48 (fun c7 => ?_) (fun c7 => ?_)
  ·
   refine r_iconst H 58 0 d_g52_4_57 ?_
   exact key (0 : Int32) ⟨(by rw [if_neg c7]), (by decide)⟩
  ·
   refine r_iloadN H 52 d_g52_4_51 ?_
   refine r_iconst H 53 1 d_g52_4_52 ?_
   refine r_iadd H 54 1 d_g52_4_53 (by decide) ?_
   refine r_goto H 58 d_g52_4_54 ?_
   exact key (1 : Int32) ⟨(by rw [if_pos c7]), (by decide)⟩
 rintro p9 ⟨ep9, rp9⟩
 refine r_istoreN H 59 #[vR a1, vI 1, vI p9, vI 0, vI i1] d_g52_4_58 ?_
 refine r_iinc H 62 #[vR a1, vI 1, vI p9, vI 1, vI i1] 1 d_g52_4_59 ?_
 refine r_goto H 6 d_g52_4_62 ?_
 refine r_iloadN H 7 d_g52_4_6 ?_
 refine r_ifeqF H 10 d_g52_4_7 rfl (by decide) ?_
 refine r_iloadN H 11 d_g52_4_10 ?_
 refine r_aloadN H 12 d_g52_4_11 ?_
 refine r_virtual (z := mn4) (a := a1) (argsL := []) (rest := [.int 1]) (W := 1) H 15 d_g52_4_12 (tw30 hw) (tw31 hw) (nf_sel (tw33 hw)) (tw33 hw) (tw32 hw) (tw7 hw) (tw34 hw) E_a1 (lenOf pd_4 rfl) (rm_length_19 hw Ts a1 a2 c1 _ (6 : Int32) cs h0 f Zf Z0 F_value_a1 A_a2 E_a1 F_coder_a1 rfl S_cs hcs) ?_
 rintro _ _ ⟨p10, rfl, ep10, rfl⟩
 have hzp10 : (6 : Int32) = p10 := by rw [← ep10]; decide
 subst hzp10
 refine r_icmpgeF H 18 d_g52_4_15 ?_
 refine r_aloadN H 19 d_g52_4_18 ?_
 refine r_iloadN H 20 d_g52_4_19 ?_
 refine r_virtual (z := mn18) (a := a1) (argsL := [.int 1]) (rest := []) (W := 0) H 23 d_g52_4_20 (tw51 hw) (tw52 hw) (nf_sel (tw54 hw)) (tw54 hw) (tw53 hw) (tw7 hw) (tw55 hw) E_a1 (lenOf pd_16 rfl) (rm_charAt_20 hw Ts a1 (1 : Int32) a2 c1 _ (6 : Int32) (cB8 i2) cs sio h0 f Zf Z0 E_a1 F_coder_a1 F_value_a1 A_a2 rfl rfl (by decide) (by decide) (by decide) S_cs S_sio hsio hcs) ?_
 rintro _ _ ⟨p12, rfl, ep12, rp12, rfl⟩
 have hzp12 : i2 = p12 := by rw [← ep12]; exact (own_l8 i2 (by have := r_i2; omega)).symm
 subst hzp12
 refine r_istore H 25 #[vR a1, vI 1, vI p9, vI 1, vI i2] d_g52_4_23 ?_
 refine r_iload H 27 d_g52_4_25 ?_
 refine r_bipush H 29 39 d_g52_4_27 ?_
 refine Run.join (P := fun z => (if i2 = (39 : Int32) then (if (p9 % (2 : Int32)) = (0 : Int32) then (1 : Int32) else (0 : Int32)) else (1 : Int32)) = z ∧ (0 ≤ z.toInt ∧ z.toInt ≤ 1)) (pcB := 43) (LB := fun z => #[vR a1, vI 1, vI p9, vI 1, vI i2]) (SB := fun z => [.int z]) (fun key => ?_) ?_
 ·
  refine r_icmpne H 38 32 d_g52_4_29 (fun c14 => ?_) (fun c14 => ?_)
  ·
   refine r_iconst H 39 1 d_g52_4_38 ?_
   refine r_goto H 43 d_g52_4_39 ?_
   exact key (1 : Int32) ⟨(by rw [if_neg c14]), (by decide)⟩
  ·
   refine r_iloadN H 33 d_g52_4_32 ?_
   refine r_iconst H 34 2 d_g52_4_33 ?_
   obtain ⟨p16, ep16, rp16⟩ : ∃ p : Int32, (p9 % (2 : Int32)) = p ∧ 0 ≤ p.toInt ∧ p.toInt ≤ 1 := ⟨_, rfl, (by have := rp9; have h := (c_irem p9 (2 : Int32) 2 (by decide)).1 (by omega); omega)⟩
   refine r_irem H 35 p16 d_g52_4_34 ep16 ?_
   refine Run.join (P := fun z => (if p16 = (0 : Int32) then (1 : Int32) else (0 : Int32)) = z ∧ (0 ≤ z.toInt ∧ z.toInt ≤ 1)) (pcB := 43) (LB := fun z => #[vR a1, vI 1, vI p9, vI 1, vI i2]) (SB := fun z => [.int z]) (fun key => ?_) ?_
   ·
    refine r_ifne H 42 38 d_g52_4_35 (fun c17 => ?_) (fun c17 => ?_)
    ·
     refine r_iconst H 43 0 d_g52_4_42 ?_
     exact key (0 : Int32) ⟨(by rw [if_neg c17]), (by decide)⟩
    ·
     refine r_iconst H 39 1 d_g52_4_38 ?_
     refine r_goto H 43 d_g52_4_39 ?_
     exact key (1 : Int32) ⟨(by rw [if_pos c17]), (by decide)⟩
   rintro p20 ⟨ep20, rp20⟩
   exact key p20 ⟨(by subst ep16 ep20; rw [if_pos c14]), (by have := rp20; omega)⟩
 rintro p21 ⟨ep21, rp21⟩
 refine r_istoreN H 44 #[vR a1, vI p21, vI p9, vI 1, vI i2] d_g52_4_43 ?_
 refine r_iload H 46 d_g52_4_44 ?_
 refine r_bipush H 48 92 d_g52_4_46 ?_
 refine Run.join (P := fun z => (if i2 = (92 : Int32) then (p9 + (1 : Int32)) else (0 : Int32)) = z ∧ (0 ≤ z.toInt ∧ z.toInt ≤ 2)) (pcB := 58) (LB := fun z => #[vR a1, vI p21, vI p9, vI 1, vI i2]) (SB := fun z => [.int z]) (fun key => ?_) ?_
 ·
  refine r_icmpne H 57 51 d_g52_4_48 (fun c22 => ?_) (fun c22 => ?_)
  ·
   refine r_iconst H 58 0 d_g52_4_57 ?_
   exact key (0 : Int32) ⟨(by rw [if_neg c22]), (by decide)⟩
  ·
   refine r_iloadN H 52 d_g52_4_51 ?_
   refine r_iconst H 53 1 d_g52_4_52 ?_
   obtain ⟨p24, ep24, rp24⟩ : ∃ p : Int32, (p9 + (1 : Int32)) = p ∧ 1 ≤ p.toInt ∧ p.toInt ≤ 2 := ⟨_, rfl, (by have := rp9; have : (1 : Int32).toInt = 1 := (by decide); have h1 := c_iadd p9 (1 : Int32); have h2 := rng32 (p9 + (1 : Int32)); omega)⟩
   refine r_iadd H 54 p24 d_g52_4_53 ep24 ?_
   refine r_goto H 58 d_g52_4_54 ?_
   exact key p24 ⟨(by subst ep24; rw [if_pos c22]), (by have := rp24; omega)⟩
 rintro p25 ⟨ep25, rp25⟩
 refine r_istoreN H 59 #[vR a1, vI p21, vI p25, vI 1, vI i2] d_g52_4_58 ?_
 refine r_iinc H 62 #[vR a1, vI p21, vI p25, vI 2, vI i2] 2 d_g52_4_59 ?_
 refine r_goto H 6 d_g52_4_62 ?_
 refine r_iloadN H 7 d_g52_4_6 ?_
 refine r_ifeq H 65 10 d_g52_4_7 (fun c26 => ?_) (fun c26 => ?_)
 ·
  have rr27 : 0 ≤ p21.toInt ∧ p21.toInt ≤ 0 := by have := rp21; have : (0 : Int32).toInt = 0 := (by decide); have hc_ := c26; simp only [Int32.lt_iff_toInt_lt, ← Int32.toInt_inj] at hc_; omega
  refine r_iloadN H 66 d_g52_4_65 ?_
  subst ep9 ep21 ep25
  exact r_nreturn (if i2 = (39 : Int32) then (if ((if i1 = (92 : Int32) then (1 : Int32) else (0 : Int32)) % (2 : Int32)) = (0 : Int32) then (1 : Int32) else (0 : Int32)) else (1 : Int32)) H d_g52_4_66 (nar_bool_id (by have := rr27; omega)) (⟨_, rfl, rfl, (by unfold fn_readAlikeByEitherSetting_106; rw [if_pos c26]), (by have := rr27; omega)⟩)
 ·
  refine r_iloadN H 11 d_g52_4_10 ?_
  refine r_aloadN H 12 d_g52_4_11 ?_
  refine r_virtual (z := mn4) (a := a1) (argsL := []) (rest := [.int 2]) (W := 1) H 15 d_g52_4_12 (tw30 hw) (tw31 hw) (nf_sel (tw33 hw)) (tw33 hw) (tw32 hw) (tw7 hw) (tw34 hw) E_a1 (lenOf pd_4 rfl) (rm_length_19 hw Ts a1 a2 c1 _ (6 : Int32) cs h0 f Zf Z0 F_value_a1 A_a2 E_a1 F_coder_a1 rfl S_cs hcs) ?_
  rintro _ _ ⟨p29, rfl, ep29, rfl⟩
  have hzp29 : (6 : Int32) = p29 := by rw [← ep29]; decide
  subst hzp29
  refine r_icmpgeF H 18 d_g52_4_15 ?_
  refine r_aloadN H 19 d_g52_4_18 ?_
  refine r_iloadN H 20 d_g52_4_19 ?_
  refine r_virtual (z := mn18) (a := a1) (argsL := [.int 2]) (rest := []) (W := 0) H 23 d_g52_4_20 (tw51 hw) (tw52 hw) (nf_sel (tw54 hw)) (tw54 hw) (tw53 hw) (tw7 hw) (tw55 hw) E_a1 (lenOf pd_16 rfl) (rm_charAt_20 hw Ts a1 (2 : Int32) a2 c1 _ (6 : Int32) (cB8 i3) cs sio h0 f Zf Z0 E_a1 F_coder_a1 F_value_a1 A_a2 rfl rfl (by decide) (by decide) (by decide) S_cs S_sio hsio hcs) ?_
  rintro _ _ ⟨p31, rfl, ep31, rp31, rfl⟩
  have hzp31 : i3 = p31 := by rw [← ep31]; exact (own_l8 i3 (by have := r_i3; omega)).symm
  subst hzp31
  refine r_istore H 25 #[vR a1, vI p21, vI p25, vI 2, vI i3] d_g52_4_23 ?_
  refine r_iload H 27 d_g52_4_25 ?_
  refine r_bipush H 29 39 d_g52_4_27 ?_
  refine Run.join (P := fun z => (if i3 = (39 : Int32) then (if (p25 % (2 : Int32)) = (0 : Int32) then (1 : Int32) else (0 : Int32)) else (1 : Int32)) = z ∧ (0 ≤ z.toInt ∧ z.toInt ≤ 1)) (pcB := 43) (LB := fun z => #[vR a1, vI p21, vI p25, vI 2, vI i3]) (SB := fun z => [.int z]) (fun key => ?_) ?_
  ·
   refine r_icmpne H 38 32 d_g52_4_29 (fun c33 => ?_) (fun c33 => ?_)
   ·
    refine r_iconst H 39 1 d_g52_4_38 ?_
    refine r_goto H 43 d_g52_4_39 ?_
    exact key (1 : Int32) ⟨(by rw [if_neg c33]), (by decide)⟩
   ·
    refine r_iloadN H 33 d_g52_4_32 ?_
    refine r_iconst H 34 2 d_g52_4_33 ?_
    obtain ⟨p35, ep35, rp35⟩ : ∃ p : Int32, (p25 % (2 : Int32)) = p ∧ 0 ≤ p.toInt ∧ p.toInt ≤ 1 := ⟨_, rfl, (by have := rp25; have h := (c_irem p25 (2 : Int32) 2 (by decide)).1 (by omega); omega)⟩
    refine r_irem H 35 p35 d_g52_4_34 ep35 ?_
    refine Run.join (P := fun z => (if p35 = (0 : Int32) then (1 : Int32) else (0 : Int32)) = z ∧ (0 ≤ z.toInt ∧ z.toInt ≤ 1)) (pcB := 43) (LB := fun z => #[vR a1, vI p21, vI p25, vI 2, vI i3]) (SB := fun z => [.int z]) (fun key => ?_) ?_
    ·
     refine r_ifne H 42 38 d_g52_4_35 (fun c36 => ?_) (fun c36 => ?_)
     ·
      refine r_iconst H 43 0 d_g52_4_42 ?_
      exact key (0 : Int32) ⟨(by rw [if_neg c36]), (by decide)⟩
     ·
      refine r_iconst H 39 1 d_g52_4_38 ?_
      refine r_goto H 43 d_g52_4_39 ?_
      exact key (1 : Int32) ⟨(by rw [if_pos c36]), (by decide)⟩
    rintro p39 ⟨ep39, rp39⟩
    exact key p39 ⟨(by subst ep35 ep39; rw [if_pos c33]), (by have := rp39; omega)⟩
  rintro p40 ⟨ep40, rp40⟩
  refine r_istoreN H 44 #[vR a1, vI p40, vI p25, vI 2, vI i3] d_g52_4_43 ?_
  refine r_iload H 46 d_g52_4_44 ?_
  refine r_bipush H 48 92 d_g52_4_46 ?_
  refine Run.join (P := fun z => (if i3 = (92 : Int32) then (p25 + (1 : Int32)) else (0 : Int32)) = z ∧ (0 ≤ z.toInt ∧ z.toInt ≤ 3)) (pcB := 58) (LB := fun z => #[vR a1, vI p40, vI p25, vI 2, vI i3]) (SB := fun z => [.int z]) (fun key => ?_) ?_
  ·
   refine r_icmpne H 57 51 d_g52_4_48 (fun c41 => ?_) (fun c41 => ?_)
   ·
    refine r_iconst H 58 0 d_g52_4_57 ?_
    exact key (0 : Int32) ⟨(by rw [if_neg c41]), (by decide)⟩
   ·
    refine r_iloadN H 52 d_g52_4_51 ?_
    refine r_iconst H 53 1 d_g52_4_52 ?_
    obtain ⟨p43, ep43, rp43⟩ : ∃ p : Int32, (p25 + (1 : Int32)) = p ∧ 1 ≤ p.toInt ∧ p.toInt ≤ 3 := ⟨_, rfl, (by have := rp25; have : (1 : Int32).toInt = 1 := (by decide); have h1 := c_iadd p25 (1 : Int32); have h2 := rng32 (p25 + (1 : Int32)); omega)⟩
    refine r_iadd H 54 p43 d_g52_4_53 ep43 ?_
    refine r_goto H 58 d_g52_4_54 ?_
    exact key p43 ⟨(by subst ep43; rw [if_pos c41]), (by have := rp43; omega)⟩
  rintro p44 ⟨ep44, rp44⟩
  refine r_istoreN H 59 #[vR a1, vI p40, vI p44, vI 2, vI i3] d_g52_4_58 ?_
  refine r_iinc H 62 #[vR a1, vI p40, vI p44, vI 3, vI i3] 3 d_g52_4_59 ?_
  refine r_goto H 6 d_g52_4_62 ?_
  refine r_iloadN H 7 d_g52_4_6 ?_
  refine r_ifeq H 65 10 d_g52_4_7 (fun c45 => ?_) (fun c45 => ?_)
  ·
   have rr46 : 0 ≤ p40.toInt ∧ p40.toInt ≤ 0 := by have := rp40; have : (0 : Int32).toInt = 0 := (by decide); have hc_ := c45; simp only [Int32.lt_iff_toInt_lt, ← Int32.toInt_inj] at hc_; omega
   refine r_iloadN H 66 d_g52_4_65 ?_
   subst ep9 ep21 ep25 ep40 ep44
   exact r_nreturn (if i3 = (39 : Int32) then (if ((if i2 = (92 : Int32) then ((if i1 = (92 : Int32) then (1 : Int32) else (0 : Int32)) + (1 : Int32)) else (0 : Int32)) % (2 : Int32)) = (0 : Int32) then (1 : Int32) else (0 : Int32)) else (1 : Int32)) H d_g52_4_66 (nar_bool_id (by have := rr46; omega)) (⟨_, rfl, rfl, (by unfold fn_readAlikeByEitherSetting_106; rw [if_neg c26, if_pos c45]), (by have := rr46; omega)⟩)
  ·
   refine r_iloadN H 11 d_g52_4_10 ?_
   refine r_aloadN H 12 d_g52_4_11 ?_
   refine r_virtual (z := mn4) (a := a1) (argsL := []) (rest := [.int 3]) (W := 1) H 15 d_g52_4_12 (tw30 hw) (tw31 hw) (nf_sel (tw33 hw)) (tw33 hw) (tw32 hw) (tw7 hw) (tw34 hw) E_a1 (lenOf pd_4 rfl) (rm_length_19 hw Ts a1 a2 c1 _ (6 : Int32) cs h0 f Zf Z0 F_value_a1 A_a2 E_a1 F_coder_a1 rfl S_cs hcs) ?_
   rintro _ _ ⟨p48, rfl, ep48, rfl⟩
   have hzp48 : (6 : Int32) = p48 := by rw [← ep48]; decide
   subst hzp48
   refine r_icmpgeF H 18 d_g52_4_15 ?_
   refine r_aloadN H 19 d_g52_4_18 ?_
   refine r_iloadN H 20 d_g52_4_19 ?_
   refine r_virtual (z := mn18) (a := a1) (argsL := [.int 3]) (rest := []) (W := 0) H 23 d_g52_4_20 (tw51 hw) (tw52 hw) (nf_sel (tw54 hw)) (tw54 hw) (tw53 hw) (tw7 hw) (tw55 hw) E_a1 (lenOf pd_16 rfl) (rm_charAt_20 hw Ts a1 (3 : Int32) a2 c1 _ (6 : Int32) (cB8 i4) cs sio h0 f Zf Z0 E_a1 F_coder_a1 F_value_a1 A_a2 rfl rfl (by decide) (by decide) (by decide) S_cs S_sio hsio hcs) ?_
   rintro _ _ ⟨p50, rfl, ep50, rp50, rfl⟩
   have hzp50 : i4 = p50 := by rw [← ep50]; exact (own_l8 i4 (by have := r_i4; omega)).symm
   subst hzp50
   refine r_istore H 25 #[vR a1, vI p40, vI p44, vI 3, vI i4] d_g52_4_23 ?_
   refine r_iload H 27 d_g52_4_25 ?_
   refine r_bipush H 29 39 d_g52_4_27 ?_
   refine Run.join (P := fun z => (if i4 = (39 : Int32) then (if (p44 % (2 : Int32)) = (0 : Int32) then (1 : Int32) else (0 : Int32)) else (1 : Int32)) = z ∧ (0 ≤ z.toInt ∧ z.toInt ≤ 1)) (pcB := 43) (LB := fun z => #[vR a1, vI p40, vI p44, vI 3, vI i4]) (SB := fun z => [.int z]) (fun key => ?_) ?_
   ·
    refine r_icmpne H 38 32 d_g52_4_29 (fun c52 => ?_) (fun c52 => ?_)
    ·
     refine r_iconst H 39 1 d_g52_4_38 ?_
     refine r_goto H 43 d_g52_4_39 ?_
     exact key (1 : Int32) ⟨(by rw [if_neg c52]), (by decide)⟩
    ·
     refine r_iloadN H 33 d_g52_4_32 ?_
     refine r_iconst H 34 2 d_g52_4_33 ?_
     obtain ⟨p54, ep54, rp54⟩ : ∃ p : Int32, (p44 % (2 : Int32)) = p ∧ 0 ≤ p.toInt ∧ p.toInt ≤ 1 := ⟨_, rfl, (by have := rp44; have h := (c_irem p44 (2 : Int32) 2 (by decide)).1 (by omega); omega)⟩
     refine r_irem H 35 p54 d_g52_4_34 ep54 ?_
     refine Run.join (P := fun z => (if p54 = (0 : Int32) then (1 : Int32) else (0 : Int32)) = z ∧ (0 ≤ z.toInt ∧ z.toInt ≤ 1)) (pcB := 43) (LB := fun z => #[vR a1, vI p40, vI p44, vI 3, vI i4]) (SB := fun z => [.int z]) (fun key => ?_) ?_
     ·
      refine r_ifne H 42 38 d_g52_4_35 (fun c55 => ?_) (fun c55 => ?_)
      ·
       refine r_iconst H 43 0 d_g52_4_42 ?_
       exact key (0 : Int32) ⟨(by rw [if_neg c55]), (by decide)⟩
      ·
       refine r_iconst H 39 1 d_g52_4_38 ?_
       refine r_goto H 43 d_g52_4_39 ?_
       exact key (1 : Int32) ⟨(by rw [if_pos c55]), (by decide)⟩
     rintro p58 ⟨ep58, rp58⟩
     exact key p58 ⟨(by subst ep54 ep58; rw [if_pos c52]), (by have := rp58; omega)⟩
   rintro p59 ⟨ep59, rp59⟩
   refine r_istoreN H 44 #[vR a1, vI p59, vI p44, vI 3, vI i4] d_g52_4_43 ?_
   refine r_iload H 46 d_g52_4_44 ?_
   refine r_bipush H 48 92 d_g52_4_46 ?_
   refine Run.join (P := fun z => (if i4 = (92 : Int32) then (p44 + (1 : Int32)) else (0 : Int32)) = z ∧ (0 ≤ z.toInt ∧ z.toInt ≤ 4)) (pcB := 58) (LB := fun z => #[vR a1, vI p59, vI p44, vI 3, vI i4]) (SB := fun z => [.int z]) (fun key => ?_) ?_
   ·
    refine r_icmpne H 57 51 d_g52_4_48 (fun c60 => ?_) (fun c60 => ?_)
    ·
     refine r_iconst H 58 0 d_g52_4_57 ?_
     exact key (0 : Int32) ⟨(by rw [if_neg c60]), (by decide)⟩
    ·
     refine r_iloadN H 52 d_g52_4_51 ?_
     refine r_iconst H 53 1 d_g52_4_52 ?_
     obtain ⟨p62, ep62, rp62⟩ : ∃ p : Int32, (p44 + (1 : Int32)) = p ∧ 1 ≤ p.toInt ∧ p.toInt ≤ 4 := ⟨_, rfl, (by have := rp44; have : (1 : Int32).toInt = 1 := (by decide); have h1 := c_iadd p44 (1 : Int32); have h2 := rng32 (p44 + (1 : Int32)); omega)⟩
     refine r_iadd H 54 p62 d_g52_4_53 ep62 ?_
     refine r_goto H 58 d_g52_4_54 ?_
     exact key p62 ⟨(by subst ep62; rw [if_pos c60]), (by have := rp62; omega)⟩
   rintro p63 ⟨ep63, rp63⟩
   refine r_istoreN H 59 #[vR a1, vI p59, vI p63, vI 3, vI i4] d_g52_4_58 ?_
   refine r_iinc H 62 #[vR a1, vI p59, vI p63, vI 4, vI i4] 4 d_g52_4_59 ?_
   refine r_goto H 6 d_g52_4_62 ?_
   refine r_iloadN H 7 d_g52_4_6 ?_
   refine r_ifeq H 65 10 d_g52_4_7 (fun c64 => ?_) (fun c64 => ?_)
   ·
    have rr65 : 0 ≤ p59.toInt ∧ p59.toInt ≤ 0 := by have := rp59; have : (0 : Int32).toInt = 0 := (by decide); have hc_ := c64; simp only [Int32.lt_iff_toInt_lt, ← Int32.toInt_inj] at hc_; omega
    refine r_iloadN H 66 d_g52_4_65 ?_
    subst ep9 ep21 ep25 ep40 ep44 ep59 ep63
    exact r_nreturn (if i4 = (39 : Int32) then (if ((if i3 = (92 : Int32) then ((if i2 = (92 : Int32) then ((if i1 = (92 : Int32) then (1 : Int32) else (0 : Int32)) + (1 : Int32)) else (0 : Int32)) + (1 : Int32)) else (0 : Int32)) % (2 : Int32)) = (0 : Int32) then (1 : Int32) else (0 : Int32)) else (1 : Int32)) H d_g52_4_66 (nar_bool_id (by have := rr65; omega)) (⟨_, rfl, rfl, (by unfold fn_readAlikeByEitherSetting_106; rw [if_neg c26, if_neg c45, if_pos c64]), (by have := rr65; omega)⟩)
   ·
    refine r_iloadN H 11 d_g52_4_10 ?_
    refine r_aloadN H 12 d_g52_4_11 ?_
    refine r_virtual (z := mn4) (a := a1) (argsL := []) (rest := [.int 4]) (W := 1) H 15 d_g52_4_12 (tw30 hw) (tw31 hw) (nf_sel (tw33 hw)) (tw33 hw) (tw32 hw) (tw7 hw) (tw34 hw) E_a1 (lenOf pd_4 rfl) (rm_length_19 hw Ts a1 a2 c1 _ (6 : Int32) cs h0 f Zf Z0 F_value_a1 A_a2 E_a1 F_coder_a1 rfl S_cs hcs) ?_
    rintro _ _ ⟨p67, rfl, ep67, rfl⟩
    have hzp67 : (6 : Int32) = p67 := by rw [← ep67]; decide
    subst hzp67
    refine r_icmpgeF H 18 d_g52_4_15 ?_
    refine r_aloadN H 19 d_g52_4_18 ?_
    refine r_iloadN H 20 d_g52_4_19 ?_
    refine r_virtual (z := mn18) (a := a1) (argsL := [.int 4]) (rest := []) (W := 0) H 23 d_g52_4_20 (tw51 hw) (tw52 hw) (nf_sel (tw54 hw)) (tw54 hw) (tw53 hw) (tw7 hw) (tw55 hw) E_a1 (lenOf pd_16 rfl) (rm_charAt_20 hw Ts a1 (4 : Int32) a2 c1 _ (6 : Int32) (cB8 i5) cs sio h0 f Zf Z0 E_a1 F_coder_a1 F_value_a1 A_a2 rfl rfl (by decide) (by decide) (by decide) S_cs S_sio hsio hcs) ?_
    rintro _ _ ⟨p69, rfl, ep69, rp69, rfl⟩
    have hzp69 : i5 = p69 := by rw [← ep69]; exact (own_l8 i5 (by have := r_i5; omega)).symm
    subst hzp69
    refine r_istore H 25 #[vR a1, vI p59, vI p63, vI 4, vI i5] d_g52_4_23 ?_
    refine r_iload H 27 d_g52_4_25 ?_
    refine r_bipush H 29 39 d_g52_4_27 ?_
    refine Run.join (P := fun z => (if i5 = (39 : Int32) then (if (p63 % (2 : Int32)) = (0 : Int32) then (1 : Int32) else (0 : Int32)) else (1 : Int32)) = z ∧ (0 ≤ z.toInt ∧ z.toInt ≤ 1)) (pcB := 43) (LB := fun z => #[vR a1, vI p59, vI p63, vI 4, vI i5]) (SB := fun z => [.int z]) (fun key => ?_) ?_
    ·
     refine r_icmpne H 38 32 d_g52_4_29 (fun c71 => ?_) (fun c71 => ?_)
     ·
      refine r_iconst H 39 1 d_g52_4_38 ?_
      refine r_goto H 43 d_g52_4_39 ?_
      exact key (1 : Int32) ⟨(by rw [if_neg c71]), (by decide)⟩
     ·
      refine r_iloadN H 33 d_g52_4_32 ?_
      refine r_iconst H 34 2 d_g52_4_33 ?_
      obtain ⟨p73, ep73, rp73⟩ : ∃ p : Int32, (p63 % (2 : Int32)) = p ∧ 0 ≤ p.toInt ∧ p.toInt ≤ 1 := ⟨_, rfl, (by have := rp63; have h := (c_irem p63 (2 : Int32) 2 (by decide)).1 (by omega); omega)⟩
      refine r_irem H 35 p73 d_g52_4_34 ep73 ?_
      refine Run.join (P := fun z => (if p73 = (0 : Int32) then (1 : Int32) else (0 : Int32)) = z ∧ (0 ≤ z.toInt ∧ z.toInt ≤ 1)) (pcB := 43) (LB := fun z => #[vR a1, vI p59, vI p63, vI 4, vI i5]) (SB := fun z => [.int z]) (fun key => ?_) ?_
      ·
       refine r_ifne H 42 38 d_g52_4_35 (fun c74 => ?_) (fun c74 => ?_)
       ·
        refine r_iconst H 43 0 d_g52_4_42 ?_
        exact key (0 : Int32) ⟨(by rw [if_neg c74]), (by decide)⟩
       ·
        refine r_iconst H 39 1 d_g52_4_38 ?_
        refine r_goto H 43 d_g52_4_39 ?_
        exact key (1 : Int32) ⟨(by rw [if_pos c74]), (by decide)⟩
      rintro p77 ⟨ep77, rp77⟩
      exact key p77 ⟨(by subst ep73 ep77; rw [if_pos c71]), (by have := rp77; omega)⟩
    rintro p78 ⟨ep78, rp78⟩
    refine r_istoreN H 44 #[vR a1, vI p78, vI p63, vI 4, vI i5] d_g52_4_43 ?_
    refine r_iload H 46 d_g52_4_44 ?_
    refine r_bipush H 48 92 d_g52_4_46 ?_
    refine Run.join (P := fun z => (if i5 = (92 : Int32) then (p63 + (1 : Int32)) else (0 : Int32)) = z ∧ (0 ≤ z.toInt ∧ z.toInt ≤ 5)) (pcB := 58) (LB := fun z => #[vR a1, vI p78, vI p63, vI 4, vI i5]) (SB := fun z => [.int z]) (fun key => ?_) ?_
    ·
     refine r_icmpne H 57 51 d_g52_4_48 (fun c79 => ?_) (fun c79 => ?_)
     ·
      refine r_iconst H 58 0 d_g52_4_57 ?_
      exact key (0 : Int32) ⟨(by rw [if_neg c79]), (by decide)⟩
     ·
      refine r_iloadN H 52 d_g52_4_51 ?_
      refine r_iconst H 53 1 d_g52_4_52 ?_
      obtain ⟨p81, ep81, rp81⟩ : ∃ p : Int32, (p63 + (1 : Int32)) = p ∧ 1 ≤ p.toInt ∧ p.toInt ≤ 5 := ⟨_, rfl, (by have := rp63; have : (1 : Int32).toInt = 1 := (by decide); have h1 := c_iadd p63 (1 : Int32); have h2 := rng32 (p63 + (1 : Int32)); omega)⟩
      refine r_iadd H 54 p81 d_g52_4_53 ep81 ?_
      refine r_goto H 58 d_g52_4_54 ?_
      exact key p81 ⟨(by subst ep81; rw [if_pos c79]), (by have := rp81; omega)⟩
    rintro p82 ⟨ep82, rp82⟩
    refine r_istoreN H 59 #[vR a1, vI p78, vI p82, vI 4, vI i5] d_g52_4_58 ?_
    refine r_iinc H 62 #[vR a1, vI p78, vI p82, vI 5, vI i5] 5 d_g52_4_59 ?_
    refine r_goto H 6 d_g52_4_62 ?_
    refine r_iloadN H 7 d_g52_4_6 ?_
    refine r_ifeq H 65 10 d_g52_4_7 (fun c83 => ?_) (fun c83 => ?_)
    ·
     have rr84 : 0 ≤ p78.toInt ∧ p78.toInt ≤ 0 := by have := rp78; have : (0 : Int32).toInt = 0 := (by decide); have hc_ := c83; simp only [Int32.lt_iff_toInt_lt, ← Int32.toInt_inj] at hc_; omega
     refine r_iloadN H 66 d_g52_4_65 ?_
     subst ep9 ep21 ep25 ep40 ep44 ep59 ep63 ep78 ep82
     exact r_nreturn (if i5 = (39 : Int32) then (if ((if i4 = (92 : Int32) then ((if i3 = (92 : Int32) then ((if i2 = (92 : Int32) then ((if i1 = (92 : Int32) then (1 : Int32) else (0 : Int32)) + (1 : Int32)) else (0 : Int32)) + (1 : Int32)) else (0 : Int32)) + (1 : Int32)) else (0 : Int32)) % (2 : Int32)) = (0 : Int32) then (1 : Int32) else (0 : Int32)) else (1 : Int32)) H d_g52_4_66 (nar_bool_id (by have := rr84; omega)) (⟨_, rfl, rfl, (by unfold fn_readAlikeByEitherSetting_106; rw [if_neg c26, if_neg c45, if_neg c64, if_pos c83]), (by have := rr84; omega)⟩)
    ·
     refine r_iloadN H 11 d_g52_4_10 ?_
     refine r_aloadN H 12 d_g52_4_11 ?_
     refine r_virtual (z := mn4) (a := a1) (argsL := []) (rest := [.int 5]) (W := 1) H 15 d_g52_4_12 (tw30 hw) (tw31 hw) (nf_sel (tw33 hw)) (tw33 hw) (tw32 hw) (tw7 hw) (tw34 hw) E_a1 (lenOf pd_4 rfl) (rm_length_19 hw Ts a1 a2 c1 _ (6 : Int32) cs h0 f Zf Z0 F_value_a1 A_a2 E_a1 F_coder_a1 rfl S_cs hcs) ?_
     rintro _ _ ⟨p86, rfl, ep86, rfl⟩
     have hzp86 : (6 : Int32) = p86 := by rw [← ep86]; decide
     subst hzp86
     refine r_icmpgeF H 18 d_g52_4_15 ?_
     refine r_aloadN H 19 d_g52_4_18 ?_
     refine r_iloadN H 20 d_g52_4_19 ?_
     refine r_virtual (z := mn18) (a := a1) (argsL := [.int 5]) (rest := []) (W := 0) H 23 d_g52_4_20 (tw51 hw) (tw52 hw) (nf_sel (tw54 hw)) (tw54 hw) (tw53 hw) (tw7 hw) (tw55 hw) E_a1 (lenOf pd_16 rfl) (rm_charAt_20 hw Ts a1 (5 : Int32) a2 c1 _ (6 : Int32) (cB8 i6) cs sio h0 f Zf Z0 E_a1 F_coder_a1 F_value_a1 A_a2 rfl rfl (by decide) (by decide) (by decide) S_cs S_sio hsio hcs) ?_
     rintro _ _ ⟨p88, rfl, ep88, rp88, rfl⟩
     have hzp88 : i6 = p88 := by rw [← ep88]; exact (own_l8 i6 (by have := r_i6; omega)).symm
     subst hzp88
     refine r_istore H 25 #[vR a1, vI p78, vI p82, vI 5, vI i6] d_g52_4_23 ?_
     refine r_iload H 27 d_g52_4_25 ?_
     refine r_bipush H 29 39 d_g52_4_27 ?_
     refine Run.join (P := fun z => (if i6 = (39 : Int32) then (if (p82 % (2 : Int32)) = (0 : Int32) then (1 : Int32) else (0 : Int32)) else (1 : Int32)) = z ∧ (0 ≤ z.toInt ∧ z.toInt ≤ 1)) (pcB := 43) (LB := fun z => #[vR a1, vI p78, vI p82, vI 5, vI i6]) (SB := fun z => [.int z]) (fun key => ?_) ?_
     ·
      refine r_icmpne H 38 32 d_g52_4_29 (fun c90 => ?_) (fun c90 => ?_)
      ·
       refine r_iconst H 39 1 d_g52_4_38 ?_
       refine r_goto H 43 d_g52_4_39 ?_
       exact key (1 : Int32) ⟨(by rw [if_neg c90]), (by decide)⟩
      ·
       refine r_iloadN H 33 d_g52_4_32 ?_
       refine r_iconst H 34 2 d_g52_4_33 ?_
       obtain ⟨p92, ep92, rp92⟩ : ∃ p : Int32, (p82 % (2 : Int32)) = p ∧ 0 ≤ p.toInt ∧ p.toInt ≤ 1 := ⟨_, rfl, (by have := rp82; have h := (c_irem p82 (2 : Int32) 2 (by decide)).1 (by omega); omega)⟩
       refine r_irem H 35 p92 d_g52_4_34 ep92 ?_
       refine Run.join (P := fun z => (if p92 = (0 : Int32) then (1 : Int32) else (0 : Int32)) = z ∧ (0 ≤ z.toInt ∧ z.toInt ≤ 1)) (pcB := 43) (LB := fun z => #[vR a1, vI p78, vI p82, vI 5, vI i6]) (SB := fun z => [.int z]) (fun key => ?_) ?_
       ·
        refine r_ifne H 42 38 d_g52_4_35 (fun c93 => ?_) (fun c93 => ?_)
        ·
         refine r_iconst H 43 0 d_g52_4_42 ?_
         exact key (0 : Int32) ⟨(by rw [if_neg c93]), (by decide)⟩
        ·
         refine r_iconst H 39 1 d_g52_4_38 ?_
         refine r_goto H 43 d_g52_4_39 ?_
         exact key (1 : Int32) ⟨(by rw [if_pos c93]), (by decide)⟩
       rintro p96 ⟨ep96, rp96⟩
       exact key p96 ⟨(by subst ep92 ep96; rw [if_pos c90]), (by have := rp96; omega)⟩
     rintro p97 ⟨ep97, rp97⟩
     refine r_istoreN H 44 #[vR a1, vI p97, vI p82, vI 5, vI i6] d_g52_4_43 ?_
     refine r_iload H 46 d_g52_4_44 ?_
     refine r_bipush H 48 92 d_g52_4_46 ?_
     refine Run.join (P := fun z => (if i6 = (92 : Int32) then (p82 + (1 : Int32)) else (0 : Int32)) = z ∧ (0 ≤ z.toInt ∧ z.toInt ≤ 6)) (pcB := 58) (LB := fun z => #[vR a1, vI p97, vI p82, vI 5, vI i6]) (SB := fun z => [.int z]) (fun key => ?_) ?_
     ·
      refine r_icmpne H 57 51 d_g52_4_48 (fun c98 => ?_) (fun c98 => ?_)
      ·
       refine r_iconst H 58 0 d_g52_4_57 ?_
       exact key (0 : Int32) ⟨(by rw [if_neg c98]), (by decide)⟩
      ·
       refine r_iloadN H 52 d_g52_4_51 ?_
       refine r_iconst H 53 1 d_g52_4_52 ?_
       obtain ⟨p100, ep100, rp100⟩ : ∃ p : Int32, (p82 + (1 : Int32)) = p ∧ 1 ≤ p.toInt ∧ p.toInt ≤ 6 := ⟨_, rfl, (by have := rp82; have : (1 : Int32).toInt = 1 := (by decide); have h1 := c_iadd p82 (1 : Int32); have h2 := rng32 (p82 + (1 : Int32)); omega)⟩
       refine r_iadd H 54 p100 d_g52_4_53 ep100 ?_
       refine r_goto H 58 d_g52_4_54 ?_
       exact key p100 ⟨(by subst ep100; rw [if_pos c98]), (by have := rp100; omega)⟩
     rintro p101 ⟨ep101, rp101⟩
     refine r_istoreN H 59 #[vR a1, vI p97, vI p101, vI 5, vI i6] d_g52_4_58 ?_
     refine r_iinc H 62 #[vR a1, vI p97, vI p101, vI 6, vI i6] 6 d_g52_4_59 ?_
     refine r_goto H 6 d_g52_4_62 ?_
     refine r_iloadN H 7 d_g52_4_6 ?_
     refine r_ifeq H 65 10 d_g52_4_7 (fun c102 => ?_) (fun c102 => ?_)
     ·
      have rr103 : 0 ≤ p97.toInt ∧ p97.toInt ≤ 0 := by have := rp97; have : (0 : Int32).toInt = 0 := (by decide); have hc_ := c102; simp only [Int32.lt_iff_toInt_lt, ← Int32.toInt_inj] at hc_; omega
      refine r_iloadN H 66 d_g52_4_65 ?_
      subst ep9 ep21 ep25 ep40 ep44 ep59 ep63 ep78 ep82 ep97 ep101
      exact r_nreturn (if i6 = (39 : Int32) then (if ((if i5 = (92 : Int32) then ((if i4 = (92 : Int32) then ((if i3 = (92 : Int32) then ((if i2 = (92 : Int32) then ((if i1 = (92 : Int32) then (1 : Int32) else (0 : Int32)) + (1 : Int32)) else (0 : Int32)) + (1 : Int32)) else (0 : Int32)) + (1 : Int32)) else (0 : Int32)) + (1 : Int32)) else (0 : Int32)) % (2 : Int32)) = (0 : Int32) then (1 : Int32) else (0 : Int32)) else (1 : Int32)) H d_g52_4_66 (nar_bool_id (by have := rr103; omega)) (⟨_, rfl, rfl, (by unfold fn_readAlikeByEitherSetting_106; rw [if_neg c26, if_neg c45, if_neg c64, if_neg c83, if_pos c102]), (by have := rr103; omega)⟩)
     ·
      have rr104 : 1 ≤ p97.toInt ∧ p97.toInt ≤ 1 := by have := rp97; have : (0 : Int32).toInt = 0 := (by decide); have hc_ := c102; simp only [Int32.lt_iff_toInt_lt, ← Int32.toInt_inj] at hc_; omega
      refine r_iloadN H 11 d_g52_4_10 ?_
      refine r_aloadN H 12 d_g52_4_11 ?_
      refine r_virtual (z := mn4) (a := a1) (argsL := []) (rest := [.int 6]) (W := 1) H 15 d_g52_4_12 (tw30 hw) (tw31 hw) (nf_sel (tw33 hw)) (tw33 hw) (tw32 hw) (tw7 hw) (tw34 hw) E_a1 (lenOf pd_4 rfl) (rm_length_19 hw Ts a1 a2 c1 _ (6 : Int32) cs h0 f Zf Z0 F_value_a1 A_a2 E_a1 F_coder_a1 rfl S_cs hcs) ?_
      rintro _ _ ⟨p105, rfl, ep105, rfl⟩
      have hzp105 : (6 : Int32) = p105 := by rw [← ep105]; decide
      subst hzp105
      refine r_icmpgeT H 65 d_g52_4_15 ?_
      refine r_iloadN H 66 d_g52_4_65 ?_
      subst ep9 ep21 ep25 ep40 ep44 ep59 ep63 ep78 ep82 ep97 ep101
      exact r_nreturn (if i6 = (39 : Int32) then (if ((if i5 = (92 : Int32) then ((if i4 = (92 : Int32) then ((if i3 = (92 : Int32) then ((if i2 = (92 : Int32) then ((if i1 = (92 : Int32) then (1 : Int32) else (0 : Int32)) + (1 : Int32)) else (0 : Int32)) + (1 : Int32)) else (0 : Int32)) + (1 : Int32)) else (0 : Int32)) + (1 : Int32)) else (0 : Int32)) % (2 : Int32)) = (0 : Int32) then (1 : Int32) else (0 : Int32)) else (1 : Int32)) H d_g52_4_66 (nar_bool_id (by have := rr104; omega)) (⟨_, rfl, rfl, (by unfold fn_readAlikeByEitherSetting_106; rw [if_neg c26, if_neg c45, if_neg c64, if_neg c83, if_neg c102]), (by have := rr104; omega)⟩)
def fn_readAlikeByEitherSetting_107 (i1 : Int32) (i2 : Int32) (i3 : Int32) (i4 : Int32) (i5 : Int32) (i6 : Int32) : Int32 := (if (if i2 = (39 : Int32) then (if ((if i1 = (92 : Int32) then (1 : Int32) else (0 : Int32)) % (2 : Int32)) = (0 : Int32) then (1 : Int32) else (0 : Int32)) else (1 : Int32)) = (0 : Int32) then (if i2 = (39 : Int32) then (if ((if i1 = (92 : Int32) then (1 : Int32) else (0 : Int32)) % (2 : Int32)) = (0 : Int32) then (1 : Int32) else (0 : Int32)) else (1 : Int32)) else (if (if i3 = (39 : Int32) then (if ((if i2 = (92 : Int32) then ((if i1 = (92 : Int32) then (1 : Int32) else (0 : Int32)) + (1 : Int32)) else (0 : Int32)) % (2 : Int32)) = (0 : Int32) then (1 : Int32) else (0 : Int32)) else (1 : Int32)) = (0 : Int32) then (if i3 = (39 : Int32) then (if ((if i2 = (92 : Int32) then ((if i1 = (92 : Int32) then (1 : Int32) else (0 : Int32)) + (1 : Int32)) else (0 : Int32)) % (2 : Int32)) = (0 : Int32) then (1 : Int32) else (0 : Int32)) else (1 : Int32)) else (if (if i4 = (39 : Int32) then (if ((if i3 = (92 : Int32) then ((if i2 = (92 : Int32) then ((if i1 = (92 : Int32) then (1 : Int32) else (0 : Int32)) + (1 : Int32)) else (0 : Int32)) + (1 : Int32)) else (0 : Int32)) % (2 : Int32)) = (0 : Int32) then (1 : Int32) else (0 : Int32)) else (1 : Int32)) = (0 : Int32) then (if i4 = (39 : Int32) then (if ((if i3 = (92 : Int32) then ((if i2 = (92 : Int32) then ((if i1 = (92 : Int32) then (1 : Int32) else (0 : Int32)) + (1 : Int32)) else (0 : Int32)) + (1 : Int32)) else (0 : Int32)) % (2 : Int32)) = (0 : Int32) then (1 : Int32) else (0 : Int32)) else (1 : Int32)) else (if (if i5 = (39 : Int32) then (if ((if i4 = (92 : Int32) then ((if i3 = (92 : Int32) then ((if i2 = (92 : Int32) then ((if i1 = (92 : Int32) then (1 : Int32) else (0 : Int32)) + (1 : Int32)) else (0 : Int32)) + (1 : Int32)) else (0 : Int32)) + (1 : Int32)) else (0 : Int32)) % (2 : Int32)) = (0 : Int32) then (1 : Int32) else (0 : Int32)) else (1 : Int32)) = (0 : Int32) then (if i5 = (39 : Int32) then (if ((if i4 = (92 : Int32) then ((if i3 = (92 : Int32) then ((if i2 = (92 : Int32) then ((if i1 = (92 : Int32) then (1 : Int32) else (0 : Int32)) + (1 : Int32)) else (0 : Int32)) + (1 : Int32)) else (0 : Int32)) + (1 : Int32)) else (0 : Int32)) % (2 : Int32)) = (0 : Int32) then (1 : Int32) else (0 : Int32)) else (1 : Int32)) else (if (if i6 = (39 : Int32) then (if ((if i5 = (92 : Int32) then ((if i4 = (92 : Int32) then ((if i3 = (92 : Int32) then ((if i2 = (92 : Int32) then ((if i1 = (92 : Int32) then (1 : Int32) else (0 : Int32)) + (1 : Int32)) else (0 : Int32)) + (1 : Int32)) else (0 : Int32)) + (1 : Int32)) else (0 : Int32)) + (1 : Int32)) else (0 : Int32)) % (2 : Int32)) = (0 : Int32) then (1 : Int32) else (0 : Int32)) else (1 : Int32)) = (0 : Int32) then (if i6 = (39 : Int32) then (if ((if i5 = (92 : Int32) then ((if i4 = (92 : Int32) then ((if i3 = (92 : Int32) then ((if i2 = (92 : Int32) then ((if i1 = (92 : Int32) then (1 : Int32) else (0 : Int32)) + (1 : Int32)) else (0 : Int32)) + (1 : Int32)) else (0 : Int32)) + (1 : Int32)) else (0 : Int32)) + (1 : Int32)) else (0 : Int32)) % (2 : Int32)) = (0 : Int32) then (1 : Int32) else (0 : Int32)) else (1 : Int32)) else (if i6 = (39 : Int32) then (if ((if i5 = (92 : Int32) then ((if i4 = (92 : Int32) then ((if i3 = (92 : Int32) then ((if i2 = (92 : Int32) then ((if i1 = (92 : Int32) then (1 : Int32) else (0 : Int32)) + (1 : Int32)) else (0 : Int32)) + (1 : Int32)) else (0 : Int32)) + (1 : Int32)) else (0 : Int32)) + (1 : Int32)) else (0 : Int32)) % (2 : Int32)) = (0 : Int32) then (1 : Int32) else (0 : Int32)) else (1 : Int32)))))))
def Q_readAlikeByEitherSetting_107 (Z : State) (i1 : Int32) (i2 : Int32) (i3 : Int32) (i4 : Int32) (i5 : Int32) (i6 : Int32) (h0 : Heap) (v : Option Value) (h : Heap) : Prop := ∃ z : Int32, v = some (.int z) ∧ h0 = h ∧ (fn_readAlikeByEitherSetting_107 i1 i2 i3 i4 i5 i6) = z ∧ (0 ≤ z.toInt ∧ z.toInt ≤ 1)
def R_readAlikeByEitherSetting_107 : Room := { frames := 5, cells := 0, slots := 0, locals := 66 }
theorem rm_readAlikeByEitherSetting_107 {w : Bool} {Z : State} {a0 : Array Value} (hw : HW a0 Z) (Ts : List String) (a1 : Addr) (a2 : Addr) (i1 : Int32) (i2 : Int32) (i3 : Int32) (i4 : Int32) (i5 : Int32) (i6 : Int32) (c1 : ClassId) (cs : Int32) (sio : Value) (h0 : Heap) (f : Nat) (Zf : Z.heap.size ≤ f) (Z0 : f ≤ h0.size) (E_a1 : Exa Z h0 a1 "java/lang/String") (F_value_a1 : Fld Z h0 a1 "java/lang/String" "value" "[B" (.ref a2)) (A_a2 : Ar Z h0 a2 c1 .byte [.int (cL8 i1), .int (cH8 i1), .int (cL8 i2), .int (cH8 i2), .int (cL8 i3), .int (cH8 i3), .int (cL8 i4), .int (cH8 i4), .int (cL8 i5), .int (cH8 i5), .int (cL8 i6), .int (cH8 i6)]) (F_coder_a1 : Fld Z h0 a1 "java/lang/String" "coder" "B" (.int 1)) (r_i1 : 0 ≤ i1.toInt ∧ i1.toInt ≤ 65535) (r_i2 : 0 ≤ i2.toInt ∧ i2.toInt ≤ 65535) (r_i3 : 0 ≤ i3.toInt ∧ i3.toInt ≤ 65535) (r_i4 : 0 ≤ i4.toInt ∧ i4.toInt ≤ 65535) (r_i5 : 0 ≤ i5.toInt ∧ i5.toInt ≤ 65535) (r_i6 : 0 ≤ i6.toInt ∧ i6.toInt ≤ 65535) (S_cs : G_S_cs Z cs) (S_sio : G_S_sio Z sio) (hsio : G_hsio Z sio) (S__assertionsDisabled : G_S__assertionsDisabled Z) (S_HI_BYTE_SHIFT : G_S_HI_BYTE_SHIFT Z) (S_LO_BYTE_SHIFT : G_S_LO_BYTE_SHIFT Z) (hcs : ¬ cs = 0) :
  Con w [] Z mn5 prog_52_method_4_code 5 (some .boolean) R_readAlikeByEitherSetting_107 Ts Ts f #[.ref a1] h0 (Q_readAlikeByEitherSetting_107 Z i1 i2 i3 i4 i5 i6 h0) := by
 refine con_of f #[vR a1, .unset, .unset, .unset, .unset] (plainFor_of_name pn_2) (fun m => rfl) Zf ?_
 intro C H hX0
 refine r_iconst H 1 1 d_g52_4_0 ?_
 refine r_istoreN H 2 #[vR a1, vI 1, .unset, .unset, .unset] d_g52_4_1 ?_
 refine r_iconst H 3 0 d_g52_4_2 ?_
 refine r_istoreN H 4 #[vR a1, vI 1, vI 0, .unset, .unset] d_g52_4_3 ?_
 refine r_iconst H 5 0 d_g52_4_4 ?_
 refine r_istoreN H 6 #[vR a1, vI 1, vI 0, vI 0, .unset] d_g52_4_5 ?_
 refine r_iloadN H 7 d_g52_4_6 ?_
 refine r_ifeqF H 10 d_g52_4_7 rfl (by decide) ?_
 refine r_iloadN H 11 d_g52_4_10 ?_
 refine r_aloadN H 12 d_g52_4_11 ?_
 refine r_virtual (z := mn4) (a := a1) (argsL := []) (rest := [.int 0]) (W := 1) H 15 d_g52_4_12 (tw30 hw) (tw31 hw) (nf_sel (tw33 hw)) (tw33 hw) (tw32 hw) (tw7 hw) (tw34 hw) E_a1 (lenOf pd_4 rfl) (rm_length_26 hw Ts a1 a2 c1 _ (12 : Int32) cs h0 f Zf Z0 F_value_a1 A_a2 E_a1 F_coder_a1 rfl S_cs hcs) ?_
 rintro _ _ ⟨p1, rfl, ep1, rfl⟩
 have hzp1 : (6 : Int32) = p1 := by rw [← ep1]; decide
 subst hzp1
 refine r_icmpgeF H 18 d_g52_4_15 ?_
 refine r_aloadN H 19 d_g52_4_18 ?_
 refine r_iloadN H 20 d_g52_4_19 ?_
 refine r_virtual (z := mn18) (a := a1) (argsL := [.int 0]) (rest := []) (W := 0) H 23 d_g52_4_20 (tw51 hw) (tw52 hw) (nf_sel (tw54 hw)) (tw54 hw) (tw53 hw) (tw7 hw) (tw55 hw) E_a1 (lenOf pd_16 rfl) (rm_charAt_28 hw Ts a1 (0 : Int32) a2 c1 _ (12 : Int32) (cL8 i1) (cH8 i1) cs sio h0 f Zf Z0 E_a1 F_coder_a1 F_value_a1 A_a2 rfl rfl rfl (by decide) (by decide) (by decide) (by decide) S_cs S_sio hsio S__assertionsDisabled S_HI_BYTE_SHIFT S_LO_BYTE_SHIFT hcs) ?_
 rintro _ _ ⟨p3, rfl, ep3, rp3, rfl⟩
 have hzp3 : i1 = p3 := by rw [← ep3]; exact (own_u16 i1 (by have := r_i1; omega)).symm
 subst hzp3
 refine r_istore H 25 #[vR a1, vI 1, vI 0, vI 0, vI i1] d_g52_4_23 ?_
 refine r_iload H 27 d_g52_4_25 ?_
 refine r_bipush H 29 39 d_g52_4_27 ?_
 refine Run.join (P := fun _ => True) (pcB := 43) (LB := fun _ => #[vR a1, vI 1, vI 0, vI 0, vI i1]) (SB := fun _ => [.int 1]) (fun key => ?_) ?_
 ·
  refine r_icmpne H 38 32 d_g52_4_29 (fun c5 => ?_) (fun c5 => ?_)
  ·
   refine r_iconst H 39 1 d_g52_4_38 ?_
   refine r_goto H 43 d_g52_4_39 ?_
   exact key 0 trivial
  ·
   refine r_iloadN H 33 d_g52_4_32 ?_
   refine r_iconst H 34 2 d_g52_4_33 ?_
   refine r_irem H 35 (0 : Int32) d_g52_4_34 (by decide) ?_
   refine r_ifneF H 38 d_g52_4_35 rfl (by decide) ?_
   refine r_iconst H 39 1 d_g52_4_38 ?_
   refine r_goto H 43 d_g52_4_39 ?_
   exact key 0 trivial
 rintro _ _
 refine r_istoreN H 44 #[vR a1, vI 1, vI 0, vI 0, vI i1] d_g52_4_43 ?_
 refine r_iload H 46 d_g52_4_44 ?_
 refine r_bipush H 48 92 d_g52_4_46 ?_
 refine Run.join (P := fun z => (if i1 = (92 : Int32) then (1 : Int32) else (0 : Int32)) = z ∧ (0 ≤ z.toInt ∧ z.toInt ≤ 1)) (pcB := 58) (LB := fun z => #[vR a1, vI 1, vI 0, vI 0, vI i1]) (SB := fun z => [.int z]) (fun key => ?_) ?_
 ·
  refine r_icmpne H 57 51 d_g52_4_48 (fun c7 => ?_) (fun c7 => ?_)
  ·
   refine r_iconst H 58 0 d_g52_4_57 ?_
   exact key (0 : Int32) ⟨(by rw [if_neg c7]), (by decide)⟩
  ·
   refine r_iloadN H 52 d_g52_4_51 ?_
   refine r_iconst H 53 1 d_g52_4_52 ?_
   refine r_iadd H 54 1 d_g52_4_53 (by decide) ?_
   refine r_goto H 58 d_g52_4_54 ?_
   exact key (1 : Int32) ⟨(by rw [if_pos c7]), (by decide)⟩
 rintro p9 ⟨ep9, rp9⟩
 refine r_istoreN H 59 #[vR a1, vI 1, vI p9, vI 0, vI i1] d_g52_4_58 ?_
 refine r_iinc H 62 #[vR a1, vI 1, vI p9, vI 1, vI i1] 1 d_g52_4_59 ?_
 refine r_goto H 6 d_g52_4_62 ?_
 refine r_iloadN H 7 d_g52_4_6 ?_
 refine r_ifeqF H 10 d_g52_4_7 rfl (by decide) ?_
 refine r_iloadN H 11 d_g52_4_10 ?_
 refine r_aloadN H 12 d_g52_4_11 ?_
 refine r_virtual (z := mn4) (a := a1) (argsL := []) (rest := [.int 1]) (W := 1) H 15 d_g52_4_12 (tw30 hw) (tw31 hw) (nf_sel (tw33 hw)) (tw33 hw) (tw32 hw) (tw7 hw) (tw34 hw) E_a1 (lenOf pd_4 rfl) (rm_length_26 hw Ts a1 a2 c1 _ (12 : Int32) cs h0 f Zf Z0 F_value_a1 A_a2 E_a1 F_coder_a1 rfl S_cs hcs) ?_
 rintro _ _ ⟨p10, rfl, ep10, rfl⟩
 have hzp10 : (6 : Int32) = p10 := by rw [← ep10]; decide
 subst hzp10
 refine r_icmpgeF H 18 d_g52_4_15 ?_
 refine r_aloadN H 19 d_g52_4_18 ?_
 refine r_iloadN H 20 d_g52_4_19 ?_
 refine r_virtual (z := mn18) (a := a1) (argsL := [.int 1]) (rest := []) (W := 0) H 23 d_g52_4_20 (tw51 hw) (tw52 hw) (nf_sel (tw54 hw)) (tw54 hw) (tw53 hw) (tw7 hw) (tw55 hw) E_a1 (lenOf pd_16 rfl) (rm_charAt_28 hw Ts a1 (1 : Int32) a2 c1 _ (12 : Int32) (cL8 i2) (cH8 i2) cs sio h0 f Zf Z0 E_a1 F_coder_a1 F_value_a1 A_a2 rfl rfl rfl (by decide) (by decide) (by decide) (by decide) S_cs S_sio hsio S__assertionsDisabled S_HI_BYTE_SHIFT S_LO_BYTE_SHIFT hcs) ?_
 rintro _ _ ⟨p12, rfl, ep12, rp12, rfl⟩
 have hzp12 : i2 = p12 := by rw [← ep12]; exact (own_u16 i2 (by have := r_i2; omega)).symm
 subst hzp12
 refine r_istore H 25 #[vR a1, vI 1, vI p9, vI 1, vI i2] d_g52_4_23 ?_
 refine r_iload H 27 d_g52_4_25 ?_
 refine r_bipush H 29 39 d_g52_4_27 ?_
 refine Run.join (P := fun z => (if i2 = (39 : Int32) then (if (p9 % (2 : Int32)) = (0 : Int32) then (1 : Int32) else (0 : Int32)) else (1 : Int32)) = z ∧ (0 ≤ z.toInt ∧ z.toInt ≤ 1)) (pcB := 43) (LB := fun z => #[vR a1, vI 1, vI p9, vI 1, vI i2]) (SB := fun z => [.int z]) (fun key => ?_) ?_
 ·
  refine r_icmpne H 38 32 d_g52_4_29 (fun c14 => ?_) (fun c14 => ?_)
  ·
   refine r_iconst H 39 1 d_g52_4_38 ?_
   refine r_goto H 43 d_g52_4_39 ?_
   exact key (1 : Int32) ⟨(by rw [if_neg c14]), (by decide)⟩
  ·
   refine r_iloadN H 33 d_g52_4_32 ?_
   refine r_iconst H 34 2 d_g52_4_33 ?_
   obtain ⟨p16, ep16, rp16⟩ : ∃ p : Int32, (p9 % (2 : Int32)) = p ∧ 0 ≤ p.toInt ∧ p.toInt ≤ 1 := ⟨_, rfl, (by have := rp9; have h := (c_irem p9 (2 : Int32) 2 (by decide)).1 (by omega); omega)⟩
   refine r_irem H 35 p16 d_g52_4_34 ep16 ?_
   refine Run.join (P := fun z => (if p16 = (0 : Int32) then (1 : Int32) else (0 : Int32)) = z ∧ (0 ≤ z.toInt ∧ z.toInt ≤ 1)) (pcB := 43) (LB := fun z => #[vR a1, vI 1, vI p9, vI 1, vI i2]) (SB := fun z => [.int z]) (fun key => ?_) ?_
   ·
    refine r_ifne H 42 38 d_g52_4_35 (fun c17 => ?_) (fun c17 => ?_)
    ·
     refine r_iconst H 43 0 d_g52_4_42 ?_
     exact key (0 : Int32) ⟨(by rw [if_neg c17]), (by decide)⟩
    ·
     refine r_iconst H 39 1 d_g52_4_38 ?_
     refine r_goto H 43 d_g52_4_39 ?_
     exact key (1 : Int32) ⟨(by rw [if_pos c17]), (by decide)⟩
   rintro p20 ⟨ep20, rp20⟩
   exact key p20 ⟨(by subst ep16 ep20; rw [if_pos c14]), (by have := rp20; omega)⟩
 rintro p21 ⟨ep21, rp21⟩
 refine r_istoreN H 44 #[vR a1, vI p21, vI p9, vI 1, vI i2] d_g52_4_43 ?_
 refine r_iload H 46 d_g52_4_44 ?_
 refine r_bipush H 48 92 d_g52_4_46 ?_
 refine Run.join (P := fun z => (if i2 = (92 : Int32) then (p9 + (1 : Int32)) else (0 : Int32)) = z ∧ (0 ≤ z.toInt ∧ z.toInt ≤ 2)) (pcB := 58) (LB := fun z => #[vR a1, vI p21, vI p9, vI 1, vI i2]) (SB := fun z => [.int z]) (fun key => ?_) ?_
 ·
  refine r_icmpne H 57 51 d_g52_4_48 (fun c22 => ?_) (fun c22 => ?_)
  ·
   refine r_iconst H 58 0 d_g52_4_57 ?_
   exact key (0 : Int32) ⟨(by rw [if_neg c22]), (by decide)⟩
  ·
   refine r_iloadN H 52 d_g52_4_51 ?_
   refine r_iconst H 53 1 d_g52_4_52 ?_
   obtain ⟨p24, ep24, rp24⟩ : ∃ p : Int32, (p9 + (1 : Int32)) = p ∧ 1 ≤ p.toInt ∧ p.toInt ≤ 2 := ⟨_, rfl, (by have := rp9; have : (1 : Int32).toInt = 1 := (by decide); have h1 := c_iadd p9 (1 : Int32); have h2 := rng32 (p9 + (1 : Int32)); omega)⟩
   refine r_iadd H 54 p24 d_g52_4_53 ep24 ?_
   refine r_goto H 58 d_g52_4_54 ?_
   exact key p24 ⟨(by subst ep24; rw [if_pos c22]), (by have := rp24; omega)⟩
 rintro p25 ⟨ep25, rp25⟩
 refine r_istoreN H 59 #[vR a1, vI p21, vI p25, vI 1, vI i2] d_g52_4_58 ?_
 refine r_iinc H 62 #[vR a1, vI p21, vI p25, vI 2, vI i2] 2 d_g52_4_59 ?_
 refine r_goto H 6 d_g52_4_62 ?_
 refine r_iloadN H 7 d_g52_4_6 ?_
 refine r_ifeq H 65 10 d_g52_4_7 (fun c26 => ?_) (fun c26 => ?_)
 ·
  have rr27 : 0 ≤ p21.toInt ∧ p21.toInt ≤ 0 := by have := rp21; have : (0 : Int32).toInt = 0 := (by decide); have hc_ := c26; simp only [Int32.lt_iff_toInt_lt, ← Int32.toInt_inj] at hc_; omega
  refine r_iloadN H 66 d_g52_4_65 ?_
  subst ep9 ep21 ep25
  exact r_nreturn (if i2 = (39 : Int32) then (if ((if i1 = (92 : Int32) then (1 : Int32) else (0 : Int32)) % (2 : Int32)) = (0 : Int32) then (1 : Int32) else (0 : Int32)) else (1 : Int32)) H d_g52_4_66 (nar_bool_id (by have := rr27; omega)) (⟨_, rfl, rfl, (by unfold fn_readAlikeByEitherSetting_107; rw [if_pos c26]), (by have := rr27; omega)⟩)
 ·
  refine r_iloadN H 11 d_g52_4_10 ?_
  refine r_aloadN H 12 d_g52_4_11 ?_
  refine r_virtual (z := mn4) (a := a1) (argsL := []) (rest := [.int 2]) (W := 1) H 15 d_g52_4_12 (tw30 hw) (tw31 hw) (nf_sel (tw33 hw)) (tw33 hw) (tw32 hw) (tw7 hw) (tw34 hw) E_a1 (lenOf pd_4 rfl) (rm_length_26 hw Ts a1 a2 c1 _ (12 : Int32) cs h0 f Zf Z0 F_value_a1 A_a2 E_a1 F_coder_a1 rfl S_cs hcs) ?_
  rintro _ _ ⟨p29, rfl, ep29, rfl⟩
  have hzp29 : (6 : Int32) = p29 := by rw [← ep29]; decide
  subst hzp29
  refine r_icmpgeF H 18 d_g52_4_15 ?_
  refine r_aloadN H 19 d_g52_4_18 ?_
  refine r_iloadN H 20 d_g52_4_19 ?_
  refine r_virtual (z := mn18) (a := a1) (argsL := [.int 2]) (rest := []) (W := 0) H 23 d_g52_4_20 (tw51 hw) (tw52 hw) (nf_sel (tw54 hw)) (tw54 hw) (tw53 hw) (tw7 hw) (tw55 hw) E_a1 (lenOf pd_16 rfl) (rm_charAt_28 hw Ts a1 (2 : Int32) a2 c1 _ (12 : Int32) (cL8 i3) (cH8 i3) cs sio h0 f Zf Z0 E_a1 F_coder_a1 F_value_a1 A_a2 rfl rfl rfl (by decide) (by decide) (by decide) (by decide) S_cs S_sio hsio S__assertionsDisabled S_HI_BYTE_SHIFT S_LO_BYTE_SHIFT hcs) ?_
  rintro _ _ ⟨p31, rfl, ep31, rp31, rfl⟩
  have hzp31 : i3 = p31 := by rw [← ep31]; exact (own_u16 i3 (by have := r_i3; omega)).symm
  subst hzp31
  refine r_istore H 25 #[vR a1, vI p21, vI p25, vI 2, vI i3] d_g52_4_23 ?_
  refine r_iload H 27 d_g52_4_25 ?_
  refine r_bipush H 29 39 d_g52_4_27 ?_
  refine Run.join (P := fun z => (if i3 = (39 : Int32) then (if (p25 % (2 : Int32)) = (0 : Int32) then (1 : Int32) else (0 : Int32)) else (1 : Int32)) = z ∧ (0 ≤ z.toInt ∧ z.toInt ≤ 1)) (pcB := 43) (LB := fun z => #[vR a1, vI p21, vI p25, vI 2, vI i3]) (SB := fun z => [.int z]) (fun key => ?_) ?_
  ·
   refine r_icmpne H 38 32 d_g52_4_29 (fun c33 => ?_) (fun c33 => ?_)
   ·
    refine r_iconst H 39 1 d_g52_4_38 ?_
    refine r_goto H 43 d_g52_4_39 ?_
    exact key (1 : Int32) ⟨(by rw [if_neg c33]), (by decide)⟩
   ·
    refine r_iloadN H 33 d_g52_4_32 ?_
    refine r_iconst H 34 2 d_g52_4_33 ?_
    obtain ⟨p35, ep35, rp35⟩ : ∃ p : Int32, (p25 % (2 : Int32)) = p ∧ 0 ≤ p.toInt ∧ p.toInt ≤ 1 := ⟨_, rfl, (by have := rp25; have h := (c_irem p25 (2 : Int32) 2 (by decide)).1 (by omega); omega)⟩
    refine r_irem H 35 p35 d_g52_4_34 ep35 ?_
    refine Run.join (P := fun z => (if p35 = (0 : Int32) then (1 : Int32) else (0 : Int32)) = z ∧ (0 ≤ z.toInt ∧ z.toInt ≤ 1)) (pcB := 43) (LB := fun z => #[vR a1, vI p21, vI p25, vI 2, vI i3]) (SB := fun z => [.int z]) (fun key => ?_) ?_
    ·
     refine r_ifne H 42 38 d_g52_4_35 (fun c36 => ?_) (fun c36 => ?_)
     ·
      refine r_iconst H 43 0 d_g52_4_42 ?_
      exact key (0 : Int32) ⟨(by rw [if_neg c36]), (by decide)⟩
     ·
      refine r_iconst H 39 1 d_g52_4_38 ?_
      refine r_goto H 43 d_g52_4_39 ?_
      exact key (1 : Int32) ⟨(by rw [if_pos c36]), (by decide)⟩
    rintro p39 ⟨ep39, rp39⟩
    exact key p39 ⟨(by subst ep35 ep39; rw [if_pos c33]), (by have := rp39; omega)⟩
  rintro p40 ⟨ep40, rp40⟩
  refine r_istoreN H 44 #[vR a1, vI p40, vI p25, vI 2, vI i3] d_g52_4_43 ?_
  refine r_iload H 46 d_g52_4_44 ?_
  refine r_bipush H 48 92 d_g52_4_46 ?_
  refine Run.join (P := fun z => (if i3 = (92 : Int32) then (p25 + (1 : Int32)) else (0 : Int32)) = z ∧ (0 ≤ z.toInt ∧ z.toInt ≤ 3)) (pcB := 58) (LB := fun z => #[vR a1, vI p40, vI p25, vI 2, vI i3]) (SB := fun z => [.int z]) (fun key => ?_) ?_
  ·
   refine r_icmpne H 57 51 d_g52_4_48 (fun c41 => ?_) (fun c41 => ?_)
   ·
    refine r_iconst H 58 0 d_g52_4_57 ?_
    exact key (0 : Int32) ⟨(by rw [if_neg c41]), (by decide)⟩
   ·
    refine r_iloadN H 52 d_g52_4_51 ?_
    refine r_iconst H 53 1 d_g52_4_52 ?_
    obtain ⟨p43, ep43, rp43⟩ : ∃ p : Int32, (p25 + (1 : Int32)) = p ∧ 1 ≤ p.toInt ∧ p.toInt ≤ 3 := ⟨_, rfl, (by have := rp25; have : (1 : Int32).toInt = 1 := (by decide); have h1 := c_iadd p25 (1 : Int32); have h2 := rng32 (p25 + (1 : Int32)); omega)⟩
    refine r_iadd H 54 p43 d_g52_4_53 ep43 ?_
    refine r_goto H 58 d_g52_4_54 ?_
    exact key p43 ⟨(by subst ep43; rw [if_pos c41]), (by have := rp43; omega)⟩
  rintro p44 ⟨ep44, rp44⟩
  refine r_istoreN H 59 #[vR a1, vI p40, vI p44, vI 2, vI i3] d_g52_4_58 ?_
  refine r_iinc H 62 #[vR a1, vI p40, vI p44, vI 3, vI i3] 3 d_g52_4_59 ?_
  refine r_goto H 6 d_g52_4_62 ?_
  refine r_iloadN H 7 d_g52_4_6 ?_
  refine r_ifeq H 65 10 d_g52_4_7 (fun c45 => ?_) (fun c45 => ?_)
  ·
   have rr46 : 0 ≤ p40.toInt ∧ p40.toInt ≤ 0 := by have := rp40; have : (0 : Int32).toInt = 0 := (by decide); have hc_ := c45; simp only [Int32.lt_iff_toInt_lt, ← Int32.toInt_inj] at hc_; omega
   refine r_iloadN H 66 d_g52_4_65 ?_
   subst ep9 ep21 ep25 ep40 ep44
   exact r_nreturn (if i3 = (39 : Int32) then (if ((if i2 = (92 : Int32) then ((if i1 = (92 : Int32) then (1 : Int32) else (0 : Int32)) + (1 : Int32)) else (0 : Int32)) % (2 : Int32)) = (0 : Int32) then (1 : Int32) else (0 : Int32)) else (1 : Int32)) H d_g52_4_66 (nar_bool_id (by have := rr46; omega)) (⟨_, rfl, rfl, (by unfold fn_readAlikeByEitherSetting_107; rw [if_neg c26, if_pos c45]), (by have := rr46; omega)⟩)
  ·
   refine r_iloadN H 11 d_g52_4_10 ?_
   refine r_aloadN H 12 d_g52_4_11 ?_
   refine r_virtual (z := mn4) (a := a1) (argsL := []) (rest := [.int 3]) (W := 1) H 15 d_g52_4_12 (tw30 hw) (tw31 hw) (nf_sel (tw33 hw)) (tw33 hw) (tw32 hw) (tw7 hw) (tw34 hw) E_a1 (lenOf pd_4 rfl) (rm_length_26 hw Ts a1 a2 c1 _ (12 : Int32) cs h0 f Zf Z0 F_value_a1 A_a2 E_a1 F_coder_a1 rfl S_cs hcs) ?_
   rintro _ _ ⟨p48, rfl, ep48, rfl⟩
   have hzp48 : (6 : Int32) = p48 := by rw [← ep48]; decide
   subst hzp48
   refine r_icmpgeF H 18 d_g52_4_15 ?_
   refine r_aloadN H 19 d_g52_4_18 ?_
   refine r_iloadN H 20 d_g52_4_19 ?_
   refine r_virtual (z := mn18) (a := a1) (argsL := [.int 3]) (rest := []) (W := 0) H 23 d_g52_4_20 (tw51 hw) (tw52 hw) (nf_sel (tw54 hw)) (tw54 hw) (tw53 hw) (tw7 hw) (tw55 hw) E_a1 (lenOf pd_16 rfl) (rm_charAt_28 hw Ts a1 (3 : Int32) a2 c1 _ (12 : Int32) (cL8 i4) (cH8 i4) cs sio h0 f Zf Z0 E_a1 F_coder_a1 F_value_a1 A_a2 rfl rfl rfl (by decide) (by decide) (by decide) (by decide) S_cs S_sio hsio S__assertionsDisabled S_HI_BYTE_SHIFT S_LO_BYTE_SHIFT hcs) ?_
   rintro _ _ ⟨p50, rfl, ep50, rp50, rfl⟩
   have hzp50 : i4 = p50 := by rw [← ep50]; exact (own_u16 i4 (by have := r_i4; omega)).symm
   subst hzp50
   refine r_istore H 25 #[vR a1, vI p40, vI p44, vI 3, vI i4] d_g52_4_23 ?_
   refine r_iload H 27 d_g52_4_25 ?_
   refine r_bipush H 29 39 d_g52_4_27 ?_
   refine Run.join (P := fun z => (if i4 = (39 : Int32) then (if (p44 % (2 : Int32)) = (0 : Int32) then (1 : Int32) else (0 : Int32)) else (1 : Int32)) = z ∧ (0 ≤ z.toInt ∧ z.toInt ≤ 1)) (pcB := 43) (LB := fun z => #[vR a1, vI p40, vI p44, vI 3, vI i4]) (SB := fun z => [.int z]) (fun key => ?_) ?_
   ·
    refine r_icmpne H 38 32 d_g52_4_29 (fun c52 => ?_) (fun c52 => ?_)
    ·
     refine r_iconst H 39 1 d_g52_4_38 ?_
     refine r_goto H 43 d_g52_4_39 ?_
     exact key (1 : Int32) ⟨(by rw [if_neg c52]), (by decide)⟩
    ·
     refine r_iloadN H 33 d_g52_4_32 ?_
     refine r_iconst H 34 2 d_g52_4_33 ?_
     obtain ⟨p54, ep54, rp54⟩ : ∃ p : Int32, (p44 % (2 : Int32)) = p ∧ 0 ≤ p.toInt ∧ p.toInt ≤ 1 := ⟨_, rfl, (by have := rp44; have h := (c_irem p44 (2 : Int32) 2 (by decide)).1 (by omega); omega)⟩
     refine r_irem H 35 p54 d_g52_4_34 ep54 ?_
     refine Run.join (P := fun z => (if p54 = (0 : Int32) then (1 : Int32) else (0 : Int32)) = z ∧ (0 ≤ z.toInt ∧ z.toInt ≤ 1)) (pcB := 43) (LB := fun z => #[vR a1, vI p40, vI p44, vI 3, vI i4]) (SB := fun z => [.int z]) (fun key => ?_) ?_
     ·
      refine r_ifne H 42 38 d_g52_4_35 (fun c55 => ?_) (fun c55 => ?_)
      ·
       refine r_iconst H 43 0 d_g52_4_42 ?_
       exact key (0 : Int32) ⟨(by rw [if_neg c55]), (by decide)⟩
      ·
       refine r_iconst H 39 1 d_g52_4_38 ?_
       refine r_goto H 43 d_g52_4_39 ?_
       exact key (1 : Int32) ⟨(by rw [if_pos c55]), (by decide)⟩
     rintro p58 ⟨ep58, rp58⟩
     exact key p58 ⟨(by subst ep54 ep58; rw [if_pos c52]), (by have := rp58; omega)⟩
   rintro p59 ⟨ep59, rp59⟩
   refine r_istoreN H 44 #[vR a1, vI p59, vI p44, vI 3, vI i4] d_g52_4_43 ?_
   refine r_iload H 46 d_g52_4_44 ?_
   refine r_bipush H 48 92 d_g52_4_46 ?_
   refine Run.join (P := fun z => (if i4 = (92 : Int32) then (p44 + (1 : Int32)) else (0 : Int32)) = z ∧ (0 ≤ z.toInt ∧ z.toInt ≤ 4)) (pcB := 58) (LB := fun z => #[vR a1, vI p59, vI p44, vI 3, vI i4]) (SB := fun z => [.int z]) (fun key => ?_) ?_
   ·
    refine r_icmpne H 57 51 d_g52_4_48 (fun c60 => ?_) (fun c60 => ?_)
    ·
     refine r_iconst H 58 0 d_g52_4_57 ?_
     exact key (0 : Int32) ⟨(by rw [if_neg c60]), (by decide)⟩
    ·
     refine r_iloadN H 52 d_g52_4_51 ?_
     refine r_iconst H 53 1 d_g52_4_52 ?_
     obtain ⟨p62, ep62, rp62⟩ : ∃ p : Int32, (p44 + (1 : Int32)) = p ∧ 1 ≤ p.toInt ∧ p.toInt ≤ 4 := ⟨_, rfl, (by have := rp44; have : (1 : Int32).toInt = 1 := (by decide); have h1 := c_iadd p44 (1 : Int32); have h2 := rng32 (p44 + (1 : Int32)); omega)⟩
     refine r_iadd H 54 p62 d_g52_4_53 ep62 ?_
     refine r_goto H 58 d_g52_4_54 ?_
     exact key p62 ⟨(by subst ep62; rw [if_pos c60]), (by have := rp62; omega)⟩
   rintro p63 ⟨ep63, rp63⟩
   refine r_istoreN H 59 #[vR a1, vI p59, vI p63, vI 3, vI i4] d_g52_4_58 ?_
   refine r_iinc H 62 #[vR a1, vI p59, vI p63, vI 4, vI i4] 4 d_g52_4_59 ?_
   refine r_goto H 6 d_g52_4_62 ?_
   refine r_iloadN H 7 d_g52_4_6 ?_
   refine r_ifeq H 65 10 d_g52_4_7 (fun c64 => ?_) (fun c64 => ?_)
   ·
    have rr65 : 0 ≤ p59.toInt ∧ p59.toInt ≤ 0 := by have := rp59; have : (0 : Int32).toInt = 0 := (by decide); have hc_ := c64; simp only [Int32.lt_iff_toInt_lt, ← Int32.toInt_inj] at hc_; omega
    refine r_iloadN H 66 d_g52_4_65 ?_
    subst ep9 ep21 ep25 ep40 ep44 ep59 ep63
    exact r_nreturn (if i4 = (39 : Int32) then (if ((if i3 = (92 : Int32) then ((if i2 = (92 : Int32) then ((if i1 = (92 : Int32) then (1 : Int32) else (0 : Int32)) + (1 : Int32)) else (0 : Int32)) + (1 : Int32)) else (0 : Int32)) % (2 : Int32)) = (0 : Int32) then (1 : Int32) else (0 : Int32)) else (1 : Int32)) H d_g52_4_66 (nar_bool_id (by have := rr65; omega)) (⟨_, rfl, rfl, (by unfold fn_readAlikeByEitherSetting_107; rw [if_neg c26, if_neg c45, if_pos c64]), (by have := rr65; omega)⟩)
   ·
    refine r_iloadN H 11 d_g52_4_10 ?_
    refine r_aloadN H 12 d_g52_4_11 ?_
    refine r_virtual (z := mn4) (a := a1) (argsL := []) (rest := [.int 4]) (W := 1) H 15 d_g52_4_12 (tw30 hw) (tw31 hw) (nf_sel (tw33 hw)) (tw33 hw) (tw32 hw) (tw7 hw) (tw34 hw) E_a1 (lenOf pd_4 rfl) (rm_length_26 hw Ts a1 a2 c1 _ (12 : Int32) cs h0 f Zf Z0 F_value_a1 A_a2 E_a1 F_coder_a1 rfl S_cs hcs) ?_
    rintro _ _ ⟨p67, rfl, ep67, rfl⟩
    have hzp67 : (6 : Int32) = p67 := by rw [← ep67]; decide
    subst hzp67
    refine r_icmpgeF H 18 d_g52_4_15 ?_
    refine r_aloadN H 19 d_g52_4_18 ?_
    refine r_iloadN H 20 d_g52_4_19 ?_
    refine r_virtual (z := mn18) (a := a1) (argsL := [.int 4]) (rest := []) (W := 0) H 23 d_g52_4_20 (tw51 hw) (tw52 hw) (nf_sel (tw54 hw)) (tw54 hw) (tw53 hw) (tw7 hw) (tw55 hw) E_a1 (lenOf pd_16 rfl) (rm_charAt_28 hw Ts a1 (4 : Int32) a2 c1 _ (12 : Int32) (cL8 i5) (cH8 i5) cs sio h0 f Zf Z0 E_a1 F_coder_a1 F_value_a1 A_a2 rfl rfl rfl (by decide) (by decide) (by decide) (by decide) S_cs S_sio hsio S__assertionsDisabled S_HI_BYTE_SHIFT S_LO_BYTE_SHIFT hcs) ?_
    rintro _ _ ⟨p69, rfl, ep69, rp69, rfl⟩
    have hzp69 : i5 = p69 := by rw [← ep69]; exact (own_u16 i5 (by have := r_i5; omega)).symm
    subst hzp69
    refine r_istore H 25 #[vR a1, vI p59, vI p63, vI 4, vI i5] d_g52_4_23 ?_
    refine r_iload H 27 d_g52_4_25 ?_
    refine r_bipush H 29 39 d_g52_4_27 ?_
    refine Run.join (P := fun z => (if i5 = (39 : Int32) then (if (p63 % (2 : Int32)) = (0 : Int32) then (1 : Int32) else (0 : Int32)) else (1 : Int32)) = z ∧ (0 ≤ z.toInt ∧ z.toInt ≤ 1)) (pcB := 43) (LB := fun z => #[vR a1, vI p59, vI p63, vI 4, vI i5]) (SB := fun z => [.int z]) (fun key => ?_) ?_
    ·
     refine r_icmpne H 38 32 d_g52_4_29 (fun c71 => ?_) (fun c71 => ?_)
     ·
      refine r_iconst H 39 1 d_g52_4_38 ?_
      refine r_goto H 43 d_g52_4_39 ?_
      exact key (1 : Int32) ⟨(by rw [if_neg c71]), (by decide)⟩
     ·
      refine r_iloadN H 33 d_g52_4_32 ?_
      refine r_iconst H 34 2 d_g52_4_33 ?_
      obtain ⟨p73, ep73, rp73⟩ : ∃ p : Int32, (p63 % (2 : Int32)) = p ∧ 0 ≤ p.toInt ∧ p.toInt ≤ 1 := ⟨_, rfl, (by have := rp63; have h := (c_irem p63 (2 : Int32) 2 (by decide)).1 (by omega); omega)⟩
      refine r_irem H 35 p73 d_g52_4_34 ep73 ?_
      refine Run.join (P := fun z => (if p73 = (0 : Int32) then (1 : Int32) else (0 : Int32)) = z ∧ (0 ≤ z.toInt ∧ z.toInt ≤ 1)) (pcB := 43) (LB := fun z => #[vR a1, vI p59, vI p63, vI 4, vI i5]) (SB := fun z => [.int z]) (fun key => ?_) ?_
      ·
       refine r_ifne H 42 38 d_g52_4_35 (fun c74 => ?_) (fun c74 => ?_)
       ·
        refine r_iconst H 43 0 d_g52_4_42 ?_
        exact key (0 : Int32) ⟨(by rw [if_neg c74]), (by decide)⟩
       ·
        refine r_iconst H 39 1 d_g52_4_38 ?_
        refine r_goto H 43 d_g52_4_39 ?_
        exact key (1 : Int32) ⟨(by rw [if_pos c74]), (by decide)⟩
      rintro p77 ⟨ep77, rp77⟩
      exact key p77 ⟨(by subst ep73 ep77; rw [if_pos c71]), (by have := rp77; omega)⟩
    rintro p78 ⟨ep78, rp78⟩
    refine r_istoreN H 44 #[vR a1, vI p78, vI p63, vI 4, vI i5] d_g52_4_43 ?_
    refine r_iload H 46 d_g52_4_44 ?_
    refine r_bipush H 48 92 d_g52_4_46 ?_
    refine Run.join (P := fun z => (if i5 = (92 : Int32) then (p63 + (1 : Int32)) else (0 : Int32)) = z ∧ (0 ≤ z.toInt ∧ z.toInt ≤ 5)) (pcB := 58) (LB := fun z => #[vR a1, vI p78, vI p63, vI 4, vI i5]) (SB := fun z => [.int z]) (fun key => ?_) ?_
    ·
     refine r_icmpne H 57 51 d_g52_4_48 (fun c79 => ?_) (fun c79 => ?_)
     ·
      refine r_iconst H 58 0 d_g52_4_57 ?_
      exact key (0 : Int32) ⟨(by rw [if_neg c79]), (by decide)⟩
     ·
      refine r_iloadN H 52 d_g52_4_51 ?_
      refine r_iconst H 53 1 d_g52_4_52 ?_
      obtain ⟨p81, ep81, rp81⟩ : ∃ p : Int32, (p63 + (1 : Int32)) = p ∧ 1 ≤ p.toInt ∧ p.toInt ≤ 5 := ⟨_, rfl, (by have := rp63; have : (1 : Int32).toInt = 1 := (by decide); have h1 := c_iadd p63 (1 : Int32); have h2 := rng32 (p63 + (1 : Int32)); omega)⟩
      refine r_iadd H 54 p81 d_g52_4_53 ep81 ?_
      refine r_goto H 58 d_g52_4_54 ?_
      exact key p81 ⟨(by subst ep81; rw [if_pos c79]), (by have := rp81; omega)⟩
    rintro p82 ⟨ep82, rp82⟩
    refine r_istoreN H 59 #[vR a1, vI p78, vI p82, vI 4, vI i5] d_g52_4_58 ?_
    refine r_iinc H 62 #[vR a1, vI p78, vI p82, vI 5, vI i5] 5 d_g52_4_59 ?_
    refine r_goto H 6 d_g52_4_62 ?_
    refine r_iloadN H 7 d_g52_4_6 ?_
    refine r_ifeq H 65 10 d_g52_4_7 (fun c83 => ?_) (fun c83 => ?_)
    ·
     have rr84 : 0 ≤ p78.toInt ∧ p78.toInt ≤ 0 := by have := rp78; have : (0 : Int32).toInt = 0 := (by decide); have hc_ := c83; simp only [Int32.lt_iff_toInt_lt, ← Int32.toInt_inj] at hc_; omega
     refine r_iloadN H 66 d_g52_4_65 ?_
     subst ep9 ep21 ep25 ep40 ep44 ep59 ep63 ep78 ep82
     exact r_nreturn (if i5 = (39 : Int32) then (if ((if i4 = (92 : Int32) then ((if i3 = (92 : Int32) then ((if i2 = (92 : Int32) then ((if i1 = (92 : Int32) then (1 : Int32) else (0 : Int32)) + (1 : Int32)) else (0 : Int32)) + (1 : Int32)) else (0 : Int32)) + (1 : Int32)) else (0 : Int32)) % (2 : Int32)) = (0 : Int32) then (1 : Int32) else (0 : Int32)) else (1 : Int32)) H d_g52_4_66 (nar_bool_id (by have := rr84; omega)) (⟨_, rfl, rfl, (by unfold fn_readAlikeByEitherSetting_107; rw [if_neg c26, if_neg c45, if_neg c64, if_pos c83]), (by have := rr84; omega)⟩)
    ·
     refine r_iloadN H 11 d_g52_4_10 ?_
     refine r_aloadN H 12 d_g52_4_11 ?_
     refine r_virtual (z := mn4) (a := a1) (argsL := []) (rest := [.int 5]) (W := 1) H 15 d_g52_4_12 (tw30 hw) (tw31 hw) (nf_sel (tw33 hw)) (tw33 hw) (tw32 hw) (tw7 hw) (tw34 hw) E_a1 (lenOf pd_4 rfl) (rm_length_26 hw Ts a1 a2 c1 _ (12 : Int32) cs h0 f Zf Z0 F_value_a1 A_a2 E_a1 F_coder_a1 rfl S_cs hcs) ?_
     rintro _ _ ⟨p86, rfl, ep86, rfl⟩
     have hzp86 : (6 : Int32) = p86 := by rw [← ep86]; decide
     subst hzp86
     refine r_icmpgeF H 18 d_g52_4_15 ?_
     refine r_aloadN H 19 d_g52_4_18 ?_
     refine r_iloadN H 20 d_g52_4_19 ?_
     refine r_virtual (z := mn18) (a := a1) (argsL := [.int 5]) (rest := []) (W := 0) H 23 d_g52_4_20 (tw51 hw) (tw52 hw) (nf_sel (tw54 hw)) (tw54 hw) (tw53 hw) (tw7 hw) (tw55 hw) E_a1 (lenOf pd_16 rfl) (rm_charAt_28 hw Ts a1 (5 : Int32) a2 c1 _ (12 : Int32) (cL8 i6) (cH8 i6) cs sio h0 f Zf Z0 E_a1 F_coder_a1 F_value_a1 A_a2 rfl rfl rfl (by decide) (by decide) (by decide) (by decide) S_cs S_sio hsio S__assertionsDisabled S_HI_BYTE_SHIFT S_LO_BYTE_SHIFT hcs) ?_
     rintro _ _ ⟨p88, rfl, ep88, rp88, rfl⟩
     have hzp88 : i6 = p88 := by rw [← ep88]; exact (own_u16 i6 (by have := r_i6; omega)).symm
     subst hzp88
     refine r_istore H 25 #[vR a1, vI p78, vI p82, vI 5, vI i6] d_g52_4_23 ?_
     refine r_iload H 27 d_g52_4_25 ?_
     refine r_bipush H 29 39 d_g52_4_27 ?_
     refine Run.join (P := fun z => (if i6 = (39 : Int32) then (if (p82 % (2 : Int32)) = (0 : Int32) then (1 : Int32) else (0 : Int32)) else (1 : Int32)) = z ∧ (0 ≤ z.toInt ∧ z.toInt ≤ 1)) (pcB := 43) (LB := fun z => #[vR a1, vI p78, vI p82, vI 5, vI i6]) (SB := fun z => [.int z]) (fun key => ?_) ?_
     ·
      refine r_icmpne H 38 32 d_g52_4_29 (fun c90 => ?_) (fun c90 => ?_)
      ·
       refine r_iconst H 39 1 d_g52_4_38 ?_
       refine r_goto H 43 d_g52_4_39 ?_
       exact key (1 : Int32) ⟨(by rw [if_neg c90]), (by decide)⟩
      ·
       refine r_iloadN H 33 d_g52_4_32 ?_
       refine r_iconst H 34 2 d_g52_4_33 ?_
       obtain ⟨p92, ep92, rp92⟩ : ∃ p : Int32, (p82 % (2 : Int32)) = p ∧ 0 ≤ p.toInt ∧ p.toInt ≤ 1 := ⟨_, rfl, (by have := rp82; have h := (c_irem p82 (2 : Int32) 2 (by decide)).1 (by omega); omega)⟩
       refine r_irem H 35 p92 d_g52_4_34 ep92 ?_
       refine Run.join (P := fun z => (if p92 = (0 : Int32) then (1 : Int32) else (0 : Int32)) = z ∧ (0 ≤ z.toInt ∧ z.toInt ≤ 1)) (pcB := 43) (LB := fun z => #[vR a1, vI p78, vI p82, vI 5, vI i6]) (SB := fun z => [.int z]) (fun key => ?_) ?_
       ·
        refine r_ifne H 42 38 d_g52_4_35 (fun c93 => ?_) (fun c93 => ?_)
        ·
         refine r_iconst H 43 0 d_g52_4_42 ?_
         exact key (0 : Int32) ⟨(by rw [if_neg c93]), (by decide)⟩
        ·
         refine r_iconst H 39 1 d_g52_4_38 ?_
         refine r_goto H 43 d_g52_4_39 ?_
         exact key (1 : Int32) ⟨(by rw [if_pos c93]), (by decide)⟩
       rintro p96 ⟨ep96, rp96⟩
       exact key p96 ⟨(by subst ep92 ep96; rw [if_pos c90]), (by have := rp96; omega)⟩
     rintro p97 ⟨ep97, rp97⟩
     refine r_istoreN H 44 #[vR a1, vI p97, vI p82, vI 5, vI i6] d_g52_4_43 ?_
     refine r_iload H 46 d_g52_4_44 ?_
     refine r_bipush H 48 92 d_g52_4_46 ?_
     refine Run.join (P := fun z => (if i6 = (92 : Int32) then (p82 + (1 : Int32)) else (0 : Int32)) = z ∧ (0 ≤ z.toInt ∧ z.toInt ≤ 6)) (pcB := 58) (LB := fun z => #[vR a1, vI p97, vI p82, vI 5, vI i6]) (SB := fun z => [.int z]) (fun key => ?_) ?_
     ·
      refine r_icmpne H 57 51 d_g52_4_48 (fun c98 => ?_) (fun c98 => ?_)
      ·
       refine r_iconst H 58 0 d_g52_4_57 ?_
       exact key (0 : Int32) ⟨(by rw [if_neg c98]), (by decide)⟩
      ·
       refine r_iloadN H 52 d_g52_4_51 ?_
       refine r_iconst H 53 1 d_g52_4_52 ?_
       obtain ⟨p100, ep100, rp100⟩ : ∃ p : Int32, (p82 + (1 : Int32)) = p ∧ 1 ≤ p.toInt ∧ p.toInt ≤ 6 := ⟨_, rfl, (by have := rp82; have : (1 : Int32).toInt = 1 := (by decide); have h1 := c_iadd p82 (1 : Int32); have h2 := rng32 (p82 + (1 : Int32)); omega)⟩
       refine r_iadd H 54 p100 d_g52_4_53 ep100 ?_
       refine r_goto H 58 d_g52_4_54 ?_
       exact key p100 ⟨(by subst ep100; rw [if_pos c98]), (by have := rp100; omega)⟩
     rintro p101 ⟨ep101, rp101⟩
     refine r_istoreN H 59 #[vR a1, vI p97, vI p101, vI 5, vI i6] d_g52_4_58 ?_
     refine r_iinc H 62 #[vR a1, vI p97, vI p101, vI 6, vI i6] 6 d_g52_4_59 ?_
     refine r_goto H 6 d_g52_4_62 ?_
     refine r_iloadN H 7 d_g52_4_6 ?_
     refine r_ifeq H 65 10 d_g52_4_7 (fun c102 => ?_) (fun c102 => ?_)
     ·
      have rr103 : 0 ≤ p97.toInt ∧ p97.toInt ≤ 0 := by have := rp97; have : (0 : Int32).toInt = 0 := (by decide); have hc_ := c102; simp only [Int32.lt_iff_toInt_lt, ← Int32.toInt_inj] at hc_; omega
      refine r_iloadN H 66 d_g52_4_65 ?_
      subst ep9 ep21 ep25 ep40 ep44 ep59 ep63 ep78 ep82 ep97 ep101
      exact r_nreturn (if i6 = (39 : Int32) then (if ((if i5 = (92 : Int32) then ((if i4 = (92 : Int32) then ((if i3 = (92 : Int32) then ((if i2 = (92 : Int32) then ((if i1 = (92 : Int32) then (1 : Int32) else (0 : Int32)) + (1 : Int32)) else (0 : Int32)) + (1 : Int32)) else (0 : Int32)) + (1 : Int32)) else (0 : Int32)) + (1 : Int32)) else (0 : Int32)) % (2 : Int32)) = (0 : Int32) then (1 : Int32) else (0 : Int32)) else (1 : Int32)) H d_g52_4_66 (nar_bool_id (by have := rr103; omega)) (⟨_, rfl, rfl, (by unfold fn_readAlikeByEitherSetting_107; rw [if_neg c26, if_neg c45, if_neg c64, if_neg c83, if_pos c102]), (by have := rr103; omega)⟩)
     ·
      have rr104 : 1 ≤ p97.toInt ∧ p97.toInt ≤ 1 := by have := rp97; have : (0 : Int32).toInt = 0 := (by decide); have hc_ := c102; simp only [Int32.lt_iff_toInt_lt, ← Int32.toInt_inj] at hc_; omega
      refine r_iloadN H 11 d_g52_4_10 ?_
      refine r_aloadN H 12 d_g52_4_11 ?_
      refine r_virtual (z := mn4) (a := a1) (argsL := []) (rest := [.int 6]) (W := 1) H 15 d_g52_4_12 (tw30 hw) (tw31 hw) (nf_sel (tw33 hw)) (tw33 hw) (tw32 hw) (tw7 hw) (tw34 hw) E_a1 (lenOf pd_4 rfl) (rm_length_26 hw Ts a1 a2 c1 _ (12 : Int32) cs h0 f Zf Z0 F_value_a1 A_a2 E_a1 F_coder_a1 rfl S_cs hcs) ?_
      rintro _ _ ⟨p105, rfl, ep105, rfl⟩
      have hzp105 : (6 : Int32) = p105 := by rw [← ep105]; decide
      subst hzp105
      refine r_icmpgeT H 65 d_g52_4_15 ?_
      refine r_iloadN H 66 d_g52_4_65 ?_
      subst ep9 ep21 ep25 ep40 ep44 ep59 ep63 ep78 ep82 ep97 ep101
      exact r_nreturn (if i6 = (39 : Int32) then (if ((if i5 = (92 : Int32) then ((if i4 = (92 : Int32) then ((if i3 = (92 : Int32) then ((if i2 = (92 : Int32) then ((if i1 = (92 : Int32) then (1 : Int32) else (0 : Int32)) + (1 : Int32)) else (0 : Int32)) + (1 : Int32)) else (0 : Int32)) + (1 : Int32)) else (0 : Int32)) + (1 : Int32)) else (0 : Int32)) % (2 : Int32)) = (0 : Int32) then (1 : Int32) else (0 : Int32)) else (1 : Int32)) H d_g52_4_66 (nar_bool_id (by have := rr104; omega)) (⟨_, rfl, rfl, (by unfold fn_readAlikeByEitherSetting_107; rw [if_neg c26, if_neg c45, if_neg c64, if_neg c83, if_neg c102]), (by have := rr104; omega)⟩)
theorem own_par1 (c1 : Int32) : ((if c1 = (92 : Int32) then (1 : Int32) else (0 : Int32)) % (2 : Int32)) = (if c1 = (92 : Int32) then (1 : Int32) else (0 : Int32)) := by
  by_cases h1 : c1 = 92
  case neg => simp only [h1, if_true, if_false]; decide
  simp only [h1, if_true]; decide
theorem own_par2 (c1 c2 : Int32) : ((if c2 = (92 : Int32) then ((if c1 = (92 : Int32) then (1 : Int32) else (0 : Int32)) + (1 : Int32)) else (0 : Int32)) % (2 : Int32)) = (if c2 = (92 : Int32) then (if (if c1 = (92 : Int32) then (1 : Int32) else (0 : Int32)) = (0 : Int32) then (1 : Int32) else (0 : Int32)) else (0 : Int32)) := by
  by_cases h2 : c2 = 92
  case neg => simp only [h2, if_true, if_false]; decide
  by_cases h1 : c1 = 92
  case neg => simp only [h1, h2, if_true, if_false]; decide
  simp only [h1, h2, if_true]; decide
theorem own_par3 (c1 c2 c3 : Int32) : ((if c3 = (92 : Int32) then ((if c2 = (92 : Int32) then ((if c1 = (92 : Int32) then (1 : Int32) else (0 : Int32)) + (1 : Int32)) else (0 : Int32)) + (1 : Int32)) else (0 : Int32)) % (2 : Int32)) = (if c3 = (92 : Int32) then (if (if c2 = (92 : Int32) then (if (if c1 = (92 : Int32) then (1 : Int32) else (0 : Int32)) = (0 : Int32) then (1 : Int32) else (0 : Int32)) else (0 : Int32)) = (0 : Int32) then (1 : Int32) else (0 : Int32)) else (0 : Int32)) := by
  by_cases h3 : c3 = 92
  case neg => simp only [h3, if_true, if_false]; decide
  by_cases h2 : c2 = 92
  case neg => simp only [h2, h3, if_true, if_false]; decide
  by_cases h1 : c1 = 92
  case neg => simp only [h1, h2, h3, if_true, if_false]; decide
  simp only [h1, h2, h3, if_true]; decide
theorem own_par4 (c1 c2 c3 c4 : Int32) : ((if c4 = (92 : Int32) then ((if c3 = (92 : Int32) then ((if c2 = (92 : Int32) then ((if c1 = (92 : Int32) then (1 : Int32) else (0 : Int32)) + (1 : Int32)) else (0 : Int32)) + (1 : Int32)) else (0 : Int32)) + (1 : Int32)) else (0 : Int32)) % (2 : Int32)) = (if c4 = (92 : Int32) then (if (if c3 = (92 : Int32) then (if (if c2 = (92 : Int32) then (if (if c1 = (92 : Int32) then (1 : Int32) else (0 : Int32)) = (0 : Int32) then (1 : Int32) else (0 : Int32)) else (0 : Int32)) = (0 : Int32) then (1 : Int32) else (0 : Int32)) else (0 : Int32)) = (0 : Int32) then (1 : Int32) else (0 : Int32)) else (0 : Int32)) := by
  by_cases h4 : c4 = 92
  case neg => simp only [h4, if_true, if_false]; decide
  by_cases h3 : c3 = 92
  case neg => simp only [h3, h4, if_true, if_false]; decide
  by_cases h2 : c2 = 92
  case neg => simp only [h2, h3, h4, if_true, if_false]; decide
  by_cases h1 : c1 = 92
  case neg => simp only [h1, h2, h3, h4, if_true, if_false]; decide
  simp only [h1, h2, h3, h4, if_true]; decide
theorem own_par5 (c1 c2 c3 c4 c5 : Int32) : ((if c5 = (92 : Int32) then ((if c4 = (92 : Int32) then ((if c3 = (92 : Int32) then ((if c2 = (92 : Int32) then ((if c1 = (92 : Int32) then (1 : Int32) else (0 : Int32)) + (1 : Int32)) else (0 : Int32)) + (1 : Int32)) else (0 : Int32)) + (1 : Int32)) else (0 : Int32)) + (1 : Int32)) else (0 : Int32)) % (2 : Int32)) = (if c5 = (92 : Int32) then (if (if c4 = (92 : Int32) then (if (if c3 = (92 : Int32) then (if (if c2 = (92 : Int32) then (if (if c1 = (92 : Int32) then (1 : Int32) else (0 : Int32)) = (0 : Int32) then (1 : Int32) else (0 : Int32)) else (0 : Int32)) = (0 : Int32) then (1 : Int32) else (0 : Int32)) else (0 : Int32)) = (0 : Int32) then (1 : Int32) else (0 : Int32)) else (0 : Int32)) = (0 : Int32) then (1 : Int32) else (0 : Int32)) else (0 : Int32)) := by
  by_cases h5 : c5 = 92
  case neg => simp only [h5, if_true, if_false]; decide
  by_cases h4 : c4 = 92
  case neg => simp only [h4, h5, if_true, if_false]; decide
  by_cases h3 : c3 = 92
  case neg => simp only [h3, h4, h5, if_true, if_false]; decide
  by_cases h2 : c2 = 92
  case neg => simp only [h2, h3, h4, h5, if_true, if_false]; decide
  by_cases h1 : c1 = 92
  case neg => simp only [h1, h2, h3, h4, h5, if_true, if_false]; decide
  simp only [h1, h2, h3, h4, h5, if_true]; decide
theorem own_bad (c q : Int32) : (if c = (39 : Int32) then (if q = (0 : Int32) then (1 : Int32) else (0 : Int32)) else (1 : Int32)) = (if (if c = (39 : Int32) then (if q = (0 : Int32) then (0 : Int32) else (1 : Int32)) else (0 : Int32)) = (0 : Int32) then (1 : Int32) else (0 : Int32)) := by
  by_cases h : c = 39 <;> by_cases g : q = 0 <;> simp [h, g]
theorem lf_fn_readAlikeByEitherSetting_44 (p4 p7 : Int32) : (if (fn_readAlikeByEitherSetting_44 p4 p7) = (if (if p7 = (39 : Int32) then (if (if p4 = (92 : Int32) then (1 : Int32) else (0 : Int32)) = (0 : Int32) then (0 : Int32) else (1 : Int32)) else (0 : Int32)) = (0 : Int32) then (1 : Int32) else (0 : Int32)) then (1 : Int32) else (0 : Int32)) = 1 := by
  unfold fn_readAlikeByEitherSetting_44; simp only [own_par1, own_bad]
  generalize (if p7 = (39 : Int32) then (if (if p4 = (92 : Int32) then (1 : Int32) else (0 : Int32)) = (0 : Int32) then (0 : Int32) else (1 : Int32)) else (0 : Int32)) = r2
  by_cases h2 : r2 = 0
  case neg => simp [h2]
  simp [h2]
theorem lf_fn_readAlikeByEitherSetting_58 (p4 p7 p10 : Int32) : (if (fn_readAlikeByEitherSetting_58 p4 p7 p10) = (if (if p7 = (39 : Int32) then (if (if p4 = (92 : Int32) then (1 : Int32) else (0 : Int32)) = (0 : Int32) then (0 : Int32) else (1 : Int32)) else (0 : Int32)) = (0 : Int32) then (if (if p10 = (39 : Int32) then (if (if p7 = (92 : Int32) then (if (if p4 = (92 : Int32) then (1 : Int32) else (0 : Int32)) = (0 : Int32) then (1 : Int32) else (0 : Int32)) else (0 : Int32)) = (0 : Int32) then (0 : Int32) else (1 : Int32)) else (0 : Int32)) = (0 : Int32) then (1 : Int32) else (0 : Int32)) else (0 : Int32)) then (1 : Int32) else (0 : Int32)) = 1 := by
  unfold fn_readAlikeByEitherSetting_58; simp only [own_par2, own_par1, own_bad]
  generalize (if p10 = (39 : Int32) then (if (if p7 = (92 : Int32) then (if (if p4 = (92 : Int32) then (1 : Int32) else (0 : Int32)) = (0 : Int32) then (1 : Int32) else (0 : Int32)) else (0 : Int32)) = (0 : Int32) then (0 : Int32) else (1 : Int32)) else (0 : Int32)) = r3
  generalize (if p7 = (39 : Int32) then (if (if p4 = (92 : Int32) then (1 : Int32) else (0 : Int32)) = (0 : Int32) then (0 : Int32) else (1 : Int32)) else (0 : Int32)) = r2
  by_cases h2 : r2 = 0
  case neg => simp [h2]
  by_cases h3 : r3 = 0
  case neg => simp [h2, h3]
  simp [h2, h3]
theorem lf_fn_readAlikeByEitherSetting_73 (p4 p7 p10 p13 : Int32) : (if (fn_readAlikeByEitherSetting_73 p4 p7 p10 p13) = (if (if p7 = (39 : Int32) then (if (if p4 = (92 : Int32) then (1 : Int32) else (0 : Int32)) = (0 : Int32) then (0 : Int32) else (1 : Int32)) else (0 : Int32)) = (0 : Int32) then (if (if p10 = (39 : Int32) then (if (if p7 = (92 : Int32) then (if (if p4 = (92 : Int32) then (1 : Int32) else (0 : Int32)) = (0 : Int32) then (1 : Int32) else (0 : Int32)) else (0 : Int32)) = (0 : Int32) then (0 : Int32) else (1 : Int32)) else (0 : Int32)) = (0 : Int32) then (if (if p13 = (39 : Int32) then (if (if p10 = (92 : Int32) then (if (if p7 = (92 : Int32) then (if (if p4 = (92 : Int32) then (1 : Int32) else (0 : Int32)) = (0 : Int32) then (1 : Int32) else (0 : Int32)) else (0 : Int32)) = (0 : Int32) then (1 : Int32) else (0 : Int32)) else (0 : Int32)) = (0 : Int32) then (0 : Int32) else (1 : Int32)) else (0 : Int32)) = (0 : Int32) then (1 : Int32) else (0 : Int32)) else (0 : Int32)) else (0 : Int32)) then (1 : Int32) else (0 : Int32)) = 1 := by
  unfold fn_readAlikeByEitherSetting_73; simp only [own_par3, own_par2, own_par1, own_bad]
  generalize (if p13 = (39 : Int32) then (if (if p10 = (92 : Int32) then (if (if p7 = (92 : Int32) then (if (if p4 = (92 : Int32) then (1 : Int32) else (0 : Int32)) = (0 : Int32) then (1 : Int32) else (0 : Int32)) else (0 : Int32)) = (0 : Int32) then (1 : Int32) else (0 : Int32)) else (0 : Int32)) = (0 : Int32) then (0 : Int32) else (1 : Int32)) else (0 : Int32)) = r4
  generalize (if p10 = (39 : Int32) then (if (if p7 = (92 : Int32) then (if (if p4 = (92 : Int32) then (1 : Int32) else (0 : Int32)) = (0 : Int32) then (1 : Int32) else (0 : Int32)) else (0 : Int32)) = (0 : Int32) then (0 : Int32) else (1 : Int32)) else (0 : Int32)) = r3
  generalize (if p7 = (39 : Int32) then (if (if p4 = (92 : Int32) then (1 : Int32) else (0 : Int32)) = (0 : Int32) then (0 : Int32) else (1 : Int32)) else (0 : Int32)) = r2
  by_cases h2 : r2 = 0
  case neg => simp [h2]
  by_cases h3 : r3 = 0
  case neg => simp [h2, h3]
  by_cases h4 : r4 = 0
  case neg => simp [h2, h3, h4]
  simp [h2, h3, h4]
theorem lf_fn_readAlikeByEitherSetting_89 (p4 p7 p10 p13 p16 : Int32) : (if (fn_readAlikeByEitherSetting_89 p4 p7 p10 p13 p16) = (if (if p7 = (39 : Int32) then (if (if p4 = (92 : Int32) then (1 : Int32) else (0 : Int32)) = (0 : Int32) then (0 : Int32) else (1 : Int32)) else (0 : Int32)) = (0 : Int32) then (if (if p10 = (39 : Int32) then (if (if p7 = (92 : Int32) then (if (if p4 = (92 : Int32) then (1 : Int32) else (0 : Int32)) = (0 : Int32) then (1 : Int32) else (0 : Int32)) else (0 : Int32)) = (0 : Int32) then (0 : Int32) else (1 : Int32)) else (0 : Int32)) = (0 : Int32) then (if (if p13 = (39 : Int32) then (if (if p10 = (92 : Int32) then (if (if p7 = (92 : Int32) then (if (if p4 = (92 : Int32) then (1 : Int32) else (0 : Int32)) = (0 : Int32) then (1 : Int32) else (0 : Int32)) else (0 : Int32)) = (0 : Int32) then (1 : Int32) else (0 : Int32)) else (0 : Int32)) = (0 : Int32) then (0 : Int32) else (1 : Int32)) else (0 : Int32)) = (0 : Int32) then (if (if p16 = (39 : Int32) then (if (if p13 = (92 : Int32) then (if (if p10 = (92 : Int32) then (if (if p7 = (92 : Int32) then (if (if p4 = (92 : Int32) then (1 : Int32) else (0 : Int32)) = (0 : Int32) then (1 : Int32) else (0 : Int32)) else (0 : Int32)) = (0 : Int32) then (1 : Int32) else (0 : Int32)) else (0 : Int32)) = (0 : Int32) then (1 : Int32) else (0 : Int32)) else (0 : Int32)) = (0 : Int32) then (0 : Int32) else (1 : Int32)) else (0 : Int32)) = (0 : Int32) then (1 : Int32) else (0 : Int32)) else (0 : Int32)) else (0 : Int32)) else (0 : Int32)) then (1 : Int32) else (0 : Int32)) = 1 := by
  unfold fn_readAlikeByEitherSetting_89; simp only [own_par4, own_par3, own_par2, own_par1, own_bad]
  generalize (if p16 = (39 : Int32) then (if (if p13 = (92 : Int32) then (if (if p10 = (92 : Int32) then (if (if p7 = (92 : Int32) then (if (if p4 = (92 : Int32) then (1 : Int32) else (0 : Int32)) = (0 : Int32) then (1 : Int32) else (0 : Int32)) else (0 : Int32)) = (0 : Int32) then (1 : Int32) else (0 : Int32)) else (0 : Int32)) = (0 : Int32) then (1 : Int32) else (0 : Int32)) else (0 : Int32)) = (0 : Int32) then (0 : Int32) else (1 : Int32)) else (0 : Int32)) = r5
  generalize (if p13 = (39 : Int32) then (if (if p10 = (92 : Int32) then (if (if p7 = (92 : Int32) then (if (if p4 = (92 : Int32) then (1 : Int32) else (0 : Int32)) = (0 : Int32) then (1 : Int32) else (0 : Int32)) else (0 : Int32)) = (0 : Int32) then (1 : Int32) else (0 : Int32)) else (0 : Int32)) = (0 : Int32) then (0 : Int32) else (1 : Int32)) else (0 : Int32)) = r4
  generalize (if p10 = (39 : Int32) then (if (if p7 = (92 : Int32) then (if (if p4 = (92 : Int32) then (1 : Int32) else (0 : Int32)) = (0 : Int32) then (1 : Int32) else (0 : Int32)) else (0 : Int32)) = (0 : Int32) then (0 : Int32) else (1 : Int32)) else (0 : Int32)) = r3
  generalize (if p7 = (39 : Int32) then (if (if p4 = (92 : Int32) then (1 : Int32) else (0 : Int32)) = (0 : Int32) then (0 : Int32) else (1 : Int32)) else (0 : Int32)) = r2
  by_cases h2 : r2 = 0
  case neg => simp [h2]
  by_cases h3 : r3 = 0
  case neg => simp [h2, h3]
  by_cases h4 : r4 = 0
  case neg => simp [h2, h3, h4]
  by_cases h5 : r5 = 0
  case neg => simp [h2, h3, h4, h5]
  simp [h2, h3, h4, h5]
theorem lf_fn_readAlikeByEitherSetting_106 (p4 p7 p10 p13 p16 p20 : Int32) : (if (fn_readAlikeByEitherSetting_106 p4 p7 p10 p13 p16 p20) = (if (if p7 = (39 : Int32) then (if (if p4 = (92 : Int32) then (1 : Int32) else (0 : Int32)) = (0 : Int32) then (0 : Int32) else (1 : Int32)) else (0 : Int32)) = (0 : Int32) then (if (if p10 = (39 : Int32) then (if (if p7 = (92 : Int32) then (if (if p4 = (92 : Int32) then (1 : Int32) else (0 : Int32)) = (0 : Int32) then (1 : Int32) else (0 : Int32)) else (0 : Int32)) = (0 : Int32) then (0 : Int32) else (1 : Int32)) else (0 : Int32)) = (0 : Int32) then (if (if p13 = (39 : Int32) then (if (if p10 = (92 : Int32) then (if (if p7 = (92 : Int32) then (if (if p4 = (92 : Int32) then (1 : Int32) else (0 : Int32)) = (0 : Int32) then (1 : Int32) else (0 : Int32)) else (0 : Int32)) = (0 : Int32) then (1 : Int32) else (0 : Int32)) else (0 : Int32)) = (0 : Int32) then (0 : Int32) else (1 : Int32)) else (0 : Int32)) = (0 : Int32) then (if (if p16 = (39 : Int32) then (if (if p13 = (92 : Int32) then (if (if p10 = (92 : Int32) then (if (if p7 = (92 : Int32) then (if (if p4 = (92 : Int32) then (1 : Int32) else (0 : Int32)) = (0 : Int32) then (1 : Int32) else (0 : Int32)) else (0 : Int32)) = (0 : Int32) then (1 : Int32) else (0 : Int32)) else (0 : Int32)) = (0 : Int32) then (1 : Int32) else (0 : Int32)) else (0 : Int32)) = (0 : Int32) then (0 : Int32) else (1 : Int32)) else (0 : Int32)) = (0 : Int32) then (if (if p20 = (39 : Int32) then (if (if p16 = (92 : Int32) then (if (if p13 = (92 : Int32) then (if (if p10 = (92 : Int32) then (if (if p7 = (92 : Int32) then (if (if p4 = (92 : Int32) then (1 : Int32) else (0 : Int32)) = (0 : Int32) then (1 : Int32) else (0 : Int32)) else (0 : Int32)) = (0 : Int32) then (1 : Int32) else (0 : Int32)) else (0 : Int32)) = (0 : Int32) then (1 : Int32) else (0 : Int32)) else (0 : Int32)) = (0 : Int32) then (1 : Int32) else (0 : Int32)) else (0 : Int32)) = (0 : Int32) then (0 : Int32) else (1 : Int32)) else (0 : Int32)) = (0 : Int32) then (1 : Int32) else (0 : Int32)) else (0 : Int32)) else (0 : Int32)) else (0 : Int32)) else (0 : Int32)) then (1 : Int32) else (0 : Int32)) = 1 := by
  unfold fn_readAlikeByEitherSetting_106; simp only [own_par5, own_par4, own_par3, own_par2, own_par1, own_bad]
  generalize (if p20 = (39 : Int32) then (if (if p16 = (92 : Int32) then (if (if p13 = (92 : Int32) then (if (if p10 = (92 : Int32) then (if (if p7 = (92 : Int32) then (if (if p4 = (92 : Int32) then (1 : Int32) else (0 : Int32)) = (0 : Int32) then (1 : Int32) else (0 : Int32)) else (0 : Int32)) = (0 : Int32) then (1 : Int32) else (0 : Int32)) else (0 : Int32)) = (0 : Int32) then (1 : Int32) else (0 : Int32)) else (0 : Int32)) = (0 : Int32) then (1 : Int32) else (0 : Int32)) else (0 : Int32)) = (0 : Int32) then (0 : Int32) else (1 : Int32)) else (0 : Int32)) = r6
  generalize (if p16 = (39 : Int32) then (if (if p13 = (92 : Int32) then (if (if p10 = (92 : Int32) then (if (if p7 = (92 : Int32) then (if (if p4 = (92 : Int32) then (1 : Int32) else (0 : Int32)) = (0 : Int32) then (1 : Int32) else (0 : Int32)) else (0 : Int32)) = (0 : Int32) then (1 : Int32) else (0 : Int32)) else (0 : Int32)) = (0 : Int32) then (1 : Int32) else (0 : Int32)) else (0 : Int32)) = (0 : Int32) then (0 : Int32) else (1 : Int32)) else (0 : Int32)) = r5
  generalize (if p13 = (39 : Int32) then (if (if p10 = (92 : Int32) then (if (if p7 = (92 : Int32) then (if (if p4 = (92 : Int32) then (1 : Int32) else (0 : Int32)) = (0 : Int32) then (1 : Int32) else (0 : Int32)) else (0 : Int32)) = (0 : Int32) then (1 : Int32) else (0 : Int32)) else (0 : Int32)) = (0 : Int32) then (0 : Int32) else (1 : Int32)) else (0 : Int32)) = r4
  generalize (if p10 = (39 : Int32) then (if (if p7 = (92 : Int32) then (if (if p4 = (92 : Int32) then (1 : Int32) else (0 : Int32)) = (0 : Int32) then (1 : Int32) else (0 : Int32)) else (0 : Int32)) = (0 : Int32) then (0 : Int32) else (1 : Int32)) else (0 : Int32)) = r3
  generalize (if p7 = (39 : Int32) then (if (if p4 = (92 : Int32) then (1 : Int32) else (0 : Int32)) = (0 : Int32) then (0 : Int32) else (1 : Int32)) else (0 : Int32)) = r2
  by_cases h2 : r2 = 0
  case neg => simp [h2]
  by_cases h3 : r3 = 0
  case neg => simp [h2, h3]
  by_cases h4 : r4 = 0
  case neg => simp [h2, h3, h4]
  by_cases h5 : r5 = 0
  case neg => simp [h2, h3, h4, h5]
  by_cases h6 : r6 = 0
  case neg => simp [h2, h3, h4, h5, h6]
  simp [h2, h3, h4, h5, h6]

set_option maxRecDepth 65536 in
set_option maxHeartbeats 40000000 in
theorem rm_law {Z : State} {a0 : Array Value} (hw : ∀ d ∈ tables_1, d.before a0 Z = true) (Ts : List String) (hTs : Ts = []) (x0 : Int32) (x1 : Int64) (x2 : Int32) (cs : Int32) (sio : Value) (h0 : Heap) (f : Nat) (Zf : Z.heap.size ≤ f) (Z0 : f ≤ h0.size) (wS : ∀ a ∈ Bundle.stringAtoms, a.before a0 Z = true) (hcw : Jvm.Lit.compactW.before a0 Z = true) (hh0 : Jvm.Lit.constHeld Z "java/lang/String" 7) (S_cs : Sta Z Z.heap "java/lang/String" "COMPACT_STRINGS" "Z" (.int cs)) (S__assertionsDisabled : Sta Z Z.heap "java/lang/StringUTF16" "$assertionsDisabled" "Z" (.int 1)) (S_HI_BYTE_SHIFT : Sta Z Z.heap "java/lang/StringUTF16" "HI_BYTE_SHIFT" "I" (.int 0)) (S_LO_BYTE_SHIFT : Sta Z Z.heap "java/lang/StringUTF16" "LO_BYTE_SHIFT" "I" (.int 8)) (S_sio : Sta Z Z.heap "jdk/internal/util/Preconditions" "SIOOBE_FORMATTER" "Ljava/util/function/BiFunction;" sio) (hsio : sio = .null ∨ ∃ a, sio = .ref a) (hcs : ¬ cs = 0) :
  Con true tables_1 Z x code maxLocals ret room_1 Ts ("" :: Ts) f #[.int x0, (.long x1), .int x2] h0 (fun v _ => v = some (.int 1)) := by
 have hT_empty : "" ∉ Ts := by rw [hTs]; exact List.not_mem_nil
 refine con_of h0.size #[vI x0, .val (.long x1), .second, vI x2, .unset, .unset, .unset, .unset, .unset, .unset, .unset, .unset, .unset, .unset, .unset, .unset, .unset, .unset, .unset, .unset, .unset, .unset, .unset, .unset] (plainFor_of_name pn_0) (fun m => by first | (simp [entryFrame, mkF, argsToLocals, Value.category, maxLocals]; done) | rfl) (nlt Zf Z0) ?_
 intro C H hX0
 refine r_iloadN H 1 at_0 ?_
 refine r_bipush H 3 7 at_1 ?_
 obtain ⟨p1, ep1, rp1⟩ : ∃ p : Int32, (x0 &&& (7 : Int32)) = p ∧ 0 ≤ p.toInt ∧ p.toInt ≤ 7 := ⟨_, rfl, (by have h := c_and x0 (7 : Int32) (by decide); have : (7 : Int32).toInt = 7 := (by decide); omega)⟩
 refine r_iand H 4 p1 at_3 ep1 ?_
 refine r_bipush H 6 7 at_4 ?_
 obtain ⟨p2, ep2, rp2⟩ : ∃ p : Int32, (p1 % (7 : Int32)) = p ∧ 0 ≤ p.toInt ∧ p.toInt ≤ 6 := ⟨_, rfl, (by have := rp1; have h := (c_irem p1 (7 : Int32) 7 (by decide)).1 (by omega); omega)⟩
 refine r_irem H 7 p2 at_6 ep2 ?_
 refine r_istore H 9 #[vI x0, .val (.long x1), .second, vI x2, vI p2, .unset, .unset, .unset, .unset, .unset, .unset, .unset, .unset, .unset, .unset, .unset, .unset, .unset, .unset, .unset, .unset, .unset, .unset, .unset] at_7 ?_
 refine r_iloadN H 10 at_9 ?_
 refine r_iconst H 11 3 at_10 ?_
 obtain ⟨p3, ep3, rp3⟩ : ∃ p : Int32, (ush32 x0 (3 : Int32)) = p ∧ 0 ≤ p.toInt ∧ p.toInt ≤ 536870911 := ⟨_, rfl, (by have h1 := ushr_eq x0 (3 : Int32) 3 (by decide) (by decide); have h2 := rng32 x0; omega)⟩
 refine r_iushr H 12 p3 at_11 ep3 ?_
 refine r_lloadN H 13 at_12 ?_
 refine r_l2i H 14 (x1.toInt32) at_13 ?_
 refine r_static (argsL := [.int p3, (.int (x1.toInt32))]) (rest := []) (W := 0) H 17 at_14 (tw0 hw) (tw1 hw) (tw2 hw) (tw3 hw) (lenOf pd_0 rfl) (rm_pick_1 hw Ts p3 (x1.toInt32) h0 h0.size (nlt Zf Z0) nlr) ?_
 rintro _ _ ⟨p4, rfl, rfl, ep4, rp4⟩
 refine r_istore H 19 #[vI x0, .val (.long x1), .second, vI x2, vI p2, vI p4, .unset, .unset, .unset, .unset, .unset, .unset, .unset, .unset, .unset, .unset, .unset, .unset, .unset, .unset, .unset, .unset, .unset, .unset] at_17 ?_
 refine r_iloadN H 20 at_19 ?_
 refine r_iconst H 21 5 at_20 ?_
 obtain ⟨p6, ep6, rp6⟩ : ∃ p : Int32, (ush32 x0 (5 : Int32)) = p ∧ 0 ≤ p.toInt ∧ p.toInt ≤ 134217727 := ⟨_, rfl, (by have h1 := ushr_eq x0 (5 : Int32) 5 (by decide) (by decide); have h2 := rng32 x0; omega)⟩
 refine r_iushr H 22 p6 at_21 ep6 ?_
 refine r_lloadN H 23 at_22 ?_
 refine r_bipush H 25 16 at_23 ?_
 refine r_lushr H 26 (ush64 x1 (16 : Int32)) at_25 ?_
 refine r_l2i H 27 ((ush64 x1 (16 : Int32)).toInt32) at_26 ?_
 refine r_static (argsL := [.int p6, (.int ((ush64 x1 (16 : Int32)).toInt32))]) (rest := []) (W := 0) H 30 at_27 (tw0 hw) (tw1 hw) (tw2 hw) (tw3 hw) (lenOf pd_0 rfl) (rm_pick_1 hw Ts p6 ((ush64 x1 (16 : Int32)).toInt32) h0 h0.size (nlt Zf Z0) nlr) ?_
 rintro _ _ ⟨p7, rfl, rfl, ep7, rp7⟩
 refine r_istore H 32 #[vI x0, .val (.long x1), .second, vI x2, vI p2, vI p4, vI p7, .unset, .unset, .unset, .unset, .unset, .unset, .unset, .unset, .unset, .unset, .unset, .unset, .unset, .unset, .unset, .unset, .unset] at_30 ?_
 refine r_iloadN H 33 at_32 ?_
 refine r_bipush H 35 7 at_33 ?_
 obtain ⟨p9, ep9, rp9⟩ : ∃ p : Int32, (ush32 x0 (7 : Int32)) = p ∧ 0 ≤ p.toInt ∧ p.toInt ≤ 33554431 := ⟨_, rfl, (by have h1 := ushr_eq x0 (7 : Int32) 7 (by decide) (by decide); have h2 := rng32 x0; omega)⟩
 refine r_iushr H 36 p9 at_35 ep9 ?_
 refine r_lloadN H 37 at_36 ?_
 refine r_bipush H 39 32 at_37 ?_
 refine r_lushr H 40 (ush64 x1 (32 : Int32)) at_39 ?_
 refine r_l2i H 41 ((ush64 x1 (32 : Int32)).toInt32) at_40 ?_
 refine r_static (argsL := [.int p9, (.int ((ush64 x1 (32 : Int32)).toInt32))]) (rest := []) (W := 0) H 44 at_41 (tw0 hw) (tw1 hw) (tw2 hw) (tw3 hw) (lenOf pd_0 rfl) (rm_pick_1 hw Ts p9 ((ush64 x1 (32 : Int32)).toInt32) h0 h0.size (nlt Zf Z0) nlr) ?_
 rintro _ _ ⟨p10, rfl, rfl, ep10, rp10⟩
 refine r_istore H 46 #[vI x0, .val (.long x1), .second, vI x2, vI p2, vI p4, vI p7, vI p10, .unset, .unset, .unset, .unset, .unset, .unset, .unset, .unset, .unset, .unset, .unset, .unset, .unset, .unset, .unset, .unset] at_44 ?_
 refine r_iloadN H 47 at_46 ?_
 refine r_bipush H 49 9 at_47 ?_
 obtain ⟨p12, ep12, rp12⟩ : ∃ p : Int32, (ush32 x0 (9 : Int32)) = p ∧ 0 ≤ p.toInt ∧ p.toInt ≤ 8388607 := ⟨_, rfl, (by have h1 := ushr_eq x0 (9 : Int32) 9 (by decide) (by decide); have h2 := rng32 x0; omega)⟩
 refine r_iushr H 50 p12 at_49 ep12 ?_
 refine r_lloadN H 51 at_50 ?_
 refine r_bipush H 53 48 at_51 ?_
 refine r_lushr H 54 (ush64 x1 (48 : Int32)) at_53 ?_
 refine r_l2i H 55 ((ush64 x1 (48 : Int32)).toInt32) at_54 ?_
 refine r_static (argsL := [.int p12, (.int ((ush64 x1 (48 : Int32)).toInt32))]) (rest := []) (W := 0) H 58 at_55 (tw0 hw) (tw1 hw) (tw2 hw) (tw3 hw) (lenOf pd_0 rfl) (rm_pick_1 hw Ts p12 ((ush64 x1 (48 : Int32)).toInt32) h0 h0.size (nlt Zf Z0) nlr) ?_
 rintro _ _ ⟨p13, rfl, rfl, ep13, rp13⟩
 refine r_istore H 60 #[vI x0, .val (.long x1), .second, vI x2, vI p2, vI p4, vI p7, vI p10, vI p13, .unset, .unset, .unset, .unset, .unset, .unset, .unset, .unset, .unset, .unset, .unset, .unset, .unset, .unset, .unset] at_58 ?_
 refine r_iloadN H 61 at_60 ?_
 refine r_bipush H 63 11 at_61 ?_
 obtain ⟨p15, ep15, rp15⟩ : ∃ p : Int32, (ush32 x0 (11 : Int32)) = p ∧ 0 ≤ p.toInt ∧ p.toInt ≤ 2097151 := ⟨_, rfl, (by have h1 := ushr_eq x0 (11 : Int32) 11 (by decide) (by decide); have h2 := rng32 x0; omega)⟩
 refine r_iushr H 64 p15 at_63 ep15 ?_
 refine r_iloadN H 65 at_64 ?_
 refine r_static (argsL := [.int p15, .int x2]) (rest := []) (W := 0) H 68 at_65 (tw0 hw) (tw1 hw) (tw2 hw) (tw3 hw) (lenOf pd_0 rfl) (rm_pick_1 hw Ts p15 x2 h0 h0.size (nlt Zf Z0) nlr) ?_
 rintro _ _ ⟨p16, rfl, rfl, ep16, rp16⟩
 refine r_istore H 70 #[vI x0, .val (.long x1), .second, vI x2, vI p2, vI p4, vI p7, vI p10, vI p13, vI p16, .unset, .unset, .unset, .unset, .unset, .unset, .unset, .unset, .unset, .unset, .unset, .unset, .unset, .unset] at_68 ?_
 refine r_iloadN H 71 at_70 ?_
 refine r_bipush H 73 13 at_71 ?_
 obtain ⟨p18, ep18, rp18⟩ : ∃ p : Int32, (ush32 x0 (13 : Int32)) = p ∧ 0 ≤ p.toInt ∧ p.toInt ≤ 524287 := ⟨_, rfl, (by have h1 := ushr_eq x0 (13 : Int32) 13 (by decide) (by decide); have h2 := rng32 x0; omega)⟩
 refine r_iushr H 74 p18 at_73 ep18 ?_
 refine r_iloadN H 75 at_74 ?_
 refine r_bipush H 77 16 at_75 ?_
 obtain ⟨p19, ep19, rp19⟩ : ∃ p : Int32, (ush32 x2 (16 : Int32)) = p ∧ 0 ≤ p.toInt ∧ p.toInt ≤ 65535 := ⟨_, rfl, (by have h1 := ushr_eq x2 (16 : Int32) 16 (by decide) (by decide); have h2 := rng32 x2; omega)⟩
 refine r_iushr H 78 p19 at_77 ep19 ?_
 refine r_static (argsL := [.int p18, .int p19]) (rest := []) (W := 0) H 81 at_78 (tw0 hw) (tw1 hw) (tw2 hw) (tw3 hw) (lenOf pd_0 rfl) (rm_pick_1 hw Ts p18 p19 h0 h0.size (nlt Zf Z0) nlr) ?_
 rintro _ _ ⟨p20, rfl, rfl, ep20, rp20⟩
 refine r_istore H 83 #[vI x0, .val (.long x1), .second, vI x2, vI p2, vI p4, vI p7, vI p10, vI p13, vI p16, vI p20, .unset, .unset, .unset, .unset, .unset, .unset, .unset, .unset, .unset, .unset, .unset, .unset, .unset] at_81 ?_
 refine r_iload H 85 at_83 ?_
 have c22 : p2 = (0 : Int32) ∨ p2 = (1 : Int32) ∨ p2 = (2 : Int32) ∨ p2 = (3 : Int32) ∨ p2 = (4 : Int32) ∨ p2 = (5 : Int32) ∨ p2 = (6 : Int32) := by
  have := rp2; simp only [← Int32.toInt_inj]; have : (0 : Int32).toInt = 0 := (by decide); have : (1 : Int32).toInt = 1 := (by decide); have : (2 : Int32).toInt = 2 := (by decide); have : (3 : Int32).toInt = 3 := (by decide); have : (4 : Int32).toInt = 4 := (by decide); have : (5 : Int32).toInt = 5 := (by decide); have : (6 : Int32).toInt = 6 := (by decide); omega
 rcases c22 with c22 | c22 | c22 | c22 | c22 | c22 | c22
 ·
  subst c22
  refine r_newP H 87 "[C" 0 at_85 (tw4 hw) ?_
  intro h23 b23 kc23 g23 l23 K23 E23 A23
  change Ar Z h23 b23 kc23 .char [] at A23
  refine r_astore H 89 #[vI x0, .val (.long x1), .second, vI x2, vI 0, vI p4, vI p7, vI p10, vI p13, vI p16, vI p20, vR b23, .unset, .unset, .unset, .unset, .unset, .unset, .unset, .unset, .unset, .unset, .unset, .unset] at_87 ?_
  refine r_iload H 91 at_89 ?_
  refine r_ifleT H 100 at_91 ?_
  refine r_iload H 102 at_100 ?_
  refine r_iconst H 103 1 at_102 ?_
  refine r_icmpleT H 112 at_103 (by decide) (by decide) (by decide) ?_
  refine r_iload H 114 at_112 ?_
  refine r_iconst H 115 2 at_114 ?_
  refine r_icmpleT H 124 at_115 (by decide) (by decide) (by decide) ?_
  refine r_iload H 126 at_124 ?_
  refine r_iconst H 127 3 at_126 ?_
  refine r_icmpleT H 136 at_127 (by decide) (by decide) (by decide) ?_
  refine r_iload H 138 at_136 ?_
  refine r_iconst H 139 4 at_138 ?_
  refine r_icmpleT H 148 at_139 (by decide) (by decide) (by decide) ?_
  refine r_iload H 150 at_148 ?_
  refine r_iconst H 151 5 at_150 ?_
  refine r_icmpleT H 160 at_151 (by decide) (by decide) (by decide) ?_
  refine r_new H 163 at_160 (tw5 hw) (tw6 hw) (tw7 hw) ?_
  intro h24 b24 g24 l24 K24 E24 D24
  refine r_dup H 164 at_163 ?_
  refine r_aload H 166 at_164 ?_
  have q25 := (A23.keep K24 nin0)
  have z26 := Nat.le_trans K23.1 K24.1
  refine r_special (a := b24) (argsL := [.ref b23]) (rest := [.ref b24]) (W := 1) H 169 at_166 (tw8 hw) (tw9 hw) (tw7 hw) (tw10 hw) (lenOf pd_2 rfl) (rm_init_2 hw Ts b24 b23 kc23 h24 h0.size (nlt Zf Z0) z26 q25 (nlt K23.1 (Nat.le_of_eq g24.symm)) E24 (show Fld Z h24 b24 "java/lang/String" "value" "[B" .null from D24 (Or.inr (tw20 hw)) (ty := (.array .byte)) (by decide)) (show Fld Z h24 b24 "java/lang/String" "coder" "B" (.int 0) from D24 (Or.inr (tw21 hw)) (ty := .byte) (by decide)) wS hcw hh0 hT_empty) ?_
  rintro _ hh34 ⟨b27, kc28, rfl, K29, q30, q31, q32, q33⟩
  have z35 := Nat.le_trans z26 K29.1
  refine r_static (argsL := [.ref b24]) (rest := []) (W := 0) H 172 at_169 (tw26 hw) (tw27 hw) (tw28 hw) (tw29 hw) (lenOf pd_5 rfl) (rm_readAlikeByEitherSetting_4 hw ("" :: Ts) b24 b27 kc28 cs hh34 h0.size (nlt Zf Z0) z35 q30 q32 q33 q31 S_cs hcs) ?_
  rintro _ _ ⟨rfl, rfl⟩
  refine r_istore H 174 #[vI x0, .val (.long x1), .second, vI x2, vI 0, vI p4, vI p7, vI p10, vI p13, vI p16, vI p20, vR b23, vI 1, .unset, .unset, .unset, .unset, .unset, .unset, .unset, .unset, .unset, .unset, .unset] at_172 ?_
  refine r_iload H 176 at_174 ?_
  refine r_ifleT H 190 at_176 ?_
  refine r_iconst H 191 0 at_190 ?_
  refine r_istore H 193 #[vI x0, .val (.long x1), .second, vI x2, vI 0, vI p4, vI p7, vI p10, vI p13, vI p16, vI p20, vR b23, vI 1, vI 0, .unset, .unset, .unset, .unset, .unset, .unset, .unset, .unset, .unset, .unset] at_191 ?_
  refine r_iload H 195 at_193 ?_
  refine r_iconst H 196 1 at_195 ?_
  refine r_icmpleT H 215 at_196 (by decide) (by decide) (by decide) ?_
  refine r_iconst H 216 0 at_215 ?_
  refine r_istore H 218 #[vI x0, .val (.long x1), .second, vI x2, vI 0, vI p4, vI p7, vI p10, vI p13, vI p16, vI p20, vR b23, vI 1, vI 0, vI 0, .unset, .unset, .unset, .unset, .unset, .unset, .unset, .unset, .unset] at_216 ?_
  refine r_iload H 220 at_218 ?_
  refine r_iconst H 221 1 at_220 ?_
  refine r_icmpleT H 240 at_221 (by decide) (by decide) (by decide) ?_
  refine r_iconst H 241 0 at_240 ?_
  refine r_istore H 243 #[vI x0, .val (.long x1), .second, vI x2, vI 0, vI p4, vI p7, vI p10, vI p13, vI p16, vI p20, vR b23, vI 1, vI 0, vI 0, vI 0, .unset, .unset, .unset, .unset, .unset, .unset, .unset, .unset] at_241 ?_
  refine r_iload H 245 at_243 ?_
  refine r_iconst H 246 2 at_245 ?_
  refine r_icmpleT H 265 at_246 (by decide) (by decide) (by decide) ?_
  refine r_iconst H 266 0 at_265 ?_
  refine r_istore H 268 #[vI x0, .val (.long x1), .second, vI x2, vI 0, vI p4, vI p7, vI p10, vI p13, vI p16, vI p20, vR b23, vI 1, vI 0, vI 0, vI 0, vI 0, .unset, .unset, .unset, .unset, .unset, .unset, .unset] at_266 ?_
  refine r_iload H 270 at_268 ?_
  refine r_iconst H 271 2 at_270 ?_
  refine r_icmpleT H 290 at_271 (by decide) (by decide) (by decide) ?_
  refine r_iconst H 291 0 at_290 ?_
  refine r_istore H 293 #[vI x0, .val (.long x1), .second, vI x2, vI 0, vI p4, vI p7, vI p10, vI p13, vI p16, vI p20, vR b23, vI 1, vI 0, vI 0, vI 0, vI 0, vI 0, .unset, .unset, .unset, .unset, .unset, .unset] at_291 ?_
  refine r_iload H 295 at_293 ?_
  refine r_iconst H 296 3 at_295 ?_
  refine r_icmpleT H 315 at_296 (by decide) (by decide) (by decide) ?_
  refine r_iconst H 316 0 at_315 ?_
  refine r_istore H 318 #[vI x0, .val (.long x1), .second, vI x2, vI 0, vI p4, vI p7, vI p10, vI p13, vI p16, vI p20, vR b23, vI 1, vI 0, vI 0, vI 0, vI 0, vI 0, vI 0, .unset, .unset, .unset, .unset, .unset] at_316 ?_
  refine r_iload H 320 at_318 ?_
  refine r_iconst H 321 3 at_320 ?_
  refine r_icmpleT H 340 at_321 (by decide) (by decide) (by decide) ?_
  refine r_iconst H 341 0 at_340 ?_
  refine r_istore H 343 #[vI x0, .val (.long x1), .second, vI x2, vI 0, vI p4, vI p7, vI p10, vI p13, vI p16, vI p20, vR b23, vI 1, vI 0, vI 0, vI 0, vI 0, vI 0, vI 0, vI 0, .unset, .unset, .unset, .unset] at_341 ?_
  refine r_iload H 345 at_343 ?_
  refine r_iconst H 346 4 at_345 ?_
  refine r_icmpleT H 365 at_346 (by decide) (by decide) (by decide) ?_
  refine r_iconst H 366 0 at_365 ?_
  refine r_istore H 368 #[vI x0, .val (.long x1), .second, vI x2, vI 0, vI p4, vI p7, vI p10, vI p13, vI p16, vI p20, vR b23, vI 1, vI 0, vI 0, vI 0, vI 0, vI 0, vI 0, vI 0, vI 0, .unset, .unset, .unset] at_366 ?_
  refine r_iload H 370 at_368 ?_
  refine r_iconst H 371 4 at_370 ?_
  refine r_icmpleT H 390 at_371 (by decide) (by decide) (by decide) ?_
  refine r_iconst H 391 0 at_390 ?_
  refine r_istore H 393 #[vI x0, .val (.long x1), .second, vI x2, vI 0, vI p4, vI p7, vI p10, vI p13, vI p16, vI p20, vR b23, vI 1, vI 0, vI 0, vI 0, vI 0, vI 0, vI 0, vI 0, vI 0, vI 0, .unset, .unset] at_391 ?_
  refine r_iload H 395 at_393 ?_
  refine r_iconst H 396 5 at_395 ?_
  refine r_icmpleT H 415 at_396 (by decide) (by decide) (by decide) ?_
  refine r_iconst H 416 0 at_415 ?_
  refine r_istore H 418 #[vI x0, .val (.long x1), .second, vI x2, vI 0, vI p4, vI p7, vI p10, vI p13, vI p16, vI p20, vR b23, vI 1, vI 0, vI 0, vI 0, vI 0, vI 0, vI 0, vI 0, vI 0, vI 0, vI 0, .unset] at_416 ?_
  refine r_iload H 420 at_418 ?_
  refine r_ifneF H 423 at_420 rfl (by decide) ?_
  refine r_iload H 425 at_423 ?_
  refine r_ifneF H 428 at_425 rfl (by decide) ?_
  refine r_iload H 430 at_428 ?_
  refine r_ifneF H 433 at_430 rfl (by decide) ?_
  refine r_iload H 435 at_433 ?_
  refine r_ifneF H 438 at_435 rfl (by decide) ?_
  refine r_iload H 440 at_438 ?_
  refine r_ifneF H 443 at_440 rfl (by decide) ?_
  refine r_iconst H 444 1 at_443 ?_
  refine r_goto H 448 at_444 ?_
  refine r_istore H 450 #[vI x0, .val (.long x1), .second, vI x2, vI 0, vI p4, vI p7, vI p10, vI p13, vI p16, vI p20, vR b23, vI 1, vI 0, vI 0, vI 0, vI 0, vI 0, vI 0, vI 0, vI 0, vI 0, vI 0, vI 1] at_448 ?_
  refine r_iload H 452 at_450 ?_
  refine r_iload H 454 at_452 ?_
  refine r_icmpneF H 457 at_454 rfl (by decide) ?_
  refine r_iconst H 458 1 at_457 ?_
  refine r_goto H 462 at_458 ?_
  exact r_nreturn (hf := Z0) (1 : Int32) H at_462 (by decide) rfl
 ·
  subst c22
  refine r_newP H 87 "[C" 1 at_85 (tw4 hw) ?_
  intro h37 b37 kc37 g37 l37 K37 E37 A37
  change Ar Z h37 b37 kc37 .char [.int 0] at A37
  refine r_astore H 89 #[vI x0, .val (.long x1), .second, vI x2, vI 1, vI p4, vI p7, vI p10, vI p13, vI p16, vI p20, vR b37, .unset, .unset, .unset, .unset, .unset, .unset, .unset, .unset, .unset, .unset, .unset, .unset] at_87 ?_
  refine r_iload H 91 at_89 ?_
  refine r_ifleF H 94 at_91 ?_
  refine r_aload H 96 at_94 ?_
  refine r_iconst H 97 0 at_96 ?_
  refine r_iload H 99 at_97 ?_
  refine r_castore H 100 p4 at_99 A37 (nlt nlr (Nat.le_of_eq g37.symm)) (nar_char_id (by have := rp4; omega)) ?_
  intro h38 K38 A38
  change Ar Z h38 b37 kc37 .char [.int p4] at A38
  refine r_iload H 102 at_100 ?_
  refine r_iconst H 103 1 at_102 ?_
  refine r_icmpleT H 112 at_103 (by decide) (by decide) (by decide) ?_
  refine r_iload H 114 at_112 ?_
  refine r_iconst H 115 2 at_114 ?_
  refine r_icmpleT H 124 at_115 (by decide) (by decide) (by decide) ?_
  refine r_iload H 126 at_124 ?_
  refine r_iconst H 127 3 at_126 ?_
  refine r_icmpleT H 136 at_127 (by decide) (by decide) (by decide) ?_
  refine r_iload H 138 at_136 ?_
  refine r_iconst H 139 4 at_138 ?_
  refine r_icmpleT H 148 at_139 (by decide) (by decide) (by decide) ?_
  refine r_iload H 150 at_148 ?_
  refine r_iconst H 151 5 at_150 ?_
  refine r_icmpleT H 160 at_151 (by decide) (by decide) (by decide) ?_
  refine r_new H 163 at_160 (tw5 hw) (tw6 hw) (tw7 hw) ?_
  intro h39 b39 g39 l39 K39 E39 D39
  refine r_dup H 164 at_163 ?_
  refine r_aload H 166 at_164 ?_
  have z40 := Nat.le_trans K37.1 K38.1
  have q41 := (A38.keep K39 nin0)
  have z42 := Nat.le_trans z40 K39.1
  refine r_special (a := b39) (argsL := [.ref b37]) (rest := [.ref b39]) (W := 1) H 169 at_166 (tw8 hw) (tw9 hw) (tw7 hw) (tw10 hw) (lenOf pd_2 rfl) (rm_init_7 hw Ts b39 b37 p4 kc37 cs h39 h0.size (nlt Zf Z0) z42 q41 (nlt z40 (Nat.le_of_eq g39.symm)) E39 (show Fld Z h39 b39 "java/lang/String" "coder" "B" (.int 0) from D39 (Or.inr (tw21 hw)) (ty := .byte) (by decide)) (show Fld Z h39 b39 "java/lang/String" "value" "[B" .null from D39 (Or.inr (tw20 hw)) (ty := (.array .byte)) (by decide)) rp4 S_cs S__assertionsDisabled S_HI_BYTE_SHIFT S_LO_BYTE_SHIFT hcs) ?_
  rintro _ hh63 hQ64
  refine Run.join (P := fun _ => True) (pcB := 172) (LB := fun _ => #[vI x0, .val (.long x1), .second, vI x2, vI 1, vI p4, vI p7, vI p10, vI p13, vI p16, vI p20, vR b37, .unset, .unset, .unset, .unset, .unset, .unset, .unset, .unset, .unset, .unset, .unset, .unset]) (SB := fun _ => [.int 1]) (fun key => ?_) ?_
  ·
   rcases hQ64 with ⟨b43, kc44, rfl, c46, K45, g47, q48, q49, q50, q51, q52⟩ | ⟨b53, kc54, rfl, c56, K55, g57, q58, q59, q60, q61, q62⟩
   ·
    have rr65 : 0 ≤ p4.toInt ∧ p4.toInt ≤ 255 := by have := rp4; have : (255 : Int32).toInt = 255 := (by decide); have hc_ := c46; simp only [Int32.lt_iff_toInt_lt, ← Int32.toInt_inj] at hc_; omega
    have z66 := Nat.le_trans z42 K45.1
    refine r_static (argsL := [.ref b39]) (rest := []) (W := 0) H 172 at_169 (tw26 hw) (tw27 hw) (tw28 hw) (tw29 hw) (lenOf pd_5 rfl) (rm_readAlikeByEitherSetting_18 hw Ts b39 b43 p4 kc44 cs sio hh63 h0.size (nlt Zf Z0) z66 q48 q50 q51 q49 rr65 S_cs S_sio hsio hcs) ?_
    rintro _ _ ⟨rfl, rfl⟩
    exact key 0 trivial
   ·
    have rr68 : 256 ≤ p4.toInt ∧ p4.toInt ≤ 65535 := by have := rp4; have : (255 : Int32).toInt = 255 := (by decide); have hc_ := c56; simp only [Int32.lt_iff_toInt_lt, ← Int32.toInt_inj] at hc_; omega
    have z69 := Nat.le_trans z42 K55.1
    refine r_static (argsL := [.ref b39]) (rest := []) (W := 0) H 172 at_169 (tw26 hw) (tw27 hw) (tw28 hw) (tw29 hw) (lenOf pd_5 rfl) (rm_readAlikeByEitherSetting_25 hw Ts b39 b53 p4 kc54 cs sio hh63 h0.size (nlt Zf Z0) z69 q58 q60 q61 q59 rr68 S_cs S_sio hsio S__assertionsDisabled S_HI_BYTE_SHIFT S_LO_BYTE_SHIFT hcs) ?_
    rintro _ _ ⟨rfl, rfl⟩
    exact key 0 trivial
  rintro _ _
  refine r_istore H 174 #[vI x0, .val (.long x1), .second, vI x2, vI 1, vI p4, vI p7, vI p10, vI p13, vI p16, vI p20, vR b37, vI 1, .unset, .unset, .unset, .unset, .unset, .unset, .unset, .unset, .unset, .unset, .unset] at_172 ?_
  refine r_iload H 176 at_174 ?_
  refine r_ifleF H 179 at_176 ?_
  refine r_iload H 181 at_179 ?_
  refine r_bipush H 183 92 at_181 ?_
  refine Run.join (P := fun z => (if p4 = (92 : Int32) then (1 : Int32) else (0 : Int32)) = z ∧ (0 ≤ z.toInt ∧ z.toInt ≤ 1)) (pcB := 191) (LB := fun z => #[vI x0, .val (.long x1), .second, vI x2, vI 1, vI p4, vI p7, vI p10, vI p13, vI p16, vI p20, vR b37, vI 1, .unset, .unset, .unset, .unset, .unset, .unset, .unset, .unset, .unset, .unset, .unset]) (SB := fun z => [.int z]) (fun key => ?_) ?_
  ·
   refine r_icmpne H 190 186 at_183 (fun c71 => ?_) (fun c71 => ?_)
   ·
    refine r_iconst H 191 0 at_190 ?_
    exact key (0 : Int32) ⟨(by rw [if_neg c71]), (by decide)⟩
   ·
    refine r_iconst H 187 1 at_186 ?_
    refine r_goto H 191 at_187 ?_
    exact key (1 : Int32) ⟨(by rw [if_pos c71]), (by decide)⟩
  rintro p73 ⟨ep73, rp73⟩
  refine r_istore H 193 #[vI x0, .val (.long x1), .second, vI x2, vI 1, vI p4, vI p7, vI p10, vI p13, vI p16, vI p20, vR b37, vI 1, vI p73, .unset, .unset, .unset, .unset, .unset, .unset, .unset, .unset, .unset, .unset] at_191 ?_
  refine r_iload H 195 at_193 ?_
  refine r_iconst H 196 1 at_195 ?_
  refine r_icmpleT H 215 at_196 (by decide) (by decide) (by decide) ?_
  refine r_iconst H 216 0 at_215 ?_
  refine r_istore H 218 #[vI x0, .val (.long x1), .second, vI x2, vI 1, vI p4, vI p7, vI p10, vI p13, vI p16, vI p20, vR b37, vI 1, vI p73, vI 0, .unset, .unset, .unset, .unset, .unset, .unset, .unset, .unset, .unset] at_216 ?_
  refine r_iload H 220 at_218 ?_
  refine r_iconst H 221 1 at_220 ?_
  refine r_icmpleT H 240 at_221 (by decide) (by decide) (by decide) ?_
  refine r_iconst H 241 0 at_240 ?_
  refine r_istore H 243 #[vI x0, .val (.long x1), .second, vI x2, vI 1, vI p4, vI p7, vI p10, vI p13, vI p16, vI p20, vR b37, vI 1, vI p73, vI 0, vI 0, .unset, .unset, .unset, .unset, .unset, .unset, .unset, .unset] at_241 ?_
  refine r_iload H 245 at_243 ?_
  refine r_iconst H 246 2 at_245 ?_
  refine r_icmpleT H 265 at_246 (by decide) (by decide) (by decide) ?_
  refine r_iconst H 266 0 at_265 ?_
  refine r_istore H 268 #[vI x0, .val (.long x1), .second, vI x2, vI 1, vI p4, vI p7, vI p10, vI p13, vI p16, vI p20, vR b37, vI 1, vI p73, vI 0, vI 0, vI 0, .unset, .unset, .unset, .unset, .unset, .unset, .unset] at_266 ?_
  refine r_iload H 270 at_268 ?_
  refine r_iconst H 271 2 at_270 ?_
  refine r_icmpleT H 290 at_271 (by decide) (by decide) (by decide) ?_
  refine r_iconst H 291 0 at_290 ?_
  refine r_istore H 293 #[vI x0, .val (.long x1), .second, vI x2, vI 1, vI p4, vI p7, vI p10, vI p13, vI p16, vI p20, vR b37, vI 1, vI p73, vI 0, vI 0, vI 0, vI 0, .unset, .unset, .unset, .unset, .unset, .unset] at_291 ?_
  refine r_iload H 295 at_293 ?_
  refine r_iconst H 296 3 at_295 ?_
  refine r_icmpleT H 315 at_296 (by decide) (by decide) (by decide) ?_
  refine r_iconst H 316 0 at_315 ?_
  refine r_istore H 318 #[vI x0, .val (.long x1), .second, vI x2, vI 1, vI p4, vI p7, vI p10, vI p13, vI p16, vI p20, vR b37, vI 1, vI p73, vI 0, vI 0, vI 0, vI 0, vI 0, .unset, .unset, .unset, .unset, .unset] at_316 ?_
  refine r_iload H 320 at_318 ?_
  refine r_iconst H 321 3 at_320 ?_
  refine r_icmpleT H 340 at_321 (by decide) (by decide) (by decide) ?_
  refine r_iconst H 341 0 at_340 ?_
  refine r_istore H 343 #[vI x0, .val (.long x1), .second, vI x2, vI 1, vI p4, vI p7, vI p10, vI p13, vI p16, vI p20, vR b37, vI 1, vI p73, vI 0, vI 0, vI 0, vI 0, vI 0, vI 0, .unset, .unset, .unset, .unset] at_341 ?_
  refine r_iload H 345 at_343 ?_
  refine r_iconst H 346 4 at_345 ?_
  refine r_icmpleT H 365 at_346 (by decide) (by decide) (by decide) ?_
  refine r_iconst H 366 0 at_365 ?_
  refine r_istore H 368 #[vI x0, .val (.long x1), .second, vI x2, vI 1, vI p4, vI p7, vI p10, vI p13, vI p16, vI p20, vR b37, vI 1, vI p73, vI 0, vI 0, vI 0, vI 0, vI 0, vI 0, vI 0, .unset, .unset, .unset] at_366 ?_
  refine r_iload H 370 at_368 ?_
  refine r_iconst H 371 4 at_370 ?_
  refine r_icmpleT H 390 at_371 (by decide) (by decide) (by decide) ?_
  refine r_iconst H 391 0 at_390 ?_
  refine r_istore H 393 #[vI x0, .val (.long x1), .second, vI x2, vI 1, vI p4, vI p7, vI p10, vI p13, vI p16, vI p20, vR b37, vI 1, vI p73, vI 0, vI 0, vI 0, vI 0, vI 0, vI 0, vI 0, vI 0, .unset, .unset] at_391 ?_
  refine r_iload H 395 at_393 ?_
  refine r_iconst H 396 5 at_395 ?_
  refine r_icmpleT H 415 at_396 (by decide) (by decide) (by decide) ?_
  refine r_iconst H 416 0 at_415 ?_
  refine r_istore H 418 #[vI x0, .val (.long x1), .second, vI x2, vI 1, vI p4, vI p7, vI p10, vI p13, vI p16, vI p20, vR b37, vI 1, vI p73, vI 0, vI 0, vI 0, vI 0, vI 0, vI 0, vI 0, vI 0, vI 0, .unset] at_416 ?_
  refine r_iload H 420 at_418 ?_
  refine r_ifneF H 423 at_420 rfl (by decide) ?_
  refine r_iload H 425 at_423 ?_
  refine r_ifneF H 428 at_425 rfl (by decide) ?_
  refine r_iload H 430 at_428 ?_
  refine r_ifneF H 433 at_430 rfl (by decide) ?_
  refine r_iload H 435 at_433 ?_
  refine r_ifneF H 438 at_435 rfl (by decide) ?_
  refine r_iload H 440 at_438 ?_
  refine r_ifneF H 443 at_440 rfl (by decide) ?_
  refine r_iconst H 444 1 at_443 ?_
  refine r_goto H 448 at_444 ?_
  refine r_istore H 450 #[vI x0, .val (.long x1), .second, vI x2, vI 1, vI p4, vI p7, vI p10, vI p13, vI p16, vI p20, vR b37, vI 1, vI p73, vI 0, vI 0, vI 0, vI 0, vI 0, vI 0, vI 0, vI 0, vI 0, vI 1] at_448 ?_
  refine r_iload H 452 at_450 ?_
  refine r_iload H 454 at_452 ?_
  refine r_icmpneF H 457 at_454 rfl (by decide) ?_
  refine r_iconst H 458 1 at_457 ?_
  refine r_goto H 462 at_458 ?_
  exact r_nreturn (hf := Z0) (hT := (fun _ t => (.tail _ t))) (1 : Int32) H at_462 (by decide) rfl
 ·
  subst c22
  refine r_newP H 87 "[C" 2 at_85 (tw4 hw) ?_
  intro h74 b74 kc74 g74 l74 K74 E74 A74
  change Ar Z h74 b74 kc74 .char [.int 0, .int 0] at A74
  refine r_astore H 89 #[vI x0, .val (.long x1), .second, vI x2, vI 2, vI p4, vI p7, vI p10, vI p13, vI p16, vI p20, vR b74, .unset, .unset, .unset, .unset, .unset, .unset, .unset, .unset, .unset, .unset, .unset, .unset] at_87 ?_
  refine r_iload H 91 at_89 ?_
  refine r_ifleF H 94 at_91 ?_
  refine r_aload H 96 at_94 ?_
  refine r_iconst H 97 0 at_96 ?_
  refine r_iload H 99 at_97 ?_
  refine r_castore H 100 p4 at_99 A74 (nlt nlr (Nat.le_of_eq g74.symm)) (nar_char_id (by have := rp4; omega)) ?_
  intro h75 K75 A75
  change Ar Z h75 b74 kc74 .char [.int p4, .int 0] at A75
  refine r_iload H 102 at_100 ?_
  refine r_iconst H 103 1 at_102 ?_
  refine r_icmpleF H 106 at_103 rfl (by decide) ?_
  refine r_aload H 108 at_106 ?_
  refine r_iconst H 109 1 at_108 ?_
  refine r_iload H 111 at_109 ?_
  refine r_castore H 112 p7 at_111 A75 (nlt nlr (Nat.le_of_eq g74.symm)) (nar_char_id (by have := rp7; omega)) ?_
  intro h76 K76 A76
  have q77 := (E74.keep K75)
  change Ar Z h76 b74 kc74 .char [.int p4, .int p7] at A76
  refine r_iload H 114 at_112 ?_
  refine r_iconst H 115 2 at_114 ?_
  refine r_icmpleT H 124 at_115 (by decide) (by decide) (by decide) ?_
  refine r_iload H 126 at_124 ?_
  refine r_iconst H 127 3 at_126 ?_
  refine r_icmpleT H 136 at_127 (by decide) (by decide) (by decide) ?_
  refine r_iload H 138 at_136 ?_
  refine r_iconst H 139 4 at_138 ?_
  refine r_icmpleT H 148 at_139 (by decide) (by decide) (by decide) ?_
  refine r_iload H 150 at_148 ?_
  refine r_iconst H 151 5 at_150 ?_
  refine r_icmpleT H 160 at_151 (by decide) (by decide) (by decide) ?_
  refine r_new H 163 at_160 (tw5 hw) (tw6 hw) (tw7 hw) ?_
  intro h78 b78 g78 l78 K78 E78 D78
  refine r_dup H 164 at_163 ?_
  refine r_aload H 166 at_164 ?_
  have z79 := Nat.le_trans K74.1 K75.1
  have z80 := Nat.le_trans z79 K76.1
  have q81 := (A76.keep K78 nin0)
  have q82 := ((q77.keep K76).keep K78)
  have z83 := Nat.le_trans z80 K78.1
  refine r_special (a := b78) (argsL := [.ref b74]) (rest := [.ref b78]) (W := 1) H 169 at_166 (tw8 hw) (tw9 hw) (tw7 hw) (tw10 hw) (lenOf pd_2 rfl) (rm_init_33 hw Ts b78 b74 p4 p7 kc74 cs h78 h0.size (nlt Zf Z0) z83 q81 (nlt z80 (Nat.le_of_eq g78.symm)) q82 E78 (show Fld Z h78 b78 "java/lang/String" "coder" "B" (.int 0) from D78 (Or.inr (tw21 hw)) (ty := .byte) (by decide)) (show Fld Z h78 b78 "java/lang/String" "value" "[B" .null from D78 (Or.inr (tw20 hw)) (ty := (.array .byte)) (by decide)) rp4 rp7 S_cs S__assertionsDisabled S_HI_BYTE_SHIFT S_LO_BYTE_SHIFT hcs) ?_
  rintro _ hh104 hQ105
  refine Run.join (P := fun z => ((fn_readAlikeByEitherSetting_44 p4 p7) = z ∨ (fn_readAlikeByEitherSetting_45 p4 p7) = z) ∧ (0 ≤ z.toInt ∧ z.toInt ≤ 1)) (pcB := 172) (LB := fun z => #[vI x0, .val (.long x1), .second, vI x2, vI 2, vI p4, vI p7, vI p10, vI p13, vI p16, vI p20, vR b74, .unset, .unset, .unset, .unset, .unset, .unset, .unset, .unset, .unset, .unset, .unset, .unset]) (SB := fun z => [.int z]) (fun key => ?_) ?_
  ·
   rcases hQ105 with ⟨b84, kc85, rfl, c87, c88, K86, g89, q90, q91, q92, q93, q94⟩ | ⟨b95, kc96, rfl, K97, g98, q99, q100, q101, q102, q103⟩
   ·
    have rr106 : 0 ≤ p4.toInt ∧ p4.toInt ≤ 255 := by have := rp4; have : (255 : Int32).toInt = 255 := (by decide); have hc_ := c87; simp only [Int32.lt_iff_toInt_lt, ← Int32.toInt_inj] at hc_; omega
    have rr107 : 0 ≤ p7.toInt ∧ p7.toInt ≤ 255 := by have := rp7; have : (255 : Int32).toInt = 255 := (by decide); have hc_ := c88; simp only [Int32.lt_iff_toInt_lt, ← Int32.toInt_inj] at hc_; omega
    have z108 := Nat.le_trans z83 K86.1
    refine r_static (argsL := [.ref b78]) (rest := []) (W := 0) H 172 at_169 (tw26 hw) (tw27 hw) (tw28 hw) (tw29 hw) (lenOf pd_5 rfl) (rm_readAlikeByEitherSetting_44 hw Ts b78 b84 p4 p7 kc85 cs sio hh104 h0.size (nlt Zf Z0) z108 q90 q92 q93 q91 rr106 rr107 S_cs S_sio hsio hcs) ?_
    rintro _ _ ⟨p109, rfl, rfl, ep109, rp109⟩
    exact key p109 ⟨(Or.inl ep109), (by have := rp109; omega)⟩
   ·
    have z111 := Nat.le_trans z83 K97.1
    refine r_static (argsL := [.ref b78]) (rest := []) (W := 0) H 172 at_169 (tw26 hw) (tw27 hw) (tw28 hw) (tw29 hw) (lenOf pd_5 rfl) (rm_readAlikeByEitherSetting_45 hw Ts b78 b95 p4 p7 kc96 cs sio hh104 h0.size (nlt Zf Z0) z111 q99 q101 q102 q100 rp4 rp7 S_cs S_sio hsio S__assertionsDisabled S_HI_BYTE_SHIFT S_LO_BYTE_SHIFT hcs) ?_
    rintro _ _ ⟨p112, rfl, rfl, ep112, rp112⟩
    exact key p112 ⟨(Or.inr (ep112)), (by have := rp112; omega)⟩
  rintro p114 ⟨ep114, rp114⟩
  refine r_istore H 174 #[vI x0, .val (.long x1), .second, vI x2, vI 2, vI p4, vI p7, vI p10, vI p13, vI p16, vI p20, vR b74, vI p114, .unset, .unset, .unset, .unset, .unset, .unset, .unset, .unset, .unset, .unset, .unset] at_172 ?_
  refine r_iload H 176 at_174 ?_
  refine r_ifleF H 179 at_176 ?_
  refine r_iload H 181 at_179 ?_
  refine r_bipush H 183 92 at_181 ?_
  refine Run.join (P := fun z => (if p4 = (92 : Int32) then (1 : Int32) else (0 : Int32)) = z ∧ (0 ≤ z.toInt ∧ z.toInt ≤ 1)) (pcB := 191) (LB := fun z => #[vI x0, .val (.long x1), .second, vI x2, vI 2, vI p4, vI p7, vI p10, vI p13, vI p16, vI p20, vR b74, vI p114, .unset, .unset, .unset, .unset, .unset, .unset, .unset, .unset, .unset, .unset, .unset]) (SB := fun z => [.int z]) (fun key => ?_) ?_
  ·
   refine r_icmpne H 190 186 at_183 (fun c115 => ?_) (fun c115 => ?_)
   ·
    refine r_iconst H 191 0 at_190 ?_
    exact key (0 : Int32) ⟨(by rw [if_neg c115]), (by decide)⟩
   ·
    refine r_iconst H 187 1 at_186 ?_
    refine r_goto H 191 at_187 ?_
    exact key (1 : Int32) ⟨(by rw [if_pos c115]), (by decide)⟩
  rintro p117 ⟨ep117, rp117⟩
  refine r_istore H 193 #[vI x0, .val (.long x1), .second, vI x2, vI 2, vI p4, vI p7, vI p10, vI p13, vI p16, vI p20, vR b74, vI p114, vI p117, .unset, .unset, .unset, .unset, .unset, .unset, .unset, .unset, .unset, .unset] at_191 ?_
  refine r_iload H 195 at_193 ?_
  refine r_iconst H 196 1 at_195 ?_
  refine r_icmpleF H 199 at_196 rfl (by decide) ?_
  refine r_iload H 201 at_199 ?_
  refine r_bipush H 203 39 at_201 ?_
  refine Run.join (P := fun z => (if p7 = (39 : Int32) then (if p117 = (0 : Int32) then (0 : Int32) else (1 : Int32)) else (0 : Int32)) = z ∧ (0 ≤ z.toInt ∧ z.toInt ≤ 1)) (pcB := 216) (LB := fun z => #[vI x0, .val (.long x1), .second, vI x2, vI 2, vI p4, vI p7, vI p10, vI p13, vI p16, vI p20, vR b74, vI p114, vI p117, .unset, .unset, .unset, .unset, .unset, .unset, .unset, .unset, .unset, .unset]) (SB := fun z => [.int z]) (fun key => ?_) ?_
  ·
   refine r_icmpne H 215 206 at_203 (fun c118 => ?_) (fun c118 => ?_)
   ·
    refine r_iconst H 216 0 at_215 ?_
    exact key (0 : Int32) ⟨(by rw [if_neg c118]), (by decide)⟩
   ·
    refine r_iload H 208 at_206 ?_
    refine Run.join (P := fun z => (if p117 = (0 : Int32) then (0 : Int32) else (1 : Int32)) = z ∧ (0 ≤ z.toInt ∧ z.toInt ≤ 1)) (pcB := 216) (LB := fun z => #[vI x0, .val (.long x1), .second, vI x2, vI 2, vI p4, vI p7, vI p10, vI p13, vI p16, vI p20, vR b74, vI p114, vI p117, .unset, .unset, .unset, .unset, .unset, .unset, .unset, .unset, .unset, .unset]) (SB := fun z => [.int z]) (fun key => ?_) ?_
    ·
     refine r_ifeq H 215 211 at_208 (fun c120 => ?_) (fun c120 => ?_)
     ·
      refine r_iconst H 216 0 at_215 ?_
      exact key (0 : Int32) ⟨(by rw [if_pos c120]), (by decide)⟩
     ·
      refine r_iconst H 212 1 at_211 ?_
      refine r_goto H 216 at_212 ?_
      exact key (1 : Int32) ⟨(by rw [if_neg c120]), (by decide)⟩
    rintro p123 ⟨ep123, rp123⟩
    exact key p123 ⟨(by subst ep123; rw [if_pos c118]), (by have := rp123; omega)⟩
  rintro p124 ⟨ep124, rp124⟩
  refine r_istore H 218 #[vI x0, .val (.long x1), .second, vI x2, vI 2, vI p4, vI p7, vI p10, vI p13, vI p16, vI p20, vR b74, vI p114, vI p117, vI p124, .unset, .unset, .unset, .unset, .unset, .unset, .unset, .unset, .unset] at_216 ?_
  refine r_iload H 220 at_218 ?_
  refine r_iconst H 221 1 at_220 ?_
  refine r_icmpleF H 224 at_221 rfl (by decide) ?_
  refine r_iload H 226 at_224 ?_
  refine r_bipush H 228 92 at_226 ?_
  refine Run.join (P := fun z => (if p7 = (92 : Int32) then (if p117 = (0 : Int32) then (1 : Int32) else (0 : Int32)) else (0 : Int32)) = z ∧ (0 ≤ z.toInt ∧ z.toInt ≤ 1)) (pcB := 241) (LB := fun z => #[vI x0, .val (.long x1), .second, vI x2, vI 2, vI p4, vI p7, vI p10, vI p13, vI p16, vI p20, vR b74, vI p114, vI p117, vI p124, .unset, .unset, .unset, .unset, .unset, .unset, .unset, .unset, .unset]) (SB := fun z => [.int z]) (fun key => ?_) ?_
  ·
   refine r_icmpne H 240 231 at_228 (fun c125 => ?_) (fun c125 => ?_)
   ·
    refine r_iconst H 241 0 at_240 ?_
    exact key (0 : Int32) ⟨(by rw [if_neg c125]), (by decide)⟩
   ·
    refine r_iload H 233 at_231 ?_
    refine Run.join (P := fun z => (if p117 = (0 : Int32) then (1 : Int32) else (0 : Int32)) = z ∧ (0 ≤ z.toInt ∧ z.toInt ≤ 1)) (pcB := 241) (LB := fun z => #[vI x0, .val (.long x1), .second, vI x2, vI 2, vI p4, vI p7, vI p10, vI p13, vI p16, vI p20, vR b74, vI p114, vI p117, vI p124, .unset, .unset, .unset, .unset, .unset, .unset, .unset, .unset, .unset]) (SB := fun z => [.int z]) (fun key => ?_) ?_
    ·
     refine r_ifne H 240 236 at_233 (fun c127 => ?_) (fun c127 => ?_)
     ·
      refine r_iconst H 241 0 at_240 ?_
      exact key (0 : Int32) ⟨(by rw [if_neg c127]), (by decide)⟩
     ·
      refine r_iconst H 237 1 at_236 ?_
      refine r_goto H 241 at_237 ?_
      exact key (1 : Int32) ⟨(by rw [if_pos c127]), (by decide)⟩
    rintro p130 ⟨ep130, rp130⟩
    exact key p130 ⟨(by subst ep130; rw [if_pos c125]), (by have := rp130; omega)⟩
  rintro p131 ⟨ep131, rp131⟩
  refine r_istore H 243 #[vI x0, .val (.long x1), .second, vI x2, vI 2, vI p4, vI p7, vI p10, vI p13, vI p16, vI p20, vR b74, vI p114, vI p117, vI p124, vI p131, .unset, .unset, .unset, .unset, .unset, .unset, .unset, .unset] at_241 ?_
  refine r_iload H 245 at_243 ?_
  refine r_iconst H 246 2 at_245 ?_
  refine r_icmpleT H 265 at_246 (by decide) (by decide) (by decide) ?_
  refine r_iconst H 266 0 at_265 ?_
  refine r_istore H 268 #[vI x0, .val (.long x1), .second, vI x2, vI 2, vI p4, vI p7, vI p10, vI p13, vI p16, vI p20, vR b74, vI p114, vI p117, vI p124, vI p131, vI 0, .unset, .unset, .unset, .unset, .unset, .unset, .unset] at_266 ?_
  refine r_iload H 270 at_268 ?_
  refine r_iconst H 271 2 at_270 ?_
  refine r_icmpleT H 290 at_271 (by decide) (by decide) (by decide) ?_
  refine r_iconst H 291 0 at_290 ?_
  refine r_istore H 293 #[vI x0, .val (.long x1), .second, vI x2, vI 2, vI p4, vI p7, vI p10, vI p13, vI p16, vI p20, vR b74, vI p114, vI p117, vI p124, vI p131, vI 0, vI 0, .unset, .unset, .unset, .unset, .unset, .unset] at_291 ?_
  refine r_iload H 295 at_293 ?_
  refine r_iconst H 296 3 at_295 ?_
  refine r_icmpleT H 315 at_296 (by decide) (by decide) (by decide) ?_
  refine r_iconst H 316 0 at_315 ?_
  refine r_istore H 318 #[vI x0, .val (.long x1), .second, vI x2, vI 2, vI p4, vI p7, vI p10, vI p13, vI p16, vI p20, vR b74, vI p114, vI p117, vI p124, vI p131, vI 0, vI 0, vI 0, .unset, .unset, .unset, .unset, .unset] at_316 ?_
  refine r_iload H 320 at_318 ?_
  refine r_iconst H 321 3 at_320 ?_
  refine r_icmpleT H 340 at_321 (by decide) (by decide) (by decide) ?_
  refine r_iconst H 341 0 at_340 ?_
  refine r_istore H 343 #[vI x0, .val (.long x1), .second, vI x2, vI 2, vI p4, vI p7, vI p10, vI p13, vI p16, vI p20, vR b74, vI p114, vI p117, vI p124, vI p131, vI 0, vI 0, vI 0, vI 0, .unset, .unset, .unset, .unset] at_341 ?_
  refine r_iload H 345 at_343 ?_
  refine r_iconst H 346 4 at_345 ?_
  refine r_icmpleT H 365 at_346 (by decide) (by decide) (by decide) ?_
  refine r_iconst H 366 0 at_365 ?_
  refine r_istore H 368 #[vI x0, .val (.long x1), .second, vI x2, vI 2, vI p4, vI p7, vI p10, vI p13, vI p16, vI p20, vR b74, vI p114, vI p117, vI p124, vI p131, vI 0, vI 0, vI 0, vI 0, vI 0, .unset, .unset, .unset] at_366 ?_
  refine r_iload H 370 at_368 ?_
  refine r_iconst H 371 4 at_370 ?_
  refine r_icmpleT H 390 at_371 (by decide) (by decide) (by decide) ?_
  refine r_iconst H 391 0 at_390 ?_
  refine r_istore H 393 #[vI x0, .val (.long x1), .second, vI x2, vI 2, vI p4, vI p7, vI p10, vI p13, vI p16, vI p20, vR b74, vI p114, vI p117, vI p124, vI p131, vI 0, vI 0, vI 0, vI 0, vI 0, vI 0, .unset, .unset] at_391 ?_
  refine r_iload H 395 at_393 ?_
  refine r_iconst H 396 5 at_395 ?_
  refine r_icmpleT H 415 at_396 (by decide) (by decide) (by decide) ?_
  refine r_iconst H 416 0 at_415 ?_
  refine r_istore H 418 #[vI x0, .val (.long x1), .second, vI x2, vI 2, vI p4, vI p7, vI p10, vI p13, vI p16, vI p20, vR b74, vI p114, vI p117, vI p124, vI p131, vI 0, vI 0, vI 0, vI 0, vI 0, vI 0, vI 0, .unset] at_416 ?_
  refine r_iload H 420 at_418 ?_
  refine Run.join (P := fun z => (if p124 = (0 : Int32) then (1 : Int32) else (0 : Int32)) = z ∧ (0 ≤ z.toInt ∧ z.toInt ≤ 1)) (pcB := 448) (LB := fun z => #[vI x0, .val (.long x1), .second, vI x2, vI 2, vI p4, vI p7, vI p10, vI p13, vI p16, vI p20, vR b74, vI p114, vI p117, vI p124, vI p131, vI 0, vI 0, vI 0, vI 0, vI 0, vI 0, vI 0, .unset]) (SB := fun z => [.int z]) (fun key => ?_) ?_
  ·
   refine r_ifne H 447 423 at_420 (fun c132 => ?_) (fun c132 => ?_)
   ·
    refine r_iconst H 448 0 at_447 ?_
    exact key (0 : Int32) ⟨(by rw [if_neg c132]), (by decide)⟩
   ·
    refine r_iload H 425 at_423 ?_
    refine r_ifneF H 428 at_425 rfl (by decide) ?_
    refine r_iload H 430 at_428 ?_
    refine r_ifneF H 433 at_430 rfl (by decide) ?_
    refine r_iload H 435 at_433 ?_
    refine r_ifneF H 438 at_435 rfl (by decide) ?_
    refine r_iload H 440 at_438 ?_
    refine r_ifneF H 443 at_440 rfl (by decide) ?_
    refine r_iconst H 444 1 at_443 ?_
    refine r_goto H 448 at_444 ?_
    exact key (1 : Int32) ⟨(by rw [if_pos c132]), (by decide)⟩
  rintro p135 ⟨ep135, rp135⟩
  refine r_istore H 450 #[vI x0, .val (.long x1), .second, vI x2, vI 2, vI p4, vI p7, vI p10, vI p13, vI p16, vI p20, vR b74, vI p114, vI p117, vI p124, vI p131, vI 0, vI 0, vI 0, vI 0, vI 0, vI 0, vI 0, vI p135] at_448 ?_
  refine r_iload H 452 at_450 ?_
  refine r_iload H 454 at_452 ?_
  refine Run.join (P := fun z => (if p114 = p135 then (1 : Int32) else (0 : Int32)) = z ∧ (0 ≤ z.toInt ∧ z.toInt ≤ 1)) (pcB := 462) (LB := fun z => #[vI x0, .val (.long x1), .second, vI x2, vI 2, vI p4, vI p7, vI p10, vI p13, vI p16, vI p20, vR b74, vI p114, vI p117, vI p124, vI p131, vI 0, vI 0, vI 0, vI 0, vI 0, vI 0, vI 0, vI p135]) (SB := fun z => [.int z]) (fun key => ?_) ?_
  ·
   refine r_icmpne H 461 457 at_454 (fun c136 => ?_) (fun c136 => ?_)
   ·
    refine r_iconst H 462 0 at_461 ?_
    exact key (0 : Int32) ⟨(by rw [if_neg c136]), (by decide)⟩
   ·
    refine r_iconst H 458 1 at_457 ?_
    refine r_goto H 462 at_458 ?_
    exact key (1 : Int32) ⟨(by rw [if_pos c136]), (by decide)⟩
  rintro p137 ⟨ep137, rp137⟩
  have hone : p137 = 1 := by
   rw [← ep137, ← ep135, ← ep124, ← ep117]
   rcases ep114 with e | e
   · rw [← e]; exact lf_fn_readAlikeByEitherSetting_44 p4 p7
   · rw [← e]; exact lf_fn_readAlikeByEitherSetting_44 p4 p7
  exact r_nreturn (hf := Z0) (hT := (fun _ t => (.tail _ t))) (1 : Int32) H at_462 (by rw [hone]; decide) rfl
 ·
  subst c22
  refine r_newP H 87 "[C" 3 at_85 (tw4 hw) ?_
  intro h138 b138 kc138 g138 l138 K138 E138 A138
  change Ar Z h138 b138 kc138 .char [.int 0, .int 0, .int 0] at A138
  refine r_astore H 89 #[vI x0, .val (.long x1), .second, vI x2, vI 3, vI p4, vI p7, vI p10, vI p13, vI p16, vI p20, vR b138, .unset, .unset, .unset, .unset, .unset, .unset, .unset, .unset, .unset, .unset, .unset, .unset] at_87 ?_
  refine r_iload H 91 at_89 ?_
  refine r_ifleF H 94 at_91 ?_
  refine r_aload H 96 at_94 ?_
  refine r_iconst H 97 0 at_96 ?_
  refine r_iload H 99 at_97 ?_
  refine r_castore H 100 p4 at_99 A138 (nlt nlr (Nat.le_of_eq g138.symm)) (nar_char_id (by have := rp4; omega)) ?_
  intro h139 K139 A139
  change Ar Z h139 b138 kc138 .char [.int p4, .int 0, .int 0] at A139
  refine r_iload H 102 at_100 ?_
  refine r_iconst H 103 1 at_102 ?_
  refine r_icmpleF H 106 at_103 rfl (by decide) ?_
  refine r_aload H 108 at_106 ?_
  refine r_iconst H 109 1 at_108 ?_
  refine r_iload H 111 at_109 ?_
  refine r_castore H 112 p7 at_111 A139 (nlt nlr (Nat.le_of_eq g138.symm)) (nar_char_id (by have := rp7; omega)) ?_
  intro h140 K140 A140
  have q141 := (E138.keep K139)
  change Ar Z h140 b138 kc138 .char [.int p4, .int p7, .int 0] at A140
  refine r_iload H 114 at_112 ?_
  refine r_iconst H 115 2 at_114 ?_
  refine r_icmpleF H 118 at_115 rfl (by decide) ?_
  refine r_aload H 120 at_118 ?_
  refine r_iconst H 121 2 at_120 ?_
  refine r_iload H 123 at_121 ?_
  refine r_castore H 124 p10 at_123 A140 (nlt nlr (Nat.le_of_eq g138.symm)) (nar_char_id (by have := rp10; omega)) ?_
  intro h142 K142 A142
  have q143 := (q141.keep K140)
  change Ar Z h142 b138 kc138 .char [.int p4, .int p7, .int p10] at A142
  refine r_iload H 126 at_124 ?_
  refine r_iconst H 127 3 at_126 ?_
  refine r_icmpleT H 136 at_127 (by decide) (by decide) (by decide) ?_
  refine r_iload H 138 at_136 ?_
  refine r_iconst H 139 4 at_138 ?_
  refine r_icmpleT H 148 at_139 (by decide) (by decide) (by decide) ?_
  refine r_iload H 150 at_148 ?_
  refine r_iconst H 151 5 at_150 ?_
  refine r_icmpleT H 160 at_151 (by decide) (by decide) (by decide) ?_
  refine r_new H 163 at_160 (tw5 hw) (tw6 hw) (tw7 hw) ?_
  intro h144 b144 g144 l144 K144 E144 D144
  refine r_dup H 164 at_163 ?_
  refine r_aload H 166 at_164 ?_
  have z145 := Nat.le_trans K138.1 K139.1
  have z146 := Nat.le_trans z145 K140.1
  have z147 := Nat.le_trans z146 K142.1
  have q148 := (A142.keep K144 nin0)
  have q149 := ((q143.keep K142).keep K144)
  have z150 := Nat.le_trans z147 K144.1
  refine r_special (a := b144) (argsL := [.ref b138]) (rest := [.ref b144]) (W := 1) H 169 at_166 (tw8 hw) (tw9 hw) (tw7 hw) (tw10 hw) (lenOf pd_2 rfl) (rm_init_46 hw Ts b144 b138 p4 p7 p10 kc138 cs h144 h0.size (nlt Zf Z0) z150 q148 (nlt z147 (Nat.le_of_eq g144.symm)) q149 E144 (show Fld Z h144 b144 "java/lang/String" "coder" "B" (.int 0) from D144 (Or.inr (tw21 hw)) (ty := .byte) (by decide)) (show Fld Z h144 b144 "java/lang/String" "value" "[B" .null from D144 (Or.inr (tw20 hw)) (ty := (.array .byte)) (by decide)) rp4 rp7 rp10 S_cs S__assertionsDisabled S_HI_BYTE_SHIFT S_LO_BYTE_SHIFT hcs) ?_
  rintro _ hh172 hQ173
  refine Run.join (P := fun z => ((fn_readAlikeByEitherSetting_58 p4 p7 p10) = z ∨ (fn_readAlikeByEitherSetting_59 p4 p7 p10) = z) ∧ (0 ≤ z.toInt ∧ z.toInt ≤ 1)) (pcB := 172) (LB := fun z => #[vI x0, .val (.long x1), .second, vI x2, vI 3, vI p4, vI p7, vI p10, vI p13, vI p16, vI p20, vR b138, .unset, .unset, .unset, .unset, .unset, .unset, .unset, .unset, .unset, .unset, .unset, .unset]) (SB := fun z => [.int z]) (fun key => ?_) ?_
  ·
   rcases hQ173 with ⟨b151, kc152, rfl, c154, c155, c156, K153, g157, q158, q159, q160, q161, q162⟩ | ⟨b163, kc164, rfl, K165, g166, q167, q168, q169, q170, q171⟩
   ·
    have rr174 : 0 ≤ p4.toInt ∧ p4.toInt ≤ 255 := by have := rp4; have : (255 : Int32).toInt = 255 := (by decide); have hc_ := c154; simp only [Int32.lt_iff_toInt_lt, ← Int32.toInt_inj] at hc_; omega
    have rr175 : 0 ≤ p7.toInt ∧ p7.toInt ≤ 255 := by have := rp7; have : (255 : Int32).toInt = 255 := (by decide); have hc_ := c155; simp only [Int32.lt_iff_toInt_lt, ← Int32.toInt_inj] at hc_; omega
    have rr176 : 0 ≤ p10.toInt ∧ p10.toInt ≤ 255 := by have := rp10; have : (255 : Int32).toInt = 255 := (by decide); have hc_ := c156; simp only [Int32.lt_iff_toInt_lt, ← Int32.toInt_inj] at hc_; omega
    have z177 := Nat.le_trans z150 K153.1
    refine r_static (argsL := [.ref b144]) (rest := []) (W := 0) H 172 at_169 (tw26 hw) (tw27 hw) (tw28 hw) (tw29 hw) (lenOf pd_5 rfl) (rm_readAlikeByEitherSetting_58 hw Ts b144 b151 p4 p7 p10 kc152 cs sio hh172 h0.size (nlt Zf Z0) z177 q158 q160 q161 q159 rr174 rr175 rr176 S_cs S_sio hsio hcs) ?_
    rintro _ _ ⟨p178, rfl, rfl, ep178, rp178⟩
    exact key p178 ⟨(Or.inl ep178), (by have := rp178; omega)⟩
   ·
    have z180 := Nat.le_trans z150 K165.1
    refine r_static (argsL := [.ref b144]) (rest := []) (W := 0) H 172 at_169 (tw26 hw) (tw27 hw) (tw28 hw) (tw29 hw) (lenOf pd_5 rfl) (rm_readAlikeByEitherSetting_59 hw Ts b144 b163 p4 p7 p10 kc164 cs sio hh172 h0.size (nlt Zf Z0) z180 q167 q169 q170 q168 rp4 rp7 rp10 S_cs S_sio hsio S__assertionsDisabled S_HI_BYTE_SHIFT S_LO_BYTE_SHIFT hcs) ?_
    rintro _ _ ⟨p181, rfl, rfl, ep181, rp181⟩
    exact key p181 ⟨(Or.inr (ep181)), (by have := rp181; omega)⟩
  rintro p183 ⟨ep183, rp183⟩
  refine r_istore H 174 #[vI x0, .val (.long x1), .second, vI x2, vI 3, vI p4, vI p7, vI p10, vI p13, vI p16, vI p20, vR b138, vI p183, .unset, .unset, .unset, .unset, .unset, .unset, .unset, .unset, .unset, .unset, .unset] at_172 ?_
  refine r_iload H 176 at_174 ?_
  refine r_ifleF H 179 at_176 ?_
  refine r_iload H 181 at_179 ?_
  refine r_bipush H 183 92 at_181 ?_
  refine Run.join (P := fun z => (if p4 = (92 : Int32) then (1 : Int32) else (0 : Int32)) = z ∧ (0 ≤ z.toInt ∧ z.toInt ≤ 1)) (pcB := 191) (LB := fun z => #[vI x0, .val (.long x1), .second, vI x2, vI 3, vI p4, vI p7, vI p10, vI p13, vI p16, vI p20, vR b138, vI p183, .unset, .unset, .unset, .unset, .unset, .unset, .unset, .unset, .unset, .unset, .unset]) (SB := fun z => [.int z]) (fun key => ?_) ?_
  ·
   refine r_icmpne H 190 186 at_183 (fun c184 => ?_) (fun c184 => ?_)
   ·
    refine r_iconst H 191 0 at_190 ?_
    exact key (0 : Int32) ⟨(by rw [if_neg c184]), (by decide)⟩
   ·
    refine r_iconst H 187 1 at_186 ?_
    refine r_goto H 191 at_187 ?_
    exact key (1 : Int32) ⟨(by rw [if_pos c184]), (by decide)⟩
  rintro p186 ⟨ep186, rp186⟩
  refine r_istore H 193 #[vI x0, .val (.long x1), .second, vI x2, vI 3, vI p4, vI p7, vI p10, vI p13, vI p16, vI p20, vR b138, vI p183, vI p186, .unset, .unset, .unset, .unset, .unset, .unset, .unset, .unset, .unset, .unset] at_191 ?_
  refine r_iload H 195 at_193 ?_
  refine r_iconst H 196 1 at_195 ?_
  refine r_icmpleF H 199 at_196 rfl (by decide) ?_
  refine r_iload H 201 at_199 ?_
  refine r_bipush H 203 39 at_201 ?_
  refine Run.join (P := fun z => (if p7 = (39 : Int32) then (if p186 = (0 : Int32) then (0 : Int32) else (1 : Int32)) else (0 : Int32)) = z ∧ (0 ≤ z.toInt ∧ z.toInt ≤ 1)) (pcB := 216) (LB := fun z => #[vI x0, .val (.long x1), .second, vI x2, vI 3, vI p4, vI p7, vI p10, vI p13, vI p16, vI p20, vR b138, vI p183, vI p186, .unset, .unset, .unset, .unset, .unset, .unset, .unset, .unset, .unset, .unset]) (SB := fun z => [.int z]) (fun key => ?_) ?_
  ·
   refine r_icmpne H 215 206 at_203 (fun c187 => ?_) (fun c187 => ?_)
   ·
    refine r_iconst H 216 0 at_215 ?_
    exact key (0 : Int32) ⟨(by rw [if_neg c187]), (by decide)⟩
   ·
    refine r_iload H 208 at_206 ?_
    refine Run.join (P := fun z => (if p186 = (0 : Int32) then (0 : Int32) else (1 : Int32)) = z ∧ (0 ≤ z.toInt ∧ z.toInt ≤ 1)) (pcB := 216) (LB := fun z => #[vI x0, .val (.long x1), .second, vI x2, vI 3, vI p4, vI p7, vI p10, vI p13, vI p16, vI p20, vR b138, vI p183, vI p186, .unset, .unset, .unset, .unset, .unset, .unset, .unset, .unset, .unset, .unset]) (SB := fun z => [.int z]) (fun key => ?_) ?_
    ·
     refine r_ifeq H 215 211 at_208 (fun c189 => ?_) (fun c189 => ?_)
     ·
      refine r_iconst H 216 0 at_215 ?_
      exact key (0 : Int32) ⟨(by rw [if_pos c189]), (by decide)⟩
     ·
      refine r_iconst H 212 1 at_211 ?_
      refine r_goto H 216 at_212 ?_
      exact key (1 : Int32) ⟨(by rw [if_neg c189]), (by decide)⟩
    rintro p192 ⟨ep192, rp192⟩
    exact key p192 ⟨(by subst ep192; rw [if_pos c187]), (by have := rp192; omega)⟩
  rintro p193 ⟨ep193, rp193⟩
  refine r_istore H 218 #[vI x0, .val (.long x1), .second, vI x2, vI 3, vI p4, vI p7, vI p10, vI p13, vI p16, vI p20, vR b138, vI p183, vI p186, vI p193, .unset, .unset, .unset, .unset, .unset, .unset, .unset, .unset, .unset] at_216 ?_
  refine r_iload H 220 at_218 ?_
  refine r_iconst H 221 1 at_220 ?_
  refine r_icmpleF H 224 at_221 rfl (by decide) ?_
  refine r_iload H 226 at_224 ?_
  refine r_bipush H 228 92 at_226 ?_
  refine Run.join (P := fun z => (if p7 = (92 : Int32) then (if p186 = (0 : Int32) then (1 : Int32) else (0 : Int32)) else (0 : Int32)) = z ∧ (0 ≤ z.toInt ∧ z.toInt ≤ 1)) (pcB := 241) (LB := fun z => #[vI x0, .val (.long x1), .second, vI x2, vI 3, vI p4, vI p7, vI p10, vI p13, vI p16, vI p20, vR b138, vI p183, vI p186, vI p193, .unset, .unset, .unset, .unset, .unset, .unset, .unset, .unset, .unset]) (SB := fun z => [.int z]) (fun key => ?_) ?_
  ·
   refine r_icmpne H 240 231 at_228 (fun c194 => ?_) (fun c194 => ?_)
   ·
    refine r_iconst H 241 0 at_240 ?_
    exact key (0 : Int32) ⟨(by rw [if_neg c194]), (by decide)⟩
   ·
    refine r_iload H 233 at_231 ?_
    refine Run.join (P := fun z => (if p186 = (0 : Int32) then (1 : Int32) else (0 : Int32)) = z ∧ (0 ≤ z.toInt ∧ z.toInt ≤ 1)) (pcB := 241) (LB := fun z => #[vI x0, .val (.long x1), .second, vI x2, vI 3, vI p4, vI p7, vI p10, vI p13, vI p16, vI p20, vR b138, vI p183, vI p186, vI p193, .unset, .unset, .unset, .unset, .unset, .unset, .unset, .unset, .unset]) (SB := fun z => [.int z]) (fun key => ?_) ?_
    ·
     refine r_ifne H 240 236 at_233 (fun c196 => ?_) (fun c196 => ?_)
     ·
      refine r_iconst H 241 0 at_240 ?_
      exact key (0 : Int32) ⟨(by rw [if_neg c196]), (by decide)⟩
     ·
      refine r_iconst H 237 1 at_236 ?_
      refine r_goto H 241 at_237 ?_
      exact key (1 : Int32) ⟨(by rw [if_pos c196]), (by decide)⟩
    rintro p199 ⟨ep199, rp199⟩
    exact key p199 ⟨(by subst ep199; rw [if_pos c194]), (by have := rp199; omega)⟩
  rintro p200 ⟨ep200, rp200⟩
  refine r_istore H 243 #[vI x0, .val (.long x1), .second, vI x2, vI 3, vI p4, vI p7, vI p10, vI p13, vI p16, vI p20, vR b138, vI p183, vI p186, vI p193, vI p200, .unset, .unset, .unset, .unset, .unset, .unset, .unset, .unset] at_241 ?_
  refine r_iload H 245 at_243 ?_
  refine r_iconst H 246 2 at_245 ?_
  refine r_icmpleF H 249 at_246 rfl (by decide) ?_
  refine r_iload H 251 at_249 ?_
  refine r_bipush H 253 39 at_251 ?_
  refine Run.join (P := fun z => (if p10 = (39 : Int32) then (if p200 = (0 : Int32) then (0 : Int32) else (1 : Int32)) else (0 : Int32)) = z ∧ (0 ≤ z.toInt ∧ z.toInt ≤ 1)) (pcB := 266) (LB := fun z => #[vI x0, .val (.long x1), .second, vI x2, vI 3, vI p4, vI p7, vI p10, vI p13, vI p16, vI p20, vR b138, vI p183, vI p186, vI p193, vI p200, .unset, .unset, .unset, .unset, .unset, .unset, .unset, .unset]) (SB := fun z => [.int z]) (fun key => ?_) ?_
  ·
   refine r_icmpne H 265 256 at_253 (fun c201 => ?_) (fun c201 => ?_)
   ·
    refine r_iconst H 266 0 at_265 ?_
    exact key (0 : Int32) ⟨(by rw [if_neg c201]), (by decide)⟩
   ·
    refine r_iload H 258 at_256 ?_
    refine Run.join (P := fun z => (if p200 = (0 : Int32) then (0 : Int32) else (1 : Int32)) = z ∧ (0 ≤ z.toInt ∧ z.toInt ≤ 1)) (pcB := 266) (LB := fun z => #[vI x0, .val (.long x1), .second, vI x2, vI 3, vI p4, vI p7, vI p10, vI p13, vI p16, vI p20, vR b138, vI p183, vI p186, vI p193, vI p200, .unset, .unset, .unset, .unset, .unset, .unset, .unset, .unset]) (SB := fun z => [.int z]) (fun key => ?_) ?_
    ·
     refine r_ifeq H 265 261 at_258 (fun c203 => ?_) (fun c203 => ?_)
     ·
      refine r_iconst H 266 0 at_265 ?_
      exact key (0 : Int32) ⟨(by rw [if_pos c203]), (by decide)⟩
     ·
      refine r_iconst H 262 1 at_261 ?_
      refine r_goto H 266 at_262 ?_
      exact key (1 : Int32) ⟨(by rw [if_neg c203]), (by decide)⟩
    rintro p206 ⟨ep206, rp206⟩
    exact key p206 ⟨(by subst ep206; rw [if_pos c201]), (by have := rp206; omega)⟩
  rintro p207 ⟨ep207, rp207⟩
  refine r_istore H 268 #[vI x0, .val (.long x1), .second, vI x2, vI 3, vI p4, vI p7, vI p10, vI p13, vI p16, vI p20, vR b138, vI p183, vI p186, vI p193, vI p200, vI p207, .unset, .unset, .unset, .unset, .unset, .unset, .unset] at_266 ?_
  refine r_iload H 270 at_268 ?_
  refine r_iconst H 271 2 at_270 ?_
  refine r_icmpleF H 274 at_271 rfl (by decide) ?_
  refine r_iload H 276 at_274 ?_
  refine r_bipush H 278 92 at_276 ?_
  refine Run.join (P := fun z => (if p10 = (92 : Int32) then (if p200 = (0 : Int32) then (1 : Int32) else (0 : Int32)) else (0 : Int32)) = z ∧ (0 ≤ z.toInt ∧ z.toInt ≤ 1)) (pcB := 291) (LB := fun z => #[vI x0, .val (.long x1), .second, vI x2, vI 3, vI p4, vI p7, vI p10, vI p13, vI p16, vI p20, vR b138, vI p183, vI p186, vI p193, vI p200, vI p207, .unset, .unset, .unset, .unset, .unset, .unset, .unset]) (SB := fun z => [.int z]) (fun key => ?_) ?_
  ·
   refine r_icmpne H 290 281 at_278 (fun c208 => ?_) (fun c208 => ?_)
   ·
    refine r_iconst H 291 0 at_290 ?_
    exact key (0 : Int32) ⟨(by rw [if_neg c208]), (by decide)⟩
   ·
    refine r_iload H 283 at_281 ?_
    refine Run.join (P := fun z => (if p200 = (0 : Int32) then (1 : Int32) else (0 : Int32)) = z ∧ (0 ≤ z.toInt ∧ z.toInt ≤ 1)) (pcB := 291) (LB := fun z => #[vI x0, .val (.long x1), .second, vI x2, vI 3, vI p4, vI p7, vI p10, vI p13, vI p16, vI p20, vR b138, vI p183, vI p186, vI p193, vI p200, vI p207, .unset, .unset, .unset, .unset, .unset, .unset, .unset]) (SB := fun z => [.int z]) (fun key => ?_) ?_
    ·
     refine r_ifne H 290 286 at_283 (fun c210 => ?_) (fun c210 => ?_)
     ·
      refine r_iconst H 291 0 at_290 ?_
      exact key (0 : Int32) ⟨(by rw [if_neg c210]), (by decide)⟩
     ·
      refine r_iconst H 287 1 at_286 ?_
      refine r_goto H 291 at_287 ?_
      exact key (1 : Int32) ⟨(by rw [if_pos c210]), (by decide)⟩
    rintro p213 ⟨ep213, rp213⟩
    exact key p213 ⟨(by subst ep213; rw [if_pos c208]), (by have := rp213; omega)⟩
  rintro p214 ⟨ep214, rp214⟩
  refine r_istore H 293 #[vI x0, .val (.long x1), .second, vI x2, vI 3, vI p4, vI p7, vI p10, vI p13, vI p16, vI p20, vR b138, vI p183, vI p186, vI p193, vI p200, vI p207, vI p214, .unset, .unset, .unset, .unset, .unset, .unset] at_291 ?_
  refine r_iload H 295 at_293 ?_
  refine r_iconst H 296 3 at_295 ?_
  refine r_icmpleT H 315 at_296 (by decide) (by decide) (by decide) ?_
  refine r_iconst H 316 0 at_315 ?_
  refine r_istore H 318 #[vI x0, .val (.long x1), .second, vI x2, vI 3, vI p4, vI p7, vI p10, vI p13, vI p16, vI p20, vR b138, vI p183, vI p186, vI p193, vI p200, vI p207, vI p214, vI 0, .unset, .unset, .unset, .unset, .unset] at_316 ?_
  refine r_iload H 320 at_318 ?_
  refine r_iconst H 321 3 at_320 ?_
  refine r_icmpleT H 340 at_321 (by decide) (by decide) (by decide) ?_
  refine r_iconst H 341 0 at_340 ?_
  refine r_istore H 343 #[vI x0, .val (.long x1), .second, vI x2, vI 3, vI p4, vI p7, vI p10, vI p13, vI p16, vI p20, vR b138, vI p183, vI p186, vI p193, vI p200, vI p207, vI p214, vI 0, vI 0, .unset, .unset, .unset, .unset] at_341 ?_
  refine r_iload H 345 at_343 ?_
  refine r_iconst H 346 4 at_345 ?_
  refine r_icmpleT H 365 at_346 (by decide) (by decide) (by decide) ?_
  refine r_iconst H 366 0 at_365 ?_
  refine r_istore H 368 #[vI x0, .val (.long x1), .second, vI x2, vI 3, vI p4, vI p7, vI p10, vI p13, vI p16, vI p20, vR b138, vI p183, vI p186, vI p193, vI p200, vI p207, vI p214, vI 0, vI 0, vI 0, .unset, .unset, .unset] at_366 ?_
  refine r_iload H 370 at_368 ?_
  refine r_iconst H 371 4 at_370 ?_
  refine r_icmpleT H 390 at_371 (by decide) (by decide) (by decide) ?_
  refine r_iconst H 391 0 at_390 ?_
  refine r_istore H 393 #[vI x0, .val (.long x1), .second, vI x2, vI 3, vI p4, vI p7, vI p10, vI p13, vI p16, vI p20, vR b138, vI p183, vI p186, vI p193, vI p200, vI p207, vI p214, vI 0, vI 0, vI 0, vI 0, .unset, .unset] at_391 ?_
  refine r_iload H 395 at_393 ?_
  refine r_iconst H 396 5 at_395 ?_
  refine r_icmpleT H 415 at_396 (by decide) (by decide) (by decide) ?_
  refine r_iconst H 416 0 at_415 ?_
  refine r_istore H 418 #[vI x0, .val (.long x1), .second, vI x2, vI 3, vI p4, vI p7, vI p10, vI p13, vI p16, vI p20, vR b138, vI p183, vI p186, vI p193, vI p200, vI p207, vI p214, vI 0, vI 0, vI 0, vI 0, vI 0, .unset] at_416 ?_
  refine r_iload H 420 at_418 ?_
  refine Run.join (P := fun z => (if p193 = (0 : Int32) then (if p207 = (0 : Int32) then (1 : Int32) else (0 : Int32)) else (0 : Int32)) = z ∧ (0 ≤ z.toInt ∧ z.toInt ≤ 1)) (pcB := 448) (LB := fun z => #[vI x0, .val (.long x1), .second, vI x2, vI 3, vI p4, vI p7, vI p10, vI p13, vI p16, vI p20, vR b138, vI p183, vI p186, vI p193, vI p200, vI p207, vI p214, vI 0, vI 0, vI 0, vI 0, vI 0, .unset]) (SB := fun z => [.int z]) (fun key => ?_) ?_
  ·
   refine r_ifne H 447 423 at_420 (fun c215 => ?_) (fun c215 => ?_)
   ·
    refine r_iconst H 448 0 at_447 ?_
    exact key (0 : Int32) ⟨(by rw [if_neg c215]), (by decide)⟩
   ·
    refine r_iload H 425 at_423 ?_
    refine Run.join (P := fun z => (if p207 = (0 : Int32) then (1 : Int32) else (0 : Int32)) = z ∧ (0 ≤ z.toInt ∧ z.toInt ≤ 1)) (pcB := 448) (LB := fun z => #[vI x0, .val (.long x1), .second, vI x2, vI 3, vI p4, vI p7, vI p10, vI p13, vI p16, vI p20, vR b138, vI p183, vI p186, vI p193, vI p200, vI p207, vI p214, vI 0, vI 0, vI 0, vI 0, vI 0, .unset]) (SB := fun z => [.int z]) (fun key => ?_) ?_
    ·
     refine r_ifne H 447 428 at_425 (fun c218 => ?_) (fun c218 => ?_)
     ·
      refine r_iconst H 448 0 at_447 ?_
      exact key (0 : Int32) ⟨(by rw [if_neg c218]), (by decide)⟩
     ·
      refine r_iload H 430 at_428 ?_
      refine r_ifneF H 433 at_430 rfl (by decide) ?_
      refine r_iload H 435 at_433 ?_
      refine r_ifneF H 438 at_435 rfl (by decide) ?_
      refine r_iload H 440 at_438 ?_
      refine r_ifneF H 443 at_440 rfl (by decide) ?_
      refine r_iconst H 444 1 at_443 ?_
      refine r_goto H 448 at_444 ?_
      exact key (1 : Int32) ⟨(by rw [if_pos c218]), (by decide)⟩
    rintro p221 ⟨ep221, rp221⟩
    exact key p221 ⟨(by subst ep221; rw [if_pos c215]), (by have := rp221; omega)⟩
  rintro p222 ⟨ep222, rp222⟩
  refine r_istore H 450 #[vI x0, .val (.long x1), .second, vI x2, vI 3, vI p4, vI p7, vI p10, vI p13, vI p16, vI p20, vR b138, vI p183, vI p186, vI p193, vI p200, vI p207, vI p214, vI 0, vI 0, vI 0, vI 0, vI 0, vI p222] at_448 ?_
  refine r_iload H 452 at_450 ?_
  refine r_iload H 454 at_452 ?_
  refine Run.join (P := fun z => (if p183 = p222 then (1 : Int32) else (0 : Int32)) = z ∧ (0 ≤ z.toInt ∧ z.toInt ≤ 1)) (pcB := 462) (LB := fun z => #[vI x0, .val (.long x1), .second, vI x2, vI 3, vI p4, vI p7, vI p10, vI p13, vI p16, vI p20, vR b138, vI p183, vI p186, vI p193, vI p200, vI p207, vI p214, vI 0, vI 0, vI 0, vI 0, vI 0, vI p222]) (SB := fun z => [.int z]) (fun key => ?_) ?_
  ·
   refine r_icmpne H 461 457 at_454 (fun c223 => ?_) (fun c223 => ?_)
   ·
    refine r_iconst H 462 0 at_461 ?_
    exact key (0 : Int32) ⟨(by rw [if_neg c223]), (by decide)⟩
   ·
    refine r_iconst H 458 1 at_457 ?_
    refine r_goto H 462 at_458 ?_
    exact key (1 : Int32) ⟨(by rw [if_pos c223]), (by decide)⟩
  rintro p224 ⟨ep224, rp224⟩
  have hone : p224 = 1 := by
   rw [← ep224, ← ep222, ← ep207, ← ep200, ← ep193, ← ep186]
   rcases ep183 with e | e
   · rw [← e]; exact lf_fn_readAlikeByEitherSetting_58 p4 p7 p10
   · rw [← e]; exact lf_fn_readAlikeByEitherSetting_58 p4 p7 p10
  exact r_nreturn (hf := Z0) (hT := (fun _ t => (.tail _ t))) (1 : Int32) H at_462 (by rw [hone]; decide) rfl
 ·
  subst c22
  refine r_newP H 87 "[C" 4 at_85 (tw4 hw) ?_
  intro h225 b225 kc225 g225 l225 K225 E225 A225
  change Ar Z h225 b225 kc225 .char [.int 0, .int 0, .int 0, .int 0] at A225
  refine r_astore H 89 #[vI x0, .val (.long x1), .second, vI x2, vI 4, vI p4, vI p7, vI p10, vI p13, vI p16, vI p20, vR b225, .unset, .unset, .unset, .unset, .unset, .unset, .unset, .unset, .unset, .unset, .unset, .unset] at_87 ?_
  refine r_iload H 91 at_89 ?_
  refine r_ifleF H 94 at_91 ?_
  refine r_aload H 96 at_94 ?_
  refine r_iconst H 97 0 at_96 ?_
  refine r_iload H 99 at_97 ?_
  refine r_castore H 100 p4 at_99 A225 (nlt nlr (Nat.le_of_eq g225.symm)) (nar_char_id (by have := rp4; omega)) ?_
  intro h226 K226 A226
  change Ar Z h226 b225 kc225 .char [.int p4, .int 0, .int 0, .int 0] at A226
  refine r_iload H 102 at_100 ?_
  refine r_iconst H 103 1 at_102 ?_
  refine r_icmpleF H 106 at_103 rfl (by decide) ?_
  refine r_aload H 108 at_106 ?_
  refine r_iconst H 109 1 at_108 ?_
  refine r_iload H 111 at_109 ?_
  refine r_castore H 112 p7 at_111 A226 (nlt nlr (Nat.le_of_eq g225.symm)) (nar_char_id (by have := rp7; omega)) ?_
  intro h227 K227 A227
  have q228 := (E225.keep K226)
  change Ar Z h227 b225 kc225 .char [.int p4, .int p7, .int 0, .int 0] at A227
  refine r_iload H 114 at_112 ?_
  refine r_iconst H 115 2 at_114 ?_
  refine r_icmpleF H 118 at_115 rfl (by decide) ?_
  refine r_aload H 120 at_118 ?_
  refine r_iconst H 121 2 at_120 ?_
  refine r_iload H 123 at_121 ?_
  refine r_castore H 124 p10 at_123 A227 (nlt nlr (Nat.le_of_eq g225.symm)) (nar_char_id (by have := rp10; omega)) ?_
  intro h229 K229 A229
  have q230 := (q228.keep K227)
  change Ar Z h229 b225 kc225 .char [.int p4, .int p7, .int p10, .int 0] at A229
  refine r_iload H 126 at_124 ?_
  refine r_iconst H 127 3 at_126 ?_
  refine r_icmpleF H 130 at_127 rfl (by decide) ?_
  refine r_aload H 132 at_130 ?_
  refine r_iconst H 133 3 at_132 ?_
  refine r_iload H 135 at_133 ?_
  refine r_castore H 136 p13 at_135 A229 (nlt nlr (Nat.le_of_eq g225.symm)) (nar_char_id (by have := rp13; omega)) ?_
  intro h231 K231 A231
  have q232 := (q230.keep K229)
  change Ar Z h231 b225 kc225 .char [.int p4, .int p7, .int p10, .int p13] at A231
  refine r_iload H 138 at_136 ?_
  refine r_iconst H 139 4 at_138 ?_
  refine r_icmpleT H 148 at_139 (by decide) (by decide) (by decide) ?_
  refine r_iload H 150 at_148 ?_
  refine r_iconst H 151 5 at_150 ?_
  refine r_icmpleT H 160 at_151 (by decide) (by decide) (by decide) ?_
  refine r_new H 163 at_160 (tw5 hw) (tw6 hw) (tw7 hw) ?_
  intro h233 b233 g233 l233 K233 E233 D233
  refine r_dup H 164 at_163 ?_
  refine r_aload H 166 at_164 ?_
  have z234 := Nat.le_trans K225.1 K226.1
  have z235 := Nat.le_trans z234 K227.1
  have z236 := Nat.le_trans z235 K229.1
  have z237 := Nat.le_trans z236 K231.1
  have q238 := (A231.keep K233 nin0)
  have q239 := ((q232.keep K231).keep K233)
  have z240 := Nat.le_trans z237 K233.1
  refine r_special (a := b233) (argsL := [.ref b225]) (rest := [.ref b233]) (W := 1) H 169 at_166 (tw8 hw) (tw9 hw) (tw7 hw) (tw10 hw) (lenOf pd_2 rfl) (rm_init_60 hw Ts b233 b225 p4 p7 p10 p13 kc225 cs h233 h0.size (nlt Zf Z0) z240 q238 (nlt z237 (Nat.le_of_eq g233.symm)) q239 E233 (show Fld Z h233 b233 "java/lang/String" "coder" "B" (.int 0) from D233 (Or.inr (tw21 hw)) (ty := .byte) (by decide)) (show Fld Z h233 b233 "java/lang/String" "value" "[B" .null from D233 (Or.inr (tw20 hw)) (ty := (.array .byte)) (by decide)) rp4 rp7 rp10 rp13 S_cs S__assertionsDisabled S_HI_BYTE_SHIFT S_LO_BYTE_SHIFT hcs) ?_
  rintro _ hh263 hQ264
  refine Run.join (P := fun z => ((fn_readAlikeByEitherSetting_73 p4 p7 p10 p13) = z ∨ (fn_readAlikeByEitherSetting_74 p4 p7 p10 p13) = z) ∧ (0 ≤ z.toInt ∧ z.toInt ≤ 1)) (pcB := 172) (LB := fun z => #[vI x0, .val (.long x1), .second, vI x2, vI 4, vI p4, vI p7, vI p10, vI p13, vI p16, vI p20, vR b225, .unset, .unset, .unset, .unset, .unset, .unset, .unset, .unset, .unset, .unset, .unset, .unset]) (SB := fun z => [.int z]) (fun key => ?_) ?_
  ·
   rcases hQ264 with ⟨b241, kc242, rfl, c244, c245, c246, c247, K243, g248, q249, q250, q251, q252, q253⟩ | ⟨b254, kc255, rfl, K256, g257, q258, q259, q260, q261, q262⟩
   ·
    have rr265 : 0 ≤ p4.toInt ∧ p4.toInt ≤ 255 := by have := rp4; have : (255 : Int32).toInt = 255 := (by decide); have hc_ := c244; simp only [Int32.lt_iff_toInt_lt, ← Int32.toInt_inj] at hc_; omega
    have rr266 : 0 ≤ p7.toInt ∧ p7.toInt ≤ 255 := by have := rp7; have : (255 : Int32).toInt = 255 := (by decide); have hc_ := c245; simp only [Int32.lt_iff_toInt_lt, ← Int32.toInt_inj] at hc_; omega
    have rr267 : 0 ≤ p10.toInt ∧ p10.toInt ≤ 255 := by have := rp10; have : (255 : Int32).toInt = 255 := (by decide); have hc_ := c246; simp only [Int32.lt_iff_toInt_lt, ← Int32.toInt_inj] at hc_; omega
    have rr268 : 0 ≤ p13.toInt ∧ p13.toInt ≤ 255 := by have := rp13; have : (255 : Int32).toInt = 255 := (by decide); have hc_ := c247; simp only [Int32.lt_iff_toInt_lt, ← Int32.toInt_inj] at hc_; omega
    have z269 := Nat.le_trans z240 K243.1
    refine r_static (argsL := [.ref b233]) (rest := []) (W := 0) H 172 at_169 (tw26 hw) (tw27 hw) (tw28 hw) (tw29 hw) (lenOf pd_5 rfl) (rm_readAlikeByEitherSetting_73 hw Ts b233 b241 p4 p7 p10 p13 kc242 cs sio hh263 h0.size (nlt Zf Z0) z269 q249 q251 q252 q250 rr265 rr266 rr267 rr268 S_cs S_sio hsio hcs) ?_
    rintro _ _ ⟨p270, rfl, rfl, ep270, rp270⟩
    exact key p270 ⟨(Or.inl ep270), (by have := rp270; omega)⟩
   ·
    have z272 := Nat.le_trans z240 K256.1
    refine r_static (argsL := [.ref b233]) (rest := []) (W := 0) H 172 at_169 (tw26 hw) (tw27 hw) (tw28 hw) (tw29 hw) (lenOf pd_5 rfl) (rm_readAlikeByEitherSetting_74 hw Ts b233 b254 p4 p7 p10 p13 kc255 cs sio hh263 h0.size (nlt Zf Z0) z272 q258 q260 q261 q259 rp4 rp7 rp10 rp13 S_cs S_sio hsio S__assertionsDisabled S_HI_BYTE_SHIFT S_LO_BYTE_SHIFT hcs) ?_
    rintro _ _ ⟨p273, rfl, rfl, ep273, rp273⟩
    exact key p273 ⟨(Or.inr (ep273)), (by have := rp273; omega)⟩
  rintro p275 ⟨ep275, rp275⟩
  refine r_istore H 174 #[vI x0, .val (.long x1), .second, vI x2, vI 4, vI p4, vI p7, vI p10, vI p13, vI p16, vI p20, vR b225, vI p275, .unset, .unset, .unset, .unset, .unset, .unset, .unset, .unset, .unset, .unset, .unset] at_172 ?_
  refine r_iload H 176 at_174 ?_
  refine r_ifleF H 179 at_176 ?_
  refine r_iload H 181 at_179 ?_
  refine r_bipush H 183 92 at_181 ?_
  refine Run.join (P := fun z => (if p4 = (92 : Int32) then (1 : Int32) else (0 : Int32)) = z ∧ (0 ≤ z.toInt ∧ z.toInt ≤ 1)) (pcB := 191) (LB := fun z => #[vI x0, .val (.long x1), .second, vI x2, vI 4, vI p4, vI p7, vI p10, vI p13, vI p16, vI p20, vR b225, vI p275, .unset, .unset, .unset, .unset, .unset, .unset, .unset, .unset, .unset, .unset, .unset]) (SB := fun z => [.int z]) (fun key => ?_) ?_
  ·
   refine r_icmpne H 190 186 at_183 (fun c276 => ?_) (fun c276 => ?_)
   ·
    refine r_iconst H 191 0 at_190 ?_
    exact key (0 : Int32) ⟨(by rw [if_neg c276]), (by decide)⟩
   ·
    refine r_iconst H 187 1 at_186 ?_
    refine r_goto H 191 at_187 ?_
    exact key (1 : Int32) ⟨(by rw [if_pos c276]), (by decide)⟩
  rintro p278 ⟨ep278, rp278⟩
  refine r_istore H 193 #[vI x0, .val (.long x1), .second, vI x2, vI 4, vI p4, vI p7, vI p10, vI p13, vI p16, vI p20, vR b225, vI p275, vI p278, .unset, .unset, .unset, .unset, .unset, .unset, .unset, .unset, .unset, .unset] at_191 ?_
  refine r_iload H 195 at_193 ?_
  refine r_iconst H 196 1 at_195 ?_
  refine r_icmpleF H 199 at_196 rfl (by decide) ?_
  refine r_iload H 201 at_199 ?_
  refine r_bipush H 203 39 at_201 ?_
  refine Run.join (P := fun z => (if p7 = (39 : Int32) then (if p278 = (0 : Int32) then (0 : Int32) else (1 : Int32)) else (0 : Int32)) = z ∧ (0 ≤ z.toInt ∧ z.toInt ≤ 1)) (pcB := 216) (LB := fun z => #[vI x0, .val (.long x1), .second, vI x2, vI 4, vI p4, vI p7, vI p10, vI p13, vI p16, vI p20, vR b225, vI p275, vI p278, .unset, .unset, .unset, .unset, .unset, .unset, .unset, .unset, .unset, .unset]) (SB := fun z => [.int z]) (fun key => ?_) ?_
  ·
   refine r_icmpne H 215 206 at_203 (fun c279 => ?_) (fun c279 => ?_)
   ·
    refine r_iconst H 216 0 at_215 ?_
    exact key (0 : Int32) ⟨(by rw [if_neg c279]), (by decide)⟩
   ·
    refine r_iload H 208 at_206 ?_
    refine Run.join (P := fun z => (if p278 = (0 : Int32) then (0 : Int32) else (1 : Int32)) = z ∧ (0 ≤ z.toInt ∧ z.toInt ≤ 1)) (pcB := 216) (LB := fun z => #[vI x0, .val (.long x1), .second, vI x2, vI 4, vI p4, vI p7, vI p10, vI p13, vI p16, vI p20, vR b225, vI p275, vI p278, .unset, .unset, .unset, .unset, .unset, .unset, .unset, .unset, .unset, .unset]) (SB := fun z => [.int z]) (fun key => ?_) ?_
    ·
     refine r_ifeq H 215 211 at_208 (fun c281 => ?_) (fun c281 => ?_)
     ·
      refine r_iconst H 216 0 at_215 ?_
      exact key (0 : Int32) ⟨(by rw [if_pos c281]), (by decide)⟩
     ·
      refine r_iconst H 212 1 at_211 ?_
      refine r_goto H 216 at_212 ?_
      exact key (1 : Int32) ⟨(by rw [if_neg c281]), (by decide)⟩
    rintro p284 ⟨ep284, rp284⟩
    exact key p284 ⟨(by subst ep284; rw [if_pos c279]), (by have := rp284; omega)⟩
  rintro p285 ⟨ep285, rp285⟩
  refine r_istore H 218 #[vI x0, .val (.long x1), .second, vI x2, vI 4, vI p4, vI p7, vI p10, vI p13, vI p16, vI p20, vR b225, vI p275, vI p278, vI p285, .unset, .unset, .unset, .unset, .unset, .unset, .unset, .unset, .unset] at_216 ?_
  refine r_iload H 220 at_218 ?_
  refine r_iconst H 221 1 at_220 ?_
  refine r_icmpleF H 224 at_221 rfl (by decide) ?_
  refine r_iload H 226 at_224 ?_
  refine r_bipush H 228 92 at_226 ?_
  refine Run.join (P := fun z => (if p7 = (92 : Int32) then (if p278 = (0 : Int32) then (1 : Int32) else (0 : Int32)) else (0 : Int32)) = z ∧ (0 ≤ z.toInt ∧ z.toInt ≤ 1)) (pcB := 241) (LB := fun z => #[vI x0, .val (.long x1), .second, vI x2, vI 4, vI p4, vI p7, vI p10, vI p13, vI p16, vI p20, vR b225, vI p275, vI p278, vI p285, .unset, .unset, .unset, .unset, .unset, .unset, .unset, .unset, .unset]) (SB := fun z => [.int z]) (fun key => ?_) ?_
  ·
   refine r_icmpne H 240 231 at_228 (fun c286 => ?_) (fun c286 => ?_)
   ·
    refine r_iconst H 241 0 at_240 ?_
    exact key (0 : Int32) ⟨(by rw [if_neg c286]), (by decide)⟩
   ·
    refine r_iload H 233 at_231 ?_
    refine Run.join (P := fun z => (if p278 = (0 : Int32) then (1 : Int32) else (0 : Int32)) = z ∧ (0 ≤ z.toInt ∧ z.toInt ≤ 1)) (pcB := 241) (LB := fun z => #[vI x0, .val (.long x1), .second, vI x2, vI 4, vI p4, vI p7, vI p10, vI p13, vI p16, vI p20, vR b225, vI p275, vI p278, vI p285, .unset, .unset, .unset, .unset, .unset, .unset, .unset, .unset, .unset]) (SB := fun z => [.int z]) (fun key => ?_) ?_
    ·
     refine r_ifne H 240 236 at_233 (fun c288 => ?_) (fun c288 => ?_)
     ·
      refine r_iconst H 241 0 at_240 ?_
      exact key (0 : Int32) ⟨(by rw [if_neg c288]), (by decide)⟩
     ·
      refine r_iconst H 237 1 at_236 ?_
      refine r_goto H 241 at_237 ?_
      exact key (1 : Int32) ⟨(by rw [if_pos c288]), (by decide)⟩
    rintro p291 ⟨ep291, rp291⟩
    exact key p291 ⟨(by subst ep291; rw [if_pos c286]), (by have := rp291; omega)⟩
  rintro p292 ⟨ep292, rp292⟩
  refine r_istore H 243 #[vI x0, .val (.long x1), .second, vI x2, vI 4, vI p4, vI p7, vI p10, vI p13, vI p16, vI p20, vR b225, vI p275, vI p278, vI p285, vI p292, .unset, .unset, .unset, .unset, .unset, .unset, .unset, .unset] at_241 ?_
  refine r_iload H 245 at_243 ?_
  refine r_iconst H 246 2 at_245 ?_
  refine r_icmpleF H 249 at_246 rfl (by decide) ?_
  refine r_iload H 251 at_249 ?_
  refine r_bipush H 253 39 at_251 ?_
  refine Run.join (P := fun z => (if p10 = (39 : Int32) then (if p292 = (0 : Int32) then (0 : Int32) else (1 : Int32)) else (0 : Int32)) = z ∧ (0 ≤ z.toInt ∧ z.toInt ≤ 1)) (pcB := 266) (LB := fun z => #[vI x0, .val (.long x1), .second, vI x2, vI 4, vI p4, vI p7, vI p10, vI p13, vI p16, vI p20, vR b225, vI p275, vI p278, vI p285, vI p292, .unset, .unset, .unset, .unset, .unset, .unset, .unset, .unset]) (SB := fun z => [.int z]) (fun key => ?_) ?_
  ·
   refine r_icmpne H 265 256 at_253 (fun c293 => ?_) (fun c293 => ?_)
   ·
    refine r_iconst H 266 0 at_265 ?_
    exact key (0 : Int32) ⟨(by rw [if_neg c293]), (by decide)⟩
   ·
    refine r_iload H 258 at_256 ?_
    refine Run.join (P := fun z => (if p292 = (0 : Int32) then (0 : Int32) else (1 : Int32)) = z ∧ (0 ≤ z.toInt ∧ z.toInt ≤ 1)) (pcB := 266) (LB := fun z => #[vI x0, .val (.long x1), .second, vI x2, vI 4, vI p4, vI p7, vI p10, vI p13, vI p16, vI p20, vR b225, vI p275, vI p278, vI p285, vI p292, .unset, .unset, .unset, .unset, .unset, .unset, .unset, .unset]) (SB := fun z => [.int z]) (fun key => ?_) ?_
    ·
     refine r_ifeq H 265 261 at_258 (fun c295 => ?_) (fun c295 => ?_)
     ·
      refine r_iconst H 266 0 at_265 ?_
      exact key (0 : Int32) ⟨(by rw [if_pos c295]), (by decide)⟩
     ·
      refine r_iconst H 262 1 at_261 ?_
      refine r_goto H 266 at_262 ?_
      exact key (1 : Int32) ⟨(by rw [if_neg c295]), (by decide)⟩
    rintro p298 ⟨ep298, rp298⟩
    exact key p298 ⟨(by subst ep298; rw [if_pos c293]), (by have := rp298; omega)⟩
  rintro p299 ⟨ep299, rp299⟩
  refine r_istore H 268 #[vI x0, .val (.long x1), .second, vI x2, vI 4, vI p4, vI p7, vI p10, vI p13, vI p16, vI p20, vR b225, vI p275, vI p278, vI p285, vI p292, vI p299, .unset, .unset, .unset, .unset, .unset, .unset, .unset] at_266 ?_
  refine r_iload H 270 at_268 ?_
  refine r_iconst H 271 2 at_270 ?_
  refine r_icmpleF H 274 at_271 rfl (by decide) ?_
  refine r_iload H 276 at_274 ?_
  refine r_bipush H 278 92 at_276 ?_
  refine Run.join (P := fun z => (if p10 = (92 : Int32) then (if p292 = (0 : Int32) then (1 : Int32) else (0 : Int32)) else (0 : Int32)) = z ∧ (0 ≤ z.toInt ∧ z.toInt ≤ 1)) (pcB := 291) (LB := fun z => #[vI x0, .val (.long x1), .second, vI x2, vI 4, vI p4, vI p7, vI p10, vI p13, vI p16, vI p20, vR b225, vI p275, vI p278, vI p285, vI p292, vI p299, .unset, .unset, .unset, .unset, .unset, .unset, .unset]) (SB := fun z => [.int z]) (fun key => ?_) ?_
  ·
   refine r_icmpne H 290 281 at_278 (fun c300 => ?_) (fun c300 => ?_)
   ·
    refine r_iconst H 291 0 at_290 ?_
    exact key (0 : Int32) ⟨(by rw [if_neg c300]), (by decide)⟩
   ·
    refine r_iload H 283 at_281 ?_
    refine Run.join (P := fun z => (if p292 = (0 : Int32) then (1 : Int32) else (0 : Int32)) = z ∧ (0 ≤ z.toInt ∧ z.toInt ≤ 1)) (pcB := 291) (LB := fun z => #[vI x0, .val (.long x1), .second, vI x2, vI 4, vI p4, vI p7, vI p10, vI p13, vI p16, vI p20, vR b225, vI p275, vI p278, vI p285, vI p292, vI p299, .unset, .unset, .unset, .unset, .unset, .unset, .unset]) (SB := fun z => [.int z]) (fun key => ?_) ?_
    ·
     refine r_ifne H 290 286 at_283 (fun c302 => ?_) (fun c302 => ?_)
     ·
      refine r_iconst H 291 0 at_290 ?_
      exact key (0 : Int32) ⟨(by rw [if_neg c302]), (by decide)⟩
     ·
      refine r_iconst H 287 1 at_286 ?_
      refine r_goto H 291 at_287 ?_
      exact key (1 : Int32) ⟨(by rw [if_pos c302]), (by decide)⟩
    rintro p305 ⟨ep305, rp305⟩
    exact key p305 ⟨(by subst ep305; rw [if_pos c300]), (by have := rp305; omega)⟩
  rintro p306 ⟨ep306, rp306⟩
  refine r_istore H 293 #[vI x0, .val (.long x1), .second, vI x2, vI 4, vI p4, vI p7, vI p10, vI p13, vI p16, vI p20, vR b225, vI p275, vI p278, vI p285, vI p292, vI p299, vI p306, .unset, .unset, .unset, .unset, .unset, .unset] at_291 ?_
  refine r_iload H 295 at_293 ?_
  refine r_iconst H 296 3 at_295 ?_
  refine r_icmpleF H 299 at_296 rfl (by decide) ?_
  refine r_iload H 301 at_299 ?_
  refine r_bipush H 303 39 at_301 ?_
  refine Run.join (P := fun z => (if p13 = (39 : Int32) then (if p306 = (0 : Int32) then (0 : Int32) else (1 : Int32)) else (0 : Int32)) = z ∧ (0 ≤ z.toInt ∧ z.toInt ≤ 1)) (pcB := 316) (LB := fun z => #[vI x0, .val (.long x1), .second, vI x2, vI 4, vI p4, vI p7, vI p10, vI p13, vI p16, vI p20, vR b225, vI p275, vI p278, vI p285, vI p292, vI p299, vI p306, .unset, .unset, .unset, .unset, .unset, .unset]) (SB := fun z => [.int z]) (fun key => ?_) ?_
  ·
   refine r_icmpne H 315 306 at_303 (fun c307 => ?_) (fun c307 => ?_)
   ·
    refine r_iconst H 316 0 at_315 ?_
    exact key (0 : Int32) ⟨(by rw [if_neg c307]), (by decide)⟩
   ·
    refine r_iload H 308 at_306 ?_
    refine Run.join (P := fun z => (if p306 = (0 : Int32) then (0 : Int32) else (1 : Int32)) = z ∧ (0 ≤ z.toInt ∧ z.toInt ≤ 1)) (pcB := 316) (LB := fun z => #[vI x0, .val (.long x1), .second, vI x2, vI 4, vI p4, vI p7, vI p10, vI p13, vI p16, vI p20, vR b225, vI p275, vI p278, vI p285, vI p292, vI p299, vI p306, .unset, .unset, .unset, .unset, .unset, .unset]) (SB := fun z => [.int z]) (fun key => ?_) ?_
    ·
     refine r_ifeq H 315 311 at_308 (fun c309 => ?_) (fun c309 => ?_)
     ·
      refine r_iconst H 316 0 at_315 ?_
      exact key (0 : Int32) ⟨(by rw [if_pos c309]), (by decide)⟩
     ·
      refine r_iconst H 312 1 at_311 ?_
      refine r_goto H 316 at_312 ?_
      exact key (1 : Int32) ⟨(by rw [if_neg c309]), (by decide)⟩
    rintro p312 ⟨ep312, rp312⟩
    exact key p312 ⟨(by subst ep312; rw [if_pos c307]), (by have := rp312; omega)⟩
  rintro p313 ⟨ep313, rp313⟩
  refine r_istore H 318 #[vI x0, .val (.long x1), .second, vI x2, vI 4, vI p4, vI p7, vI p10, vI p13, vI p16, vI p20, vR b225, vI p275, vI p278, vI p285, vI p292, vI p299, vI p306, vI p313, .unset, .unset, .unset, .unset, .unset] at_316 ?_
  refine r_iload H 320 at_318 ?_
  refine r_iconst H 321 3 at_320 ?_
  refine r_icmpleF H 324 at_321 rfl (by decide) ?_
  refine r_iload H 326 at_324 ?_
  refine r_bipush H 328 92 at_326 ?_
  refine Run.join (P := fun z => (if p13 = (92 : Int32) then (if p306 = (0 : Int32) then (1 : Int32) else (0 : Int32)) else (0 : Int32)) = z ∧ (0 ≤ z.toInt ∧ z.toInt ≤ 1)) (pcB := 341) (LB := fun z => #[vI x0, .val (.long x1), .second, vI x2, vI 4, vI p4, vI p7, vI p10, vI p13, vI p16, vI p20, vR b225, vI p275, vI p278, vI p285, vI p292, vI p299, vI p306, vI p313, .unset, .unset, .unset, .unset, .unset]) (SB := fun z => [.int z]) (fun key => ?_) ?_
  ·
   refine r_icmpne H 340 331 at_328 (fun c314 => ?_) (fun c314 => ?_)
   ·
    refine r_iconst H 341 0 at_340 ?_
    exact key (0 : Int32) ⟨(by rw [if_neg c314]), (by decide)⟩
   ·
    refine r_iload H 333 at_331 ?_
    refine Run.join (P := fun z => (if p306 = (0 : Int32) then (1 : Int32) else (0 : Int32)) = z ∧ (0 ≤ z.toInt ∧ z.toInt ≤ 1)) (pcB := 341) (LB := fun z => #[vI x0, .val (.long x1), .second, vI x2, vI 4, vI p4, vI p7, vI p10, vI p13, vI p16, vI p20, vR b225, vI p275, vI p278, vI p285, vI p292, vI p299, vI p306, vI p313, .unset, .unset, .unset, .unset, .unset]) (SB := fun z => [.int z]) (fun key => ?_) ?_
    ·
     refine r_ifne H 340 336 at_333 (fun c316 => ?_) (fun c316 => ?_)
     ·
      refine r_iconst H 341 0 at_340 ?_
      exact key (0 : Int32) ⟨(by rw [if_neg c316]), (by decide)⟩
     ·
      refine r_iconst H 337 1 at_336 ?_
      refine r_goto H 341 at_337 ?_
      exact key (1 : Int32) ⟨(by rw [if_pos c316]), (by decide)⟩
    rintro p319 ⟨ep319, rp319⟩
    exact key p319 ⟨(by subst ep319; rw [if_pos c314]), (by have := rp319; omega)⟩
  rintro p320 ⟨ep320, rp320⟩
  refine r_istore H 343 #[vI x0, .val (.long x1), .second, vI x2, vI 4, vI p4, vI p7, vI p10, vI p13, vI p16, vI p20, vR b225, vI p275, vI p278, vI p285, vI p292, vI p299, vI p306, vI p313, vI p320, .unset, .unset, .unset, .unset] at_341 ?_
  refine r_iload H 345 at_343 ?_
  refine r_iconst H 346 4 at_345 ?_
  refine r_icmpleT H 365 at_346 (by decide) (by decide) (by decide) ?_
  refine r_iconst H 366 0 at_365 ?_
  refine r_istore H 368 #[vI x0, .val (.long x1), .second, vI x2, vI 4, vI p4, vI p7, vI p10, vI p13, vI p16, vI p20, vR b225, vI p275, vI p278, vI p285, vI p292, vI p299, vI p306, vI p313, vI p320, vI 0, .unset, .unset, .unset] at_366 ?_
  refine r_iload H 370 at_368 ?_
  refine r_iconst H 371 4 at_370 ?_
  refine r_icmpleT H 390 at_371 (by decide) (by decide) (by decide) ?_
  refine r_iconst H 391 0 at_390 ?_
  refine r_istore H 393 #[vI x0, .val (.long x1), .second, vI x2, vI 4, vI p4, vI p7, vI p10, vI p13, vI p16, vI p20, vR b225, vI p275, vI p278, vI p285, vI p292, vI p299, vI p306, vI p313, vI p320, vI 0, vI 0, .unset, .unset] at_391 ?_
  refine r_iload H 395 at_393 ?_
  refine r_iconst H 396 5 at_395 ?_
  refine r_icmpleT H 415 at_396 (by decide) (by decide) (by decide) ?_
  refine r_iconst H 416 0 at_415 ?_
  refine r_istore H 418 #[vI x0, .val (.long x1), .second, vI x2, vI 4, vI p4, vI p7, vI p10, vI p13, vI p16, vI p20, vR b225, vI p275, vI p278, vI p285, vI p292, vI p299, vI p306, vI p313, vI p320, vI 0, vI 0, vI 0, .unset] at_416 ?_
  refine r_iload H 420 at_418 ?_
  refine Run.join (P := fun z => (if p285 = (0 : Int32) then (if p299 = (0 : Int32) then (if p313 = (0 : Int32) then (1 : Int32) else (0 : Int32)) else (0 : Int32)) else (0 : Int32)) = z ∧ (0 ≤ z.toInt ∧ z.toInt ≤ 1)) (pcB := 448) (LB := fun z => #[vI x0, .val (.long x1), .second, vI x2, vI 4, vI p4, vI p7, vI p10, vI p13, vI p16, vI p20, vR b225, vI p275, vI p278, vI p285, vI p292, vI p299, vI p306, vI p313, vI p320, vI 0, vI 0, vI 0, .unset]) (SB := fun z => [.int z]) (fun key => ?_) ?_
  ·
   refine r_ifne H 447 423 at_420 (fun c321 => ?_) (fun c321 => ?_)
   ·
    refine r_iconst H 448 0 at_447 ?_
    exact key (0 : Int32) ⟨(by rw [if_neg c321]), (by decide)⟩
   ·
    refine r_iload H 425 at_423 ?_
    refine Run.join (P := fun z => (if p299 = (0 : Int32) then (if p313 = (0 : Int32) then (1 : Int32) else (0 : Int32)) else (0 : Int32)) = z ∧ (0 ≤ z.toInt ∧ z.toInt ≤ 1)) (pcB := 448) (LB := fun z => #[vI x0, .val (.long x1), .second, vI x2, vI 4, vI p4, vI p7, vI p10, vI p13, vI p16, vI p20, vR b225, vI p275, vI p278, vI p285, vI p292, vI p299, vI p306, vI p313, vI p320, vI 0, vI 0, vI 0, .unset]) (SB := fun z => [.int z]) (fun key => ?_) ?_
    ·
     refine r_ifne H 447 428 at_425 (fun c324 => ?_) (fun c324 => ?_)
     ·
      refine r_iconst H 448 0 at_447 ?_
      exact key (0 : Int32) ⟨(by rw [if_neg c324]), (by decide)⟩
     ·
      refine r_iload H 430 at_428 ?_
      refine Run.join (P := fun z => (if p313 = (0 : Int32) then (1 : Int32) else (0 : Int32)) = z ∧ (0 ≤ z.toInt ∧ z.toInt ≤ 1)) (pcB := 448) (LB := fun z => #[vI x0, .val (.long x1), .second, vI x2, vI 4, vI p4, vI p7, vI p10, vI p13, vI p16, vI p20, vR b225, vI p275, vI p278, vI p285, vI p292, vI p299, vI p306, vI p313, vI p320, vI 0, vI 0, vI 0, .unset]) (SB := fun z => [.int z]) (fun key => ?_) ?_
      ·
       refine r_ifne H 447 433 at_430 (fun c327 => ?_) (fun c327 => ?_)
       ·
        refine r_iconst H 448 0 at_447 ?_
        exact key (0 : Int32) ⟨(by rw [if_neg c327]), (by decide)⟩
       ·
        refine r_iload H 435 at_433 ?_
        refine r_ifneF H 438 at_435 rfl (by decide) ?_
        refine r_iload H 440 at_438 ?_
        refine r_ifneF H 443 at_440 rfl (by decide) ?_
        refine r_iconst H 444 1 at_443 ?_
        refine r_goto H 448 at_444 ?_
        exact key (1 : Int32) ⟨(by rw [if_pos c327]), (by decide)⟩
      rintro p330 ⟨ep330, rp330⟩
      exact key p330 ⟨(by subst ep330; rw [if_pos c324]), (by have := rp330; omega)⟩
    rintro p331 ⟨ep331, rp331⟩
    exact key p331 ⟨(by subst ep331; rw [if_pos c321]), (by have := rp331; omega)⟩
  rintro p332 ⟨ep332, rp332⟩
  refine r_istore H 450 #[vI x0, .val (.long x1), .second, vI x2, vI 4, vI p4, vI p7, vI p10, vI p13, vI p16, vI p20, vR b225, vI p275, vI p278, vI p285, vI p292, vI p299, vI p306, vI p313, vI p320, vI 0, vI 0, vI 0, vI p332] at_448 ?_
  refine r_iload H 452 at_450 ?_
  refine r_iload H 454 at_452 ?_
  refine Run.join (P := fun z => (if p275 = p332 then (1 : Int32) else (0 : Int32)) = z ∧ (0 ≤ z.toInt ∧ z.toInt ≤ 1)) (pcB := 462) (LB := fun z => #[vI x0, .val (.long x1), .second, vI x2, vI 4, vI p4, vI p7, vI p10, vI p13, vI p16, vI p20, vR b225, vI p275, vI p278, vI p285, vI p292, vI p299, vI p306, vI p313, vI p320, vI 0, vI 0, vI 0, vI p332]) (SB := fun z => [.int z]) (fun key => ?_) ?_
  ·
   refine r_icmpne H 461 457 at_454 (fun c333 => ?_) (fun c333 => ?_)
   ·
    refine r_iconst H 462 0 at_461 ?_
    exact key (0 : Int32) ⟨(by rw [if_neg c333]), (by decide)⟩
   ·
    refine r_iconst H 458 1 at_457 ?_
    refine r_goto H 462 at_458 ?_
    exact key (1 : Int32) ⟨(by rw [if_pos c333]), (by decide)⟩
  rintro p334 ⟨ep334, rp334⟩
  have hone : p334 = 1 := by
   rw [← ep334, ← ep332, ← ep313, ← ep306, ← ep299, ← ep292, ← ep285, ← ep278]
   rcases ep275 with e | e
   · rw [← e]; exact lf_fn_readAlikeByEitherSetting_73 p4 p7 p10 p13
   · rw [← e]; exact lf_fn_readAlikeByEitherSetting_73 p4 p7 p10 p13
  exact r_nreturn (hf := Z0) (hT := (fun _ t => (.tail _ t))) (1 : Int32) H at_462 (by rw [hone]; decide) rfl
 ·
  subst c22
  refine r_newP H 87 "[C" 5 at_85 (tw4 hw) ?_
  intro h335 b335 kc335 g335 l335 K335 E335 A335
  change Ar Z h335 b335 kc335 .char [.int 0, .int 0, .int 0, .int 0, .int 0] at A335
  refine r_astore H 89 #[vI x0, .val (.long x1), .second, vI x2, vI 5, vI p4, vI p7, vI p10, vI p13, vI p16, vI p20, vR b335, .unset, .unset, .unset, .unset, .unset, .unset, .unset, .unset, .unset, .unset, .unset, .unset] at_87 ?_
  refine r_iload H 91 at_89 ?_
  refine r_ifleF H 94 at_91 ?_
  refine r_aload H 96 at_94 ?_
  refine r_iconst H 97 0 at_96 ?_
  refine r_iload H 99 at_97 ?_
  refine r_castore H 100 p4 at_99 A335 (nlt nlr (Nat.le_of_eq g335.symm)) (nar_char_id (by have := rp4; omega)) ?_
  intro h336 K336 A336
  change Ar Z h336 b335 kc335 .char [.int p4, .int 0, .int 0, .int 0, .int 0] at A336
  refine r_iload H 102 at_100 ?_
  refine r_iconst H 103 1 at_102 ?_
  refine r_icmpleF H 106 at_103 rfl (by decide) ?_
  refine r_aload H 108 at_106 ?_
  refine r_iconst H 109 1 at_108 ?_
  refine r_iload H 111 at_109 ?_
  refine r_castore H 112 p7 at_111 A336 (nlt nlr (Nat.le_of_eq g335.symm)) (nar_char_id (by have := rp7; omega)) ?_
  intro h337 K337 A337
  have q338 := (E335.keep K336)
  change Ar Z h337 b335 kc335 .char [.int p4, .int p7, .int 0, .int 0, .int 0] at A337
  refine r_iload H 114 at_112 ?_
  refine r_iconst H 115 2 at_114 ?_
  refine r_icmpleF H 118 at_115 rfl (by decide) ?_
  refine r_aload H 120 at_118 ?_
  refine r_iconst H 121 2 at_120 ?_
  refine r_iload H 123 at_121 ?_
  refine r_castore H 124 p10 at_123 A337 (nlt nlr (Nat.le_of_eq g335.symm)) (nar_char_id (by have := rp10; omega)) ?_
  intro h339 K339 A339
  have q340 := (q338.keep K337)
  change Ar Z h339 b335 kc335 .char [.int p4, .int p7, .int p10, .int 0, .int 0] at A339
  refine r_iload H 126 at_124 ?_
  refine r_iconst H 127 3 at_126 ?_
  refine r_icmpleF H 130 at_127 rfl (by decide) ?_
  refine r_aload H 132 at_130 ?_
  refine r_iconst H 133 3 at_132 ?_
  refine r_iload H 135 at_133 ?_
  refine r_castore H 136 p13 at_135 A339 (nlt nlr (Nat.le_of_eq g335.symm)) (nar_char_id (by have := rp13; omega)) ?_
  intro h341 K341 A341
  have q342 := (q340.keep K339)
  change Ar Z h341 b335 kc335 .char [.int p4, .int p7, .int p10, .int p13, .int 0] at A341
  refine r_iload H 138 at_136 ?_
  refine r_iconst H 139 4 at_138 ?_
  refine r_icmpleF H 142 at_139 rfl (by decide) ?_
  refine r_aload H 144 at_142 ?_
  refine r_iconst H 145 4 at_144 ?_
  refine r_iload H 147 at_145 ?_
  refine r_castore H 148 p16 at_147 A341 (nlt nlr (Nat.le_of_eq g335.symm)) (nar_char_id (by have := rp16; omega)) ?_
  intro h343 K343 A343
  have q344 := (q342.keep K341)
  change Ar Z h343 b335 kc335 .char [.int p4, .int p7, .int p10, .int p13, .int p16] at A343
  refine r_iload H 150 at_148 ?_
  refine r_iconst H 151 5 at_150 ?_
  refine r_icmpleT H 160 at_151 (by decide) (by decide) (by decide) ?_
  refine r_new H 163 at_160 (tw5 hw) (tw6 hw) (tw7 hw) ?_
  intro h345 b345 g345 l345 K345 E345 D345
  refine r_dup H 164 at_163 ?_
  refine r_aload H 166 at_164 ?_
  have z346 := Nat.le_trans K335.1 K336.1
  have z347 := Nat.le_trans z346 K337.1
  have z348 := Nat.le_trans z347 K339.1
  have z349 := Nat.le_trans z348 K341.1
  have z350 := Nat.le_trans z349 K343.1
  have q351 := (A343.keep K345 nin0)
  have q352 := ((q344.keep K343).keep K345)
  have z353 := Nat.le_trans z350 K345.1
  refine r_special (a := b345) (argsL := [.ref b335]) (rest := [.ref b345]) (W := 1) H 169 at_166 (tw8 hw) (tw9 hw) (tw7 hw) (tw10 hw) (lenOf pd_2 rfl) (rm_init_75 hw Ts b345 b335 p4 p7 p10 p13 p16 kc335 cs h345 h0.size (nlt Zf Z0) z353 q351 (nlt z350 (Nat.le_of_eq g345.symm)) q352 E345 (show Fld Z h345 b345 "java/lang/String" "coder" "B" (.int 0) from D345 (Or.inr (tw21 hw)) (ty := .byte) (by decide)) (show Fld Z h345 b345 "java/lang/String" "value" "[B" .null from D345 (Or.inr (tw20 hw)) (ty := (.array .byte)) (by decide)) rp4 rp7 rp10 rp13 rp16 S_cs S__assertionsDisabled S_HI_BYTE_SHIFT S_LO_BYTE_SHIFT hcs) ?_
  rintro _ hh377 hQ378
  refine Run.join (P := fun z => ((fn_readAlikeByEitherSetting_89 p4 p7 p10 p13 p16) = z ∨ (fn_readAlikeByEitherSetting_90 p4 p7 p10 p13 p16) = z) ∧ (0 ≤ z.toInt ∧ z.toInt ≤ 1)) (pcB := 172) (LB := fun z => #[vI x0, .val (.long x1), .second, vI x2, vI 5, vI p4, vI p7, vI p10, vI p13, vI p16, vI p20, vR b335, .unset, .unset, .unset, .unset, .unset, .unset, .unset, .unset, .unset, .unset, .unset, .unset]) (SB := fun z => [.int z]) (fun key => ?_) ?_
  ·
   rcases hQ378 with ⟨b354, kc355, rfl, c357, c358, c359, c360, c361, K356, g362, q363, q364, q365, q366, q367⟩ | ⟨b368, kc369, rfl, K370, g371, q372, q373, q374, q375, q376⟩
   ·
    have rr379 : 0 ≤ p4.toInt ∧ p4.toInt ≤ 255 := by have := rp4; have : (255 : Int32).toInt = 255 := (by decide); have hc_ := c357; simp only [Int32.lt_iff_toInt_lt, ← Int32.toInt_inj] at hc_; omega
    have rr380 : 0 ≤ p7.toInt ∧ p7.toInt ≤ 255 := by have := rp7; have : (255 : Int32).toInt = 255 := (by decide); have hc_ := c358; simp only [Int32.lt_iff_toInt_lt, ← Int32.toInt_inj] at hc_; omega
    have rr381 : 0 ≤ p10.toInt ∧ p10.toInt ≤ 255 := by have := rp10; have : (255 : Int32).toInt = 255 := (by decide); have hc_ := c359; simp only [Int32.lt_iff_toInt_lt, ← Int32.toInt_inj] at hc_; omega
    have rr382 : 0 ≤ p13.toInt ∧ p13.toInt ≤ 255 := by have := rp13; have : (255 : Int32).toInt = 255 := (by decide); have hc_ := c360; simp only [Int32.lt_iff_toInt_lt, ← Int32.toInt_inj] at hc_; omega
    have rr383 : 0 ≤ p16.toInt ∧ p16.toInt ≤ 255 := by have := rp16; have : (255 : Int32).toInt = 255 := (by decide); have hc_ := c361; simp only [Int32.lt_iff_toInt_lt, ← Int32.toInt_inj] at hc_; omega
    have z384 := Nat.le_trans z353 K356.1
    refine r_static (argsL := [.ref b345]) (rest := []) (W := 0) H 172 at_169 (tw26 hw) (tw27 hw) (tw28 hw) (tw29 hw) (lenOf pd_5 rfl) (rm_readAlikeByEitherSetting_89 hw Ts b345 b354 p4 p7 p10 p13 p16 kc355 cs sio hh377 h0.size (nlt Zf Z0) z384 q363 q365 q366 q364 rr379 rr380 rr381 rr382 rr383 S_cs S_sio hsio hcs) ?_
    rintro _ _ ⟨p385, rfl, rfl, ep385, rp385⟩
    exact key p385 ⟨(Or.inl ep385), (by have := rp385; omega)⟩
   ·
    have z387 := Nat.le_trans z353 K370.1
    refine r_static (argsL := [.ref b345]) (rest := []) (W := 0) H 172 at_169 (tw26 hw) (tw27 hw) (tw28 hw) (tw29 hw) (lenOf pd_5 rfl) (rm_readAlikeByEitherSetting_90 hw Ts b345 b368 p4 p7 p10 p13 p16 kc369 cs sio hh377 h0.size (nlt Zf Z0) z387 q372 q374 q375 q373 rp4 rp7 rp10 rp13 rp16 S_cs S_sio hsio S__assertionsDisabled S_HI_BYTE_SHIFT S_LO_BYTE_SHIFT hcs) ?_
    rintro _ _ ⟨p388, rfl, rfl, ep388, rp388⟩
    exact key p388 ⟨(Or.inr (ep388)), (by have := rp388; omega)⟩
  rintro p390 ⟨ep390, rp390⟩
  refine r_istore H 174 #[vI x0, .val (.long x1), .second, vI x2, vI 5, vI p4, vI p7, vI p10, vI p13, vI p16, vI p20, vR b335, vI p390, .unset, .unset, .unset, .unset, .unset, .unset, .unset, .unset, .unset, .unset, .unset] at_172 ?_
  refine r_iload H 176 at_174 ?_
  refine r_ifleF H 179 at_176 ?_
  refine r_iload H 181 at_179 ?_
  refine r_bipush H 183 92 at_181 ?_
  refine Run.join (P := fun z => (if p4 = (92 : Int32) then (1 : Int32) else (0 : Int32)) = z ∧ (0 ≤ z.toInt ∧ z.toInt ≤ 1)) (pcB := 191) (LB := fun z => #[vI x0, .val (.long x1), .second, vI x2, vI 5, vI p4, vI p7, vI p10, vI p13, vI p16, vI p20, vR b335, vI p390, .unset, .unset, .unset, .unset, .unset, .unset, .unset, .unset, .unset, .unset, .unset]) (SB := fun z => [.int z]) (fun key => ?_) ?_
  ·
   refine r_icmpne H 190 186 at_183 (fun c391 => ?_) (fun c391 => ?_)
   ·
    refine r_iconst H 191 0 at_190 ?_
    exact key (0 : Int32) ⟨(by rw [if_neg c391]), (by decide)⟩
   ·
    refine r_iconst H 187 1 at_186 ?_
    refine r_goto H 191 at_187 ?_
    exact key (1 : Int32) ⟨(by rw [if_pos c391]), (by decide)⟩
  rintro p393 ⟨ep393, rp393⟩
  refine r_istore H 193 #[vI x0, .val (.long x1), .second, vI x2, vI 5, vI p4, vI p7, vI p10, vI p13, vI p16, vI p20, vR b335, vI p390, vI p393, .unset, .unset, .unset, .unset, .unset, .unset, .unset, .unset, .unset, .unset] at_191 ?_
  refine r_iload H 195 at_193 ?_
  refine r_iconst H 196 1 at_195 ?_
  refine r_icmpleF H 199 at_196 rfl (by decide) ?_
  refine r_iload H 201 at_199 ?_
  refine r_bipush H 203 39 at_201 ?_
  refine Run.join (P := fun z => (if p7 = (39 : Int32) then (if p393 = (0 : Int32) then (0 : Int32) else (1 : Int32)) else (0 : Int32)) = z ∧ (0 ≤ z.toInt ∧ z.toInt ≤ 1)) (pcB := 216) (LB := fun z => #[vI x0, .val (.long x1), .second, vI x2, vI 5, vI p4, vI p7, vI p10, vI p13, vI p16, vI p20, vR b335, vI p390, vI p393, .unset, .unset, .unset, .unset, .unset, .unset, .unset, .unset, .unset, .unset]) (SB := fun z => [.int z]) (fun key => ?_) ?_
  ·
   refine r_icmpne H 215 206 at_203 (fun c394 => ?_) (fun c394 => ?_)
   ·
    refine r_iconst H 216 0 at_215 ?_
    exact key (0 : Int32) ⟨(by rw [if_neg c394]), (by decide)⟩
   ·
    refine r_iload H 208 at_206 ?_
    refine Run.join (P := fun z => (if p393 = (0 : Int32) then (0 : Int32) else (1 : Int32)) = z ∧ (0 ≤ z.toInt ∧ z.toInt ≤ 1)) (pcB := 216) (LB := fun z => #[vI x0, .val (.long x1), .second, vI x2, vI 5, vI p4, vI p7, vI p10, vI p13, vI p16, vI p20, vR b335, vI p390, vI p393, .unset, .unset, .unset, .unset, .unset, .unset, .unset, .unset, .unset, .unset]) (SB := fun z => [.int z]) (fun key => ?_) ?_
    ·
     refine r_ifeq H 215 211 at_208 (fun c396 => ?_) (fun c396 => ?_)
     ·
      refine r_iconst H 216 0 at_215 ?_
      exact key (0 : Int32) ⟨(by rw [if_pos c396]), (by decide)⟩
     ·
      refine r_iconst H 212 1 at_211 ?_
      refine r_goto H 216 at_212 ?_
      exact key (1 : Int32) ⟨(by rw [if_neg c396]), (by decide)⟩
    rintro p399 ⟨ep399, rp399⟩
    exact key p399 ⟨(by subst ep399; rw [if_pos c394]), (by have := rp399; omega)⟩
  rintro p400 ⟨ep400, rp400⟩
  refine r_istore H 218 #[vI x0, .val (.long x1), .second, vI x2, vI 5, vI p4, vI p7, vI p10, vI p13, vI p16, vI p20, vR b335, vI p390, vI p393, vI p400, .unset, .unset, .unset, .unset, .unset, .unset, .unset, .unset, .unset] at_216 ?_
  refine r_iload H 220 at_218 ?_
  refine r_iconst H 221 1 at_220 ?_
  refine r_icmpleF H 224 at_221 rfl (by decide) ?_
  refine r_iload H 226 at_224 ?_
  refine r_bipush H 228 92 at_226 ?_
  refine Run.join (P := fun z => (if p7 = (92 : Int32) then (if p393 = (0 : Int32) then (1 : Int32) else (0 : Int32)) else (0 : Int32)) = z ∧ (0 ≤ z.toInt ∧ z.toInt ≤ 1)) (pcB := 241) (LB := fun z => #[vI x0, .val (.long x1), .second, vI x2, vI 5, vI p4, vI p7, vI p10, vI p13, vI p16, vI p20, vR b335, vI p390, vI p393, vI p400, .unset, .unset, .unset, .unset, .unset, .unset, .unset, .unset, .unset]) (SB := fun z => [.int z]) (fun key => ?_) ?_
  ·
   refine r_icmpne H 240 231 at_228 (fun c401 => ?_) (fun c401 => ?_)
   ·
    refine r_iconst H 241 0 at_240 ?_
    exact key (0 : Int32) ⟨(by rw [if_neg c401]), (by decide)⟩
   ·
    refine r_iload H 233 at_231 ?_
    refine Run.join (P := fun z => (if p393 = (0 : Int32) then (1 : Int32) else (0 : Int32)) = z ∧ (0 ≤ z.toInt ∧ z.toInt ≤ 1)) (pcB := 241) (LB := fun z => #[vI x0, .val (.long x1), .second, vI x2, vI 5, vI p4, vI p7, vI p10, vI p13, vI p16, vI p20, vR b335, vI p390, vI p393, vI p400, .unset, .unset, .unset, .unset, .unset, .unset, .unset, .unset, .unset]) (SB := fun z => [.int z]) (fun key => ?_) ?_
    ·
     refine r_ifne H 240 236 at_233 (fun c403 => ?_) (fun c403 => ?_)
     ·
      refine r_iconst H 241 0 at_240 ?_
      exact key (0 : Int32) ⟨(by rw [if_neg c403]), (by decide)⟩
     ·
      refine r_iconst H 237 1 at_236 ?_
      refine r_goto H 241 at_237 ?_
      exact key (1 : Int32) ⟨(by rw [if_pos c403]), (by decide)⟩
    rintro p406 ⟨ep406, rp406⟩
    exact key p406 ⟨(by subst ep406; rw [if_pos c401]), (by have := rp406; omega)⟩
  rintro p407 ⟨ep407, rp407⟩
  refine r_istore H 243 #[vI x0, .val (.long x1), .second, vI x2, vI 5, vI p4, vI p7, vI p10, vI p13, vI p16, vI p20, vR b335, vI p390, vI p393, vI p400, vI p407, .unset, .unset, .unset, .unset, .unset, .unset, .unset, .unset] at_241 ?_
  refine r_iload H 245 at_243 ?_
  refine r_iconst H 246 2 at_245 ?_
  refine r_icmpleF H 249 at_246 rfl (by decide) ?_
  refine r_iload H 251 at_249 ?_
  refine r_bipush H 253 39 at_251 ?_
  refine Run.join (P := fun z => (if p10 = (39 : Int32) then (if p407 = (0 : Int32) then (0 : Int32) else (1 : Int32)) else (0 : Int32)) = z ∧ (0 ≤ z.toInt ∧ z.toInt ≤ 1)) (pcB := 266) (LB := fun z => #[vI x0, .val (.long x1), .second, vI x2, vI 5, vI p4, vI p7, vI p10, vI p13, vI p16, vI p20, vR b335, vI p390, vI p393, vI p400, vI p407, .unset, .unset, .unset, .unset, .unset, .unset, .unset, .unset]) (SB := fun z => [.int z]) (fun key => ?_) ?_
  ·
   refine r_icmpne H 265 256 at_253 (fun c408 => ?_) (fun c408 => ?_)
   ·
    refine r_iconst H 266 0 at_265 ?_
    exact key (0 : Int32) ⟨(by rw [if_neg c408]), (by decide)⟩
   ·
    refine r_iload H 258 at_256 ?_
    refine Run.join (P := fun z => (if p407 = (0 : Int32) then (0 : Int32) else (1 : Int32)) = z ∧ (0 ≤ z.toInt ∧ z.toInt ≤ 1)) (pcB := 266) (LB := fun z => #[vI x0, .val (.long x1), .second, vI x2, vI 5, vI p4, vI p7, vI p10, vI p13, vI p16, vI p20, vR b335, vI p390, vI p393, vI p400, vI p407, .unset, .unset, .unset, .unset, .unset, .unset, .unset, .unset]) (SB := fun z => [.int z]) (fun key => ?_) ?_
    ·
     refine r_ifeq H 265 261 at_258 (fun c410 => ?_) (fun c410 => ?_)
     ·
      refine r_iconst H 266 0 at_265 ?_
      exact key (0 : Int32) ⟨(by rw [if_pos c410]), (by decide)⟩
     ·
      refine r_iconst H 262 1 at_261 ?_
      refine r_goto H 266 at_262 ?_
      exact key (1 : Int32) ⟨(by rw [if_neg c410]), (by decide)⟩
    rintro p413 ⟨ep413, rp413⟩
    exact key p413 ⟨(by subst ep413; rw [if_pos c408]), (by have := rp413; omega)⟩
  rintro p414 ⟨ep414, rp414⟩
  refine r_istore H 268 #[vI x0, .val (.long x1), .second, vI x2, vI 5, vI p4, vI p7, vI p10, vI p13, vI p16, vI p20, vR b335, vI p390, vI p393, vI p400, vI p407, vI p414, .unset, .unset, .unset, .unset, .unset, .unset, .unset] at_266 ?_
  refine r_iload H 270 at_268 ?_
  refine r_iconst H 271 2 at_270 ?_
  refine r_icmpleF H 274 at_271 rfl (by decide) ?_
  refine r_iload H 276 at_274 ?_
  refine r_bipush H 278 92 at_276 ?_
  refine Run.join (P := fun z => (if p10 = (92 : Int32) then (if p407 = (0 : Int32) then (1 : Int32) else (0 : Int32)) else (0 : Int32)) = z ∧ (0 ≤ z.toInt ∧ z.toInt ≤ 1)) (pcB := 291) (LB := fun z => #[vI x0, .val (.long x1), .second, vI x2, vI 5, vI p4, vI p7, vI p10, vI p13, vI p16, vI p20, vR b335, vI p390, vI p393, vI p400, vI p407, vI p414, .unset, .unset, .unset, .unset, .unset, .unset, .unset]) (SB := fun z => [.int z]) (fun key => ?_) ?_
  ·
   refine r_icmpne H 290 281 at_278 (fun c415 => ?_) (fun c415 => ?_)
   ·
    refine r_iconst H 291 0 at_290 ?_
    exact key (0 : Int32) ⟨(by rw [if_neg c415]), (by decide)⟩
   ·
    refine r_iload H 283 at_281 ?_
    refine Run.join (P := fun z => (if p407 = (0 : Int32) then (1 : Int32) else (0 : Int32)) = z ∧ (0 ≤ z.toInt ∧ z.toInt ≤ 1)) (pcB := 291) (LB := fun z => #[vI x0, .val (.long x1), .second, vI x2, vI 5, vI p4, vI p7, vI p10, vI p13, vI p16, vI p20, vR b335, vI p390, vI p393, vI p400, vI p407, vI p414, .unset, .unset, .unset, .unset, .unset, .unset, .unset]) (SB := fun z => [.int z]) (fun key => ?_) ?_
    ·
     refine r_ifne H 290 286 at_283 (fun c417 => ?_) (fun c417 => ?_)
     ·
      refine r_iconst H 291 0 at_290 ?_
      exact key (0 : Int32) ⟨(by rw [if_neg c417]), (by decide)⟩
     ·
      refine r_iconst H 287 1 at_286 ?_
      refine r_goto H 291 at_287 ?_
      exact key (1 : Int32) ⟨(by rw [if_pos c417]), (by decide)⟩
    rintro p420 ⟨ep420, rp420⟩
    exact key p420 ⟨(by subst ep420; rw [if_pos c415]), (by have := rp420; omega)⟩
  rintro p421 ⟨ep421, rp421⟩
  refine r_istore H 293 #[vI x0, .val (.long x1), .second, vI x2, vI 5, vI p4, vI p7, vI p10, vI p13, vI p16, vI p20, vR b335, vI p390, vI p393, vI p400, vI p407, vI p414, vI p421, .unset, .unset, .unset, .unset, .unset, .unset] at_291 ?_
  refine r_iload H 295 at_293 ?_
  refine r_iconst H 296 3 at_295 ?_
  refine r_icmpleF H 299 at_296 rfl (by decide) ?_
  refine r_iload H 301 at_299 ?_
  refine r_bipush H 303 39 at_301 ?_
  refine Run.join (P := fun z => (if p13 = (39 : Int32) then (if p421 = (0 : Int32) then (0 : Int32) else (1 : Int32)) else (0 : Int32)) = z ∧ (0 ≤ z.toInt ∧ z.toInt ≤ 1)) (pcB := 316) (LB := fun z => #[vI x0, .val (.long x1), .second, vI x2, vI 5, vI p4, vI p7, vI p10, vI p13, vI p16, vI p20, vR b335, vI p390, vI p393, vI p400, vI p407, vI p414, vI p421, .unset, .unset, .unset, .unset, .unset, .unset]) (SB := fun z => [.int z]) (fun key => ?_) ?_
  ·
   refine r_icmpne H 315 306 at_303 (fun c422 => ?_) (fun c422 => ?_)
   ·
    refine r_iconst H 316 0 at_315 ?_
    exact key (0 : Int32) ⟨(by rw [if_neg c422]), (by decide)⟩
   ·
    refine r_iload H 308 at_306 ?_
    refine Run.join (P := fun z => (if p421 = (0 : Int32) then (0 : Int32) else (1 : Int32)) = z ∧ (0 ≤ z.toInt ∧ z.toInt ≤ 1)) (pcB := 316) (LB := fun z => #[vI x0, .val (.long x1), .second, vI x2, vI 5, vI p4, vI p7, vI p10, vI p13, vI p16, vI p20, vR b335, vI p390, vI p393, vI p400, vI p407, vI p414, vI p421, .unset, .unset, .unset, .unset, .unset, .unset]) (SB := fun z => [.int z]) (fun key => ?_) ?_
    ·
     refine r_ifeq H 315 311 at_308 (fun c424 => ?_) (fun c424 => ?_)
     ·
      refine r_iconst H 316 0 at_315 ?_
      exact key (0 : Int32) ⟨(by rw [if_pos c424]), (by decide)⟩
     ·
      refine r_iconst H 312 1 at_311 ?_
      refine r_goto H 316 at_312 ?_
      exact key (1 : Int32) ⟨(by rw [if_neg c424]), (by decide)⟩
    rintro p427 ⟨ep427, rp427⟩
    exact key p427 ⟨(by subst ep427; rw [if_pos c422]), (by have := rp427; omega)⟩
  rintro p428 ⟨ep428, rp428⟩
  refine r_istore H 318 #[vI x0, .val (.long x1), .second, vI x2, vI 5, vI p4, vI p7, vI p10, vI p13, vI p16, vI p20, vR b335, vI p390, vI p393, vI p400, vI p407, vI p414, vI p421, vI p428, .unset, .unset, .unset, .unset, .unset] at_316 ?_
  refine r_iload H 320 at_318 ?_
  refine r_iconst H 321 3 at_320 ?_
  refine r_icmpleF H 324 at_321 rfl (by decide) ?_
  refine r_iload H 326 at_324 ?_
  refine r_bipush H 328 92 at_326 ?_
  refine Run.join (P := fun z => (if p13 = (92 : Int32) then (if p421 = (0 : Int32) then (1 : Int32) else (0 : Int32)) else (0 : Int32)) = z ∧ (0 ≤ z.toInt ∧ z.toInt ≤ 1)) (pcB := 341) (LB := fun z => #[vI x0, .val (.long x1), .second, vI x2, vI 5, vI p4, vI p7, vI p10, vI p13, vI p16, vI p20, vR b335, vI p390, vI p393, vI p400, vI p407, vI p414, vI p421, vI p428, .unset, .unset, .unset, .unset, .unset]) (SB := fun z => [.int z]) (fun key => ?_) ?_
  ·
   refine r_icmpne H 340 331 at_328 (fun c429 => ?_) (fun c429 => ?_)
   ·
    refine r_iconst H 341 0 at_340 ?_
    exact key (0 : Int32) ⟨(by rw [if_neg c429]), (by decide)⟩
   ·
    refine r_iload H 333 at_331 ?_
    refine Run.join (P := fun z => (if p421 = (0 : Int32) then (1 : Int32) else (0 : Int32)) = z ∧ (0 ≤ z.toInt ∧ z.toInt ≤ 1)) (pcB := 341) (LB := fun z => #[vI x0, .val (.long x1), .second, vI x2, vI 5, vI p4, vI p7, vI p10, vI p13, vI p16, vI p20, vR b335, vI p390, vI p393, vI p400, vI p407, vI p414, vI p421, vI p428, .unset, .unset, .unset, .unset, .unset]) (SB := fun z => [.int z]) (fun key => ?_) ?_
    ·
     refine r_ifne H 340 336 at_333 (fun c431 => ?_) (fun c431 => ?_)
     ·
      refine r_iconst H 341 0 at_340 ?_
      exact key (0 : Int32) ⟨(by rw [if_neg c431]), (by decide)⟩
     ·
      refine r_iconst H 337 1 at_336 ?_
      refine r_goto H 341 at_337 ?_
      exact key (1 : Int32) ⟨(by rw [if_pos c431]), (by decide)⟩
    rintro p434 ⟨ep434, rp434⟩
    exact key p434 ⟨(by subst ep434; rw [if_pos c429]), (by have := rp434; omega)⟩
  rintro p435 ⟨ep435, rp435⟩
  refine r_istore H 343 #[vI x0, .val (.long x1), .second, vI x2, vI 5, vI p4, vI p7, vI p10, vI p13, vI p16, vI p20, vR b335, vI p390, vI p393, vI p400, vI p407, vI p414, vI p421, vI p428, vI p435, .unset, .unset, .unset, .unset] at_341 ?_
  refine r_iload H 345 at_343 ?_
  refine r_iconst H 346 4 at_345 ?_
  refine r_icmpleF H 349 at_346 rfl (by decide) ?_
  refine r_iload H 351 at_349 ?_
  refine r_bipush H 353 39 at_351 ?_
  refine Run.join (P := fun z => (if p16 = (39 : Int32) then (if p435 = (0 : Int32) then (0 : Int32) else (1 : Int32)) else (0 : Int32)) = z ∧ (0 ≤ z.toInt ∧ z.toInt ≤ 1)) (pcB := 366) (LB := fun z => #[vI x0, .val (.long x1), .second, vI x2, vI 5, vI p4, vI p7, vI p10, vI p13, vI p16, vI p20, vR b335, vI p390, vI p393, vI p400, vI p407, vI p414, vI p421, vI p428, vI p435, .unset, .unset, .unset, .unset]) (SB := fun z => [.int z]) (fun key => ?_) ?_
  ·
   refine r_icmpne H 365 356 at_353 (fun c436 => ?_) (fun c436 => ?_)
   ·
    refine r_iconst H 366 0 at_365 ?_
    exact key (0 : Int32) ⟨(by rw [if_neg c436]), (by decide)⟩
   ·
    refine r_iload H 358 at_356 ?_
    refine Run.join (P := fun z => (if p435 = (0 : Int32) then (0 : Int32) else (1 : Int32)) = z ∧ (0 ≤ z.toInt ∧ z.toInt ≤ 1)) (pcB := 366) (LB := fun z => #[vI x0, .val (.long x1), .second, vI x2, vI 5, vI p4, vI p7, vI p10, vI p13, vI p16, vI p20, vR b335, vI p390, vI p393, vI p400, vI p407, vI p414, vI p421, vI p428, vI p435, .unset, .unset, .unset, .unset]) (SB := fun z => [.int z]) (fun key => ?_) ?_
    ·
     refine r_ifeq H 365 361 at_358 (fun c438 => ?_) (fun c438 => ?_)
     ·
      refine r_iconst H 366 0 at_365 ?_
      exact key (0 : Int32) ⟨(by rw [if_pos c438]), (by decide)⟩
     ·
      refine r_iconst H 362 1 at_361 ?_
      refine r_goto H 366 at_362 ?_
      exact key (1 : Int32) ⟨(by rw [if_neg c438]), (by decide)⟩
    rintro p441 ⟨ep441, rp441⟩
    exact key p441 ⟨(by subst ep441; rw [if_pos c436]), (by have := rp441; omega)⟩
  rintro p442 ⟨ep442, rp442⟩
  refine r_istore H 368 #[vI x0, .val (.long x1), .second, vI x2, vI 5, vI p4, vI p7, vI p10, vI p13, vI p16, vI p20, vR b335, vI p390, vI p393, vI p400, vI p407, vI p414, vI p421, vI p428, vI p435, vI p442, .unset, .unset, .unset] at_366 ?_
  refine r_iload H 370 at_368 ?_
  refine r_iconst H 371 4 at_370 ?_
  refine r_icmpleF H 374 at_371 rfl (by decide) ?_
  refine r_iload H 376 at_374 ?_
  refine r_bipush H 378 92 at_376 ?_
  refine Run.join (P := fun z => (if p16 = (92 : Int32) then (if p435 = (0 : Int32) then (1 : Int32) else (0 : Int32)) else (0 : Int32)) = z ∧ (0 ≤ z.toInt ∧ z.toInt ≤ 1)) (pcB := 391) (LB := fun z => #[vI x0, .val (.long x1), .second, vI x2, vI 5, vI p4, vI p7, vI p10, vI p13, vI p16, vI p20, vR b335, vI p390, vI p393, vI p400, vI p407, vI p414, vI p421, vI p428, vI p435, vI p442, .unset, .unset, .unset]) (SB := fun z => [.int z]) (fun key => ?_) ?_
  ·
   refine r_icmpne H 390 381 at_378 (fun c443 => ?_) (fun c443 => ?_)
   ·
    refine r_iconst H 391 0 at_390 ?_
    exact key (0 : Int32) ⟨(by rw [if_neg c443]), (by decide)⟩
   ·
    refine r_iload H 383 at_381 ?_
    refine Run.join (P := fun z => (if p435 = (0 : Int32) then (1 : Int32) else (0 : Int32)) = z ∧ (0 ≤ z.toInt ∧ z.toInt ≤ 1)) (pcB := 391) (LB := fun z => #[vI x0, .val (.long x1), .second, vI x2, vI 5, vI p4, vI p7, vI p10, vI p13, vI p16, vI p20, vR b335, vI p390, vI p393, vI p400, vI p407, vI p414, vI p421, vI p428, vI p435, vI p442, .unset, .unset, .unset]) (SB := fun z => [.int z]) (fun key => ?_) ?_
    ·
     refine r_ifne H 390 386 at_383 (fun c445 => ?_) (fun c445 => ?_)
     ·
      refine r_iconst H 391 0 at_390 ?_
      exact key (0 : Int32) ⟨(by rw [if_neg c445]), (by decide)⟩
     ·
      refine r_iconst H 387 1 at_386 ?_
      refine r_goto H 391 at_387 ?_
      exact key (1 : Int32) ⟨(by rw [if_pos c445]), (by decide)⟩
    rintro p448 ⟨ep448, rp448⟩
    exact key p448 ⟨(by subst ep448; rw [if_pos c443]), (by have := rp448; omega)⟩
  rintro p449 ⟨ep449, rp449⟩
  refine r_istore H 393 #[vI x0, .val (.long x1), .second, vI x2, vI 5, vI p4, vI p7, vI p10, vI p13, vI p16, vI p20, vR b335, vI p390, vI p393, vI p400, vI p407, vI p414, vI p421, vI p428, vI p435, vI p442, vI p449, .unset, .unset] at_391 ?_
  refine r_iload H 395 at_393 ?_
  refine r_iconst H 396 5 at_395 ?_
  refine r_icmpleT H 415 at_396 (by decide) (by decide) (by decide) ?_
  refine r_iconst H 416 0 at_415 ?_
  refine r_istore H 418 #[vI x0, .val (.long x1), .second, vI x2, vI 5, vI p4, vI p7, vI p10, vI p13, vI p16, vI p20, vR b335, vI p390, vI p393, vI p400, vI p407, vI p414, vI p421, vI p428, vI p435, vI p442, vI p449, vI 0, .unset] at_416 ?_
  refine r_iload H 420 at_418 ?_
  refine Run.join (P := fun z => (if p400 = (0 : Int32) then (if p414 = (0 : Int32) then (if p428 = (0 : Int32) then (if p442 = (0 : Int32) then (1 : Int32) else (0 : Int32)) else (0 : Int32)) else (0 : Int32)) else (0 : Int32)) = z ∧ (0 ≤ z.toInt ∧ z.toInt ≤ 1)) (pcB := 448) (LB := fun z => #[vI x0, .val (.long x1), .second, vI x2, vI 5, vI p4, vI p7, vI p10, vI p13, vI p16, vI p20, vR b335, vI p390, vI p393, vI p400, vI p407, vI p414, vI p421, vI p428, vI p435, vI p442, vI p449, vI 0, .unset]) (SB := fun z => [.int z]) (fun key => ?_) ?_
  ·
   refine r_ifne H 447 423 at_420 (fun c450 => ?_) (fun c450 => ?_)
   ·
    refine r_iconst H 448 0 at_447 ?_
    exact key (0 : Int32) ⟨(by rw [if_neg c450]), (by decide)⟩
   ·
    refine r_iload H 425 at_423 ?_
    refine Run.join (P := fun z => (if p414 = (0 : Int32) then (if p428 = (0 : Int32) then (if p442 = (0 : Int32) then (1 : Int32) else (0 : Int32)) else (0 : Int32)) else (0 : Int32)) = z ∧ (0 ≤ z.toInt ∧ z.toInt ≤ 1)) (pcB := 448) (LB := fun z => #[vI x0, .val (.long x1), .second, vI x2, vI 5, vI p4, vI p7, vI p10, vI p13, vI p16, vI p20, vR b335, vI p390, vI p393, vI p400, vI p407, vI p414, vI p421, vI p428, vI p435, vI p442, vI p449, vI 0, .unset]) (SB := fun z => [.int z]) (fun key => ?_) ?_
    ·
     refine r_ifne H 447 428 at_425 (fun c453 => ?_) (fun c453 => ?_)
     ·
      refine r_iconst H 448 0 at_447 ?_
      exact key (0 : Int32) ⟨(by rw [if_neg c453]), (by decide)⟩
     ·
      refine r_iload H 430 at_428 ?_
      refine Run.join (P := fun z => (if p428 = (0 : Int32) then (if p442 = (0 : Int32) then (1 : Int32) else (0 : Int32)) else (0 : Int32)) = z ∧ (0 ≤ z.toInt ∧ z.toInt ≤ 1)) (pcB := 448) (LB := fun z => #[vI x0, .val (.long x1), .second, vI x2, vI 5, vI p4, vI p7, vI p10, vI p13, vI p16, vI p20, vR b335, vI p390, vI p393, vI p400, vI p407, vI p414, vI p421, vI p428, vI p435, vI p442, vI p449, vI 0, .unset]) (SB := fun z => [.int z]) (fun key => ?_) ?_
      ·
       refine r_ifne H 447 433 at_430 (fun c456 => ?_) (fun c456 => ?_)
       ·
        refine r_iconst H 448 0 at_447 ?_
        exact key (0 : Int32) ⟨(by rw [if_neg c456]), (by decide)⟩
       ·
        refine r_iload H 435 at_433 ?_
        refine Run.join (P := fun z => (if p442 = (0 : Int32) then (1 : Int32) else (0 : Int32)) = z ∧ (0 ≤ z.toInt ∧ z.toInt ≤ 1)) (pcB := 448) (LB := fun z => #[vI x0, .val (.long x1), .second, vI x2, vI 5, vI p4, vI p7, vI p10, vI p13, vI p16, vI p20, vR b335, vI p390, vI p393, vI p400, vI p407, vI p414, vI p421, vI p428, vI p435, vI p442, vI p449, vI 0, .unset]) (SB := fun z => [.int z]) (fun key => ?_) ?_
        ·
         refine r_ifne H 447 438 at_435 (fun c459 => ?_) (fun c459 => ?_)
         ·
          refine r_iconst H 448 0 at_447 ?_
          exact key (0 : Int32) ⟨(by rw [if_neg c459]), (by decide)⟩
         ·
          refine r_iload H 440 at_438 ?_
          refine r_ifneF H 443 at_440 rfl (by decide) ?_
          refine r_iconst H 444 1 at_443 ?_
          refine r_goto H 448 at_444 ?_
          exact key (1 : Int32) ⟨(by rw [if_pos c459]), (by decide)⟩
        rintro p462 ⟨ep462, rp462⟩
        exact key p462 ⟨(by subst ep462; rw [if_pos c456]), (by have := rp462; omega)⟩
      rintro p463 ⟨ep463, rp463⟩
      exact key p463 ⟨(by subst ep463; rw [if_pos c453]), (by have := rp463; omega)⟩
    rintro p464 ⟨ep464, rp464⟩
    exact key p464 ⟨(by subst ep464; rw [if_pos c450]), (by have := rp464; omega)⟩
  rintro p465 ⟨ep465, rp465⟩
  refine r_istore H 450 #[vI x0, .val (.long x1), .second, vI x2, vI 5, vI p4, vI p7, vI p10, vI p13, vI p16, vI p20, vR b335, vI p390, vI p393, vI p400, vI p407, vI p414, vI p421, vI p428, vI p435, vI p442, vI p449, vI 0, vI p465] at_448 ?_
  refine r_iload H 452 at_450 ?_
  refine r_iload H 454 at_452 ?_
  refine Run.join (P := fun z => (if p390 = p465 then (1 : Int32) else (0 : Int32)) = z ∧ (0 ≤ z.toInt ∧ z.toInt ≤ 1)) (pcB := 462) (LB := fun z => #[vI x0, .val (.long x1), .second, vI x2, vI 5, vI p4, vI p7, vI p10, vI p13, vI p16, vI p20, vR b335, vI p390, vI p393, vI p400, vI p407, vI p414, vI p421, vI p428, vI p435, vI p442, vI p449, vI 0, vI p465]) (SB := fun z => [.int z]) (fun key => ?_) ?_
  ·
   refine r_icmpne H 461 457 at_454 (fun c466 => ?_) (fun c466 => ?_)
   ·
    refine r_iconst H 462 0 at_461 ?_
    exact key (0 : Int32) ⟨(by rw [if_neg c466]), (by decide)⟩
   ·
    refine r_iconst H 458 1 at_457 ?_
    refine r_goto H 462 at_458 ?_
    exact key (1 : Int32) ⟨(by rw [if_pos c466]), (by decide)⟩
  rintro p467 ⟨ep467, rp467⟩
  have hone : p467 = 1 := by
   rw [← ep467, ← ep465, ← ep442, ← ep435, ← ep428, ← ep421, ← ep414, ← ep407, ← ep400, ← ep393]
   rcases ep390 with e | e
   · rw [← e]; exact lf_fn_readAlikeByEitherSetting_89 p4 p7 p10 p13 p16
   · rw [← e]; exact lf_fn_readAlikeByEitherSetting_89 p4 p7 p10 p13 p16
  exact r_nreturn (hf := Z0) (hT := (fun _ t => (.tail _ t))) (1 : Int32) H at_462 (by rw [hone]; decide) rfl
 ·
  subst c22
  refine r_newP H 87 "[C" 6 at_85 (tw4 hw) ?_
  intro h468 b468 kc468 g468 l468 K468 E468 A468
  change Ar Z h468 b468 kc468 .char [.int 0, .int 0, .int 0, .int 0, .int 0, .int 0] at A468
  refine r_astore H 89 #[vI x0, .val (.long x1), .second, vI x2, vI 6, vI p4, vI p7, vI p10, vI p13, vI p16, vI p20, vR b468, .unset, .unset, .unset, .unset, .unset, .unset, .unset, .unset, .unset, .unset, .unset, .unset] at_87 ?_
  refine r_iload H 91 at_89 ?_
  refine r_ifleF H 94 at_91 ?_
  refine r_aload H 96 at_94 ?_
  refine r_iconst H 97 0 at_96 ?_
  refine r_iload H 99 at_97 ?_
  refine r_castore H 100 p4 at_99 A468 (nlt nlr (Nat.le_of_eq g468.symm)) (nar_char_id (by have := rp4; omega)) ?_
  intro h469 K469 A469
  change Ar Z h469 b468 kc468 .char [.int p4, .int 0, .int 0, .int 0, .int 0, .int 0] at A469
  refine r_iload H 102 at_100 ?_
  refine r_iconst H 103 1 at_102 ?_
  refine r_icmpleF H 106 at_103 rfl (by decide) ?_
  refine r_aload H 108 at_106 ?_
  refine r_iconst H 109 1 at_108 ?_
  refine r_iload H 111 at_109 ?_
  refine r_castore H 112 p7 at_111 A469 (nlt nlr (Nat.le_of_eq g468.symm)) (nar_char_id (by have := rp7; omega)) ?_
  intro h470 K470 A470
  have q471 := (E468.keep K469)
  change Ar Z h470 b468 kc468 .char [.int p4, .int p7, .int 0, .int 0, .int 0, .int 0] at A470
  refine r_iload H 114 at_112 ?_
  refine r_iconst H 115 2 at_114 ?_
  refine r_icmpleF H 118 at_115 rfl (by decide) ?_
  refine r_aload H 120 at_118 ?_
  refine r_iconst H 121 2 at_120 ?_
  refine r_iload H 123 at_121 ?_
  refine r_castore H 124 p10 at_123 A470 (nlt nlr (Nat.le_of_eq g468.symm)) (nar_char_id (by have := rp10; omega)) ?_
  intro h472 K472 A472
  have q473 := (q471.keep K470)
  change Ar Z h472 b468 kc468 .char [.int p4, .int p7, .int p10, .int 0, .int 0, .int 0] at A472
  refine r_iload H 126 at_124 ?_
  refine r_iconst H 127 3 at_126 ?_
  refine r_icmpleF H 130 at_127 rfl (by decide) ?_
  refine r_aload H 132 at_130 ?_
  refine r_iconst H 133 3 at_132 ?_
  refine r_iload H 135 at_133 ?_
  refine r_castore H 136 p13 at_135 A472 (nlt nlr (Nat.le_of_eq g468.symm)) (nar_char_id (by have := rp13; omega)) ?_
  intro h474 K474 A474
  have q475 := (q473.keep K472)
  change Ar Z h474 b468 kc468 .char [.int p4, .int p7, .int p10, .int p13, .int 0, .int 0] at A474
  refine r_iload H 138 at_136 ?_
  refine r_iconst H 139 4 at_138 ?_
  refine r_icmpleF H 142 at_139 rfl (by decide) ?_
  refine r_aload H 144 at_142 ?_
  refine r_iconst H 145 4 at_144 ?_
  refine r_iload H 147 at_145 ?_
  refine r_castore H 148 p16 at_147 A474 (nlt nlr (Nat.le_of_eq g468.symm)) (nar_char_id (by have := rp16; omega)) ?_
  intro h476 K476 A476
  have q477 := (q475.keep K474)
  change Ar Z h476 b468 kc468 .char [.int p4, .int p7, .int p10, .int p13, .int p16, .int 0] at A476
  refine r_iload H 150 at_148 ?_
  refine r_iconst H 151 5 at_150 ?_
  refine r_icmpleF H 154 at_151 rfl (by decide) ?_
  refine r_aload H 156 at_154 ?_
  refine r_iconst H 157 5 at_156 ?_
  refine r_iload H 159 at_157 ?_
  refine r_castore H 160 p20 at_159 A476 (nlt nlr (Nat.le_of_eq g468.symm)) (nar_char_id (by have := rp20; omega)) ?_
  intro h478 K478 A478
  have q479 := (q477.keep K476)
  change Ar Z h478 b468 kc468 .char [.int p4, .int p7, .int p10, .int p13, .int p16, .int p20] at A478
  refine r_new H 163 at_160 (tw5 hw) (tw6 hw) (tw7 hw) ?_
  intro h480 b480 g480 l480 K480 E480 D480
  refine r_dup H 164 at_163 ?_
  refine r_aload H 166 at_164 ?_
  have z481 := Nat.le_trans K468.1 K469.1
  have z482 := Nat.le_trans z481 K470.1
  have z483 := Nat.le_trans z482 K472.1
  have z484 := Nat.le_trans z483 K474.1
  have z485 := Nat.le_trans z484 K476.1
  have z486 := Nat.le_trans z485 K478.1
  have q487 := (A478.keep K480 nin0)
  have q488 := ((q479.keep K478).keep K480)
  have z489 := Nat.le_trans z486 K480.1
  refine r_special (a := b480) (argsL := [.ref b468]) (rest := [.ref b480]) (W := 1) H 169 at_166 (tw8 hw) (tw9 hw) (tw7 hw) (tw10 hw) (lenOf pd_2 rfl) (rm_init_91 hw Ts b480 b468 p4 p7 p10 p13 p16 p20 kc468 cs h480 h0.size (nlt Zf Z0) z489 q487 (nlt z486 (Nat.le_of_eq g480.symm)) q488 E480 (show Fld Z h480 b480 "java/lang/String" "coder" "B" (.int 0) from D480 (Or.inr (tw21 hw)) (ty := .byte) (by decide)) (show Fld Z h480 b480 "java/lang/String" "value" "[B" .null from D480 (Or.inr (tw20 hw)) (ty := (.array .byte)) (by decide)) rp4 rp7 rp10 rp13 rp16 rp20 S_cs S__assertionsDisabled S_HI_BYTE_SHIFT S_LO_BYTE_SHIFT hcs) ?_
  rintro _ hh514 hQ515
  refine Run.join (P := fun z => ((fn_readAlikeByEitherSetting_106 p4 p7 p10 p13 p16 p20) = z ∨ (fn_readAlikeByEitherSetting_107 p4 p7 p10 p13 p16 p20) = z) ∧ (0 ≤ z.toInt ∧ z.toInt ≤ 1)) (pcB := 172) (LB := fun z => #[vI x0, .val (.long x1), .second, vI x2, vI 6, vI p4, vI p7, vI p10, vI p13, vI p16, vI p20, vR b468, .unset, .unset, .unset, .unset, .unset, .unset, .unset, .unset, .unset, .unset, .unset, .unset]) (SB := fun z => [.int z]) (fun key => ?_) ?_
  ·
   rcases hQ515 with ⟨b490, kc491, rfl, c493, c494, c495, c496, c497, c498, K492, g499, q500, q501, q502, q503, q504⟩ | ⟨b505, kc506, rfl, K507, g508, q509, q510, q511, q512, q513⟩
   ·
    have rr516 : 0 ≤ p4.toInt ∧ p4.toInt ≤ 255 := by have := rp4; have : (255 : Int32).toInt = 255 := (by decide); have hc_ := c493; simp only [Int32.lt_iff_toInt_lt, ← Int32.toInt_inj] at hc_; omega
    have rr517 : 0 ≤ p7.toInt ∧ p7.toInt ≤ 255 := by have := rp7; have : (255 : Int32).toInt = 255 := (by decide); have hc_ := c494; simp only [Int32.lt_iff_toInt_lt, ← Int32.toInt_inj] at hc_; omega
    have rr518 : 0 ≤ p10.toInt ∧ p10.toInt ≤ 255 := by have := rp10; have : (255 : Int32).toInt = 255 := (by decide); have hc_ := c495; simp only [Int32.lt_iff_toInt_lt, ← Int32.toInt_inj] at hc_; omega
    have rr519 : 0 ≤ p13.toInt ∧ p13.toInt ≤ 255 := by have := rp13; have : (255 : Int32).toInt = 255 := (by decide); have hc_ := c496; simp only [Int32.lt_iff_toInt_lt, ← Int32.toInt_inj] at hc_; omega
    have rr520 : 0 ≤ p16.toInt ∧ p16.toInt ≤ 255 := by have := rp16; have : (255 : Int32).toInt = 255 := (by decide); have hc_ := c497; simp only [Int32.lt_iff_toInt_lt, ← Int32.toInt_inj] at hc_; omega
    have rr521 : 0 ≤ p20.toInt ∧ p20.toInt ≤ 255 := by have := rp20; have : (255 : Int32).toInt = 255 := (by decide); have hc_ := c498; simp only [Int32.lt_iff_toInt_lt, ← Int32.toInt_inj] at hc_; omega
    have z522 := Nat.le_trans z489 K492.1
    refine r_static (argsL := [.ref b480]) (rest := []) (W := 0) H 172 at_169 (tw26 hw) (tw27 hw) (tw28 hw) (tw29 hw) (lenOf pd_5 rfl) (rm_readAlikeByEitherSetting_106 hw Ts b480 b490 p4 p7 p10 p13 p16 p20 kc491 cs sio hh514 h0.size (nlt Zf Z0) z522 q500 q502 q503 q501 rr516 rr517 rr518 rr519 rr520 rr521 S_cs S_sio hsio hcs) ?_
    rintro _ _ ⟨p523, rfl, rfl, ep523, rp523⟩
    exact key p523 ⟨(Or.inl ep523), (by have := rp523; omega)⟩
   ·
    have z525 := Nat.le_trans z489 K507.1
    refine r_static (argsL := [.ref b480]) (rest := []) (W := 0) H 172 at_169 (tw26 hw) (tw27 hw) (tw28 hw) (tw29 hw) (lenOf pd_5 rfl) (rm_readAlikeByEitherSetting_107 hw Ts b480 b505 p4 p7 p10 p13 p16 p20 kc506 cs sio hh514 h0.size (nlt Zf Z0) z525 q509 q511 q512 q510 rp4 rp7 rp10 rp13 rp16 rp20 S_cs S_sio hsio S__assertionsDisabled S_HI_BYTE_SHIFT S_LO_BYTE_SHIFT hcs) ?_
    rintro _ _ ⟨p526, rfl, rfl, ep526, rp526⟩
    exact key p526 ⟨(Or.inr (ep526)), (by have := rp526; omega)⟩
  rintro p528 ⟨ep528, rp528⟩
  refine r_istore H 174 #[vI x0, .val (.long x1), .second, vI x2, vI 6, vI p4, vI p7, vI p10, vI p13, vI p16, vI p20, vR b468, vI p528, .unset, .unset, .unset, .unset, .unset, .unset, .unset, .unset, .unset, .unset, .unset] at_172 ?_
  refine r_iload H 176 at_174 ?_
  refine r_ifleF H 179 at_176 ?_
  refine r_iload H 181 at_179 ?_
  refine r_bipush H 183 92 at_181 ?_
  refine Run.join (P := fun z => (if p4 = (92 : Int32) then (1 : Int32) else (0 : Int32)) = z ∧ (0 ≤ z.toInt ∧ z.toInt ≤ 1)) (pcB := 191) (LB := fun z => #[vI x0, .val (.long x1), .second, vI x2, vI 6, vI p4, vI p7, vI p10, vI p13, vI p16, vI p20, vR b468, vI p528, .unset, .unset, .unset, .unset, .unset, .unset, .unset, .unset, .unset, .unset, .unset]) (SB := fun z => [.int z]) (fun key => ?_) ?_
  ·
   refine r_icmpne H 190 186 at_183 (fun c529 => ?_) (fun c529 => ?_)
   ·
    refine r_iconst H 191 0 at_190 ?_
    exact key (0 : Int32) ⟨(by rw [if_neg c529]), (by decide)⟩
   ·
    refine r_iconst H 187 1 at_186 ?_
    refine r_goto H 191 at_187 ?_
    exact key (1 : Int32) ⟨(by rw [if_pos c529]), (by decide)⟩
  rintro p531 ⟨ep531, rp531⟩
  refine r_istore H 193 #[vI x0, .val (.long x1), .second, vI x2, vI 6, vI p4, vI p7, vI p10, vI p13, vI p16, vI p20, vR b468, vI p528, vI p531, .unset, .unset, .unset, .unset, .unset, .unset, .unset, .unset, .unset, .unset] at_191 ?_
  refine r_iload H 195 at_193 ?_
  refine r_iconst H 196 1 at_195 ?_
  refine r_icmpleF H 199 at_196 rfl (by decide) ?_
  refine r_iload H 201 at_199 ?_
  refine r_bipush H 203 39 at_201 ?_
  refine Run.join (P := fun z => (if p7 = (39 : Int32) then (if p531 = (0 : Int32) then (0 : Int32) else (1 : Int32)) else (0 : Int32)) = z ∧ (0 ≤ z.toInt ∧ z.toInt ≤ 1)) (pcB := 216) (LB := fun z => #[vI x0, .val (.long x1), .second, vI x2, vI 6, vI p4, vI p7, vI p10, vI p13, vI p16, vI p20, vR b468, vI p528, vI p531, .unset, .unset, .unset, .unset, .unset, .unset, .unset, .unset, .unset, .unset]) (SB := fun z => [.int z]) (fun key => ?_) ?_
  ·
   refine r_icmpne H 215 206 at_203 (fun c532 => ?_) (fun c532 => ?_)
   ·
    refine r_iconst H 216 0 at_215 ?_
    exact key (0 : Int32) ⟨(by rw [if_neg c532]), (by decide)⟩
   ·
    refine r_iload H 208 at_206 ?_
    refine Run.join (P := fun z => (if p531 = (0 : Int32) then (0 : Int32) else (1 : Int32)) = z ∧ (0 ≤ z.toInt ∧ z.toInt ≤ 1)) (pcB := 216) (LB := fun z => #[vI x0, .val (.long x1), .second, vI x2, vI 6, vI p4, vI p7, vI p10, vI p13, vI p16, vI p20, vR b468, vI p528, vI p531, .unset, .unset, .unset, .unset, .unset, .unset, .unset, .unset, .unset, .unset]) (SB := fun z => [.int z]) (fun key => ?_) ?_
    ·
     refine r_ifeq H 215 211 at_208 (fun c534 => ?_) (fun c534 => ?_)
     ·
      refine r_iconst H 216 0 at_215 ?_
      exact key (0 : Int32) ⟨(by rw [if_pos c534]), (by decide)⟩
     ·
      refine r_iconst H 212 1 at_211 ?_
      refine r_goto H 216 at_212 ?_
      exact key (1 : Int32) ⟨(by rw [if_neg c534]), (by decide)⟩
    rintro p537 ⟨ep537, rp537⟩
    exact key p537 ⟨(by subst ep537; rw [if_pos c532]), (by have := rp537; omega)⟩
  rintro p538 ⟨ep538, rp538⟩
  refine r_istore H 218 #[vI x0, .val (.long x1), .second, vI x2, vI 6, vI p4, vI p7, vI p10, vI p13, vI p16, vI p20, vR b468, vI p528, vI p531, vI p538, .unset, .unset, .unset, .unset, .unset, .unset, .unset, .unset, .unset] at_216 ?_
  refine r_iload H 220 at_218 ?_
  refine r_iconst H 221 1 at_220 ?_
  refine r_icmpleF H 224 at_221 rfl (by decide) ?_
  refine r_iload H 226 at_224 ?_
  refine r_bipush H 228 92 at_226 ?_
  refine Run.join (P := fun z => (if p7 = (92 : Int32) then (if p531 = (0 : Int32) then (1 : Int32) else (0 : Int32)) else (0 : Int32)) = z ∧ (0 ≤ z.toInt ∧ z.toInt ≤ 1)) (pcB := 241) (LB := fun z => #[vI x0, .val (.long x1), .second, vI x2, vI 6, vI p4, vI p7, vI p10, vI p13, vI p16, vI p20, vR b468, vI p528, vI p531, vI p538, .unset, .unset, .unset, .unset, .unset, .unset, .unset, .unset, .unset]) (SB := fun z => [.int z]) (fun key => ?_) ?_
  ·
   refine r_icmpne H 240 231 at_228 (fun c539 => ?_) (fun c539 => ?_)
   ·
    refine r_iconst H 241 0 at_240 ?_
    exact key (0 : Int32) ⟨(by rw [if_neg c539]), (by decide)⟩
   ·
    refine r_iload H 233 at_231 ?_
    refine Run.join (P := fun z => (if p531 = (0 : Int32) then (1 : Int32) else (0 : Int32)) = z ∧ (0 ≤ z.toInt ∧ z.toInt ≤ 1)) (pcB := 241) (LB := fun z => #[vI x0, .val (.long x1), .second, vI x2, vI 6, vI p4, vI p7, vI p10, vI p13, vI p16, vI p20, vR b468, vI p528, vI p531, vI p538, .unset, .unset, .unset, .unset, .unset, .unset, .unset, .unset, .unset]) (SB := fun z => [.int z]) (fun key => ?_) ?_
    ·
     refine r_ifne H 240 236 at_233 (fun c541 => ?_) (fun c541 => ?_)
     ·
      refine r_iconst H 241 0 at_240 ?_
      exact key (0 : Int32) ⟨(by rw [if_neg c541]), (by decide)⟩
     ·
      refine r_iconst H 237 1 at_236 ?_
      refine r_goto H 241 at_237 ?_
      exact key (1 : Int32) ⟨(by rw [if_pos c541]), (by decide)⟩
    rintro p544 ⟨ep544, rp544⟩
    exact key p544 ⟨(by subst ep544; rw [if_pos c539]), (by have := rp544; omega)⟩
  rintro p545 ⟨ep545, rp545⟩
  refine r_istore H 243 #[vI x0, .val (.long x1), .second, vI x2, vI 6, vI p4, vI p7, vI p10, vI p13, vI p16, vI p20, vR b468, vI p528, vI p531, vI p538, vI p545, .unset, .unset, .unset, .unset, .unset, .unset, .unset, .unset] at_241 ?_
  refine r_iload H 245 at_243 ?_
  refine r_iconst H 246 2 at_245 ?_
  refine r_icmpleF H 249 at_246 rfl (by decide) ?_
  refine r_iload H 251 at_249 ?_
  refine r_bipush H 253 39 at_251 ?_
  refine Run.join (P := fun z => (if p10 = (39 : Int32) then (if p545 = (0 : Int32) then (0 : Int32) else (1 : Int32)) else (0 : Int32)) = z ∧ (0 ≤ z.toInt ∧ z.toInt ≤ 1)) (pcB := 266) (LB := fun z => #[vI x0, .val (.long x1), .second, vI x2, vI 6, vI p4, vI p7, vI p10, vI p13, vI p16, vI p20, vR b468, vI p528, vI p531, vI p538, vI p545, .unset, .unset, .unset, .unset, .unset, .unset, .unset, .unset]) (SB := fun z => [.int z]) (fun key => ?_) ?_
  ·
   refine r_icmpne H 265 256 at_253 (fun c546 => ?_) (fun c546 => ?_)
   ·
    refine r_iconst H 266 0 at_265 ?_
    exact key (0 : Int32) ⟨(by rw [if_neg c546]), (by decide)⟩
   ·
    refine r_iload H 258 at_256 ?_
    refine Run.join (P := fun z => (if p545 = (0 : Int32) then (0 : Int32) else (1 : Int32)) = z ∧ (0 ≤ z.toInt ∧ z.toInt ≤ 1)) (pcB := 266) (LB := fun z => #[vI x0, .val (.long x1), .second, vI x2, vI 6, vI p4, vI p7, vI p10, vI p13, vI p16, vI p20, vR b468, vI p528, vI p531, vI p538, vI p545, .unset, .unset, .unset, .unset, .unset, .unset, .unset, .unset]) (SB := fun z => [.int z]) (fun key => ?_) ?_
    ·
     refine r_ifeq H 265 261 at_258 (fun c548 => ?_) (fun c548 => ?_)
     ·
      refine r_iconst H 266 0 at_265 ?_
      exact key (0 : Int32) ⟨(by rw [if_pos c548]), (by decide)⟩
     ·
      refine r_iconst H 262 1 at_261 ?_
      refine r_goto H 266 at_262 ?_
      exact key (1 : Int32) ⟨(by rw [if_neg c548]), (by decide)⟩
    rintro p551 ⟨ep551, rp551⟩
    exact key p551 ⟨(by subst ep551; rw [if_pos c546]), (by have := rp551; omega)⟩
  rintro p552 ⟨ep552, rp552⟩
  refine r_istore H 268 #[vI x0, .val (.long x1), .second, vI x2, vI 6, vI p4, vI p7, vI p10, vI p13, vI p16, vI p20, vR b468, vI p528, vI p531, vI p538, vI p545, vI p552, .unset, .unset, .unset, .unset, .unset, .unset, .unset] at_266 ?_
  refine r_iload H 270 at_268 ?_
  refine r_iconst H 271 2 at_270 ?_
  refine r_icmpleF H 274 at_271 rfl (by decide) ?_
  refine r_iload H 276 at_274 ?_
  refine r_bipush H 278 92 at_276 ?_
  refine Run.join (P := fun z => (if p10 = (92 : Int32) then (if p545 = (0 : Int32) then (1 : Int32) else (0 : Int32)) else (0 : Int32)) = z ∧ (0 ≤ z.toInt ∧ z.toInt ≤ 1)) (pcB := 291) (LB := fun z => #[vI x0, .val (.long x1), .second, vI x2, vI 6, vI p4, vI p7, vI p10, vI p13, vI p16, vI p20, vR b468, vI p528, vI p531, vI p538, vI p545, vI p552, .unset, .unset, .unset, .unset, .unset, .unset, .unset]) (SB := fun z => [.int z]) (fun key => ?_) ?_
  ·
   refine r_icmpne H 290 281 at_278 (fun c553 => ?_) (fun c553 => ?_)
   ·
    refine r_iconst H 291 0 at_290 ?_
    exact key (0 : Int32) ⟨(by rw [if_neg c553]), (by decide)⟩
   ·
    refine r_iload H 283 at_281 ?_
    refine Run.join (P := fun z => (if p545 = (0 : Int32) then (1 : Int32) else (0 : Int32)) = z ∧ (0 ≤ z.toInt ∧ z.toInt ≤ 1)) (pcB := 291) (LB := fun z => #[vI x0, .val (.long x1), .second, vI x2, vI 6, vI p4, vI p7, vI p10, vI p13, vI p16, vI p20, vR b468, vI p528, vI p531, vI p538, vI p545, vI p552, .unset, .unset, .unset, .unset, .unset, .unset, .unset]) (SB := fun z => [.int z]) (fun key => ?_) ?_
    ·
     refine r_ifne H 290 286 at_283 (fun c555 => ?_) (fun c555 => ?_)
     ·
      refine r_iconst H 291 0 at_290 ?_
      exact key (0 : Int32) ⟨(by rw [if_neg c555]), (by decide)⟩
     ·
      refine r_iconst H 287 1 at_286 ?_
      refine r_goto H 291 at_287 ?_
      exact key (1 : Int32) ⟨(by rw [if_pos c555]), (by decide)⟩
    rintro p558 ⟨ep558, rp558⟩
    exact key p558 ⟨(by subst ep558; rw [if_pos c553]), (by have := rp558; omega)⟩
  rintro p559 ⟨ep559, rp559⟩
  refine r_istore H 293 #[vI x0, .val (.long x1), .second, vI x2, vI 6, vI p4, vI p7, vI p10, vI p13, vI p16, vI p20, vR b468, vI p528, vI p531, vI p538, vI p545, vI p552, vI p559, .unset, .unset, .unset, .unset, .unset, .unset] at_291 ?_
  refine r_iload H 295 at_293 ?_
  refine r_iconst H 296 3 at_295 ?_
  refine r_icmpleF H 299 at_296 rfl (by decide) ?_
  refine r_iload H 301 at_299 ?_
  refine r_bipush H 303 39 at_301 ?_
  refine Run.join (P := fun z => (if p13 = (39 : Int32) then (if p559 = (0 : Int32) then (0 : Int32) else (1 : Int32)) else (0 : Int32)) = z ∧ (0 ≤ z.toInt ∧ z.toInt ≤ 1)) (pcB := 316) (LB := fun z => #[vI x0, .val (.long x1), .second, vI x2, vI 6, vI p4, vI p7, vI p10, vI p13, vI p16, vI p20, vR b468, vI p528, vI p531, vI p538, vI p545, vI p552, vI p559, .unset, .unset, .unset, .unset, .unset, .unset]) (SB := fun z => [.int z]) (fun key => ?_) ?_
  ·
   refine r_icmpne H 315 306 at_303 (fun c560 => ?_) (fun c560 => ?_)
   ·
    refine r_iconst H 316 0 at_315 ?_
    exact key (0 : Int32) ⟨(by rw [if_neg c560]), (by decide)⟩
   ·
    refine r_iload H 308 at_306 ?_
    refine Run.join (P := fun z => (if p559 = (0 : Int32) then (0 : Int32) else (1 : Int32)) = z ∧ (0 ≤ z.toInt ∧ z.toInt ≤ 1)) (pcB := 316) (LB := fun z => #[vI x0, .val (.long x1), .second, vI x2, vI 6, vI p4, vI p7, vI p10, vI p13, vI p16, vI p20, vR b468, vI p528, vI p531, vI p538, vI p545, vI p552, vI p559, .unset, .unset, .unset, .unset, .unset, .unset]) (SB := fun z => [.int z]) (fun key => ?_) ?_
    ·
     refine r_ifeq H 315 311 at_308 (fun c562 => ?_) (fun c562 => ?_)
     ·
      refine r_iconst H 316 0 at_315 ?_
      exact key (0 : Int32) ⟨(by rw [if_pos c562]), (by decide)⟩
     ·
      refine r_iconst H 312 1 at_311 ?_
      refine r_goto H 316 at_312 ?_
      exact key (1 : Int32) ⟨(by rw [if_neg c562]), (by decide)⟩
    rintro p565 ⟨ep565, rp565⟩
    exact key p565 ⟨(by subst ep565; rw [if_pos c560]), (by have := rp565; omega)⟩
  rintro p566 ⟨ep566, rp566⟩
  refine r_istore H 318 #[vI x0, .val (.long x1), .second, vI x2, vI 6, vI p4, vI p7, vI p10, vI p13, vI p16, vI p20, vR b468, vI p528, vI p531, vI p538, vI p545, vI p552, vI p559, vI p566, .unset, .unset, .unset, .unset, .unset] at_316 ?_
  refine r_iload H 320 at_318 ?_
  refine r_iconst H 321 3 at_320 ?_
  refine r_icmpleF H 324 at_321 rfl (by decide) ?_
  refine r_iload H 326 at_324 ?_
  refine r_bipush H 328 92 at_326 ?_
  refine Run.join (P := fun z => (if p13 = (92 : Int32) then (if p559 = (0 : Int32) then (1 : Int32) else (0 : Int32)) else (0 : Int32)) = z ∧ (0 ≤ z.toInt ∧ z.toInt ≤ 1)) (pcB := 341) (LB := fun z => #[vI x0, .val (.long x1), .second, vI x2, vI 6, vI p4, vI p7, vI p10, vI p13, vI p16, vI p20, vR b468, vI p528, vI p531, vI p538, vI p545, vI p552, vI p559, vI p566, .unset, .unset, .unset, .unset, .unset]) (SB := fun z => [.int z]) (fun key => ?_) ?_
  ·
   refine r_icmpne H 340 331 at_328 (fun c567 => ?_) (fun c567 => ?_)
   ·
    refine r_iconst H 341 0 at_340 ?_
    exact key (0 : Int32) ⟨(by rw [if_neg c567]), (by decide)⟩
   ·
    refine r_iload H 333 at_331 ?_
    refine Run.join (P := fun z => (if p559 = (0 : Int32) then (1 : Int32) else (0 : Int32)) = z ∧ (0 ≤ z.toInt ∧ z.toInt ≤ 1)) (pcB := 341) (LB := fun z => #[vI x0, .val (.long x1), .second, vI x2, vI 6, vI p4, vI p7, vI p10, vI p13, vI p16, vI p20, vR b468, vI p528, vI p531, vI p538, vI p545, vI p552, vI p559, vI p566, .unset, .unset, .unset, .unset, .unset]) (SB := fun z => [.int z]) (fun key => ?_) ?_
    ·
     refine r_ifne H 340 336 at_333 (fun c569 => ?_) (fun c569 => ?_)
     ·
      refine r_iconst H 341 0 at_340 ?_
      exact key (0 : Int32) ⟨(by rw [if_neg c569]), (by decide)⟩
     ·
      refine r_iconst H 337 1 at_336 ?_
      refine r_goto H 341 at_337 ?_
      exact key (1 : Int32) ⟨(by rw [if_pos c569]), (by decide)⟩
    rintro p572 ⟨ep572, rp572⟩
    exact key p572 ⟨(by subst ep572; rw [if_pos c567]), (by have := rp572; omega)⟩
  rintro p573 ⟨ep573, rp573⟩
  refine r_istore H 343 #[vI x0, .val (.long x1), .second, vI x2, vI 6, vI p4, vI p7, vI p10, vI p13, vI p16, vI p20, vR b468, vI p528, vI p531, vI p538, vI p545, vI p552, vI p559, vI p566, vI p573, .unset, .unset, .unset, .unset] at_341 ?_
  refine r_iload H 345 at_343 ?_
  refine r_iconst H 346 4 at_345 ?_
  refine r_icmpleF H 349 at_346 rfl (by decide) ?_
  refine r_iload H 351 at_349 ?_
  refine r_bipush H 353 39 at_351 ?_
  refine Run.join (P := fun z => (if p16 = (39 : Int32) then (if p573 = (0 : Int32) then (0 : Int32) else (1 : Int32)) else (0 : Int32)) = z ∧ (0 ≤ z.toInt ∧ z.toInt ≤ 1)) (pcB := 366) (LB := fun z => #[vI x0, .val (.long x1), .second, vI x2, vI 6, vI p4, vI p7, vI p10, vI p13, vI p16, vI p20, vR b468, vI p528, vI p531, vI p538, vI p545, vI p552, vI p559, vI p566, vI p573, .unset, .unset, .unset, .unset]) (SB := fun z => [.int z]) (fun key => ?_) ?_
  ·
   refine r_icmpne H 365 356 at_353 (fun c574 => ?_) (fun c574 => ?_)
   ·
    refine r_iconst H 366 0 at_365 ?_
    exact key (0 : Int32) ⟨(by rw [if_neg c574]), (by decide)⟩
   ·
    refine r_iload H 358 at_356 ?_
    refine Run.join (P := fun z => (if p573 = (0 : Int32) then (0 : Int32) else (1 : Int32)) = z ∧ (0 ≤ z.toInt ∧ z.toInt ≤ 1)) (pcB := 366) (LB := fun z => #[vI x0, .val (.long x1), .second, vI x2, vI 6, vI p4, vI p7, vI p10, vI p13, vI p16, vI p20, vR b468, vI p528, vI p531, vI p538, vI p545, vI p552, vI p559, vI p566, vI p573, .unset, .unset, .unset, .unset]) (SB := fun z => [.int z]) (fun key => ?_) ?_
    ·
     refine r_ifeq H 365 361 at_358 (fun c576 => ?_) (fun c576 => ?_)
     ·
      refine r_iconst H 366 0 at_365 ?_
      exact key (0 : Int32) ⟨(by rw [if_pos c576]), (by decide)⟩
     ·
      refine r_iconst H 362 1 at_361 ?_
      refine r_goto H 366 at_362 ?_
      exact key (1 : Int32) ⟨(by rw [if_neg c576]), (by decide)⟩
    rintro p579 ⟨ep579, rp579⟩
    exact key p579 ⟨(by subst ep579; rw [if_pos c574]), (by have := rp579; omega)⟩
  rintro p580 ⟨ep580, rp580⟩
  refine r_istore H 368 #[vI x0, .val (.long x1), .second, vI x2, vI 6, vI p4, vI p7, vI p10, vI p13, vI p16, vI p20, vR b468, vI p528, vI p531, vI p538, vI p545, vI p552, vI p559, vI p566, vI p573, vI p580, .unset, .unset, .unset] at_366 ?_
  refine r_iload H 370 at_368 ?_
  refine r_iconst H 371 4 at_370 ?_
  refine r_icmpleF H 374 at_371 rfl (by decide) ?_
  refine r_iload H 376 at_374 ?_
  refine r_bipush H 378 92 at_376 ?_
  refine Run.join (P := fun z => (if p16 = (92 : Int32) then (if p573 = (0 : Int32) then (1 : Int32) else (0 : Int32)) else (0 : Int32)) = z ∧ (0 ≤ z.toInt ∧ z.toInt ≤ 1)) (pcB := 391) (LB := fun z => #[vI x0, .val (.long x1), .second, vI x2, vI 6, vI p4, vI p7, vI p10, vI p13, vI p16, vI p20, vR b468, vI p528, vI p531, vI p538, vI p545, vI p552, vI p559, vI p566, vI p573, vI p580, .unset, .unset, .unset]) (SB := fun z => [.int z]) (fun key => ?_) ?_
  ·
   refine r_icmpne H 390 381 at_378 (fun c581 => ?_) (fun c581 => ?_)
   ·
    refine r_iconst H 391 0 at_390 ?_
    exact key (0 : Int32) ⟨(by rw [if_neg c581]), (by decide)⟩
   ·
    refine r_iload H 383 at_381 ?_
    refine Run.join (P := fun z => (if p573 = (0 : Int32) then (1 : Int32) else (0 : Int32)) = z ∧ (0 ≤ z.toInt ∧ z.toInt ≤ 1)) (pcB := 391) (LB := fun z => #[vI x0, .val (.long x1), .second, vI x2, vI 6, vI p4, vI p7, vI p10, vI p13, vI p16, vI p20, vR b468, vI p528, vI p531, vI p538, vI p545, vI p552, vI p559, vI p566, vI p573, vI p580, .unset, .unset, .unset]) (SB := fun z => [.int z]) (fun key => ?_) ?_
    ·
     refine r_ifne H 390 386 at_383 (fun c583 => ?_) (fun c583 => ?_)
     ·
      refine r_iconst H 391 0 at_390 ?_
      exact key (0 : Int32) ⟨(by rw [if_neg c583]), (by decide)⟩
     ·
      refine r_iconst H 387 1 at_386 ?_
      refine r_goto H 391 at_387 ?_
      exact key (1 : Int32) ⟨(by rw [if_pos c583]), (by decide)⟩
    rintro p586 ⟨ep586, rp586⟩
    exact key p586 ⟨(by subst ep586; rw [if_pos c581]), (by have := rp586; omega)⟩
  rintro p587 ⟨ep587, rp587⟩
  refine r_istore H 393 #[vI x0, .val (.long x1), .second, vI x2, vI 6, vI p4, vI p7, vI p10, vI p13, vI p16, vI p20, vR b468, vI p528, vI p531, vI p538, vI p545, vI p552, vI p559, vI p566, vI p573, vI p580, vI p587, .unset, .unset] at_391 ?_
  refine r_iload H 395 at_393 ?_
  refine r_iconst H 396 5 at_395 ?_
  refine r_icmpleF H 399 at_396 rfl (by decide) ?_
  refine r_iload H 401 at_399 ?_
  refine r_bipush H 403 39 at_401 ?_
  refine Run.join (P := fun z => (if p20 = (39 : Int32) then (if p587 = (0 : Int32) then (0 : Int32) else (1 : Int32)) else (0 : Int32)) = z ∧ (0 ≤ z.toInt ∧ z.toInt ≤ 1)) (pcB := 416) (LB := fun z => #[vI x0, .val (.long x1), .second, vI x2, vI 6, vI p4, vI p7, vI p10, vI p13, vI p16, vI p20, vR b468, vI p528, vI p531, vI p538, vI p545, vI p552, vI p559, vI p566, vI p573, vI p580, vI p587, .unset, .unset]) (SB := fun z => [.int z]) (fun key => ?_) ?_
  ·
   refine r_icmpne H 415 406 at_403 (fun c588 => ?_) (fun c588 => ?_)
   ·
    refine r_iconst H 416 0 at_415 ?_
    exact key (0 : Int32) ⟨(by rw [if_neg c588]), (by decide)⟩
   ·
    refine r_iload H 408 at_406 ?_
    refine Run.join (P := fun z => (if p587 = (0 : Int32) then (0 : Int32) else (1 : Int32)) = z ∧ (0 ≤ z.toInt ∧ z.toInt ≤ 1)) (pcB := 416) (LB := fun z => #[vI x0, .val (.long x1), .second, vI x2, vI 6, vI p4, vI p7, vI p10, vI p13, vI p16, vI p20, vR b468, vI p528, vI p531, vI p538, vI p545, vI p552, vI p559, vI p566, vI p573, vI p580, vI p587, .unset, .unset]) (SB := fun z => [.int z]) (fun key => ?_) ?_
    ·
     refine r_ifeq H 415 411 at_408 (fun c590 => ?_) (fun c590 => ?_)
     ·
      refine r_iconst H 416 0 at_415 ?_
      exact key (0 : Int32) ⟨(by rw [if_pos c590]), (by decide)⟩
     ·
      refine r_iconst H 412 1 at_411 ?_
      refine r_goto H 416 at_412 ?_
      exact key (1 : Int32) ⟨(by rw [if_neg c590]), (by decide)⟩
    rintro p593 ⟨ep593, rp593⟩
    exact key p593 ⟨(by subst ep593; rw [if_pos c588]), (by have := rp593; omega)⟩
  rintro p594 ⟨ep594, rp594⟩
  refine r_istore H 418 #[vI x0, .val (.long x1), .second, vI x2, vI 6, vI p4, vI p7, vI p10, vI p13, vI p16, vI p20, vR b468, vI p528, vI p531, vI p538, vI p545, vI p552, vI p559, vI p566, vI p573, vI p580, vI p587, vI p594, .unset] at_416 ?_
  refine r_iload H 420 at_418 ?_
  refine Run.join (P := fun z => (if p538 = (0 : Int32) then (if p552 = (0 : Int32) then (if p566 = (0 : Int32) then (if p580 = (0 : Int32) then (if p594 = (0 : Int32) then (1 : Int32) else (0 : Int32)) else (0 : Int32)) else (0 : Int32)) else (0 : Int32)) else (0 : Int32)) = z ∧ (0 ≤ z.toInt ∧ z.toInt ≤ 1)) (pcB := 448) (LB := fun z => #[vI x0, .val (.long x1), .second, vI x2, vI 6, vI p4, vI p7, vI p10, vI p13, vI p16, vI p20, vR b468, vI p528, vI p531, vI p538, vI p545, vI p552, vI p559, vI p566, vI p573, vI p580, vI p587, vI p594, .unset]) (SB := fun z => [.int z]) (fun key => ?_) ?_
  ·
   refine r_ifne H 447 423 at_420 (fun c595 => ?_) (fun c595 => ?_)
   ·
    refine r_iconst H 448 0 at_447 ?_
    exact key (0 : Int32) ⟨(by rw [if_neg c595]), (by decide)⟩
   ·
    refine r_iload H 425 at_423 ?_
    refine Run.join (P := fun z => (if p552 = (0 : Int32) then (if p566 = (0 : Int32) then (if p580 = (0 : Int32) then (if p594 = (0 : Int32) then (1 : Int32) else (0 : Int32)) else (0 : Int32)) else (0 : Int32)) else (0 : Int32)) = z ∧ (0 ≤ z.toInt ∧ z.toInt ≤ 1)) (pcB := 448) (LB := fun z => #[vI x0, .val (.long x1), .second, vI x2, vI 6, vI p4, vI p7, vI p10, vI p13, vI p16, vI p20, vR b468, vI p528, vI p531, vI p538, vI p545, vI p552, vI p559, vI p566, vI p573, vI p580, vI p587, vI p594, .unset]) (SB := fun z => [.int z]) (fun key => ?_) ?_
    ·
     refine r_ifne H 447 428 at_425 (fun c598 => ?_) (fun c598 => ?_)
     ·
      refine r_iconst H 448 0 at_447 ?_
      exact key (0 : Int32) ⟨(by rw [if_neg c598]), (by decide)⟩
     ·
      refine r_iload H 430 at_428 ?_
      refine Run.join (P := fun z => (if p566 = (0 : Int32) then (if p580 = (0 : Int32) then (if p594 = (0 : Int32) then (1 : Int32) else (0 : Int32)) else (0 : Int32)) else (0 : Int32)) = z ∧ (0 ≤ z.toInt ∧ z.toInt ≤ 1)) (pcB := 448) (LB := fun z => #[vI x0, .val (.long x1), .second, vI x2, vI 6, vI p4, vI p7, vI p10, vI p13, vI p16, vI p20, vR b468, vI p528, vI p531, vI p538, vI p545, vI p552, vI p559, vI p566, vI p573, vI p580, vI p587, vI p594, .unset]) (SB := fun z => [.int z]) (fun key => ?_) ?_
      ·
       refine r_ifne H 447 433 at_430 (fun c601 => ?_) (fun c601 => ?_)
       ·
        refine r_iconst H 448 0 at_447 ?_
        exact key (0 : Int32) ⟨(by rw [if_neg c601]), (by decide)⟩
       ·
        refine r_iload H 435 at_433 ?_
        refine Run.join (P := fun z => (if p580 = (0 : Int32) then (if p594 = (0 : Int32) then (1 : Int32) else (0 : Int32)) else (0 : Int32)) = z ∧ (0 ≤ z.toInt ∧ z.toInt ≤ 1)) (pcB := 448) (LB := fun z => #[vI x0, .val (.long x1), .second, vI x2, vI 6, vI p4, vI p7, vI p10, vI p13, vI p16, vI p20, vR b468, vI p528, vI p531, vI p538, vI p545, vI p552, vI p559, vI p566, vI p573, vI p580, vI p587, vI p594, .unset]) (SB := fun z => [.int z]) (fun key => ?_) ?_
        ·
         refine r_ifne H 447 438 at_435 (fun c604 => ?_) (fun c604 => ?_)
         ·
          refine r_iconst H 448 0 at_447 ?_
          exact key (0 : Int32) ⟨(by rw [if_neg c604]), (by decide)⟩
         ·
          refine r_iload H 440 at_438 ?_
          refine Run.join (P := fun z => (if p594 = (0 : Int32) then (1 : Int32) else (0 : Int32)) = z ∧ (0 ≤ z.toInt ∧ z.toInt ≤ 1)) (pcB := 448) (LB := fun z => #[vI x0, .val (.long x1), .second, vI x2, vI 6, vI p4, vI p7, vI p10, vI p13, vI p16, vI p20, vR b468, vI p528, vI p531, vI p538, vI p545, vI p552, vI p559, vI p566, vI p573, vI p580, vI p587, vI p594, .unset]) (SB := fun z => [.int z]) (fun key => ?_) ?_
          ·
           refine r_ifne H 447 443 at_440 (fun c607 => ?_) (fun c607 => ?_)
           ·
            refine r_iconst H 448 0 at_447 ?_
            exact key (0 : Int32) ⟨(by rw [if_neg c607]), (by decide)⟩
           ·
            refine r_iconst H 444 1 at_443 ?_
            refine r_goto H 448 at_444 ?_
            exact key (1 : Int32) ⟨(by rw [if_pos c607]), (by decide)⟩
          rintro p610 ⟨ep610, rp610⟩
          exact key p610 ⟨(by subst ep610; rw [if_pos c604]), (by have := rp610; omega)⟩
        rintro p611 ⟨ep611, rp611⟩
        exact key p611 ⟨(by subst ep611; rw [if_pos c601]), (by have := rp611; omega)⟩
      rintro p612 ⟨ep612, rp612⟩
      exact key p612 ⟨(by subst ep612; rw [if_pos c598]), (by have := rp612; omega)⟩
    rintro p613 ⟨ep613, rp613⟩
    exact key p613 ⟨(by subst ep613; rw [if_pos c595]), (by have := rp613; omega)⟩
  rintro p614 ⟨ep614, rp614⟩
  refine r_istore H 450 #[vI x0, .val (.long x1), .second, vI x2, vI 6, vI p4, vI p7, vI p10, vI p13, vI p16, vI p20, vR b468, vI p528, vI p531, vI p538, vI p545, vI p552, vI p559, vI p566, vI p573, vI p580, vI p587, vI p594, vI p614] at_448 ?_
  refine r_iload H 452 at_450 ?_
  refine r_iload H 454 at_452 ?_
  refine Run.join (P := fun z => (if p528 = p614 then (1 : Int32) else (0 : Int32)) = z ∧ (0 ≤ z.toInt ∧ z.toInt ≤ 1)) (pcB := 462) (LB := fun z => #[vI x0, .val (.long x1), .second, vI x2, vI 6, vI p4, vI p7, vI p10, vI p13, vI p16, vI p20, vR b468, vI p528, vI p531, vI p538, vI p545, vI p552, vI p559, vI p566, vI p573, vI p580, vI p587, vI p594, vI p614]) (SB := fun z => [.int z]) (fun key => ?_) ?_
  ·
   refine r_icmpne H 461 457 at_454 (fun c615 => ?_) (fun c615 => ?_)
   ·
    refine r_iconst H 462 0 at_461 ?_
    exact key (0 : Int32) ⟨(by rw [if_neg c615]), (by decide)⟩
   ·
    refine r_iconst H 458 1 at_457 ?_
    refine r_goto H 462 at_458 ?_
    exact key (1 : Int32) ⟨(by rw [if_pos c615]), (by decide)⟩
  rintro p616 ⟨ep616, rp616⟩
  have hone : p616 = 1 := by
   rw [← ep616, ← ep614, ← ep594, ← ep587, ← ep580, ← ep573, ← ep566, ← ep559, ← ep552, ← ep545, ← ep538, ← ep531]
   rcases ep528 with e | e
   · rw [← e]; exact lf_fn_readAlikeByEitherSetting_106 p4 p7 p10 p13 p16 p20
   · rw [← e]; exact lf_fn_readAlikeByEitherSetting_106 p4 p7 p10 p13 p16 p20
  exact r_nreturn (hf := Z0) (hT := (fun _ t => (.tail _ t))) (1 : Int32) H at_462 (by rw [hone]; decide) rfl
set_option maxRecDepth 65536 in
set_option maxHeartbeats 40000000 in
theorem comes_1 {Post : Tables → Env → Array Value → State → Outcome → State → Prop} (hpost : ∀ tb e args s v u, (limb_1_1.after args s (.returned v) u = true ∧ limb_1_2.after args s (.returned v) u = true ∧ True) → ReturnedEndW s (.returned v) u (Jvm.fieldLocs frame_1_writes args s ++ Jvm.arrayLocs frame_1_arrays args s ++ Jvm.staticLocs frame_1_statics s) 24 1152 → Post tb e args s (.returned v) u) :
    ArmFor flags0 classFile x code maxLocals ret World_1 tables_1 room_1 Calls_1 rest_1 Pre_1 Post := by
  intro l hfl _ _ p e ha hc hk s m args below hf hA hF happ hP
  obtain ⟨hcalls, hrest, hpre⟩ := hP
  obtain ⟨-, -, -, hnamed, -, -, -, hat⟩ := (Spec.applies_iff hf).mp happ
  obtain ⟨hg, hn⟩ := and_e (Cond.before_iff.mp (show (Jvm.Cond.and given_1 narrow_1).before args s = true from hpre))
  obtain ⟨hcnt, hg0⟩ := and_e hg
  obtain ⟨ga0, hg1⟩ := and_e hg0
  obtain ⟨ga1, hg2⟩ := and_e hg1
  obtain ⟨w0, w1, w2, rfl⟩ : ∃ w0 w1 w2 : Value, args = #[w0, w1, w2] := by
    have hs : args.size = 3 := by simpa [Cond.value, given_1] using hcnt
    obtain ⟨L⟩ := args
    match L, hs with
    | [w0, w1, w2], _ => exact ⟨w0, w1, w2, rfl⟩
  have hw := fun d (hd : d ∈ tables_1) => atoms_spec (ws := Jvm.Cond.code x code maxLocals ret :: tables_1) hat d (List.mem_cons_of_mem _ hd)
  obtain ⟨hsets, hown0⟩ := atoms_of _ (rest_1_c_eq ▸ (show rest_1_c.before _ s = true from hrest))
  obtain ⟨i0, ei0⟩ := is_v ga0
  obtain rfl : w0 = (.int i0) := Option.some.inj ei0
  obtain ⟨i1, ei1⟩ := isL_v ga1
  obtain rfl : w1 = (.long i1) := Option.some.inj ei1
  obtain ⟨i2, ei2⟩ := is_v hg2
  obtain rfl : w2 = (.int i2) := Option.some.inj ei2
  have ncs := not_v (Cond.before_iff.mp (hsets _ (List.mem_of_getElem? (i := 2) rfl)))
  obtain ⟨cs, ecs⟩ := is_v (Cond.before_iff.mp (hsets _ (List.mem_of_getElem? (i := 1) rfl)))
  have S_cs : Sta s s.heap "java/lang/String" "COMPACT_STRINGS" "Z" (.int cs) := Sta.start ecs (Or.inl (hsets _ (List.mem_of_getElem? (i := 0) rfl)))
  have hcs : ¬ (cs = (0 : Int32)) := gotF (Cond.eq_ints ecs (Term.int_eval (0))) ncs
  obtain ⟨sio, esio, rsio⟩ := isR_v (Cond.before_iff.mp (hsets _ (List.mem_of_getElem? (i := 8) rfl)))
  have S_sio : Sta s s.heap "jdk/internal/util/Preconditions" "SIOOBE_FORMATTER" "Ljava/util/function/BiFunction;" sio := Sta.start esio (Or.inl (hsets _ (List.mem_of_getElem? (i := 7) rfl)))
  have hsio := ref_cases rsio
  have S__assertionsDisabled : Sta s s.heap "java/lang/StringUTF16" "$assertionsDisabled" "Z" (.int (1 : Int32)) := Sta.start (Cond.eq_int (hsets _ (List.mem_of_getElem? (i := 12) rfl)) rfl) (Or.inl (hsets _ (List.mem_of_getElem? (i := 11) rfl)))
  have S_HI_BYTE_SHIFT : Sta s s.heap "java/lang/StringUTF16" "HI_BYTE_SHIFT" "I" (.int (0 : Int32)) := Sta.start (Cond.eq_int (hsets _ (List.mem_of_getElem? (i := 15) rfl)) rfl) (Or.inl (hsets _ (List.mem_of_getElem? (i := 14) rfl)))
  have S_LO_BYTE_SHIFT : Sta s s.heap "java/lang/StringUTF16" "LO_BYTE_SHIFT" "I" (.int (8 : Int32)) := Sta.start (Cond.eq_int (hsets _ (List.mem_of_getElem? (i := 18) rfl)) rfl) (Or.inl (hsets _ (List.mem_of_getElem? (i := 17) rfl)))
  have wS : ∀ a ∈ Bundle.stringAtoms, a.before #[.int i0, .long i1, .int i2] s = true := by
    intro a ha'
    simp only [Bundle.stringAtoms, List.mem_cons, List.not_mem_nil, or_false] at ha'
    rcases ha' with rfl | rfl | rfl | rfl | rfl | rfl | rfl
    · exact (tw7 hw)
    · exact (tw6 hw)
    · exact (tw19 hw)
    · exact (tw20 hw)
    · exact (tw21 hw)
    · exact (tw22 hw)
    · exact (tw23 hw)
  have hcw : Jvm.Lit.compactW.before #[.int i0, .long i1, .int i2] s = true := (hsets _ (List.mem_of_getElem? (i := 2) rfl))
  have hh0 : Jvm.Lit.constHeld s "java/lang/String" 7 := hcalls.1 _ (List.mem_of_getElem? (i := 0) rfl)
  obtain ⟨n, o, h1, h2, h3, _, L, rfl, ⟨rfl, N, -, -⟩, hq⟩ := rm_law hw [] rfl i0 i1 i2 cs sio s.heap s.heap.size (Nat.le_refl _) (Nat.le_refl _) wS hcw hh0 S_cs S__assertionsDisabled S_HI_BYTE_SHIFT S_LO_BYTE_SHIFT S_sio hsio hcs l p e ha hc hk s m _ below hf ((Spec.applies_iff_loose hf).mp happ).1 ⟨rfl, State.Warmed39.refl s, rfl, IB.start, ⟨Nat.le_refl _, fun _ _ q => q⟩⟩ trivial
  refine ⟨n, _, h1, h2, h3, hpost _ _ _ _ _ _ ⟨Cond.after_iff.mpr rfl, Cond.after_iff.mpr (eq_i res_at (Term.int_eval (1)) rfl), trivial⟩ ⟨hq.1, hq.2.1, hq.2.2.1, (hq.2.2.2.sift fun y hy => Or.inr (N y hy)).mono (by decide) (by decide)⟩⟩
theorem main_1_1 : Claimed_1_1 := comes_1 fun _ _ _ _ _ _ h hF => ⟨h.1, hF⟩
theorem main_1_2 : Claimed_1_2 := comes_1 fun _ _ _ _ _ _ h hF => ⟨h.2.1, hF⟩
end Jvm.Pilot.@@N@@
namespace Jvm.Pilot.@@N@@
open Jvm Jvm.ClassFile Sem Op Lib Jvm.Free Jvm.Stand Jvm.Pilot.@@N@@.Jvm.D
/-! MADE BY PROGRAM (witnessworld.py) out of the Statement's table words and the real class files: 20 classes; the members and pool entries that the words name. The judged class is class 1, her method 1. -/
namespace start1
open Jvm.ClassFile
def u (s : String) : CpInfo := .utf8 (stringToUtf16 s)
/-- a pool by its gaps: so many unusable entries, then the entry; so many at the end -/
def gap : Nat → List CpInfo → List CpInfo
  | 0, r => r
  | n + 1, r => .unusable :: gap n r
def poolList (es : List (Nat × CpInfo)) (last : Nat) : List CpInfo := es.foldr (fun e r => gap e.1 (e.2 :: r)) (gap last [])
def pool (es : List (Nat × CpInfo)) (last : Nat) : Array CpInfo := ⟨poolList es last⟩
def fileOf (pool : Array CpInfo) (this : Nat) (attrs : Array Attribute := #[]) (ms : Array MethodInfo := #[]) (fl : Nat := 33) (sup : Nat := 0) (ifs : Array Nat := #[]) (fds : Array FieldInfo := #[]) : ClassFile where
  minorVersion := 0
  majorVersion := 65
  constantPool := pool
  accessFlags := fl
  thisClass := this
  superClass := sup
  interfaces := ifs
  fields := fds
  methods := ms
  attributes := attrs
def plain (name : String) (sup : Option ClassId) : Class where
  name := name
  kind := .ordinary
  loader := none
  accessFlags := 33
  super := sup
  interfaces := #[]
  cf := none
  fields := #[]
  methods := #[]
  instanceTypes := #[]
  staticTypes := #[]
  resolved := #[]
  callSites := []
  init := .initialized
  statics := none
  mirror := none

def pool0 : Array CpInfo := pool [(5, u "<init>"), (0, u "()V"), (1, .class_ 10), (1, u "java/lang/Object")] 113

def k0c0 : Code := { maxStack := 0, maxLocals := 1, code := object_method_1_code, exceptionTable := #[], attributes := #[] }
def k0m0 : Method := { name := "<init>", desc := "()V", sig := { parameters := [], returnType := none }, accessFlags := 1, code := some k0c0 }
/-- java/lang/Object -/
def k0 : Class := { plain "java/lang/Object" none with
  accessFlags := 33
  interfaces := #[]
  cf := some (fileOf pool0 8 #[] #[{ accessFlags := 1, nameIndex := 5, descriptorIndex := 6, attributes := #[] }] 33 0 #[] #[])
  fields := #[]
  methods := #[k0m0]
  instanceTypes := #[]
  staticTypes := #[]
  resolved := Array.replicate 124 none
  statics := none }

def pool1 : Array CpInfo := pool [(2, .class_ 4), (1, u "java/lang/Object"), (0, u "<init>"), (0, u "()V"), (0, .methodref 8 9), (0, .class_ 10), (0, .nameAndType 11 12), (0, u "com/example/held_scope/heldscope/jdbc/TransactionSqlReadAlikeByEitherSettingPinLaw"), (0, u "pick"), (0, u "(II)C"), (0, .class_ 14), (0, u "java/lang/String"), (0, .methodref 13 16), (0, .nameAndType 5 17), (0, u "([C)V"), (0, .methodref 19 20), (0, .class_ 21), (0, .nameAndType 22 23), (0, u "com/example/held_scope/heldscope/jdbc/TransactionSql"), (0, u "readAlikeByEitherSetting"), (0, u "(Ljava/lang/String;)Z"), (0, .integer 65535), (2, u "law"), (0, u "(IJI)Z")] 5

def k1m0 : Method := { name := "<init>", desc := "()V", sig := { parameters := [], returnType := none }, accessFlags := 1, code := none }
def k1c1 : Code := { maxStack := 4, maxLocals := 24, code := code, exceptionTable := #[], attributes := #[] }
def k1m1 : Method := { name := "law", desc := "(IJI)Z", sig := { parameters := [.int, .long, .int], returnType := some .boolean }, accessFlags := 9, code := some k1c1 }
def k1c2 : Code := { maxStack := 2, maxLocals := 3, code := method_3_code, exceptionTable := #[], attributes := #[] }
def k1m2 : Method := { name := "pick", desc := "(II)C", sig := { parameters := [.int, .int], returnType := some .char }, accessFlags := 10, code := some k1c2 }
/-- com/example/held_scope/heldscope/jdbc/TransactionSqlReadAlikeByEitherSettingPinLaw -/
def k1 : Class := { plain "com/example/held_scope/heldscope/jdbc/TransactionSqlReadAlikeByEitherSettingPinLaw" (some 0) with
  accessFlags := 49
  interfaces := #[]
  cf := some (fileOf pool1 8 #[] #[{ accessFlags := 1, nameIndex := 5, descriptorIndex := 6, attributes := #[] }, { accessFlags := 9, nameIndex := 27, descriptorIndex := 28, attributes := #[] }, { accessFlags := 10, nameIndex := 11, descriptorIndex := 12, attributes := #[] }] 49 2 #[] #[])
  fields := #[]
  methods := #[k1m0, k1m1, k1m2]
  instanceTypes := #[]
  staticTypes := #[]
  resolved := Array.replicate 34 none
  statics := none }

def pool2 : Array CpInfo := pool [(1, .class_ 2), (0, u "java/io/Serializable"), (0, .class_ 4), (0, u "java/lang/Object")] 2

/-- java/io/Serializable -/
def k2 : Class := { plain "java/io/Serializable" (some 0) with
  accessFlags := 1537
  interfaces := #[]
  cf := some (fileOf pool2 1 #[] #[] 1537 3 #[] #[])
  fields := #[]
  methods := #[]
  instanceTypes := #[]
  staticTypes := #[]
  resolved := Array.replicate 7 none
  statics := none }

def pool3 : Array CpInfo := pool [(1, .class_ 2), (0, u "java/lang/Comparable"), (0, .class_ 4), (0, u "java/lang/Object")] 7

/-- java/lang/Comparable -/
def k3 : Class := { plain "java/lang/Comparable" (some 0) with
  accessFlags := 1537
  interfaces := #[]
  cf := some (fileOf pool3 1 #[] #[] 1537 3 #[] #[])
  fields := #[]
  methods := #[]
  instanceTypes := #[]
  staticTypes := #[]
  resolved := Array.replicate 12 none
  statics := none }

def pool4 : Array CpInfo := pool [(2, .class_ 4), (1, u "java/lang/CharSequence"), (42, .class_ 48), (0, u "java/lang/CharSequence$1CodePointIterator"), (10, .class_ 60), (0, u "java/lang/CharSequence$1CharIterator"), (5, .class_ 67), (0, u "java/lang/Object")] 63

/-- java/lang/CharSequence -/
def k4 : Class := { plain "java/lang/CharSequence" (some 0) with
  accessFlags := 1537
  interfaces := #[]
  cf := some (fileOf pool4 2 #[.nestMembers #[47, 59]] #[] 1537 66 #[] #[])
  fields := #[]
  methods := #[]
  instanceTypes := #[]
  staticTypes := #[]
  resolved := Array.replicate 131 none
  statics := none }

def pool5 : Array CpInfo := pool [(1, .class_ 2), (0, u "java/lang/constant/Constable"), (0, .class_ 4), (0, u "java/lang/Object")] 6

/-- java/lang/constant/Constable -/
def k5 : Class := { plain "java/lang/constant/Constable" (some 0) with
  accessFlags := 1537
  interfaces := #[]
  cf := some (fileOf pool5 1 #[] #[] 1537 3 #[] #[])
  fields := #[]
  methods := #[]
  instanceTypes := #[]
  staticTypes := #[]
  resolved := Array.replicate 11 none
  statics := none }

def pool6 : Array CpInfo := pool [(1, .class_ 2), (0, u "java/lang/constant/ConstantDesc"), (0, .class_ 4), (0, u "java/lang/Object")] 32

/-- java/lang/constant/ConstantDesc -/
def k6 : Class := { plain "java/lang/constant/ConstantDesc" (some 0) with
  accessFlags := 1537
  interfaces := #[]
  cf := some (fileOf pool6 1 #[] #[] 1537 3 #[] #[])
  fields := #[]
  methods := #[]
  instanceTypes := #[]
  staticTypes := #[]
  resolved := Array.replicate 37 none
  statics := none }

def pool7 : Array CpInfo := pool [(1, .methodref 2 3), (0, .class_ 4), (0, .nameAndType 5 6), (0, u "java/lang/Object"), (0, u "<init>"), (0, u "()V"), (0, .string 8), (0, u ""), (0, .fieldref 10 11), (0, .class_ 12), (0, .nameAndType 13 14), (0, u "java/lang/String"), (0, u "value"), (0, u "[B"), (0, .fieldref 10 16), (0, .nameAndType 17 18), (0, u "coder"), (0, u "B"), (2, u "hash"), (0, u "I"), (2, u "hashIsZero"), (0, u "Z"), (0, .methodref 10 28), (0, .nameAndType 5 29), (0, u "([CIILjava/lang/Void;)V"), (8, .fieldref 10 39), (0, .nameAndType 40 26), (0, u "COMPACT_STRINGS"), (1, .class_ 44), (1, u "java/lang/StringUTF16"), (0, u "compress"), (1, .methodref 42 48), (0, .nameAndType 49 50), (0, u "coderFromArrayLen"), (0, u "([BI)B"), (56, .class_ 109), (1, u "java/lang/StringLatin1"), (32, u "()Z"), (34, .methodref 42 178), (0, .nameAndType 45 179), (0, u "([CII)[B"), (154, u "()I"), (0, .methodref 10 336), (0, .nameAndType 17 337), (0, u "()B"), (25, u "([BI)C"), (27, u "(II)V"), (35, u "(I)C"), (64, .methodref 10 493), (0, .nameAndType 494 142), (0, u "isLatin1"), (0, .methodref 107 496), (0, .nameAndType 497 363), (0, u "charAt"), (0, .methodref 42 496), (2, u "checkIndex"), (5, u "length"), (67, .class_ 576), (0, u "java/lang/CharSequence"), (22, u "CASE_INSENSITIVE_ORDER"), (0, u "Ljava/util/Comparator;"), (409, u "([C)V"), (42, .fieldref 1054 1055), (0, .class_ 1056), (0, .nameAndType 1057 1058), (0, u "jdk/internal/util/Preconditions"), (0, u "SIOOBE_FORMATTER"), (0, u "Ljava/util/function/BiFunction;"), (0, .methodref 1054 1060), (0, .nameAndType 501 1061), (0, u "(IILjava/util/function/BiFunction;)I"), (39, u "serialPersistentFields"), (0, u "[Ljava/io/ObjectStreamField;"), (0, .class_ 1104), (0, u "java/lang/String$CaseInsensitiveComparator"), (1, .class_ 1107), (0, u "java/io/Serializable"), (0, .class_ 1109), (0, u "java/lang/Comparable"), (0, .class_ 1111), (0, u "java/lang/constant/Constable"), (0, .class_ 1113), (0, u "java/lang/constant/ConstantDesc"), (2, u "serialVersionUID"), (0, u "J"), (3, u "REPL"), (0, u "C"), (2, u "LATIN1"), (1, u "UTF16")] 323

def k7m0 : Method := { name := "<init>", desc := "()V", sig := { parameters := [], returnType := none }, accessFlags := 1, code := none }
def k7c1 : Code := { maxStack := 5, maxLocals := 2, code := jdk_42_method_3_code, exceptionTable := #[], attributes := #[] }
def k7m1 : Method := { name := "<init>", desc := "([C)V", sig := { parameters := [(.array .char)], returnType := none }, accessFlags := 1, code := some k7c1 }
def k7c2 : Code := { maxStack := 2, maxLocals := 1, code := jdk_42_method_54_code, exceptionTable := #[], attributes := #[] }
def k7m2 : Method := { name := "length", desc := "()I", sig := { parameters := [], returnType := some .int }, accessFlags := 1, code := some k7c2 }
def k7c3 : Code := { maxStack := 2, maxLocals := 2, code := jdk_42_method_56_code, exceptionTable := #[], attributes := #[] }
def k7m3 : Method := { name := "charAt", desc := "(I)C", sig := { parameters := [.int], returnType := some .char }, accessFlags := 1, code := some k7c3 }
def k7c4 : Code := { maxStack := 4, maxLocals := 6, code := jdk_42_method_149_code, exceptionTable := #[], attributes := #[] }
def k7m4 : Method := { name := "<init>", desc := "([CIILjava/lang/Void;)V", sig := { parameters := [(.array .char), .int, .int, (.object "java/lang/Void")], returnType := none }, accessFlags := 2, code := some k7c4 }
def k7c5 : Code := { maxStack := 1, maxLocals := 1, code := jdk_42_method_152_code, exceptionTable := #[], attributes := #[] }
def k7m5 : Method := { name := "coder", desc := "()B", sig := { parameters := [], returnType := some .byte }, accessFlags := 0, code := some k7c5 }
def k7c6 : Code := { maxStack := 1, maxLocals := 1, code := jdk_42_method_154_code, exceptionTable := #[], attributes := #[] }
def k7m6 : Method := { name := "isLatin1", desc := "()Z", sig := { parameters := [], returnType := some .boolean }, accessFlags := 0, code := some k7c6 }
def k7c7 : Code := { maxStack := 3, maxLocals := 2, code := jdk_42_method_155_code, exceptionTable := #[], attributes := #[] }
def k7m7 : Method := { name := "checkIndex", desc := "(II)V", sig := { parameters := [.int, .int], returnType := none }, accessFlags := 8, code := some k7c7 }
/-- java/lang/String -/
def k7 : Class := { plain "java/lang/String" (some 0) with
  accessFlags := 49
  interfaces := #[2, 3, 4, 5, 6]
  cf := some (fileOf pool7 10 #[.nestMembers #[1103]] #[{ accessFlags := 1, nameIndex := 5, descriptorIndex := 6, attributes := #[] }, { accessFlags := 1, nameIndex := 5, descriptorIndex := 1010, attributes := #[] }, { accessFlags := 1, nameIndex := 507, descriptorIndex := 334, attributes := #[] }, { accessFlags := 1, nameIndex := 497, descriptorIndex := 427, attributes := #[] }, { accessFlags := 2, nameIndex := 5, descriptorIndex := 29, attributes := #[] }, { accessFlags := 0, nameIndex := 17, descriptorIndex := 337, attributes := #[] }, { accessFlags := 0, nameIndex := 494, descriptorIndex := 142, attributes := #[] }, { accessFlags := 8, nameIndex := 501, descriptorIndex := 391, attributes := #[] }] 49 2 #[1106, 1108, 575, 1110, 1112] #[{ accessFlags := 18, nameIndex := 13, descriptorIndex := 14, attributes := #[] }, { accessFlags := 18, nameIndex := 17, descriptorIndex := 18, attributes := #[] }, { accessFlags := 2, nameIndex := 21, descriptorIndex := 22, attributes := #[] }, { accessFlags := 2, nameIndex := 25, descriptorIndex := 26, attributes := #[] }, { accessFlags := 26, nameIndex := 1116, descriptorIndex := 1117, attributes := #[] }, { accessFlags := 24, nameIndex := 40, descriptorIndex := 26, attributes := #[] }, { accessFlags := 26, nameIndex := 1101, descriptorIndex := 1102, attributes := #[] }, { accessFlags := 26, nameIndex := 1121, descriptorIndex := 1122, attributes := #[] }, { accessFlags := 25, nameIndex := 599, descriptorIndex := 600, attributes := #[] }, { accessFlags := 24, nameIndex := 1125, descriptorIndex := 18, attributes := #[] }, { accessFlags := 24, nameIndex := 1127, descriptorIndex := 18, attributes := #[] }])
  fields := #[{ name := "value", type := (.array .byte), accessFlags := 18, slot := 0, constantValue := 0 }, { name := "coder", type := .byte, accessFlags := 18, slot := 1, constantValue := 0 }, { name := "hash", type := .int, accessFlags := 2, slot := 2, constantValue := 0 }, { name := "hashIsZero", type := .boolean, accessFlags := 2, slot := 3, constantValue := 0 }, { name := "serialVersionUID", type := .long, accessFlags := 26, slot := 0, constantValue := 0 }, { name := "COMPACT_STRINGS", type := .boolean, accessFlags := 24, slot := 1, constantValue := 0 }, { name := "serialPersistentFields", type := (.array (.object "java/io/ObjectStreamField")), accessFlags := 26, slot := 2, constantValue := 0 }, { name := "REPL", type := .char, accessFlags := 26, slot := 3, constantValue := 0 }, { name := "CASE_INSENSITIVE_ORDER", type := (.object "java/util/Comparator"), accessFlags := 25, slot := 4, constantValue := 0 }, { name := "LATIN1", type := .byte, accessFlags := 24, slot := 5, constantValue := 0 }, { name := "UTF16", type := .byte, accessFlags := 24, slot := 6, constantValue := 0 }]
  methods := #[k7m0, k7m1, k7m2, k7m3, k7m4, k7m5, k7m6, k7m7]
  instanceTypes := #[(.array .byte), .byte, .int, .boolean]
  staticTypes := #[.long, .boolean, (.array (.object "java/io/ObjectStreamField")), .char, (.object "java/util/Comparator"), .byte, .byte]
  resolved := Array.replicate 1451 none
  statics := some 0 }

def pool8 : Array CpInfo := pool [(2, .class_ 4), (1, u "java/lang/Object"), (3, .class_ 10), (1, u "com/example/held_scope/heldscope/jdbc/TransactionSql"), (0, u "firstStatements"), (0, u "Ljava/util/Map;"), (2, u "readBySettings"), (0, u "Z"), (2, u "NONE"), (0, u "Lcom/example/held_scope/heldscope/jdbc/TransactionSql;"), (0, .class_ 22), (0, u "com/example/held_scope/heldscope/jdbc/TransactionSql$Statements"), (1, .class_ 26), (1, u "com/example/held_scope/heldscope/jdbc/TransactionSql$Lexicon"), (17, .class_ 46), (1, u "com/example/held_scope/heldscope/jdbc/TransactionSql$Database"), (5, .class_ 54), (1, u "java/lang/String"), (47, u "(Ljava/lang/String;)Z"), (5, .methodref 52 109), (0, .nameAndType 110 111), (0, u "length"), (0, u "()I"), (0, .methodref 52 113), (0, .nameAndType 114 115), (0, u "charAt"), (0, u "(I)C"), (6, .class_ 123), (0, u "com/example/held_scope/heldscope/jdbc/TransactionSql$Effect"), (20, u "H2_PRODUCT_NAME"), (0, u "Ljava/lang/String;"), (1, u "POSTGRESQL_PRODUCT_NAME"), (0, u "STANDARD_CONFORMING_STRINGS"), (11, u "readAlikeByEitherSetting")] 13

def k8c0 : Code := { maxStack := 2, maxLocals := 5, code := prog_52_method_4_code, exceptionTable := #[], attributes := #[] }
def k8m0 : Method := { name := "readAlikeByEitherSetting", desc := "(Ljava/lang/String;)Z", sig := { parameters := [(.object "java/lang/String")], returnType := some .boolean }, accessFlags := 8, code := some k8c0 }
/-- com/example/held_scope/heldscope/jdbc/TransactionSql -/
def k8 : Class := { plain "com/example/held_scope/heldscope/jdbc/TransactionSql" (some 0) with
  accessFlags := 48
  interfaces := #[]
  cf := some (fileOf pool8 8 #[.nestMembers #[21, 24, 44, 122]] #[{ accessFlags := 8, nameIndex := 160, descriptorIndex := 102, attributes := #[] }] 48 2 #[] #[{ accessFlags := 26, nameIndex := 19, descriptorIndex := 20, attributes := #[] }, { accessFlags := 26, nameIndex := 144, descriptorIndex := 145, attributes := #[] }, { accessFlags := 26, nameIndex := 147, descriptorIndex := 145, attributes := #[] }, { accessFlags := 24, nameIndex := 148, descriptorIndex := 145, attributes := #[] }, { accessFlags := 18, nameIndex := 11, descriptorIndex := 12, attributes := #[] }, { accessFlags := 18, nameIndex := 15, descriptorIndex := 16, attributes := #[] }])
  fields := #[{ name := "NONE", type := (.object "com/example/held_scope/heldscope/jdbc/TransactionSql"), accessFlags := 26, slot := 0, constantValue := 0 }, { name := "H2_PRODUCT_NAME", type := (.object "java/lang/String"), accessFlags := 26, slot := 1, constantValue := 0 }, { name := "POSTGRESQL_PRODUCT_NAME", type := (.object "java/lang/String"), accessFlags := 26, slot := 2, constantValue := 0 }, { name := "STANDARD_CONFORMING_STRINGS", type := (.object "java/lang/String"), accessFlags := 24, slot := 3, constantValue := 0 }, { name := "firstStatements", type := (.object "java/util/Map"), accessFlags := 18, slot := 0, constantValue := 0 }, { name := "readBySettings", type := .boolean, accessFlags := 18, slot := 1, constantValue := 0 }]
  methods := #[k8m0]
  instanceTypes := #[(.object "java/util/Map"), .boolean]
  staticTypes := #[(.object "com/example/held_scope/heldscope/jdbc/TransactionSql"), (.object "java/lang/String"), (.object "java/lang/String"), (.object "java/lang/String")]
  resolved := Array.replicate 174 none
  statics := none }

def pool9 : Array CpInfo := pool [(3, .class_ 4), (0, u "java/lang/String"), (1, .class_ 8), (1, u "java/lang/Object"), (0, u "<init>"), (0, u "()V"), (0, .methodref 12 13), (0, .class_ 14), (0, .nameAndType 15 16), (0, u "java/lang/StringUTF16"), (0, u "newBytesLength"), (0, u "(I)I"), (3, .integer 1073741823), (23, .fieldref 12 45), (0, .nameAndType 46 47), (0, u "$assertionsDisabled"), (0, u "Z"), (0, .methodref 12 49), (0, .nameAndType 50 51), (0, u "length"), (0, u "([B)I"), (7, .fieldref 12 60), (0, .nameAndType 61 62), (0, u "HI_BYTE_SHIFT"), (0, u "I"), (0, .fieldref 12 64), (0, .nameAndType 65 62), (0, u "LO_BYTE_SHIFT"), (1, .methodref 12 68), (0, .nameAndType 69 70), (0, u "checkIndex"), (0, u "(I[B)V"), (0, .methodref 12 72), (0, .nameAndType 73 74), (0, u "getChar"), (0, u "([BI)C"), (32, .methodref 12 108), (0, .nameAndType 109 110), (0, u "newBytesFor"), (0, u "(I)[B"), (0, .methodref 12 112), (0, .nameAndType 113 114), (0, u "putChar"), (0, u "([BII)V"), (0, .methodref 12 116), (0, .nameAndType 117 118), (0, u "compress"), (0, u "([CI[BII)I"), (0, .methodref 12 120), (0, .nameAndType 121 122), (0, u "toBytes"), (0, u "([CII)[B"), (138, u "coderFromArrayLen"), (0, u "([BI)B"), (106, .class_ 371), (1, u "java/lang/StringUTF16$LinesSpliterator"), (20, u "charAt"), (21, .methodref 3 415), (0, .nameAndType 69 416), (0, u "(II)V"), (13, u "MAX_LENGTH"), (196, .class_ 628), (0, u "java/lang/StringUTF16$CodePointsSpliterator"), (0, .class_ 630), (0, u "java/lang/StringUTF16$CharsSpliterator")] 4

def k9m0 : Method := { name := "<init>", desc := "()V", sig := { parameters := [], returnType := none }, accessFlags := 0, code := none }
def k9c1 : Code := { maxStack := 1, maxLocals := 1, code := jdk_52_method_2_code, exceptionTable := #[], attributes := #[] }
def k9m1 : Method := { name := "newBytesFor", desc := "(I)[B", sig := { parameters := [.int], returnType := some (.array .byte) }, accessFlags := 9, code := some k9c1 }
def k9c2 : Code := { maxStack := 4, maxLocals := 1, code := jdk_52_method_3_code, exceptionTable := #[], attributes := #[] }
def k9m2 : Method := { name := "newBytesLength", desc := "(I)I", sig := { parameters := [.int], returnType := some .int }, accessFlags := 9, code := some k9c2 }
def k9c3 : Code := { maxStack := 4, maxLocals := 3, code := jdk_52_method_4_code, exceptionTable := #[], attributes := #[] }
def k9m3 : Method := { name := "putChar", desc := "([BII)V", sig := { parameters := [(.array .byte), .int, .int], returnType := none }, accessFlags := 8, code := some k9c3 }
def k9c4 : Code := { maxStack := 3, maxLocals := 2, code := jdk_52_method_5_code, exceptionTable := #[], attributes := #[] }
def k9m4 : Method := { name := "getChar", desc := "([BI)C", sig := { parameters := [(.array .byte), .int], returnType := some .char }, accessFlags := 8, code := some k9c4 }
def k9c5 : Code := { maxStack := 2, maxLocals := 1, code := jdk_52_method_6_code, exceptionTable := #[], attributes := #[] }
def k9m5 : Method := { name := "length", desc := "([B)I", sig := { parameters := [(.array .byte)], returnType := some .int }, accessFlags := 9, code := some k9c5 }
def k9c6 : Code := { maxStack := 4, maxLocals := 5, code := jdk_52_method_14_code, exceptionTable := #[], attributes := #[] }
def k9m6 : Method := { name := "toBytes", desc := "([CII)[B", sig := { parameters := [(.array .char), .int, .int], returnType := some (.array .byte) }, accessFlags := 9, code := some k9c6 }
def k9c7 : Code := { maxStack := 2, maxLocals := 2, code := jdk_52_method_15_code, exceptionTable := #[], attributes := #[] }
def k9m7 : Method := { name := "coderFromArrayLen", desc := "([BI)B", sig := { parameters := [(.array .byte), .int], returnType := some .byte }, accessFlags := 8, code := some k9c7 }
def k9c8 : Code := { maxStack := 5, maxLocals := 6, code := jdk_52_method_16_code, exceptionTable := #[], attributes := #[] }
def k9m8 : Method := { name := "compress", desc := "([CII)[B", sig := { parameters := [(.array .char), .int, .int], returnType := some (.array .byte) }, accessFlags := 9, code := some k9c8 }
def k9c9 : Code := { maxStack := 3, maxLocals := 7, code := jdk_52_method_21_code, exceptionTable := #[], attributes := #[] }
def k9m9 : Method := { name := "compress", desc := "([CI[BII)I", sig := { parameters := [(.array .char), .int, (.array .byte), .int, .int], returnType := some .int }, accessFlags := 9, code := some k9c9 }
def k9c10 : Code := { maxStack := 2, maxLocals := 2, code := jdk_52_method_83_code, exceptionTable := #[], attributes := #[] }
def k9m10 : Method := { name := "charAt", desc := "([BI)C", sig := { parameters := [(.array .byte), .int], returnType := some .char }, accessFlags := 9, code := some k9c10 }
def k9c11 : Code := { maxStack := 2, maxLocals := 2, code := jdk_52_method_91_code, exceptionTable := #[], attributes := #[] }
def k9m11 : Method := { name := "checkIndex", desc := "(I[B)V", sig := { parameters := [.int, (.array .byte)], returnType := none }, accessFlags := 9, code := some k9c11 }
/-- java/lang/StringUTF16 -/
def k9 : Class := { plain "java/lang/StringUTF16" (some 0) with
  accessFlags := 48
  interfaces := #[]
  cf := some (fileOf pool9 12 #[.nestMembers #[627, 629, 369]] #[{ accessFlags := 0, nameIndex := 9, descriptorIndex := 10, attributes := #[] }, { accessFlags := 9, nameIndex := 109, descriptorIndex := 110, attributes := #[] }, { accessFlags := 9, nameIndex := 15, descriptorIndex := 16, attributes := #[] }, { accessFlags := 8, nameIndex := 113, descriptorIndex := 114, attributes := #[] }, { accessFlags := 8, nameIndex := 73, descriptorIndex := 74, attributes := #[] }, { accessFlags := 9, nameIndex := 50, descriptorIndex := 51, attributes := #[] }, { accessFlags := 9, nameIndex := 121, descriptorIndex := 122, attributes := #[] }, { accessFlags := 8, nameIndex := 261, descriptorIndex := 262, attributes := #[] }, { accessFlags := 9, nameIndex := 117, descriptorIndex := 122, attributes := #[] }, { accessFlags := 9, nameIndex := 117, descriptorIndex := 118, attributes := #[] }, { accessFlags := 9, nameIndex := 392, descriptorIndex := 74, attributes := #[] }, { accessFlags := 9, nameIndex := 69, descriptorIndex := 70, attributes := #[] }] 48 6 #[] #[{ accessFlags := 26, nameIndex := 61, descriptorIndex := 62, attributes := #[] }, { accessFlags := 26, nameIndex := 65, descriptorIndex := 62, attributes := #[] }, { accessFlags := 24, nameIndex := 430, descriptorIndex := 62, attributes := #[] }, { accessFlags := 4120, nameIndex := 46, descriptorIndex := 47, attributes := #[] }])
  fields := #[{ name := "HI_BYTE_SHIFT", type := .int, accessFlags := 26, slot := 0, constantValue := 0 }, { name := "LO_BYTE_SHIFT", type := .int, accessFlags := 26, slot := 1, constantValue := 0 }, { name := "MAX_LENGTH", type := .int, accessFlags := 24, slot := 2, constantValue := 0 }, { name := "$assertionsDisabled", type := .boolean, accessFlags := 4120, slot := 3, constantValue := 0 }]
  methods := #[k9m0, k9m1, k9m2, k9m3, k9m4, k9m5, k9m6, k9m7, k9m8, k9m9, k9m10, k9m11]
  instanceTypes := #[]
  staticTypes := #[.int, .int, .int, .boolean]
  resolved := Array.replicate 635 none
  statics := some 1 }

def pool10 : Array CpInfo := pool [(1, .class_ 2), (0, u "java/lang/String"), (1, .class_ 6), (1, u "java/lang/Object"), (0, u "<init>"), (0, u "()V"), (0, .methodref 1 10), (0, .nameAndType 11 12), (0, u "checkIndex"), (0, u "(II)V"), (1, .class_ 16), (1, u "java/lang/StringLatin1"), (36, u "([BI)C"), (67, u "$assertionsDisabled"), (0, u "Z"), (98, .class_ 223), (1, u "java/lang/StringLatin1$LinesSpliterator"), (28, u "charAt"), (137, .class_ 391), (0, u "java/lang/StringLatin1$CharsSpliterator")] 3

def k10m0 : Method := { name := "<init>", desc := "()V", sig := { parameters := [], returnType := none }, accessFlags := 0, code := none }
def k10c1 : Code := { maxStack := 2, maxLocals := 2, code := jdk_43_method_2_code, exceptionTable := #[], attributes := #[] }
def k10m1 : Method := { name := "charAt", desc := "([BI)C", sig := { parameters := [(.array .byte), .int], returnType := some .char }, accessFlags := 9, code := some k10c1 }
/-- java/lang/StringLatin1 -/
def k10 : Class := { plain "java/lang/StringLatin1" (some 0) with
  accessFlags := 48
  interfaces := #[]
  cf := some (fileOf pool10 14 #[.nestMembers #[390, 221]] #[{ accessFlags := 0, nameIndex := 7, descriptorIndex := 8, attributes := #[] }, { accessFlags := 9, nameIndex := 252, descriptorIndex := 53, attributes := #[] }] 48 4 #[] #[{ accessFlags := 4120, nameIndex := 121, descriptorIndex := 122, attributes := #[] }])
  fields := #[{ name := "$assertionsDisabled", type := .boolean, accessFlags := 4120, slot := 0, constantValue := 0 }]
  methods := #[k10m0, k10m1]
  instanceTypes := #[]
  staticTypes := #[.boolean]
  resolved := Array.replicate 395 none
  statics := none }

def pool11 : Array CpInfo := pool [(2, .class_ 4), (1, u "java/lang/Object"), (0, u "<init>"), (0, u "()V"), (17, .class_ 26), (1, u "jdk/internal/util/Preconditions"), (6, u "checkIndex"), (21, .class_ 56), (0, u "jdk/internal/util/Preconditions$4"), (57, .class_ 115), (0, u "jdk/internal/util/Preconditions$1"), (7, u "SIOOBE_FORMATTER"), (0, u "Ljava/util/function/BiFunction;"), (0, .class_ 126), (0, u "jdk/internal/util/Preconditions$2"), (3, u "AIOOBE_FORMATTER"), (0, .class_ 132), (0, u "jdk/internal/util/Preconditions$3"), (3, u "IOOBE_FORMATTER"), (41, u "(IILjava/util/function/BiFunction;)I")] 15

def k11m0 : Method := { name := "<init>", desc := "()V", sig := { parameters := [], returnType := none }, accessFlags := 1, code := none }
def k11c1 : Code := { maxStack := 3, maxLocals := 3, code := jdk_41_method_11_code, exceptionTable := #[], attributes := #[] }
def k11m1 : Method := { name := "checkIndex", desc := "(IILjava/util/function/BiFunction;)I", sig := { parameters := [.int, .int, (.object "java/util/function/BiFunction")], returnType := some .int }, accessFlags := 9, code := some k11c1 }
/-- jdk/internal/util/Preconditions -/
def k11 : Class := { plain "jdk/internal/util/Preconditions" (some 0) with
  accessFlags := 33
  interfaces := #[]
  cf := some (fileOf pool11 24 #[.nestMembers #[55, 131, 125, 114]] #[{ accessFlags := 1, nameIndex := 5, descriptorIndex := 6, attributes := #[] }, { accessFlags := 9, nameIndex := 33, descriptorIndex := 178, attributes := #[] }] 33 2 #[] #[{ accessFlags := 25, nameIndex := 123, descriptorIndex := 124, attributes := #[] }, { accessFlags := 25, nameIndex := 130, descriptorIndex := 124, attributes := #[] }, { accessFlags := 25, nameIndex := 136, descriptorIndex := 124, attributes := #[] }])
  fields := #[{ name := "SIOOBE_FORMATTER", type := (.object "java/util/function/BiFunction"), accessFlags := 25, slot := 0, constantValue := 0 }, { name := "AIOOBE_FORMATTER", type := (.object "java/util/function/BiFunction"), accessFlags := 25, slot := 1, constantValue := 0 }, { name := "IOOBE_FORMATTER", type := (.object "java/util/function/BiFunction"), accessFlags := 25, slot := 2, constantValue := 0 }]
  methods := #[k11m0, k11m1]
  instanceTypes := #[]
  staticTypes := #[(.object "java/util/function/BiFunction"), (.object "java/util/function/BiFunction"), (.object "java/util/function/BiFunction")]
  resolved := Array.replicate 194 none
  statics := some 2 }

def pool12 : Array CpInfo := pool [(9, u "<init>"), (6, .class_ 18), (1, u "java/lang/Object"), (0, u "()V"), (1, .class_ 23), (1, u "jdk/internal/util/ArraysSupport"), (0, u "LOG2_ARRAY_LONG_INDEX_SCALE"), (0, u "I"), (2, u "U"), (0, u "Ljdk/internal/misc/Unsafe;"), (8, u "BIG_ENDIAN"), (0, u "Z"), (8, u "LOG2_BYTE_BIT_SIZE"), (4, u "LOG2_ARRAY_INT_INDEX_SCALE"), (54, u "JLA"), (0, u "Ljdk/internal/access/JavaLangAccess;"), (11, u "LOG2_ARRAY_BOOLEAN_INDEX_SCALE"), (9, u "LOG2_ARRAY_BYTE_INDEX_SCALE"), (5, u "LOG2_ARRAY_CHAR_INDEX_SCALE"), (5, u "LOG2_ARRAY_SHORT_INDEX_SCALE"), (18, u "LOG2_ARRAY_FLOAT_INDEX_SCALE"), (24, u "LOG2_ARRAY_DOUBLE_INDEX_SCALE"), (89, u "T_BOOLEAN"), (2, u "T_CHAR"), (1, u "T_FLOAT"), (1, u "T_DOUBLE"), (1, u "T_BYTE"), (1, u "T_SHORT"), (1, u "T_INT"), (1, u "T_LONG"), (1, u "SOFT_MAX_ARRAY_LENGTH")] 83

def k12m0 : Method := { name := "<init>", desc := "()V", sig := { parameters := [], returnType := none }, accessFlags := 2, code := none }
/-- jdk/internal/util/ArraysSupport -/
def k12 : Class := { plain "jdk/internal/util/ArraysSupport" (some 0) with
  accessFlags := 33
  interfaces := #[]
  cf := some (fileOf pool12 21 #[] #[{ accessFlags := 2, nameIndex := 9, descriptorIndex := 19, attributes := #[] }] 33 16 #[] #[{ accessFlags := 24, nameIndex := 28, descriptorIndex := 29, attributes := #[] }, { accessFlags := 26, nameIndex := 38, descriptorIndex := 39, attributes := #[] }, { accessFlags := 25, nameIndex := 121, descriptorIndex := 25, attributes := #[] }, { accessFlags := 25, nameIndex := 131, descriptorIndex := 25, attributes := #[] }, { accessFlags := 25, nameIndex := 137, descriptorIndex := 25, attributes := #[] }, { accessFlags := 25, nameIndex := 143, descriptorIndex := 25, attributes := #[] }, { accessFlags := 25, nameIndex := 53, descriptorIndex := 25, attributes := #[] }, { accessFlags := 25, nameIndex := 24, descriptorIndex := 25, attributes := #[] }, { accessFlags := 25, nameIndex := 162, descriptorIndex := 25, attributes := #[] }, { accessFlags := 25, nameIndex := 187, descriptorIndex := 25, attributes := #[] }, { accessFlags := 26, nameIndex := 48, descriptorIndex := 25, attributes := #[] }, { accessFlags := 25, nameIndex := 277, descriptorIndex := 25, attributes := #[] }, { accessFlags := 25, nameIndex := 280, descriptorIndex := 25, attributes := #[] }, { accessFlags := 25, nameIndex := 282, descriptorIndex := 25, attributes := #[] }, { accessFlags := 25, nameIndex := 284, descriptorIndex := 25, attributes := #[] }, { accessFlags := 25, nameIndex := 286, descriptorIndex := 25, attributes := #[] }, { accessFlags := 25, nameIndex := 288, descriptorIndex := 25, attributes := #[] }, { accessFlags := 25, nameIndex := 290, descriptorIndex := 25, attributes := #[] }, { accessFlags := 25, nameIndex := 292, descriptorIndex := 25, attributes := #[] }, { accessFlags := 26, nameIndex := 108, descriptorIndex := 109, attributes := #[] }, { accessFlags := 25, nameIndex := 294, descriptorIndex := 25, attributes := #[] }])
  fields := #[{ name := "U", type := (.object "jdk/internal/misc/Unsafe"), accessFlags := 24, slot := 0, constantValue := 0 }, { name := "BIG_ENDIAN", type := .boolean, accessFlags := 26, slot := 1, constantValue := 0 }, { name := "LOG2_ARRAY_BOOLEAN_INDEX_SCALE", type := .int, accessFlags := 25, slot := 2, constantValue := 0 }, { name := "LOG2_ARRAY_BYTE_INDEX_SCALE", type := .int, accessFlags := 25, slot := 3, constantValue := 0 }, { name := "LOG2_ARRAY_CHAR_INDEX_SCALE", type := .int, accessFlags := 25, slot := 4, constantValue := 0 }, { name := "LOG2_ARRAY_SHORT_INDEX_SCALE", type := .int, accessFlags := 25, slot := 5, constantValue := 0 }, { name := "LOG2_ARRAY_INT_INDEX_SCALE", type := .int, accessFlags := 25, slot := 6, constantValue := 0 }, { name := "LOG2_ARRAY_LONG_INDEX_SCALE", type := .int, accessFlags := 25, slot := 7, constantValue := 0 }, { name := "LOG2_ARRAY_FLOAT_INDEX_SCALE", type := .int, accessFlags := 25, slot := 8, constantValue := 0 }, { name := "LOG2_ARRAY_DOUBLE_INDEX_SCALE", type := .int, accessFlags := 25, slot := 9, constantValue := 0 }, { name := "LOG2_BYTE_BIT_SIZE", type := .int, accessFlags := 26, slot := 10, constantValue := 0 }, { name := "T_BOOLEAN", type := .int, accessFlags := 25, slot := 11, constantValue := 0 }, { name := "T_CHAR", type := .int, accessFlags := 25, slot := 12, constantValue := 0 }, { name := "T_FLOAT", type := .int, accessFlags := 25, slot := 13, constantValue := 0 }, { name := "T_DOUBLE", type := .int, accessFlags := 25, slot := 14, constantValue := 0 }, { name := "T_BYTE", type := .int, accessFlags := 25, slot := 15, constantValue := 0 }, { name := "T_SHORT", type := .int, accessFlags := 25, slot := 16, constantValue := 0 }, { name := "T_INT", type := .int, accessFlags := 25, slot := 17, constantValue := 0 }, { name := "T_LONG", type := .int, accessFlags := 25, slot := 18, constantValue := 0 }, { name := "JLA", type := (.object "jdk/internal/access/JavaLangAccess"), accessFlags := 26, slot := 19, constantValue := 0 }, { name := "SOFT_MAX_ARRAY_LENGTH", type := .int, accessFlags := 25, slot := 20, constantValue := 0 }]
  methods := #[k12m0]
  instanceTypes := #[]
  staticTypes := #[(.object "jdk/internal/misc/Unsafe"), .boolean, .int, .int, .int, .int, .int, .int, .int, .int, .int, .int, .int, .int, .int, .int, .int, .int, .int, (.object "jdk/internal/access/JavaLangAccess"), .int]
  resolved := Array.replicate 378 none
  statics := none }

def pool13 : Array CpInfo := pool [(1, u "java/lang/Cloneable"), (0, .class_ 1), (0, u "java/lang/Object"), (0, .class_ 3)] 3

/-- java/lang/Cloneable -/
def k13 : Class := { plain "java/lang/Cloneable" (some 0) with
  accessFlags := 1537
  interfaces := #[]
  cf := some (fileOf pool13 2 #[] #[] 1537 4 #[] #[])
  fields := #[]
  methods := #[]
  instanceTypes := #[]
  staticTypes := #[]
  resolved := Array.replicate 8 none
  statics := none }

/-- the primitive byte -/
def k14 : Class := { plain "byte" none with kind := .primitive 'B', accessFlags := 0x411 }
/-- [B -/
def k15 : Class := { plain "[B" (some 0) with kind := .array 14 .byte, interfaces := #[13, 2], accessFlags := 1041 }

/-- the primitive char -/
def k16 : Class := { plain "char" none with kind := .primitive 'C', accessFlags := 0x411 }
/-- [C -/
def k17 : Class := { plain "[C" (some 0) with kind := .array 16 .char, interfaces := #[13, 2], accessFlags := 1041 }

/-- the primitive int -/
def k18 : Class := { plain "int" none with kind := .primitive 'I', accessFlags := 0x411 }
/-- [I -/
def k19 : Class := { plain "[I" (some 0) with kind := .array 18 .int, interfaces := #[13, 2], accessFlags := 1041 }

def heap : Heap := #[{ cls := 7, slots := #[.long 0, .int 1, .null, .int 0, .null, .int 0, .int 0], vm := .statics 7 },
  { cls := 9, slots := #[.int 0, .int 8, .int 0, .int 1], vm := .statics 9 },
  { cls := 11, slots := #[.null, .null, .null], vm := .statics 11 }]
def classes : Array Class := #[k0, k1, k2, k3, k4, k5, k6, k7, k8, k9, k10, k11, k12, k13, k14, k15, k16, k17, k18, k19]
def interned : List (Array UInt16 × Addr) := []
def slotsUsed : Nat := 14
def theMethod : MethodId := ⟨1, 1⟩
def args0 : Array Value := #[.int 65, .long 66, .int 67]
def aboutOver (below : List Frame) : State where
  vm := { classes := classes, interned := interned.toArray }
  heap := heap
  slotsUsed := slotsUsed
  threads := #[{ frames := .invoking theMethod args0 :: below }]
def below0 : List Frame := [.native { method := ⟨0, 0⟩, args := #[] }]
def about1 : State := aboutOver below0
def p0 : Program := .bare "" "" ""
def e0 : Env := launch0.env 0 0 0
theorem w_frames : about1.frames = Frame.invoking theMethod args0 :: below0 := rfl
set_option maxRecDepth 65536 in
theorem w_args : argsFit about1.vm theMethod args0 = true := by decide +kernel
set_option maxRecDepth 65536 in
theorem w_heap : heapFits about1 = true := by decide +kernel
set_option maxRecDepth 65536 in
theorem w_runnable : about1.curStatus? = some .runnable := by decide +kernel
set_option maxRecDepth 65536 in
theorem w_alone : about1.alone = true := by decide +kernel
set_option maxRecDepth 65536 in
theorem w_named : about1.methodNamed? x = some theMethod := by decide +kernel
set_option maxRecDepth 65536 in
theorem w_hears : about1.hears theMethod below0 = true := by decide +kernel
set_option maxRecDepth 65536 in
theorem w_ripe : about1.ripe theMethod args0 below0 = true := by decide +kernel
theorem w_running : about1.status = .running := rfl
set_option maxRecDepth 65536 in
theorem w_room : about1.hasRoom e0.platform room_1 = true :=
  launch0.hasRoom_least _ room_1 (by decide +kernel) (by decide +kernel) (by decide +kernel) (by decide +kernel) (by decide +kernel) (by decide +kernel)
theorem allAtoms_all (ts : List Jvm.Cond) (a : Array Jvm.Value) (st : Jvm.State) : (allAtoms ts).before a st = ts.all (fun c => c.before a st) := by
  induction ts with
  | nil => rfl
  | cons c t ih =>
    show (Jvm.Cond.and c (allAtoms t)).before a st = _
    rw [Jvm.Cond.before_and, ih, List.all_cons]
def words1 : List Jvm.Cond := Jvm.Cond.code x code maxLocals ret :: tables_1
/-- a 'code' word, met by the world's own term for the bytes: nothing is compared byte by byte -/
theorem code_word {y : MethodName} {bytes : ByteArray} {mx : Nat} {rt : Option FieldType} {a : Array Value} {s : State} {m : MethodId} {meth : Method} {c : Code} (h1 : s.methodNamed? y = some m) (h2 : s.vm.method? m = some meth) (h3 : meth.code = some c) (h4 : c.code = bytes)
    (h5 : (c.maxLocals == mx && c.exceptionTable.isEmpty && decide (c.maxStack ≤ mostOperands) && decide (meth.sig.returnType = rt) && !meth.locks && decide (parseMethodDescriptor y.desc = some meth.sig)) = true) : (Jvm.Cond.code y bytes mx rt).before a s = true := by
  simp only [Bool.and_eq_true, beq_iff_eq, Bool.not_eq_true', decide_eq_true_eq] at h5
  obtain ⟨⟨⟨⟨⟨g1, g2⟩, g3⟩, g4⟩, g5⟩, g6⟩ := h5
  simp [Cond.before, Cond.holds, Cond.value, h1, h2, h3, h4, g1, g2, g3, g4, g5, g6]
def isCode : Jvm.Cond → Bool
  | .code _ _ _ _ => true
  | _ => false
theorem all_split {L : List Jvm.Cond} {P : Jvm.Cond → Bool} (h1 : L.all (fun c => isCode c || P c) = true) (h2 : ∀ c ∈ L.filter isCode, P c = true) : L.all P = true := by
  refine List.all_eq_true.mpr fun c hc => ?_
  have h := List.all_eq_true.mp h1 c hc
  rcases Bool.eq_false_or_eq_true (isCode c) with hi | hi
  · exact h2 c (List.mem_filter.mpr ⟨hc, hi⟩)
  · simpa [hi] using h
set_option maxRecDepth 65536 in
theorem w_c0 : (Jvm.Cond.code x code maxLocals ret).before args0 about1 = true := code_word (m := ⟨1, 1⟩) (meth := k1m1) (c := k1c1) (by decide +kernel) rfl rfl rfl (by decide +kernel)
set_option maxRecDepth 65536 in
theorem w_c1 : (Jvm.Cond.code ({ cls := "com/example/held_scope/heldscope/jdbc/TransactionSqlReadAlikeByEitherSettingPinLaw", name := "pick", desc := "(II)C" } : Jvm.MethodName) method_3_code (3 : Nat) (Option.some Jvm.ClassFile.FieldType.char)).before args0 about1 = true := code_word (m := ⟨1, 2⟩) (meth := k1m2) (c := k1c2) (by decide +kernel) rfl rfl rfl (by decide +kernel)
set_option maxRecDepth 65536 in
theorem w_c2 : (Jvm.Cond.code ({ cls := "java/lang/String", name := "<init>", desc := "([C)V" } : Jvm.MethodName) jdk_42_method_3_code (2 : Nat) (Option.none : Option Jvm.ClassFile.FieldType)).before args0 about1 = true := code_word (m := ⟨7, 1⟩) (meth := k7m1) (c := k7c1) (by decide +kernel) rfl rfl rfl (by decide +kernel)
set_option maxRecDepth 65536 in
theorem w_c3 : (Jvm.Cond.code ({ cls := "java/lang/String", name := "<init>", desc := "([CIILjava/lang/Void;)V" } : Jvm.MethodName) jdk_42_method_149_code (6 : Nat) (Option.none : Option Jvm.ClassFile.FieldType)).before args0 about1 = true := code_word (m := ⟨7, 4⟩) (meth := k7m4) (c := k7c4) (by decide +kernel) rfl rfl rfl (by decide +kernel)
set_option maxRecDepth 65536 in
theorem w_c4 : (Jvm.Cond.code ({ cls := "java/lang/Object", name := "<init>", desc := "()V" } : Jvm.MethodName) object_method_1_code (1 : Nat) (Option.none : Option Jvm.ClassFile.FieldType)).before args0 about1 = true := code_word (m := ⟨0, 0⟩) (meth := k0m0) (c := k0c0) (by decide +kernel) rfl rfl rfl (by decide +kernel)
set_option maxRecDepth 65536 in
theorem w_c5 : (Jvm.Cond.code ({ cls := "com/example/held_scope/heldscope/jdbc/TransactionSql", name := "readAlikeByEitherSetting", desc := "(Ljava/lang/String;)Z" } : Jvm.MethodName) prog_52_method_4_code (5 : Nat) (Option.some Jvm.ClassFile.FieldType.boolean)).before args0 about1 = true := code_word (m := ⟨8, 0⟩) (meth := k8m0) (c := k8c0) (by decide +kernel) rfl rfl rfl (by decide +kernel)
set_option maxRecDepth 65536 in
theorem w_c6 : (Jvm.Cond.code ({ cls := "java/lang/String", name := "length", desc := "()I" } : Jvm.MethodName) jdk_42_method_54_code (1 : Nat) (Option.some Jvm.ClassFile.FieldType.int)).before args0 about1 = true := code_word (m := ⟨7, 2⟩) (meth := k7m2) (c := k7c2) (by decide +kernel) rfl rfl rfl (by decide +kernel)
set_option maxRecDepth 65536 in
theorem w_c7 : (Jvm.Cond.code ({ cls := "java/lang/String", name := "coder", desc := "()B" } : Jvm.MethodName) jdk_42_method_152_code (1 : Nat) (Option.some Jvm.ClassFile.FieldType.byte)).before args0 about1 = true := code_word (m := ⟨7, 5⟩) (meth := k7m5) (c := k7c5) (by decide +kernel) rfl rfl rfl (by decide +kernel)
set_option maxRecDepth 65536 in
theorem w_c8 : (Jvm.Cond.code ({ cls := "java/lang/StringUTF16", name := "compress", desc := "([CII)[B" } : Jvm.MethodName) jdk_52_method_16_code (6 : Nat) (Option.some (Jvm.ClassFile.FieldType.array Jvm.ClassFile.FieldType.byte))).before args0 about1 = true := code_word (m := ⟨9, 8⟩) (meth := k9m8) (c := k9c8) (by decide +kernel) rfl rfl rfl (by decide +kernel)
set_option maxRecDepth 65536 in
theorem w_c9 : (Jvm.Cond.code ({ cls := "java/lang/StringUTF16", name := "compress", desc := "([CI[BII)I" } : Jvm.MethodName) jdk_52_method_21_code (7 : Nat) (Option.some Jvm.ClassFile.FieldType.int)).before args0 about1 = true := code_word (m := ⟨9, 9⟩) (meth := k9m9) (c := k9c9) (by decide +kernel) rfl rfl rfl (by decide +kernel)
set_option maxRecDepth 65536 in
theorem w_c10 : (Jvm.Cond.code ({ cls := "java/lang/StringUTF16", name := "coderFromArrayLen", desc := "([BI)B" } : Jvm.MethodName) jdk_52_method_15_code (2 : Nat) (Option.some Jvm.ClassFile.FieldType.byte)).before args0 about1 = true := code_word (m := ⟨9, 7⟩) (meth := k9m7) (c := k9c7) (by decide +kernel) rfl rfl rfl (by decide +kernel)
set_option maxRecDepth 65536 in
theorem w_c11 : (Jvm.Cond.code ({ cls := "java/lang/String", name := "charAt", desc := "(I)C" } : Jvm.MethodName) jdk_42_method_56_code (2 : Nat) (Option.some Jvm.ClassFile.FieldType.char)).before args0 about1 = true := code_word (m := ⟨7, 3⟩) (meth := k7m3) (c := k7c3) (by decide +kernel) rfl rfl rfl (by decide +kernel)
set_option maxRecDepth 65536 in
theorem w_c12 : (Jvm.Cond.code ({ cls := "java/lang/String", name := "isLatin1", desc := "()Z" } : Jvm.MethodName) jdk_42_method_154_code (1 : Nat) (Option.some Jvm.ClassFile.FieldType.boolean)).before args0 about1 = true := code_word (m := ⟨7, 6⟩) (meth := k7m6) (c := k7c6) (by decide +kernel) rfl rfl rfl (by decide +kernel)
set_option maxRecDepth 65536 in
theorem w_c13 : (Jvm.Cond.code ({ cls := "java/lang/StringLatin1", name := "charAt", desc := "([BI)C" } : Jvm.MethodName) jdk_43_method_2_code (2 : Nat) (Option.some Jvm.ClassFile.FieldType.char)).before args0 about1 = true := code_word (m := ⟨10, 1⟩) (meth := k10m1) (c := k10c1) (by decide +kernel) rfl rfl rfl (by decide +kernel)
set_option maxRecDepth 65536 in
theorem w_c14 : (Jvm.Cond.code ({ cls := "java/lang/String", name := "checkIndex", desc := "(II)V" } : Jvm.MethodName) jdk_42_method_155_code (2 : Nat) (Option.none : Option Jvm.ClassFile.FieldType)).before args0 about1 = true := code_word (m := ⟨7, 7⟩) (meth := k7m7) (c := k7c7) (by decide +kernel) rfl rfl rfl (by decide +kernel)
set_option maxRecDepth 65536 in
theorem w_c15 : (Jvm.Cond.code ({ cls := "jdk/internal/util/Preconditions", name := "checkIndex", desc := "(IILjava/util/function/BiFunction;)I" } : Jvm.MethodName) jdk_41_method_11_code (3 : Nat) (Option.some Jvm.ClassFile.FieldType.int)).before args0 about1 = true := code_word (m := ⟨11, 1⟩) (meth := k11m1) (c := k11c1) (by decide +kernel) rfl rfl rfl (by decide +kernel)
set_option maxRecDepth 65536 in
theorem w_c16 : (Jvm.Cond.code ({ cls := "java/lang/StringUTF16", name := "toBytes", desc := "([CII)[B" } : Jvm.MethodName) jdk_52_method_14_code (5 : Nat) (Option.some (Jvm.ClassFile.FieldType.array Jvm.ClassFile.FieldType.byte))).before args0 about1 = true := code_word (m := ⟨9, 6⟩) (meth := k9m6) (c := k9c6) (by decide +kernel) rfl rfl rfl (by decide +kernel)
set_option maxRecDepth 65536 in
theorem w_c17 : (Jvm.Cond.code ({ cls := "java/lang/StringUTF16", name := "newBytesFor", desc := "(I)[B" } : Jvm.MethodName) jdk_52_method_2_code (1 : Nat) (Option.some (Jvm.ClassFile.FieldType.array Jvm.ClassFile.FieldType.byte))).before args0 about1 = true := code_word (m := ⟨9, 1⟩) (meth := k9m1) (c := k9c1) (by decide +kernel) rfl rfl rfl (by decide +kernel)
set_option maxRecDepth 65536 in
theorem w_c18 : (Jvm.Cond.code ({ cls := "java/lang/StringUTF16", name := "newBytesLength", desc := "(I)I" } : Jvm.MethodName) jdk_52_method_3_code (1 : Nat) (Option.some Jvm.ClassFile.FieldType.int)).before args0 about1 = true := code_word (m := ⟨9, 2⟩) (meth := k9m2) (c := k9c2) (by decide +kernel) rfl rfl rfl (by decide +kernel)
set_option maxRecDepth 65536 in
theorem w_c19 : (Jvm.Cond.code ({ cls := "java/lang/StringUTF16", name := "putChar", desc := "([BII)V" } : Jvm.MethodName) jdk_52_method_4_code (3 : Nat) (Option.none : Option Jvm.ClassFile.FieldType)).before args0 about1 = true := code_word (m := ⟨9, 3⟩) (meth := k9m3) (c := k9c3) (by decide +kernel) rfl rfl rfl (by decide +kernel)
set_option maxRecDepth 65536 in
theorem w_c20 : (Jvm.Cond.code ({ cls := "java/lang/StringUTF16", name := "getChar", desc := "([BI)C" } : Jvm.MethodName) jdk_52_method_5_code (2 : Nat) (Option.some Jvm.ClassFile.FieldType.char)).before args0 about1 = true := code_word (m := ⟨9, 4⟩) (meth := k9m4) (c := k9c4) (by decide +kernel) rfl rfl rfl (by decide +kernel)
set_option maxRecDepth 65536 in
theorem w_c21 : (Jvm.Cond.code ({ cls := "java/lang/StringUTF16", name := "charAt", desc := "([BI)C" } : Jvm.MethodName) jdk_52_method_83_code (2 : Nat) (Option.some Jvm.ClassFile.FieldType.char)).before args0 about1 = true := code_word (m := ⟨9, 10⟩) (meth := k9m10) (c := k9c10) (by decide +kernel) rfl rfl rfl (by decide +kernel)
set_option maxRecDepth 65536 in
theorem w_c22 : (Jvm.Cond.code ({ cls := "java/lang/StringUTF16", name := "checkIndex", desc := "(I[B)V" } : Jvm.MethodName) jdk_52_method_91_code (2 : Nat) (Option.none : Option Jvm.ClassFile.FieldType)).before args0 about1 = true := code_word (m := ⟨9, 11⟩) (meth := k9m11) (c := k9c11) (by decide +kernel) rfl rfl rfl (by decide +kernel)
set_option maxRecDepth 65536 in
theorem w_c23 : (Jvm.Cond.code ({ cls := "java/lang/StringUTF16", name := "length", desc := "([B)I" } : Jvm.MethodName) jdk_52_method_6_code (1 : Nat) (Option.some Jvm.ClassFile.FieldType.int)).before args0 about1 = true := code_word (m := ⟨9, 5⟩) (meth := k9m5) (c := k9c5) (by decide +kernel) rfl rfl rfl (by decide +kernel)
def codes1 : List Jvm.Cond := [Jvm.Cond.code x code maxLocals ret, Jvm.Cond.code ({ cls := "com/example/held_scope/heldscope/jdbc/TransactionSqlReadAlikeByEitherSettingPinLaw", name := "pick", desc := "(II)C" } : Jvm.MethodName) method_3_code (3 : Nat) (Option.some Jvm.ClassFile.FieldType.char), Jvm.Cond.code ({ cls := "java/lang/String", name := "<init>", desc := "([C)V" } : Jvm.MethodName) jdk_42_method_3_code (2 : Nat) (Option.none : Option Jvm.ClassFile.FieldType), Jvm.Cond.code ({ cls := "java/lang/String", name := "<init>", desc := "([CIILjava/lang/Void;)V" } : Jvm.MethodName) jdk_42_method_149_code (6 : Nat) (Option.none : Option Jvm.ClassFile.FieldType), Jvm.Cond.code ({ cls := "java/lang/Object", name := "<init>", desc := "()V" } : Jvm.MethodName) object_method_1_code (1 : Nat) (Option.none : Option Jvm.ClassFile.FieldType), Jvm.Cond.code ({ cls := "com/example/held_scope/heldscope/jdbc/TransactionSql", name := "readAlikeByEitherSetting", desc := "(Ljava/lang/String;)Z" } : Jvm.MethodName) prog_52_method_4_code (5 : Nat) (Option.some Jvm.ClassFile.FieldType.boolean), Jvm.Cond.code ({ cls := "java/lang/String", name := "length", desc := "()I" } : Jvm.MethodName) jdk_42_method_54_code (1 : Nat) (Option.some Jvm.ClassFile.FieldType.int), Jvm.Cond.code ({ cls := "java/lang/String", name := "coder", desc := "()B" } : Jvm.MethodName) jdk_42_method_152_code (1 : Nat) (Option.some Jvm.ClassFile.FieldType.byte), Jvm.Cond.code ({ cls := "java/lang/StringUTF16", name := "compress", desc := "([CII)[B" } : Jvm.MethodName) jdk_52_method_16_code (6 : Nat) (Option.some (Jvm.ClassFile.FieldType.array Jvm.ClassFile.FieldType.byte)), Jvm.Cond.code ({ cls := "java/lang/StringUTF16", name := "compress", desc := "([CI[BII)I" } : Jvm.MethodName) jdk_52_method_21_code (7 : Nat) (Option.some Jvm.ClassFile.FieldType.int), Jvm.Cond.code ({ cls := "java/lang/StringUTF16", name := "coderFromArrayLen", desc := "([BI)B" } : Jvm.MethodName) jdk_52_method_15_code (2 : Nat) (Option.some Jvm.ClassFile.FieldType.byte), Jvm.Cond.code ({ cls := "java/lang/String", name := "charAt", desc := "(I)C" } : Jvm.MethodName) jdk_42_method_56_code (2 : Nat) (Option.some Jvm.ClassFile.FieldType.char), Jvm.Cond.code ({ cls := "java/lang/String", name := "isLatin1", desc := "()Z" } : Jvm.MethodName) jdk_42_method_154_code (1 : Nat) (Option.some Jvm.ClassFile.FieldType.boolean), Jvm.Cond.code ({ cls := "java/lang/StringLatin1", name := "charAt", desc := "([BI)C" } : Jvm.MethodName) jdk_43_method_2_code (2 : Nat) (Option.some Jvm.ClassFile.FieldType.char), Jvm.Cond.code ({ cls := "java/lang/String", name := "checkIndex", desc := "(II)V" } : Jvm.MethodName) jdk_42_method_155_code (2 : Nat) (Option.none : Option Jvm.ClassFile.FieldType), Jvm.Cond.code ({ cls := "jdk/internal/util/Preconditions", name := "checkIndex", desc := "(IILjava/util/function/BiFunction;)I" } : Jvm.MethodName) jdk_41_method_11_code (3 : Nat) (Option.some Jvm.ClassFile.FieldType.int), Jvm.Cond.code ({ cls := "java/lang/StringUTF16", name := "toBytes", desc := "([CII)[B" } : Jvm.MethodName) jdk_52_method_14_code (5 : Nat) (Option.some (Jvm.ClassFile.FieldType.array Jvm.ClassFile.FieldType.byte)), Jvm.Cond.code ({ cls := "java/lang/StringUTF16", name := "newBytesFor", desc := "(I)[B" } : Jvm.MethodName) jdk_52_method_2_code (1 : Nat) (Option.some (Jvm.ClassFile.FieldType.array Jvm.ClassFile.FieldType.byte)), Jvm.Cond.code ({ cls := "java/lang/StringUTF16", name := "newBytesLength", desc := "(I)I" } : Jvm.MethodName) jdk_52_method_3_code (1 : Nat) (Option.some Jvm.ClassFile.FieldType.int), Jvm.Cond.code ({ cls := "java/lang/StringUTF16", name := "putChar", desc := "([BII)V" } : Jvm.MethodName) jdk_52_method_4_code (3 : Nat) (Option.none : Option Jvm.ClassFile.FieldType), Jvm.Cond.code ({ cls := "java/lang/StringUTF16", name := "getChar", desc := "([BI)C" } : Jvm.MethodName) jdk_52_method_5_code (2 : Nat) (Option.some Jvm.ClassFile.FieldType.char), Jvm.Cond.code ({ cls := "java/lang/StringUTF16", name := "charAt", desc := "([BI)C" } : Jvm.MethodName) jdk_52_method_83_code (2 : Nat) (Option.some Jvm.ClassFile.FieldType.char), Jvm.Cond.code ({ cls := "java/lang/StringUTF16", name := "checkIndex", desc := "(I[B)V" } : Jvm.MethodName) jdk_52_method_91_code (2 : Nat) (Option.none : Option Jvm.ClassFile.FieldType), Jvm.Cond.code ({ cls := "java/lang/StringUTF16", name := "length", desc := "([B)I" } : Jvm.MethodName) jdk_52_method_6_code (1 : Nat) (Option.some Jvm.ClassFile.FieldType.int)]
set_option maxRecDepth 65536 in
theorem codes_eq : words1.filter isCode = codes1 := rfl
theorem w_codes : ∀ c ∈ words1.filter isCode, c.before args0 about1 = true := by
  rw [codes_eq]
  intro c hc
  simp only [codes1, List.mem_cons, List.not_mem_nil, or_false] at hc
  rcases hc with rfl | rfl | rfl | rfl | rfl | rfl | rfl | rfl | rfl | rfl | rfl | rfl | rfl | rfl | rfl | rfl | rfl | rfl | rfl | rfl | rfl | rfl | rfl | rfl
  · exact w_c0
  · exact w_c1
  · exact w_c2
  · exact w_c3
  · exact w_c4
  · exact w_c5
  · exact w_c6
  · exact w_c7
  · exact w_c8
  · exact w_c9
  · exact w_c10
  · exact w_c11
  · exact w_c12
  · exact w_c13
  · exact w_c14
  · exact w_c15
  · exact w_c16
  · exact w_c17
  · exact w_c18
  · exact w_c19
  · exact w_c20
  · exact w_c21
  · exact w_c22
  · exact w_c23
set_option maxRecDepth 65536 in
theorem w_t1 : (words1.take 24).all (fun c => isCode c || c.before args0 about1) = true := by decide +kernel
set_option maxRecDepth 65536 in
theorem w_t2 : ((words1.drop 24).take 24).all (fun c => isCode c || c.before args0 about1) = true := by decide +kernel
set_option maxRecDepth 65536 in
theorem w_t3 : (((words1.drop 24).drop 24).take 24).all (fun c => isCode c || c.before args0 about1) = true := by decide +kernel
set_option maxRecDepth 65536 in
theorem w_t4 : ((((words1.drop 24).drop 24).drop 24).take 24).all (fun c => isCode c || c.before args0 about1) = true := by decide +kernel
set_option maxRecDepth 65536 in
theorem w_t5 : ((((words1.drop 24).drop 24).drop 24).drop 24).all (fun c => isCode c || c.before args0 about1) = true := by decide +kernel
theorem w_tables : (allAtoms (Jvm.Cond.code x code maxLocals ret :: tables_1)).before args0 about1 = true := by
  rw [allAtoms_all]
  show words1.all (fun c => c.before args0 about1) = true
  refine all_split ?_ w_codes
  rw [← List.take_append_drop 24 words1, List.all_append, w_t1, ← List.take_append_drop 24 (words1.drop 24), List.all_append, w_t2, ← List.take_append_drop 24 ((words1.drop 24).drop 24), List.all_append, w_t3, ← List.take_append_drop 24 (((words1.drop 24).drop 24).drop 24), List.all_append, w_t4, w_t5]
  rfl
set_option maxRecDepth 65536 in
theorem w_rest : rest_1_c.before args0 about1 = true := by decide +kernel
set_option maxRecDepth 65536 in
theorem w_case : (Jvm.Cond.and given_1 narrow_1).before args0 about1 = true := by decide +kernel
set_option maxRecDepth 65536 in
theorem w_consts : constsHeld consts_1 about1 := Jvm.Lit.constsHeldB_iff.mp (by decide +kernel)
theorem w_applies : (headSpec (Jvm.Cond.code x code maxLocals ret :: tables_1) room_1).applies x e0.platform about1 = true :=
  (Spec.applies_iff w_frames).mpr ⟨w_running, w_runnable, w_alone, w_named, w_hears, w_ripe, w_room, w_tables⟩
theorem atStart : AtStart classFile x code maxLocals ret World_1 tables_1 room_1 Calls_1 rest_1 Pre_1 launch0 p0 e0 about1 theMethod args0 below0 :=
  ⟨lists_1, trivial, launch0.admits_env _ _ _, launch0.least_env, fairChoices_fair.cas, fairChoices_fair.clock, w_frames, w_args, w_heap, w_applies, ⟨w_consts, trivial⟩, w_rest, w_case⟩
end start1
theorem witness_1 : WitnessClaimed_1 := ⟨start1.p0, start1.e0, start1.about1, start1.theMethod, start1.args0, start1.below0, start1.atStart⟩
end Jvm.Pilot.@@N@@
