import JvmDerived
import JvmDerived.Pilot.@@N@@Statement
import JvmDerived.Pilot.@@N@@Code
set_option linter.unusedVariables false
set_option linter.unusedSimpArgs false
set_option maxRecDepth 65536
set_option maxHeartbeats 4000000
namespace Jvm.Pilot.@@N@@
open Jvm Jvm.ClassFile Sem Op Lib Jvm.Free Jvm.Stand Jvm.LawKit Jvm.RoadKit Bundle Jvm.Pilot.@@N@@.Jvm.D
abbrev ush32 (x y : Int32) : Int32 := (x.toUInt32 >>> (y &&& 31).toUInt32).toInt32
abbrev Cx : Type := Program × Launch × Env × State × MethodId × Array Value × List Frame × Method × ClassFile.Code
abbrev Cx.p (C : Cx) : Program := C.1
abbrev Cx.l (C : Cx) : Launch := C.2.1
abbrev Cx.e (C : Cx) : Env := C.2.2.1
abbrev Cx.s (C : Cx) : State := C.2.2.2.1
abbrev Cx.m (C : Cx) : MethodId := C.2.2.2.2.1
abbrev Cx.a (C : Cx) : Array Value := C.2.2.2.2.2.1
abbrev Cx.bl (C : Cx) : List Frame := C.2.2.2.2.2.2.1
abbrev Cx.mt (C : Cx) : Method := C.2.2.2.2.2.2.2.1
abbrev Cx.c (C : Cx) : ClassFile.Code := C.2.2.2.2.2.2.2.2
def EndK (w : Bool) (s : State) (o : Outcome) (t : State) (L : List Loc) (k n : Nat) : Prop := match w with
  | true => ReturnedEndW s o t L k n
  | false => FrameEnd s o t L k n
def Stn (C : Cx) (Z : State) (own : String) (by_ : ByteArray) (mL : Nat) (rt : Option FieldType) (nm : String) (q : Nat) : Prop :=
  C.p.tables.exec = Jvm.exec ∧ C.c.code = by_ ∧ C.c.maxLocals = mL ∧ C.mt.sig.returnType = rt ∧ C.mt.locks = false ∧ C.mt.name = nm ∧ C.s.heap.size = q ∧ Ext Z.heap C.s.heap ∧ C.s.vm.findClass own = some C.m.cls
def Pos (C : Cx) (Z : State) (R : Room) (w : Bool) (b : Nat) (Ts : List String) (Li : List (String × Nat × Addr)) (h : Heap) (k n : Nat) (T : State) (vm0 : Vm) (locs : List Loc) : Prop :=
  Stand C.p C.l C.e R (C.s.setVm vm0) C.m C.a C.bl C.mt C.c T locs k n ∧ Z.Warmed39 vm0 ∧ T.heap = h ∧ C.s.Since vm0 h.size ∧ IB Z vm0 Ts ∧ (w = false → vm0 = C.s.vm) ∧ Fr b locs ∧ Z.heap.size ≤ b ∧ Ext Z.heap h ∧ C.s.heap.size ≤ h.size ∧ ∀ x ∈ Li, Lit (C.s.setVm vm0) x.1 x.2.1 x.2.2
def Gl (C : Cx) (Z : State) (R : Room) (w : Bool) (To : List String) (f : Nat) (Q : Option Value → Heap → Prop) (st : State) : Prop :=
  ∃ s₂ o, Steps C.p.tables C.e C.bl st s₂ ∧ s₂.status = .running ∧ Ended s₂ C.bl o ∧ ∃ v L, o = .returned v ∧ (Q v s₂.heap ∧ Fr f L ∧ Ext Z.heap s₂.heap ∧ IB Z s₂.vm To) ∧ EndK w C.s o s₂ L R.cells R.slots
def Run (C : Cx) (Z : State) (R : Room) (w : Bool) (To : List String) (f : Nat) (Q : Option Value → Heap → Prop) (b : Nat) (Ts : List String) (Li : List (String × Nat × Addr)) (h : Heap) (k n : Nat) (pc : Nat) (L : Array Slot) (S : List Value) : Prop :=
  ∀ T vm0 locs, Pos C Z R w b Ts Li h k n T vm0 locs → Gl C Z R w To f Q (T.setTop (mkF C.m pc L S))
def Con (w : Bool) (ws : List Jvm.Cond) (Z : State) (y : MethodName) (yb : ByteArray) (ymL : Nat) (yrt : Option FieldType) (Ry : Room) (Ti To : List String) (f : Nat) (as : Array Value) (h : Heap) (Q : Option Value → Heap → Prop) : Prop :=
  ∀ l, MetFree l y (head1 (Jvm.Cond.code y yb ymL yrt :: ws) Ry) (fun a U => a = as ∧ Z.Warmed39 U.vm ∧ U.heap = h ∧ IB Z U.vm Ti ∧ Ext Z.heap h) (fun _ _ _ _ _ => True)
    (fun _ U o U' => ∃ v L, o = .returned v ∧ (Q v U'.heap ∧ Fr f L ∧ Ext Z.heap U'.heap ∧ IB Z U'.vm To) ∧ EndK w U o U' L Ry.cells Ry.slots)
theorem ib_same {Z : State} {vm0 vm1 : Vm} {Ts : List String} (I : IB Z vm0 Ts) (h : vm1.interned = vm0.interned) : IB Z vm1 Ts := by
  obtain ⟨m, h1, h2⟩ := I; exact ⟨m, h.trans h1, h2⟩
theorem ib_mono {Z : State} {vm0 : Vm} {Ts To : List String} (I : IB Z vm0 Ts) (h : ∀ t ∈ Ts, t ∈ To) : IB Z vm0 To := by
  obtain ⟨m, h1, h2⟩ := I; exact ⟨m, h1, fun q hq => by obtain ⟨t, a, c⟩ := h2 q hq; exact ⟨t, h t a, c⟩⟩
theorem fr_low {k k' : Nat} {L : List Loc} (N : Fr k L) (h : k' ≤ k) : Fr k' L := fun y hy => Nat.le_trans h (N y hy)
theorem since_same {s : State} {vm : Vm} {n n' : Nat} (h : s.Since vm n) (hn : n ≤ n') : s.Since vm n' := ⟨h.1, fun j p hj hp => ⟨(h.2 j p hj hp).1, Nat.lt_of_lt_of_le (h.2 j p hj hp).2 hn⟩⟩
section Walk
variable {C : Cx} {Z : State} {a0 : Array Value} {own : String} {by_ : ByteArray} {mL : Nat} {rt : Option FieldType} {nm : String} {q : Nat} {R : Room} {w : Bool} {To : List String} {f : Nat} {Q : Option Value → Heap → Prop} {b : Nat} {Ts : List String} {Li : List (String × Nat × Addr)} {h : Heap} {k n pc : Nat} {L : Array Slot} {S : List Value}
theorem Run.one {pc' : Nat} {L' : Array Slot} {S' : List Value} (g : ∀ T vm0 locs t, Stand C.p C.l C.e R (C.s.setVm vm0) C.m C.a C.bl C.mt C.c T locs k n → Steps C.p.tables C.e C.bl (T.setTop (mkF C.m pc' L' S')) t → Steps C.p.tables C.e C.bl (T.setTop (mkF C.m pc L S)) t)
    (kk : Run C Z R w To f Q b Ts Li h k n pc' L' S') : Run C Z R w To f Q b Ts Li h k n pc L S := fun T vm0 locs P => by
  obtain ⟨s₂, o, h1, r⟩ := kk T vm0 locs P
  exact ⟨s₂, o, g T vm0 locs _ P.1 h1, r⟩
theorem Stn.dec (H : Stn C Z own by_ mL rt nm q) {pc : Nat} {r : Except ClassFile.DecodeError (Instr × Nat)} (hd : decode by_ pc = r) : decode C.c.code pc = r := by rw [H.2.1]; exact hd
theorem Stn.cl (H : Stn C Z own by_ mL rt nm q) {vm0 : Vm} (hS : C.s.Since vm0 k) : (C.s.setVm vm0).vm.findClass own = some C.m.cls := by
  show vm0.findClass own = _
  rw [hS.1.alike.findClass]; exact H.2.2.2.2.2.2.2.2
theorem r_iloadN (H : Stn C Z own by_ mL rt nm q) (pc' : Nat) {i : Fin 4} {v : Int32} (hd : decode by_ pc = .ok (.iload_n i, 1)) (kk : Run C Z R w To f Q b Ts Li h k n pc' L (.int v :: S)) (hv : L[i.val]? = some (.val (.int v)) := by exact rfl) (hp : pc' = pc + 1 := by exact rfl) : Run C Z R w To f Q b Ts Li h k n pc L (S) := by
  subst hp
  exact kk.one fun T vm0 locs t X kt => XS.iloadN X.here H.1 rfl (H.dec hd) hv kt
theorem r_iload (H : Stn C Z own by_ mL rt nm q) (pc' : Nat) {i : Nat} {v : Int32} (hd : decode by_ pc = .ok (.iload i, 2)) (kk : Run C Z R w To f Q b Ts Li h k n pc' L (.int v :: S)) (hv : L[i]? = some (.val (.int v)) := by exact rfl) (hp : pc' = pc + 2 := by exact rfl) : Run C Z R w To f Q b Ts Li h k n pc L (S) := by
  subst hp
  exact kk.one fun T vm0 locs t X kt => XS.iload X.here H.1 rfl (H.dec hd) hv kt
theorem r_aloadN (H : Stn C Z own by_ mL rt nm q) (pc' : Nat) {i : Fin 4} {v : Value} (hd : decode by_ pc = .ok (.aload_n i, 1)) (kk : Run C Z R w To f Q b Ts Li h k n pc' L (v :: S)) (hv : L[i.val]? = some (.val v) := by exact rfl) (hr : v.isRef = true := by exact rfl) (hp : pc' = pc + 1 := by exact rfl) : Run C Z R w To f Q b Ts Li h k n pc L (S) := by
  subst hp
  exact kk.one fun T vm0 locs t X kt => XS.aloadN X.here H.1 rfl (H.dec hd) hv hr kt
theorem r_aload (H : Stn C Z own by_ mL rt nm q) (pc' : Nat) {i : Nat} {v : Value} (hd : decode by_ pc = .ok (.aload i, 2)) (kk : Run C Z R w To f Q b Ts Li h k n pc' L (v :: S)) (hv : L[i]? = some (.val v) := by exact rfl) (hr : v.isRef = true := by exact rfl) (hp : pc' = pc + 2 := by exact rfl) : Run C Z R w To f Q b Ts Li h k n pc L (S) := by
  subst hp
  exact kk.one fun T vm0 locs t X kt => XS.aload X.here H.1 rfl (H.dec hd) hv hr kt
theorem r_istoreN (H : Stn C Z own by_ mL rt nm q) (pc' : Nat) (L' : Array Slot) {i : Fin 4} {x : Int32} (hd : decode by_ pc = .ok (.istore_n i, 1)) (kk : Run C Z R w To f Q b Ts Li h k n pc' L' (S)) (hl : storeLocals L i.val (.int x) = some L' := by exact rfl) (hp : pc' = pc + 1 := by exact rfl) : Run C Z R w To f Q b Ts Li h k n pc L (.int x :: S) := by
  subst hp
  exact kk.one fun T vm0 locs t X kt => XS.istoreN X.here H.1 rfl (H.dec hd) rfl hl kt
theorem r_istore (H : Stn C Z own by_ mL rt nm q) (pc' : Nat) (L' : Array Slot) {i : Nat} {x : Int32} (hd : decode by_ pc = .ok (.istore i, 2)) (kk : Run C Z R w To f Q b Ts Li h k n pc' L' (S)) (hl : storeLocals L i (.int x) = some L' := by exact rfl) (hp : pc' = pc + 2 := by exact rfl) : Run C Z R w To f Q b Ts Li h k n pc L (.int x :: S) := by
  subst hp
  exact kk.one fun T vm0 locs t X kt => XS.istore X.here H.1 rfl (H.dec hd) rfl hl kt
theorem r_astoreN (H : Stn C Z own by_ mL rt nm q) (pc' : Nat) (L' : Array Slot) {i : Fin 4} {x : Value} (hd : decode by_ pc = .ok (.astore_n i, 1)) (kk : Run C Z R w To f Q b Ts Li h k n pc' L' (S)) (hr : x.isRef = true := by exact rfl) (hl : storeLocals L i.val x = some L' := by exact rfl) (hp : pc' = pc + 1 := by exact rfl) : Run C Z R w To f Q b Ts Li h k n pc L (x :: S) := by
  subst hp
  exact kk.one fun T vm0 locs t X kt => XS.astoreN X.here H.1 rfl (H.dec hd) rfl hr hl kt
theorem r_astore (H : Stn C Z own by_ mL rt nm q) (pc' : Nat) (L' : Array Slot) {i : Nat} {x : Value} (hd : decode by_ pc = .ok (.astore i, 2)) (kk : Run C Z R w To f Q b Ts Li h k n pc' L' (S)) (hr : x.isRef = true := by exact rfl) (hl : storeLocals L i x = some L' := by exact rfl) (hp : pc' = pc + 2 := by exact rfl) : Run C Z R w To f Q b Ts Li h k n pc L (x :: S) := by
  subst hp
  exact kk.one fun T vm0 locs t X kt => XS.astore X.here H.1 rfl (H.dec hd) rfl hr hl kt
theorem r_iinc (H : Stn C Z own by_ mL rt nm q) (pc' : Nat) (L' : Array Slot) {i : Nat} {cst : Int} {x : Int32} (y : Int32) (hd : decode by_ pc = .ok (.iinc i cst, 3)) (kk : Run C Z R w To f Q b Ts Li h k n pc' L' (S)) (hv : L[i]? = some (.val (.int x)) := by exact rfl) (hy : x + Int32.ofInt cst = y := by decide) (hl : storeLocals L i (.int y) = some L' := by exact rfl) (hp : pc' = pc + 3 := by exact rfl) : Run C Z R w To f Q b Ts Li h k n pc L (S) := by
  subst hp
  subst hy
  exact kk.one fun T vm0 locs t X kt => XS.iinc X.here H.1 rfl (H.dec hd) hv hl kt
theorem r_iconst (H : Stn C Z own by_ mL rt nm q) (pc' : Nat) (x : Int32) {i : Int} (hd : decode by_ pc = .ok (.iconst i, 1)) (kk : Run C Z R w To f Q b Ts Li h k n pc' L (.int x :: S)) (hv : Int32.ofInt i = x := by decide) (hp : pc' = pc + 1 := by exact rfl) : Run C Z R w To f Q b Ts Li h k n pc L (S) := by
  subst hp
  subst hv
  exact kk.one fun T vm0 locs t X kt => XS.iconst X.here H.1 rfl (H.dec hd)  kt
theorem r_bipush (H : Stn C Z own by_ mL rt nm q) (pc' : Nat) (x : Int32) {i : Int} (hd : decode by_ pc = .ok (.bipush i, 2)) (kk : Run C Z R w To f Q b Ts Li h k n pc' L (.int x :: S)) (hv : (Int8.ofInt i).toInt32 = x := by decide) (hp : pc' = pc + 2 := by exact rfl) : Run C Z R w To f Q b Ts Li h k n pc L (S) := by
  subst hp
  subst hv
  exact kk.one fun T vm0 locs t X kt => XS.bipush X.here H.1 rfl (H.dec hd)  kt
theorem r_sipush (H : Stn C Z own by_ mL rt nm q) (pc' : Nat) (x : Int32) {i : Int} (hd : decode by_ pc = .ok (.sipush i, 3)) (kk : Run C Z R w To f Q b Ts Li h k n pc' L (.int x :: S)) (hv : (Int16.ofInt i).toInt32 = x := by decide) (hp : pc' = pc + 3 := by exact rfl) : Run C Z R w To f Q b Ts Li h k n pc L (S) := by
  subst hp
  subst hv
  exact kk.one fun T vm0 locs t X kt => XS.sipush X.here H.1 rfl (H.dec hd)  kt
theorem r_null (H : Stn C Z own by_ mL rt nm q) (pc' : Nat) (hd : decode by_ pc = .ok (.aconst_null, 1)) (kk : Run C Z R w To f Q b Ts Li h k n pc' L (.null :: S)) (hp : pc' = pc + 1 := by exact rfl) : Run C Z R w To f Q b Ts Li h k n pc L (S) := by
  subst hp
  exact kk.one fun T vm0 locs t X kt => XS.aconstNull X.here H.1 rfl (H.dec hd)  kt
theorem r_iadd (H : Stn C Z own by_ mL rt nm q) (pc' : Nat) (z : Int32) {x y : Int32} (hd : decode by_ pc = .ok (.iadd, 1)) (hz : (x + y) = z) (kk : Run C Z R w To f Q b Ts Li h k n pc' L (.int z :: S)) (hp : pc' = pc + 1 := by exact rfl) : Run C Z R w To f Q b Ts Li h k n pc L (.int y :: .int x :: S) := by
  subst hp
  subst hz
  exact kk.one fun T vm0 locs t X kt => XS.iadd X.here H.1 rfl (H.dec hd) rfl kt
theorem r_isub (H : Stn C Z own by_ mL rt nm q) (pc' : Nat) (z : Int32) {x y : Int32} (hd : decode by_ pc = .ok (.isub, 1)) (kk : Run C Z R w To f Q b Ts Li h k n pc' L (.int z :: S)) (hz : (x - y) = z := by decide) (hp : pc' = pc + 1 := by exact rfl) : Run C Z R w To f Q b Ts Li h k n pc L (.int y :: .int x :: S) := by
  subst hp
  subst hz
  exact kk.one fun T vm0 locs t X kt => XS.isub X.here H.1 rfl (H.dec hd) rfl kt
theorem r_iand (H : Stn C Z own by_ mL rt nm q) (pc' : Nat) (z : Int32) {x y : Int32} (hd : decode by_ pc = .ok (.iand, 1)) (hz : (x &&& y) = z) (kk : Run C Z R w To f Q b Ts Li h k n pc' L (.int z :: S)) (hp : pc' = pc + 1 := by exact rfl) : Run C Z R w To f Q b Ts Li h k n pc L (.int y :: .int x :: S) := by
  subst hp
  subst hz
  exact kk.one fun T vm0 locs t X kt => XS.iand X.here H.1 rfl (H.dec hd) rfl kt
theorem r_ior (H : Stn C Z own by_ mL rt nm q) (pc' : Nat) (z : Int32) {x y : Int32} (hd : decode by_ pc = .ok (.ior, 1)) (kk : Run C Z R w To f Q b Ts Li h k n pc' L (.int z :: S)) (hz : (x ||| y) = z := by exact rfl) (hp : pc' = pc + 1 := by exact rfl) : Run C Z R w To f Q b Ts Li h k n pc L (.int y :: .int x :: S) := by
  subst hp
  subst hz
  exact kk.one fun T vm0 locs t X kt => XS.ior X.here H.1 rfl (H.dec hd) rfl kt
theorem r_ishl (H : Stn C Z own by_ mL rt nm q) (pc' : Nat) (z : Int32) {x y : Int32} (hd : decode by_ pc = .ok (.ishl, 1)) (hz : (x <<< (y &&& 31)) = z) (kk : Run C Z R w To f Q b Ts Li h k n pc' L (.int z :: S)) (hp : pc' = pc + 1 := by exact rfl) : Run C Z R w To f Q b Ts Li h k n pc L (.int y :: .int x :: S) := by
  subst hp
  subst hz
  exact kk.one fun T vm0 locs t X kt => XS.ishl X.here H.1 rfl (H.dec hd) rfl kt
theorem r_ishr (H : Stn C Z own by_ mL rt nm q) (pc' : Nat) (z : Int32) {x y : Int32} (hd : decode by_ pc = .ok (.ishr, 1)) (hz : (x >>> (y &&& 31)) = z) (kk : Run C Z R w To f Q b Ts Li h k n pc' L (.int z :: S)) (hp : pc' = pc + 1 := by exact rfl) : Run C Z R w To f Q b Ts Li h k n pc L (.int y :: .int x :: S) := by
  subst hp
  subst hz
  exact kk.one fun T vm0 locs t X kt => XS.ishr X.here H.1 rfl (H.dec hd) rfl kt
theorem r_iushr (H : Stn C Z own by_ mL rt nm q) (pc' : Nat) (z : Int32) {x y : Int32} (hd : decode by_ pc = .ok (.iushr, 1)) (hz : (ush32 x y) = z) (kk : Run C Z R w To f Q b Ts Li h k n pc' L (.int z :: S)) (hp : pc' = pc + 1 := by exact rfl) : Run C Z R w To f Q b Ts Li h k n pc L (.int y :: .int x :: S) := by
  subst hp
  subst hz
  exact kk.one fun T vm0 locs t X kt => XS.iushr X.here H.1 rfl (H.dec hd) rfl kt
theorem r_irem (H : Stn C Z own by_ mL rt nm q) (pc' : Nat) (z : Int32) {x y : Int32} (hd : decode by_ pc = .ok (.irem, 1)) (hy : y ≠ 0) (hz : x % y = z) (kk : Run C Z R w To f Q b Ts Li h k n pc' L (.int z :: S)) (hp : pc' = pc + 1 := by exact rfl) : Run C Z R w To f Q b Ts Li h k n pc L (.int y :: .int x :: S) := by
  subst hp hz
  exact kk.one fun T vm0 locs t X kt => iremM X H.1 rfl (H.dec hd) rfl hy kt
theorem r_i2b (H : Stn C Z own by_ mL rt nm q) (pc' : Nat) (z : Int32) {x : Int32} (hd : decode by_ pc = .ok (.i2b, 1)) (hz : (x.toInt8.toInt32) = z) (kk : Run C Z R w To f Q b Ts Li h k n pc' L (.int z :: S)) (hp : pc' = pc + 1 := by exact rfl) : Run C Z R w To f Q b Ts Li h k n pc L (.int x :: S) := by
  subst hp
  subst hz
  exact kk.one fun T vm0 locs t X kt => XS.i2b X.here H.1 rfl (H.dec hd) rfl kt
theorem r_i2c (H : Stn C Z own by_ mL rt nm q) (pc' : Nat) (z : Int32) {x : Int32} (hd : decode by_ pc = .ok (.i2c, 1)) (hz : (x.toUInt32.toUInt16.toUInt32.toInt32) = z) (kk : Run C Z R w To f Q b Ts Li h k n pc' L (.int z :: S)) (hp : pc' = pc + 1 := by exact rfl) : Run C Z R w To f Q b Ts Li h k n pc L (.int x :: S) := by
  subst hp
  subst hz
  exact kk.one fun T vm0 locs t X kt => XS.i2c X.here H.1 rfl (H.dec hd) rfl kt
theorem r_dup (H : Stn C Z own by_ mL rt nm q) (pc' : Nat) {x : Value} (hd : decode by_ pc = .ok (.dup, 1)) (kk : Run C Z R w To f Q b Ts Li h k n pc' L (x :: x :: S)) (hc : x.category = 1 := by exact rfl) (hp : pc' = pc + 1 := by exact rfl) : Run C Z R w To f Q b Ts Li h k n pc L (x :: S) := by
  subst hp
  exact kk.one fun T vm0 locs t X kt => XS.dup X.here H.1 rfl (H.dec hd) rfl hc kt
theorem r_pop (H : Stn C Z own by_ mL rt nm q) (pc' : Nat) {x : Value} (hd : decode by_ pc = .ok (.pop, 1)) (kk : Run C Z R w To f Q b Ts Li h k n pc' L (S)) (hc : x.category = 1 := by exact rfl) (hp : pc' = pc + 1 := by exact rfl) : Run C Z R w To f Q b Ts Li h k n pc L (x :: S) := by
  subst hp
  exact kk.one fun T vm0 locs t X kt => XS.pop X.here H.1 rfl (H.dec hd) rfl hc kt
theorem r_goto (H : Stn C Z own by_ mL rt nm q) (pc' : Nat) {o : Int} (hd : decode by_ pc = .ok (.goto o, 3)) (kk : Run C Z R w To f Q b Ts Li h k n pc' L S) (ho : 0 ≤ (pc : Int) + o := by decide) (hp : ((pc : Int) + o).toNat = pc' := by decide) : Run C Z R w To f Q b Ts Li h k n pc L S := by
  exact kk.one fun T vm0 locs t X kt => XS.goto X.here H.1 rfl rfl (H.dec hd) ho hp kt
theorem r_icmpltT (H : Stn C Z own by_ mL rt nm q) (pc' : Nat) {x y : Int32} {o : Int} (hd : decode by_ pc = .ok (.if_icmp .lt o, 3)) (ho : 0 ≤ (pc : Int) + o) (hp : ((pc : Int) + o).toNat = pc') (c : x < y) (kk : Run C Z R w To f Q b Ts Li h k n pc' L S) : Run C Z R w To f Q b Ts Li h k n pc L (.int y :: .int x :: S) := by
  exact kk.one fun T vm0 locs t X kt => XS.icmpYes X.here H.1 rfl rfl (H.dec hd) rfl (tlt c).1 ho hp kt
theorem r_icmpltF (H : Stn C Z own by_ mL rt nm q) (pc' : Nat) {x y : Int32} {o : Int} (hd : decode by_ pc = .ok (.if_icmp .lt o, 3)) (hp : pc' = pc + 3) (c : ¬ x < y) (kk : Run C Z R w To f Q b Ts Li h k n pc' L S) : Run C Z R w To f Q b Ts Li h k n pc L (.int y :: .int x :: S) := by
  subst hp
  exact kk.one fun T vm0 locs t X kt => XS.icmpNo X.here H.1 rfl (H.dec hd) rfl (flt c).1 kt
theorem r_icmplt (H : Stn C Z own by_ mL rt nm q) (pt : Nat) (pf : Nat) {x y : Int32} {o : Int} (hd : decode by_ pc = .ok (.if_icmp .lt o, 3)) (kt : x < y → Run C Z R w To f Q b Ts Li h k n pt L S) (kf : ¬ x < y → Run C Z R w To f Q b Ts Li h k n pf L S) (ho : 0 ≤ (pc : Int) + o := by decide) (hp : ((pc : Int) + o).toNat = pt := by decide) (hf : pf = pc + 3 := by exact rfl) : Run C Z R w To f Q b Ts Li h k n pc L (.int y :: .int x :: S) := by
  by_cases c : x < y
  · exact r_icmpltT H pt hd ho hp c (kt c)
  · exact r_icmpltF H pf hd hf c (kf c)
theorem r_ifltF (H : Stn C Z own by_ mL rt nm q) (pc' : Nat) {x : Int32} {o : Int} (hd : decode by_ pc = .ok (.ifCond .lt o, 3)) (c : ¬ x < 0) (kk : Run C Z R w To f Q b Ts Li h k n pc' L S) (hp : pc' = pc + 3 := by exact rfl) : Run C Z R w To f Q b Ts Li h k n pc L (.int x :: S) := by
  subst hp
  exact kk.one fun T vm0 locs t X kt => XS.ifNo X.here H.1 rfl (H.dec hd) rfl ((if0 _ _).trans (flt c).1) kt
theorem r_icmpgeT (H : Stn C Z own by_ mL rt nm q) (pc' : Nat) {x y : Int32} {o : Int} (hd : decode by_ pc = .ok (.if_icmp .ge o, 3)) (ho : 0 ≤ (pc : Int) + o) (hp : ((pc : Int) + o).toNat = pc') (c : ¬ x < y) (kk : Run C Z R w To f Q b Ts Li h k n pc' L S) : Run C Z R w To f Q b Ts Li h k n pc L (.int y :: .int x :: S) := by
  exact kk.one fun T vm0 locs t X kt => XS.icmpYes X.here H.1 rfl rfl (H.dec hd) rfl (flt c).2.1 ho hp kt
theorem r_icmpgeF (H : Stn C Z own by_ mL rt nm q) (pc' : Nat) {x y : Int32} {o : Int} (hd : decode by_ pc = .ok (.if_icmp .ge o, 3)) (hp : pc' = pc + 3) (c : x < y) (kk : Run C Z R w To f Q b Ts Li h k n pc' L S) : Run C Z R w To f Q b Ts Li h k n pc L (.int y :: .int x :: S) := by
  subst hp
  exact kk.one fun T vm0 locs t X kt => XS.icmpNo X.here H.1 rfl (H.dec hd) rfl (tlt c).2.1 kt
theorem r_icmpge (H : Stn C Z own by_ mL rt nm q) (pt : Nat) (pf : Nat) {x y : Int32} {o : Int} (hd : decode by_ pc = .ok (.if_icmp .ge o, 3)) (kt : ¬ x < y → Run C Z R w To f Q b Ts Li h k n pt L S) (kf : x < y → Run C Z R w To f Q b Ts Li h k n pf L S) (ho : 0 ≤ (pc : Int) + o := by decide) (hp : ((pc : Int) + o).toNat = pt := by decide) (hf : pf = pc + 3 := by exact rfl) : Run C Z R w To f Q b Ts Li h k n pc L (.int y :: .int x :: S) := by
  by_cases c : ¬ x < y
  · exact r_icmpgeT H pt hd ho hp c (kt c)
  · exact r_icmpgeF H pf hd hf (Decidable.not_not.mp c) (kf (Decidable.not_not.mp c))
theorem r_ifgeT (H : Stn C Z own by_ mL rt nm q) (pc' : Nat) {x : Int32} {o : Int} (hd : decode by_ pc = .ok (.ifCond .ge o, 3)) (kk : Run C Z R w To f Q b Ts Li h k n pc' L S) (ho : 0 ≤ (pc : Int) + o := by decide) (hp : ((pc : Int) + o).toNat = pc' := by decide) (c : ¬ x < 0 := by decide) : Run C Z R w To f Q b Ts Li h k n pc L (.int x :: S) := by
  exact kk.one fun T vm0 locs t X kt => XS.ifYes X.here H.1 rfl rfl (H.dec hd) rfl ((if0 _ _).trans (flt c).2.1) ho hp kt
theorem r_icmpgtT (H : Stn C Z own by_ mL rt nm q) (pc' : Nat) {x y : Int32} {o : Int} (hd : decode by_ pc = .ok (.if_icmp .gt o, 3)) (ho : 0 ≤ (pc : Int) + o) (hp : ((pc : Int) + o).toNat = pc') (c : y < x) (kk : Run C Z R w To f Q b Ts Li h k n pc' L S) : Run C Z R w To f Q b Ts Li h k n pc L (.int y :: .int x :: S) := by
  exact kk.one fun T vm0 locs t X kt => XS.icmpYes X.here H.1 rfl rfl (H.dec hd) rfl (tlt c).2.2.1 ho hp kt
theorem r_icmpgtF (H : Stn C Z own by_ mL rt nm q) (pc' : Nat) {x y : Int32} {o : Int} (hd : decode by_ pc = .ok (.if_icmp .gt o, 3)) (hp : pc' = pc + 3) (c : ¬ y < x) (kk : Run C Z R w To f Q b Ts Li h k n pc' L S) : Run C Z R w To f Q b Ts Li h k n pc L (.int y :: .int x :: S) := by
  subst hp
  exact kk.one fun T vm0 locs t X kt => XS.icmpNo X.here H.1 rfl (H.dec hd) rfl (flt c).2.2.1 kt
theorem r_icmpgt (H : Stn C Z own by_ mL rt nm q) (pt : Nat) (pf : Nat) {x y : Int32} {o : Int} (hd : decode by_ pc = .ok (.if_icmp .gt o, 3)) (kt : y < x → Run C Z R w To f Q b Ts Li h k n pt L S) (kf : ¬ y < x → Run C Z R w To f Q b Ts Li h k n pf L S) (ho : 0 ≤ (pc : Int) + o := by decide) (hp : ((pc : Int) + o).toNat = pt := by decide) (hf : pf = pc + 3 := by exact rfl) : Run C Z R w To f Q b Ts Li h k n pc L (.int y :: .int x :: S) := by
  by_cases c : y < x
  · exact r_icmpgtT H pt hd ho hp c (kt c)
  · exact r_icmpgtF H pf hd hf c (kf c)
theorem r_icmpleT (H : Stn C Z own by_ mL rt nm q) (pc' : Nat) {x y : Int32} {o : Int} (hd : decode by_ pc = .ok (.if_icmp .le o, 3)) (ho : 0 ≤ (pc : Int) + o) (hp : ((pc : Int) + o).toNat = pc') (c : ¬ y < x) (kk : Run C Z R w To f Q b Ts Li h k n pc' L S) : Run C Z R w To f Q b Ts Li h k n pc L (.int y :: .int x :: S) := by
  exact kk.one fun T vm0 locs t X kt => XS.icmpYes X.here H.1 rfl rfl (H.dec hd) rfl (flt c).2.2.2 ho hp kt
theorem r_icmpleF (H : Stn C Z own by_ mL rt nm q) (pc' : Nat) {x y : Int32} {o : Int} (hd : decode by_ pc = .ok (.if_icmp .le o, 3)) (hp : pc' = pc + 3) (c : y < x) (kk : Run C Z R w To f Q b Ts Li h k n pc' L S) : Run C Z R w To f Q b Ts Li h k n pc L (.int y :: .int x :: S) := by
  subst hp
  exact kk.one fun T vm0 locs t X kt => XS.icmpNo X.here H.1 rfl (H.dec hd) rfl (tlt c).2.2.2 kt
theorem r_icmple (H : Stn C Z own by_ mL rt nm q) (pt : Nat) (pf : Nat) {x y : Int32} {o : Int} (hd : decode by_ pc = .ok (.if_icmp .le o, 3)) (kt : ¬ y < x → Run C Z R w To f Q b Ts Li h k n pt L S) (kf : y < x → Run C Z R w To f Q b Ts Li h k n pf L S) (ho : 0 ≤ (pc : Int) + o := by decide) (hp : ((pc : Int) + o).toNat = pt := by decide) (hf : pf = pc + 3 := by exact rfl) : Run C Z R w To f Q b Ts Li h k n pc L (.int y :: .int x :: S) := by
  by_cases c : ¬ y < x
  · exact r_icmpleT H pt hd ho hp c (kt c)
  · exact r_icmpleF H pf hd hf (Decidable.not_not.mp c) (kf (Decidable.not_not.mp c))
theorem r_icmpeqT (H : Stn C Z own by_ mL rt nm q) (pc' : Nat) {x y : Int32} {o : Int} (hd : decode by_ pc = .ok (.if_icmp .eq o, 3)) (kk : Run C Z R w To f Q b Ts Li h k n pc' L S) (ho : 0 ≤ (pc : Int) + o := by decide) (hp : ((pc : Int) + o).toNat = pc' := by decide) (c : x = y := by decide) : Run C Z R w To f Q b Ts Li h k n pc L (.int y :: .int x :: S) := by
  exact kk.one fun T vm0 locs t X kt => XS.icmpYes X.here H.1 rfl rfl (H.dec hd) rfl (teq c).1 ho hp kt
theorem r_icmpeqF (H : Stn C Z own by_ mL rt nm q) (pc' : Nat) {x y : Int32} {o : Int} (hd : decode by_ pc = .ok (.if_icmp .eq o, 3)) (kk : Run C Z R w To f Q b Ts Li h k n pc' L S) (hp : pc' = pc + 3 := by exact rfl) (c : ¬ x = y := by decide) : Run C Z R w To f Q b Ts Li h k n pc L (.int y :: .int x :: S) := by
  subst hp
  exact kk.one fun T vm0 locs t X kt => XS.icmpNo X.here H.1 rfl (H.dec hd) rfl (feq c).1 kt
theorem r_ifeqT (H : Stn C Z own by_ mL rt nm q) (pc' : Nat) {x : Int32} {o : Int} (hd : decode by_ pc = .ok (.ifCond .eq o, 3)) (ho : 0 ≤ (pc : Int) + o) (hp : ((pc : Int) + o).toNat = pc') (c : x = 0) (kk : Run C Z R w To f Q b Ts Li h k n pc' L S) : Run C Z R w To f Q b Ts Li h k n pc L (.int x :: S) := by
  exact kk.one fun T vm0 locs t X kt => XS.ifYes X.here H.1 rfl rfl (H.dec hd) rfl ((if0 _ _).trans (teq c).1) ho hp kt
theorem r_ifeqF (H : Stn C Z own by_ mL rt nm q) (pc' : Nat) {x : Int32} {o : Int} (hd : decode by_ pc = .ok (.ifCond .eq o, 3)) (hp : pc' = pc + 3) (c : ¬ x = 0) (kk : Run C Z R w To f Q b Ts Li h k n pc' L S) : Run C Z R w To f Q b Ts Li h k n pc L (.int x :: S) := by
  subst hp
  exact kk.one fun T vm0 locs t X kt => XS.ifNo X.here H.1 rfl (H.dec hd) rfl ((if0 _ _).trans (feq c).1) kt
theorem r_ifeq (H : Stn C Z own by_ mL rt nm q) (pt : Nat) (pf : Nat) {x : Int32} {o : Int} (hd : decode by_ pc = .ok (.ifCond .eq o, 3)) (kt : x = 0 → Run C Z R w To f Q b Ts Li h k n pt L S) (kf : ¬ x = 0 → Run C Z R w To f Q b Ts Li h k n pf L S) (ho : 0 ≤ (pc : Int) + o := by decide) (hp : ((pc : Int) + o).toNat = pt := by decide) (hf : pf = pc + 3 := by exact rfl) : Run C Z R w To f Q b Ts Li h k n pc L (.int x :: S) := by
  by_cases c : x = 0
  · exact r_ifeqT H pt hd ho hp c (kt c)
  · exact r_ifeqF H pf hd hf c (kf c)
theorem r_icmpneT (H : Stn C Z own by_ mL rt nm q) (pc' : Nat) {x y : Int32} {o : Int} (hd : decode by_ pc = .ok (.if_icmp .ne o, 3)) (ho : 0 ≤ (pc : Int) + o) (hp : ((pc : Int) + o).toNat = pc') (c : ¬ x = y) (kk : Run C Z R w To f Q b Ts Li h k n pc' L S) : Run C Z R w To f Q b Ts Li h k n pc L (.int y :: .int x :: S) := by
  exact kk.one fun T vm0 locs t X kt => XS.icmpYes X.here H.1 rfl rfl (H.dec hd) rfl (feq c).2 ho hp kt
theorem r_icmpneF (H : Stn C Z own by_ mL rt nm q) (pc' : Nat) {x y : Int32} {o : Int} (hd : decode by_ pc = .ok (.if_icmp .ne o, 3)) (hp : pc' = pc + 3) (c : x = y) (kk : Run C Z R w To f Q b Ts Li h k n pc' L S) : Run C Z R w To f Q b Ts Li h k n pc L (.int y :: .int x :: S) := by
  subst hp
  exact kk.one fun T vm0 locs t X kt => XS.icmpNo X.here H.1 rfl (H.dec hd) rfl (teq c).2 kt
theorem r_icmpne (H : Stn C Z own by_ mL rt nm q) (pt : Nat) (pf : Nat) {x y : Int32} {o : Int} (hd : decode by_ pc = .ok (.if_icmp .ne o, 3)) (kt : ¬ x = y → Run C Z R w To f Q b Ts Li h k n pt L S) (kf : x = y → Run C Z R w To f Q b Ts Li h k n pf L S) (ho : 0 ≤ (pc : Int) + o := by decide) (hp : ((pc : Int) + o).toNat = pt := by decide) (hf : pf = pc + 3 := by exact rfl) : Run C Z R w To f Q b Ts Li h k n pc L (.int y :: .int x :: S) := by
  by_cases c : ¬ x = y
  · exact r_icmpneT H pt hd ho hp c (kt c)
  · exact r_icmpneF H pf hd hf (Decidable.not_not.mp c) (kf (Decidable.not_not.mp c))
theorem r_ifneT (H : Stn C Z own by_ mL rt nm q) (pc' : Nat) {x : Int32} {o : Int} (hd : decode by_ pc = .ok (.ifCond .ne o, 3)) (ho : 0 ≤ (pc : Int) + o) (hp : ((pc : Int) + o).toNat = pc') (c : ¬ x = 0) (kk : Run C Z R w To f Q b Ts Li h k n pc' L S) : Run C Z R w To f Q b Ts Li h k n pc L (.int x :: S) := by
  exact kk.one fun T vm0 locs t X kt => XS.ifYes X.here H.1 rfl rfl (H.dec hd) rfl ((if0 _ _).trans (feq c).2) ho hp kt
theorem r_ifneF (H : Stn C Z own by_ mL rt nm q) (pc' : Nat) {x : Int32} {o : Int} (hd : decode by_ pc = .ok (.ifCond .ne o, 3)) (hp : pc' = pc + 3) (c : x = 0) (kk : Run C Z R w To f Q b Ts Li h k n pc' L S) : Run C Z R w To f Q b Ts Li h k n pc L (.int x :: S) := by
  subst hp
  exact kk.one fun T vm0 locs t X kt => XS.ifNo X.here H.1 rfl (H.dec hd) rfl ((if0 _ _).trans (teq c).2) kt
theorem r_ifne (H : Stn C Z own by_ mL rt nm q) (pt : Nat) (pf : Nat) {x : Int32} {o : Int} (hd : decode by_ pc = .ok (.ifCond .ne o, 3)) (kt : ¬ x = 0 → Run C Z R w To f Q b Ts Li h k n pt L S) (kf : x = 0 → Run C Z R w To f Q b Ts Li h k n pf L S) (ho : 0 ≤ (pc : Int) + o := by decide) (hp : ((pc : Int) + o).toNat = pt := by decide) (hf : pf = pc + 3 := by exact rfl) : Run C Z R w To f Q b Ts Li h k n pc L (.int x :: S) := by
  by_cases c : ¬ x = 0
  · exact r_ifneT H pt hd ho hp c (kt c)
  · exact r_ifneF H pf hd hf (Decidable.not_not.mp c) (kf (Decidable.not_not.mp c))
theorem Pos.done {T : State} {vm0 : Vm} {locs : List Loc} (H : Stn C Z own by_ mL rt nm q) (P : Pos C Z R w b Ts Li h k n T vm0 locs) {v : Option Value} (hv : rt = none → v = none) (hk : k ≤ R.cells) (hn : n ≤ R.slots) (hf : f ≤ b) (hT : ∀ t ∈ Ts, t ∈ To) (hQ : Q v h) {g : JFrame}
    (st : ∀ fs, (∀ (f : JFrame) (acts : List Action), f.method = C.m → f.locked = none → f.entered = [] → (doReturn C.e (T.setTop f) acts v).1 = T.setFrames fs) → Steps C.p.tables C.e C.bl (T.setTop g) (T.setFrames fs)) : Gl C Z R w To f Q (T.setTop g) := by
  obtain ⟨X, hZ, eT, hS, hI, hw, N, hz, hE, hq, hL⟩ := P
  have hlk : C.mt.locks = false := H.2.2.2.2.1
  have hv' : C.mt.sig.returnType = none → v = none := fun e => hv (by rw [← H.2.2.2.1]; exact e)
  have hin : T.vm.interned = vm0.interned := X.warmed.interned_eq
  cases w with
  | false =>
    have e0 := hw rfl
    subst e0
    obtain ⟨fs, hr, hrun, hended, hW, hsame⟩ := Stand.leave (s := C.s) X (v := v) hv' hlk
    exact ⟨_, _, st fs hr, hrun, hended, v, locs, rfl, ⟨by show Q v T.heap; rw [eT]; exact hQ, fr_low N hf, by show Ext Z.heap T.heap; rw [eT]; exact hE, ib_mono (ib_same hI hin) hT⟩, ⟨v, rfl⟩, hW, hsame.mono hk hn⟩
  | true =>
    obtain ⟨fs, hr, hrun, hended, h1, h2, h3, hsame⟩ := Stand.leaveW X (v := v) hS (Nat.le_of_eq (by rw [eT])) hv' hlk
    exact ⟨_, _, st fs hr, hrun, hended, v, locs, rfl, ⟨by show Q v T.heap; rw [eT]; exact hQ, fr_low N hf, by show Ext Z.heap T.heap; rw [eT]; exact hE, ib_mono (ib_same hI hin) hT⟩, h1, h2, h3, hsame.mono hk hn⟩
theorem r_return (H : Stn C Z own by_ mL none nm q) (hd : decode by_ pc = .ok (.return_, 1)) (hQ : Q none h) (hk : k ≤ R.cells := by decide) (hn : n ≤ R.slots := by decide) (hf : f ≤ b := by exact Nat.le_refl _) (hT : ∀ t ∈ Ts, t ∈ To := by exact fun _ t => t) : Run C Z R w To f Q b Ts Li h k n pc L [] := fun T vm0 locs P =>
  P.done H (v := none) (fun _ => rfl) hk hn hf hT hQ fun fs hr => P.1.returnOut H.1 H.2.2.2.1 (H.dec hd) hr
theorem retI' {p : Program} {l : Launch} {e : Env} {R : Room} {s : State} {m : MethodId} {args : Array Value} {below : List Frame} {meth : Method} {c : ClassFile.Code} {T : State} {locs : List Loc} {cells slots : Nat} (X : Stand p l e R s m args below meth c T locs cells slots) (hx : p.tables.exec = Jvm.exec) {pc : Nat} {Ls : Array Slot} {z : Int32} {rest : List Value} (hret : meth.sig.returnType = some .int) (hd : decode c.code pc = .ok (.ireturn, 1)) {fs : List Frame}
    (hl : ∀ (f : JFrame) (acts : List Action), f.method = m → f.locked = none → f.entered = [] → (doReturn e (T.setTop f) acts (some (.int z))).1 = T.setFrames fs) : Steps p.tables e below (T.setTop (mkF m pc Ls (.int z :: rest))) (T.setFrames fs) := retOut X hx hret rfl (Or.inl ⟨rfl, Or.inl rfl, z, rfl⟩) hd hl
theorem r_ireturn {z : Int32} (H : Stn C Z own by_ mL (some .int) nm q) (hd : decode by_ pc = .ok (.ireturn, 1)) (hQ : Q (some (.int z)) h) (hk : k ≤ R.cells := by decide) (hn : n ≤ R.slots := by decide) (hf : f ≤ b := by exact Nat.le_refl _) (hT : ∀ t ∈ Ts, t ∈ To := by exact fun _ t => t) : Run C Z R w To f Q b Ts Li h k n pc L (.int z :: S) := fun T vm0 locs P =>
  P.done H (v := some (.int z)) (fun e => by cases e) hk hn hf hT hQ fun fs hr => retI' P.1 H.1 H.2.2.2.1 (H.dec hd) hr
theorem r_nreturn {z : Int32} (z' : Int32) {t : FieldType} (H : Stn C Z own by_ mL (some t) nm q) (hd : decode by_ pc = .ok (.ireturn, 1)) (hz : nar t z = z') (hQ : Q (some (.int z')) h) (ht : t = .boolean ∨ t = .byte ∨ t = .char ∨ t = .short := by simp) (hk : k ≤ R.cells := by decide) (hn : n ≤ R.slots := by decide) (hf : f ≤ b := by exact Nat.le_refl _) (hT : ∀ t ∈ Ts, t ∈ To := by exact fun _ t => t) : Run C Z R w To f Q b Ts Li h k n pc L (.int z :: S) := fun T vm0 locs P => by
  subst hz
  exact P.done H (v := some (.int (nar t z))) (fun e => by cases e) hk hn hf hT hQ fun fs hr => retN P.1 H.1 H.2.2.2.1 ht (H.dec hd) hr
theorem r_areturn {v : Value} {t : FieldType} (H : Stn C Z own by_ mL (some t) nm q) (hd : decode by_ pc = .ok (.areturn, 1)) (hQ : Q (some v) h) (ht : t.isReference = true := by exact rfl) (hv : v.isRef = true := by exact rfl) (hk : k ≤ R.cells := by decide) (hn : n ≤ R.slots := by decide) (hf : f ≤ b := by exact Nat.le_refl _) (hT : ∀ t ∈ Ts, t ∈ To := by exact fun _ t => t) : Run C Z R w To f Q b Ts Li h k n pc L (v :: S) := fun T vm0 locs P =>
  P.done H (v := some v) (fun e => by cases e) hk hn hf hT hQ fun fs hr => retOut P.1 H.1 H.2.2.2.1 (by rcases ref_cases hv with rfl | ⟨a, rfl⟩ <;> cases t <;> first | rfl | simp [FieldType.isReference] at ht) (Or.inr (Or.inr (Or.inr (Or.inr ⟨rfl, ht, hv⟩)))) (H.dec hd) hr
theorem Run.hold {pc' : Nat} {L' : Array Slot} {S' : List Value} (g : ∀ T vm0 locs, Pos C Z R w b Ts Li h k n T vm0 locs → ∃ T', Stand C.p C.l C.e R (C.s.setVm vm0) C.m C.a C.bl C.mt C.c T' locs k n ∧ T'.heap = h ∧ ∀ t, Steps C.p.tables C.e C.bl (T'.setTop (mkF C.m pc' L' S')) t → Steps C.p.tables C.e C.bl (T.setTop (mkF C.m pc L S)) t)
    (kk : Run C Z R w To f Q b Ts Li h k n pc' L' S') : Run C Z R w To f Q b Ts Li h k n pc L S := fun T vm0 locs P => by
  obtain ⟨T', X', e', st⟩ := g T vm0 locs P
  obtain ⟨X, hZ, eT, r⟩ := P
  obtain ⟨s₂, o, h1, r'⟩ := kk T' vm0 locs ⟨X', hZ, e', r⟩
  exact ⟨s₂, o, st _ h1, r'⟩
theorem Pos.cl {T : State} {vm0 : Vm} {locs : List Loc} (P : Pos C Z R w b Ts Li h k n T vm0 locs) (H : Stn C Z own by_ mL rt nm q) : (C.s.setVm vm0).vm.findClass own = some C.m.cls := H.cl P.2.2.2.1
theorem r_getf (H : Stn C Z own by_ mL rt nm q) (pc' : Nat) {idx : Nat} {R0 O fn d : String} {a : Addr} {v : Value} (hd : decode by_ pc = .ok (.getfield idx, 3)) (w1 : (Cond.fieldLink own idx R0 fn d).before a0 Z = true) (F : Fld Z h a O fn d v) (kk : Run C Z R w To f Q b Ts Li h k n pc' L (v :: S)) (via : Via Z R0 O fn d := by exact Via.refl) (hp : pc' = pc + 3 := by exact rfl) : Run C Z R w To f Q b Ts Li h k n pc L (.ref a :: S) := by
  subst hp
  exact kk.hold fun T vm0 locs P => getF (host := "") P.1 H.1 P.2.1 (P.cl H) (Or.inl w1) via P.2.2.1 F (g := mkF C.m pc L (.ref a :: S)) rfl rfl (H.dec hd)
theorem r_gets (H : Stn C Z own by_ mL rt nm q) (pc' : Nat) {idx : Nat} {R0 O fn d : String} {v : Value} (hd : decode by_ pc = .ok (.getstatic idx, 3)) (w1 : (Cond.fieldLink own idx R0 fn d).before a0 Z = true) (F : Sta Z Z.heap O fn d v) (kk : Run C Z R w To f Q b Ts Li h k n pc' L (v :: S)) (via : Via Z R0 O fn d := by exact Via.refl) (hp : pc' = pc + 3 := by exact rfl) : Run C Z R w To f Q b Ts Li h k n pc L S := by
  subst hp
  exact kk.hold fun T vm0 locs P => getS2 (host := "") P.1 H.1 P.2.1 (P.cl H) (Or.inl w1) via P.2.2.1 (F.ext P.2.2.2.2.2.2.2.2.1) (g := mkF C.m pc L S) rfl (H.dec hd)
theorem r_initO (H : Stn C Z own by_ mL rt nm q) (pc' : Nat) {idx : Nat} {a : Addr} (hd : decode by_ pc = .ok (.invokespecial idx, 3)) (w1 : (Cond.methodLink own idx Lib.objectInit).before a0 Z = true) (w2 : (Cond.instanceMethod Lib.objectInit).before a0 Z = true) (w3 : (Cond.code Lib.objectInit ⟨#[0xb1]⟩ 1 none).before a0 Z = true) {W : Nat} (kk : Run C Z R w To f Q b Ts Li h k n pc' L S) (hL : L.size = mL := by exact rfl) (hf : 1 ≤ R.frames := by decide) (hW : (S.map fun v => v.category).sum ≤ W := by exact Nat.le_of_eq rfl) (hl : W + 12 ≤ R.locals := by decide) (hp : pc' = pc + 3 := by exact rfl) : Run C Z R w To f Q b Ts Li h k n pc L (.ref a :: S) := by
  subst hp
  exact kk.hold fun T vm0 locs P => initO P.1 H.1 P.2.1 (P.cl H) w1 w2 w3 P.2.2.1 (g := mkF C.m pc L (.ref a :: S)) rfl (by rw [H.2.2.1]; exact hL) rfl (H.dec hd) hf (W := W) (by show 2 * 0 + _ ≤ _; omega) hl
theorem r_ldcI (H : Stn C Z own by_ mL rt nm q) (pc' : Nat) {idx : Nat} {v : Int32} (hd : decode by_ pc = .ok (.ldc idx, 2)) (w1 : (Cond.constant own idx v).before a0 Z = true) (kk : Run C Z R w To f Q b Ts Li h k n pc' L (.int v :: S)) (hp : pc' = pc + 2 := by exact rfl) : Run C Z R w To f Q b Ts Li h k n pc L S := by
  subst hp
  exact kk.hold fun T vm0 locs P => ⟨T, P.1, P.2.2.1, P.1.ldcInt H.1 (P.cl H) (mvT (s := C.s.setVm vm0) P.2.1 w1) (g := mkF C.m pc L S) rfl (H.dec hd)⟩
def Ar (Z : State) (h : Heap) (a : Addr) (kc : ClassId) (ty : FieldType) (vs : List Value) : Prop := ∃ c : Cell, Arr Z h a c ty ∧ c.cls = kc ∧ c.slots = vs.toArray ∧ vs.length < 2 ^ 31 ∧ ∀ v ∈ vs, fits ty v = true
theorem Ar.lt {a : Addr} {kc : ClassId} {ty : FieldType} {vs : List Value} (F : Ar Z h a kc ty vs) : a < h.size := by obtain ⟨c, A, -⟩ := F; exact A.lt
theorem Ar.ext {h' : Heap} {a : Addr} {kc : ClassId} {ty : FieldType} {vs : List Value} (F : Ar Z h a kc ty vs) (E : Ext h h') : Ar Z h' a kc ty vs := by obtain ⟨c, A, r⟩ := F; exact ⟨c, A.ext E, r⟩
theorem Ar.keep {h' : Heap} {a : Addr} {kc : ClassId} {ty : FieldType} {vs : List Value} {ws : List Addr} (F : Ar Z h a kc ty vs) (K : Keep h h' ws) (hn : a ∉ ws) : Ar Z h' a kc ty vs := by obtain ⟨c, A, r⟩ := F; exact ⟨c, ⟨K.2.1 a c A.1 hn, A.2⟩, r⟩
theorem Ar.new {a : Addr} {kc : ClassId} {ty : FieldType} {z : Int32} (A : Arr Z h a (newA kc ty z) ty) (hn : ¬ z < 0) : Ar Z h a kc ty (List.replicate z.toNatClampNeg (defaultValue ty)) :=
  ⟨_, A, rfl, by simp [newA], by simpa using (back32 hn).2, fun v hv => by rw [List.eq_of_mem_replicate hv]; cases ty <;> rfl⟩
theorem Ar.put {h' : Heap} {a : Addr} {kc : ClassId} {ty : FieldType} {vs : List Value} {i : Nat} {v : Value} (F : Ar Z h a kc ty vs) (W : Wr h h' a i v) (hv : fits ty v = true) : Ar Z h' a kc ty (vs.set i v) := by
  obtain ⟨c, A, h1, h2, h3, h4⟩ := F
  refine ⟨_, A.same W, h1, ?_, by simpa using h3, fun u hu => ?_⟩
  · simp [Cell.setSlot, h2]
  · rcases List.mem_or_eq_of_mem_set hu with q | q
    · exact h4 u q
    · rw [q]; exact hv
theorem Ar.size {a : Addr} {kc : ClassId} {ty : FieldType} {vs : List Value} {c : Cell} (A : Arr Z h a c ty) (F : Ar Z h a kc ty vs) : c.slots = vs.toArray ∧ vs.length < 2 ^ 31 := by
  obtain ⟨c', A', h1, h2, h3, h4⟩ := F
  cases A.1.symm.trans A'.1
  exact ⟨h2, h3⟩
theorem ld_in {vs : List Value} {j : Int32} {v : Value} {c : Cell} (hs : c.slots = vs.toArray) (hj : ¬ j < 0) (hv : vs[j.toNatClampNeg]? = some v) : ¬ (j < 0 ∨ c.slots.size ≤ j.toNatClampNeg) ∧ c.slots[j.toNatClampNeg]? = some v := by
  refine ⟨fun q => q.elim hj fun u => ?_, by rw [hs]; simpa using hv⟩
  rw [hs] at u
  have := (List.getElem?_eq_some_iff.mp hv).1
  simp at u; omega
theorem r_alen (H : Stn C Z own by_ mL rt nm q) (pc' : Nat) {a : Addr} {kc : ClassId} {ty : FieldType} {vs : List Value} (z : Int32) (hd : decode by_ pc = .ok (.arraylength, 1)) (F : Ar Z h a kc ty vs) (kk : Run C Z R w To f Q b Ts Li h k n pc' L (.int z :: S)) (hz : vs.length.toInt32 = z := by exact rfl) (hp : pc' = pc + 1 := by exact rfl) : Run C Z R w To f Q b Ts Li h k n pc L (.ref a :: S) := by
  subst hp hz
  refine kk.hold fun T vm0 locs P => ?_
  obtain ⟨c, A, h1, h2, h3, h4⟩ := F
  refine ⟨T, P.1, P.2.2.1, fun t kt => ?_⟩
  refine P.1.arraylength H.1 (by rw [P.2.2.1]; exact A.1) (State.isArrayOf_alike P.2.1.alike A.2.1) (g := mkF C.m pc L (.ref a :: S)) rfl rfl (H.dec hd) _ ?_
  have e : c.slots.size.toInt32 = vs.length.toInt32 := by rw [h2]; simp
  rw [e]; exact kt
theorem r_caload (H : Stn C Z own by_ mL rt nm q) (pc' : Nat) {a : Addr} {kc : ClassId} {vs : List Value} {j : Int32} (v : Int32) (hd : decode by_ pc = .ok (.caload, 1)) (F : Ar Z h a kc .char vs) (kk : Run C Z R w To f Q b Ts Li h k n pc' L (.int v :: S)) (hj : ¬ j < 0 := by decide) (hv : vs[j.toNatClampNeg]? = some (.int v) := by exact rfl) (hp : pc' = pc + 1 := by exact rfl) : Run C Z R w To f Q b Ts Li h k n pc L (.int j :: .ref a :: S) := by
  subst hp
  refine kk.hold fun T vm0 locs P => ?_
  obtain ⟨c, A, h1, h2, h3, h4⟩ := F
  obtain ⟨q1, q2⟩ := ld_in h2 hj hv
  exact ⟨T, P.1, P.2.2.1, P.1.caload H.1 (by rw [P.2.2.1]; exact A.1) (State.isArrayOf_alike P.2.1.alike A.2.1) A.2.2 q1 q2 (g := mkF C.m pc L (.int j :: .ref a :: S)) rfl rfl (H.dec hd)⟩
theorem r_baload (H : Stn C Z own by_ mL rt nm q) (pc' : Nat) {a : Addr} {kc : ClassId} {vs : List Value} {j : Int32} (v : Int32) (hd : decode by_ pc = .ok (.baload, 1)) (F : Ar Z h a kc .byte vs) (kk : Run C Z R w To f Q b Ts Li h k n pc' L (.int v :: S)) (hj : ¬ j < 0 := by decide) (hv : vs[j.toNatClampNeg]? = some (.int v) := by exact rfl) (hp : pc' = pc + 1 := by exact rfl) : Run C Z R w To f Q b Ts Li h k n pc L (.int j :: .ref a :: S) := by
  subst hp
  refine kk.hold fun T vm0 locs P => ?_
  obtain ⟨c, A, h1, h2, h3, h4⟩ := F
  obtain ⟨q1, q2⟩ := ld_in h2 hj hv
  exact ⟨T, P.1, P.2.2.1, P.1.baloadBytes H.1 (by rw [P.2.2.1]; exact A.1) (State.isArrayOf_alike P.2.1.alike A.2.1) A.2.2 q1 q2 (g := mkF C.m pc L (.int j :: .ref a :: S)) rfl rfl (H.dec hd)⟩
theorem r_zaload (H : Stn C Z own by_ mL rt nm q) (pc' : Nat) {a : Addr} {kc : ClassId} {vs : List Value} {j : Int32} (v : Int32) (hd : decode by_ pc = .ok (.baload, 1)) (F : Ar Z h a kc .boolean vs) (kk : Run C Z R w To f Q b Ts Li h k n pc' L (.int v :: S)) (hj : ¬ j < 0 := by decide) (hv : vs[j.toNatClampNeg]? = some (.int v) := by exact rfl) (hp : pc' = pc + 1 := by exact rfl) : Run C Z R w To f Q b Ts Li h k n pc L (.int j :: .ref a :: S) := by
  subst hp
  refine kk.hold fun T vm0 locs P => ?_
  obtain ⟨c, A, h1, h2, h3, h4⟩ := F
  obtain ⟨q1, q2⟩ := ld_in h2 hj hv
  refine ⟨T, P.1, P.2.2.1, fun t kt => ?_⟩
  have hA := State.isArrayOf_alike (T := T) (P.2.1.alike.trans P.1.warmed.alike) A.2.1
  jvm_step P.1.here [P.1.here.top, H.1, H.dec hd, baload.wp_booleans (e := C.e) (s := T) (f := mkF C.m pc L (.int j :: .ref a :: S)) P.1.here.top rfl (by rw [P.2.2.1]; exact A.1) hA q1 A.2.2 q2]
  exact kt
theorem Run.write {pc' : Nat} {L' : Array Slot} {S' : List Value} {a : Addr} {sl : Nat} {v : Value} (hb : b ≤ a) (g : ∀ T vm0 locs, Pos C Z R w b Ts Li h k n T vm0 locs → ∃ T' h', Stand C.p C.l C.e R (C.s.setVm vm0) C.m C.a C.bl C.mt C.c T' (locs ++ [⟨a, sl⟩]) k n ∧ T'.heap = h' ∧ Wr h h' a sl v ∧ ∀ t, Steps C.p.tables C.e C.bl (T'.setTop (mkF C.m pc' L' S')) t → Steps C.p.tables C.e C.bl (T.setTop (mkF C.m pc L S)) t)
    (kk : ∀ h', Wr h h' a sl v → Keep h h' [a] → Run C Z R w To f Q b Ts Li h' k n pc' L' S') : Run C Z R w To f Q b Ts Li h k n pc L S := fun T vm0 locs P => by
  obtain ⟨T', h', X', e', W, st⟩ := g T vm0 locs P
  obtain ⟨X, hZ, eT, hS, hI, hw, N, hz, hE, hq, hL⟩ := P
  have K := Keep.of_wr W
  have hE' : Ext Z.heap h' := (Old.wr (n0 := Z.heap.size) ⟨rfl, hE⟩ W (Nat.le_trans hz hb)).2
  obtain ⟨s₂, o, h1, r'⟩ := kk h' W K T' vm0 _ ⟨X', hZ, e', since_same hS K.1, hI, hw, Fr.snoc X' N hb, hz, hE', Nat.le_trans hq K.1, hL⟩
  exact ⟨s₂, o, st _ h1, r'⟩
theorem r_castore (H : Stn C Z own by_ mL rt nm q) (pc' : Nat) {a : Addr} {kc : ClassId} {vs : List Value} {j x : Int32} (y : Int32) (hd : decode by_ pc = .ok (.castore, 1)) (F : Ar Z h a kc .char vs) (hb : b ≤ a) (hy : (nar .char x) = y) (kk : ∀ h', Keep h h' [a] → Ar Z h' a kc .char (vs.set j.toNatClampNeg (.int y)) → Run C Z R w To f Q b Ts Li h' k n pc' L S) (hj : ¬ j < 0 := by decide) (hi : j.toNatClampNeg < vs.length := by exact Nat.le_of_ble_eq_true rfl) (hp : pc' = pc + 1 := by exact rfl) : Run C Z R w To f Q b Ts Li h k n pc L (.int x :: .int j :: .ref a :: S) := by
  subst hp hy
  obtain ⟨c, A, h1, h2, h3, h4⟩ := id F
  have hin : ¬ (j < 0 ∨ c.slots.size ≤ j.toNatClampNeg) := fun q => q.elim hj fun u => by rw [h2] at u; simp at u; omega
  exact Run.write hb (fun T vm0 locs P => stC P.1 H.1 P.2.1 P.2.2.1 A hin (g := mkF C.m pc L (.int x :: .int j :: .ref a :: S)) rfl rfl (H.dec hd)) fun h' W K => kk h' K (F.put W (fits_nar_char _))
theorem r_bastore (H : Stn C Z own by_ mL rt nm q) (pc' : Nat) {a : Addr} {kc : ClassId} {vs : List Value} {j x : Int32} (y : Int32) (hd : decode by_ pc = .ok (.bastore, 1)) (F : Ar Z h a kc .byte vs) (hb : b ≤ a) (hy : (nar .byte x) = y) (kk : ∀ h', Keep h h' [a] → Ar Z h' a kc .byte (vs.set j.toNatClampNeg (.int y)) → Run C Z R w To f Q b Ts Li h' k n pc' L S) (hj : ¬ j < 0 := by decide) (hi : j.toNatClampNeg < vs.length := by exact Nat.le_of_ble_eq_true rfl) (hp : pc' = pc + 1 := by exact rfl) : Run C Z R w To f Q b Ts Li h k n pc L (.int x :: .int j :: .ref a :: S) := by
  subst hp hy
  obtain ⟨c, A, h1, h2, h3, h4⟩ := id F
  have hin : ¬ (j < 0 ∨ c.slots.size ≤ j.toNatClampNeg) := fun q => q.elim hj fun u => by rw [h2] at u; simp at u; omega
  exact Run.write hb (fun T vm0 locs P => stB P.1 H.1 P.2.1 P.2.2.1 A hin (g := mkF C.m pc L (.int x :: .int j :: .ref a :: S)) rfl rfl (H.dec hd)) fun h' W K => kk h' K (F.put W (fits_nar_byte _))
theorem r_zastore (H : Stn C Z own by_ mL rt nm q) (pc' : Nat) {a : Addr} {kc : ClassId} {vs : List Value} {j x : Int32} (y : Int32) (hd : decode by_ pc = .ok (.bastore, 1)) (F : Ar Z h a kc .boolean vs) (hb : b ≤ a) (hy : (nar .boolean x) = y) (kk : ∀ h', Keep h h' [a] → Ar Z h' a kc .boolean (vs.set j.toNatClampNeg (.int y)) → Run C Z R w To f Q b Ts Li h' k n pc' L S) (hj : ¬ j < 0 := by decide) (hi : j.toNatClampNeg < vs.length := by exact Nat.le_of_ble_eq_true rfl) (hp : pc' = pc + 1 := by exact rfl) : Run C Z R w To f Q b Ts Li h k n pc L (.int x :: .int j :: .ref a :: S) := by
  subst hp hy
  obtain ⟨c, A, h1, h2, h3, h4⟩ := id F
  have hin : ¬ (j < 0 ∨ c.slots.size ≤ j.toNatClampNeg) := fun q => q.elim hj fun u => by rw [h2] at u; simp at u; omega
  exact Run.write hb (fun T vm0 locs P => stZ P.1 H.1 P.2.1 P.2.2.1 A hin (g := mkF C.m pc L (.int x :: .int j :: .ref a :: S)) rfl rfl (H.dec hd)) fun h' W K => kk h' K (F.put W (fits_nar_bool _))
theorem r_putf (H : Stn C Z own by_ mL rt nm q) (pc' : Nat) {idx kk0 : Nat} {R0 O fn d CC : String} {ty : FieldType} {a : Addr} {v old : Value} (hd : decode by_ pc = .ok (.putfield idx, 3)) (w1 : (Cond.fieldLink own idx R0 fn d).before a0 Z = true) (F : Fld Z h a O fn d old) (E : Exa Z h a CC) (wl : (Cond.lays CC O fn d).before a0 Z = true ∨ ((Cond.laysFinal CC O fn d).before a0 Z = true ∧ own = O ∧ nm = "<init>")) (wi : (Cond.instantiable CC kk0).before a0 Z = true) (hb : b ≤ a) (kk : ∀ h', Wr h h' a (Jvm.RoadKit.slotOf Z O fn d) v → Keep h h' [a] → Exa Z h' a CC → Fld Z h' a O fn d v → Run C Z R w To f Q b Ts Li h' k n pc' L S) (via : Via Z R0 O fn d := by exact Via.refl) (hty : parseFieldDescriptor d = some ty := by decide) (hn : narrow ty v = v := by exact rfl) (hf' : fits ty v = true := by exact rfl) (hp : pc' = pc + 3 := by exact rfl) : Run C Z R w To f Q b Ts Li h k n pc L (v :: .ref a :: S) := by
  subst hp
  exact Run.write hb (fun T vm0 locs P => putF (host := "") P.1 H.1 P.2.1 (P.cl H) (Or.inl w1) via P.2.2.1 F E (wl.imp id fun z => ⟨z.1, z.2.1, H.2.2.2.2.2.1.trans z.2.2⟩) wi hty hn hf' (g := mkF C.m pc L (v :: .ref a :: S)) rfl rfl (H.dec hd)) fun h' W K => kk h' W K (E.wr W) (F.same W)
theorem r_putn (H : Stn C Z own by_ mL rt nm q) (pc' : Nat) {idx kk0 : Nat} {R0 O fn d CC : String} {ty : FieldType} {a : Addr} {v old : Value} (v' : Value) (hd : decode by_ pc = .ok (.putfield idx, 3)) (w1 : (Cond.fieldLink own idx R0 fn d).before a0 Z = true) (F : Fld Z h a O fn d old) (E : Exa Z h a CC) (wl : (Cond.lays CC O fn d).before a0 Z = true ∨ ((Cond.laysFinal CC O fn d).before a0 Z = true ∧ own = O ∧ nm = "<init>")) (wi : (Cond.instantiable CC kk0).before a0 Z = true) (hb : b ≤ a) (kk : ∀ h', Wr h h' a (Jvm.RoadKit.slotOf Z O fn d) v' → Keep h h' [a] → Exa Z h' a CC → Fld Z h' a O fn d v' → Run C Z R w To f Q b Ts Li h' k n pc' L S) (via : Via Z R0 O fn d := by exact Via.refl) (hty : parseFieldDescriptor d = some ty := by decide) (hn : narrow ty v = v' := by exact rfl) (hf' : fits ty v' = true := by decide) (hp : pc' = pc + 3 := by exact rfl) : Run C Z R w To f Q b Ts Li h k n pc L (v :: .ref a :: S) := by
  subst hp
  exact Run.write hb (fun T vm0 locs P => putFN P.1 H.1 P.2.1 (P.cl H) w1 via P.2.2.1 F E (wl.imp id fun z => ⟨z.1, z.2.1, H.2.2.2.2.2.1.trans z.2.2⟩) wi hty hn hf' (g := mkF C.m pc L (v :: .ref a :: S)) rfl rfl (H.dec hd)) fun h' W K => kk h' W K (E.wr W) (F.same W)
theorem Run.make {pc' k' n' : Nat} {L' : Array Slot} {S' : List Value} {P' : Heap → Prop} (hkk : k ≤ k') (g : ∀ T vm0 locs, Pos C Z R w b Ts Li h k n T vm0 locs → ∃ T' h', Stand C.p C.l C.e R (C.s.setVm vm0) C.m C.a C.bl C.mt C.c T' locs k' n' ∧ T'.heap = h' ∧ Ext h h' ∧ P' h' ∧ ∀ t, Steps C.p.tables C.e C.bl (T'.setTop (mkF C.m pc' L' S')) t → Steps C.p.tables C.e C.bl (T.setTop (mkF C.m pc L S)) t)
    (kk : ∀ h', Ext h h' → P' h' → Run C Z R w To f Q b Ts Li h' k' n' pc' L' S') : Run C Z R w To f Q b Ts Li h k n pc L S := fun T vm0 locs P => by
  obtain ⟨T', h', X', e', E, hP, st⟩ := g T vm0 locs P
  obtain ⟨X, hZ, eT, hS, hI, hw, N, hz, hE, hq, hL⟩ := P
  obtain ⟨s₂, o, h1, r'⟩ := kk h' E hP T' vm0 locs ⟨X', hZ, e', since_same hS E.1, hI, hw, N, hz, ⟨Nat.le_trans hE.1 E.1, fun x c r => E.2 x c (hE.2 x c r)⟩, Nat.le_trans hq E.1, hL⟩
  exact ⟨s₂, o, st _ h1, r'⟩
theorem Keep.of_ext {h h' : Heap} (E : Ext h h') : Keep h h' [] := (Keep.refl h []).ext E
theorem r_new (H : Stn C Z own by_ mL rt nm q) (pc' : Nat) {idx ns : Nat} {CC : String} (hd : decode by_ pc = .ok (.new idx, 3)) (w1 : (Cond.classLink own idx CC).before a0 Z = true) (wi : (Cond.instantiable CC ns).before a0 Z = true) (wz : (Cond.initialized CC).before a0 Z = true) (kk : ∀ h' a, a = h.size → a < h'.size → Keep h h' [] → Exa Z h' a CC → (∀ {O nm d : String} {ty : FieldType}, Laid Z a0 CC O nm d → parseFieldDescriptor d = some ty → Fld Z h' a O nm d (defaultValue ty)) → Run C Z R w To f Q b Ts Li h' (k + 1) (n + ns) pc' L (.ref a :: S)) (hc : k + 1 ≤ R.cells := by decide) (hl : n + ns ≤ R.slots := by decide) (hp : pc' = pc + 3 := by exact rfl) : Run C Z R w To f Q b Ts Li h k n pc L S := by
  subst hp
  refine Run.make (P' := fun h' => Exa Z h' h.size CC ∧ (∀ {O nm d : String} {ty : FieldType}, Laid Z a0 CC O nm d → parseFieldDescriptor d = some ty → Fld Z h' h.size O nm d (defaultValue ty))) (Nat.le_succ k) (fun T vm0 locs P => ?_) fun h' E hP => kk h' _ rfl hP.1.lt (Keep.of_ext E) hP.1 hP.2
  obtain ⟨T', h', X', e', E, A, D, -, st⟩ := newO P.1 H.1 P.2.1 (P.cl H) w1 wi wz P.2.2.1 (g := mkF C.m pc L S) rfl (H.dec hd) hc hl
  exact ⟨T', h', X', e', E, ⟨A, D⟩, st⟩
theorem r_newP (H : Stn C Z own by_ mL rt nm q) (pc' : Nat) {aty : ArrayType} {z : Int32} (ad : String) (cap : Nat) (hd : decode by_ pc = .ok (.newarray aty, 2)) (w1 : (Cond.arrayClass (newarray.typeOf aty)).before a0 Z = true) (kk : ∀ h' a kc, a = h.size → a < h'.size → Keep h h' [] → Exa Z h' a ad → Ar Z h' a kc (newarray.typeOf aty) (List.replicate z.toNatClampNeg (defaultValue (newarray.typeOf aty))) → Run C Z R w To f Q b Ts Li h' (k + 1) (n + cap) pc' L (.ref a :: S)) (had : "[" ++ (newarray.typeOf aty).toString = ad := by exact rfl) (hn : ¬ z < 0 := by decide) (hcap : z.toNatClampNeg ≤ cap := by decide) (hb : cap * 8 ≤ 536870912 := by decide) (hc : k + 1 ≤ R.cells := by decide) (hl : n + cap ≤ R.slots := by decide) (hp : pc' = pc + 2 := by exact rfl) : Run C Z R w To f Q b Ts Li h k n pc L (.int z :: S) := by
  subst hp
  refine Run.make (P' := fun h' => ∃ kc, Exa Z h' h.size ad ∧ Ar Z h' h.size kc (newarray.typeOf aty) (List.replicate z.toNatClampNeg (defaultValue (newarray.typeOf aty)))) (Nat.le_succ k) (fun T vm0 locs P => ?_) fun h' E hP => by obtain ⟨kc, h1, h2⟩ := hP; exact kk h' _ kc rfl h2.lt (Keep.of_ext E) h1 h2
  obtain ⟨T', h', cA, X', e', E, A, A2, st⟩ := newPE P.1 H.1 P.2.1 w1 P.2.2.1 (g := mkF C.m pc L (.int z :: S)) rfl (H.dec hd) rfl hn hcap hb hc hl had
  exact ⟨T', h', X', e', E, ⟨cA, A2, Ar.new A hn⟩, st⟩
section Contract
variable {y : MethodName} {yb : ByteArray} {ymL : Nat} {yrt : Option FieldType} {Ry : Room} {Ti To' : List String} {f' : Nat} {as : Array Value} {Qy Qy' : Option Value → Heap → Prop} {ws : List Jvm.Cond}
theorem Con.mono (hc : Con w ws Z y yb ymL yrt Ry Ti To' f' as h Qy) (hq : ∀ v h', Qy v h' → Qy' v h') : Con w ws Z y yb ymL yrt Ry Ti To' f' as h Qy' := by
  intro l p e ha hca hk s m args below hf happ hP hK
  obtain ⟨n, o, h1, h2, h3, v, L, e1, hQ, hE⟩ := hc l p e ha hca hk s m args below hf happ hP hK
  exact ⟨n, o, h1, h2, h3, v, L, e1, ⟨hq _ _ hQ.1, hQ.2⟩, hE⟩
theorem con_of (bb : Nat) (L0 : Array Slot) (hpl : plainFor y = true) (hef : ∀ m, entryFrame m as ymL = mkF m 0 L0 []) (hz : Z.heap.size ≤ bb)
    (body : ∀ C : Cx, Stn C Z y.cls yb ymL yrt y.name h.size → Ext Z.heap h → Run C Z Ry w To' f' Qy bb Ti [] h 0 0 0 L0 []) : Con w ws Z y yb ymL yrt Ry Ti To' f' as h Qy := by
  intro l
  refine MetFree.of_bodySF hpl hisR ?_
  intro p e s m args below meth c s₁ Bd hml0 hP hK
  obtain ⟨rfl, hZ, hh, hI, hE⟩ := hP
  have X0 : Stand p l e Ry s m args below meth c s₁ [] 0 0 := Stand.of_body Bd
  have e0 : s₁.heap = h := by rw [← hh, Bd.state]; rfl
  have H : Stn (p, l, e, s, m, args, below, meth, c) Z y.cls yb ymL yrt y.name h.size := ⟨Bd.exec, Bd.bytes, hml0, Bd.returns, Bd.notSynchronized, (name_of_methodNamed Bd.named Bd.method).1, (by show s.heap.size = _; rw [hh]), (by show Ext Z.heap s.heap; rw [hh]; exact hE), findClass_of_methodNamed Bd.named⟩
  obtain ⟨s₂, o, h1, h2, h3, r⟩ := body (p, l, e, s, m, args, below, meth, c) H hE s₁ s.vm [] ⟨X0, hZ, e0, (State.WarmedH.refl s).since _, hI, fun _ => rfl, Fr.nil _, hz, hE, Nat.le_of_eq (by show s.heap.size = _; rw [hh]), fun _ q => by cases q⟩
  exact ⟨s₂, o, castTop (hef m) h1, h2, h3, r⟩
theorem Con.back {p : Program} {l : Launch} {e : Env} {R : Room} {below : List Frame} {s : State} {args : Array Value} {len W : Nat} (hc : Con false [] Z y yb ymL yrt Ry Ti To' f' as h Qy) (hZ : Z.Warmed39 s.vm) (hI : IB Z s.vm Ti) (hE : Ext Z.heap h)
    (wc : (Cond.code y yb ymL yrt).before a0 Z = true) (wz : (Cond.initialized y.cls).before a0 Z = true) (hf : Ry.frames + 1 ≤ R.frames) (hl : W + (ymL + 11) + Ry.locals ≤ R.locals) :
    Back l R p e below s args y len W (fun A a => a = as ∧ A.U.heap = h ∧ A.cells + Ry.cells ≤ R.cells ∧ A.slots + Ry.slots ≤ R.slots)
      (fun A _ v B => ∃ L, (Qy v B.U.heap ∧ Fr f' L ∧ Ext Z.heap B.U.heap ∧ IB Z B.U.vm To') ∧ B.locs = A.locs ++ L ∧ B.cells = A.cells + Ry.cells ∧ B.slots = A.slots + Ry.slots) :=
  Back.of_free (bytes := yb) (maxL := ymL) (ret := yrt) (E := fun _ _ o t L k n => k = Ry.cells ∧ n = Ry.slots ∧ ∃ v, o = .returned v ∧ (Qy v t.heap ∧ Fr f' L ∧ Ext Z.heap t.heap ∧ IB Z t.vm To')) (hc l) hf hl
    (fun m meth c A a Y hp => have hU : Z.Warmed39 A.U.vm := wtrans hZ Y.warmed
      ⟨by show (Cond.and _ .tt).before a A.U = true; rw [Cond.before_and, mv hU wc]; rfl, mv hU wc, mv hU wz, hp.2.2.1, hp.2.2.2⟩)
    (fun m meth c A a g mk Y hp => ⟨hp.1, wtrans hZ Y.warmed, hp.2.1, ib_same hI Y.warmed.interned_eq, hE⟩) (fun _ _ _ _ _ _ _ _ _ => trivial)
    (fun _ _ _ _ ⟨v, L, h1, h2, h3⟩ => ⟨L, _, _, h3, rfl, rfl, v, h1, h2⟩)
    (fun m meth c A a g mk v t L k n Y hp _ _ ⟨e1, e2, v', e3, e4⟩ => by cases e3; subst e1 e2; exact ⟨L, e4, rfl, rfl, rfl⟩)
theorem Con.backS {p : Program} {l : Launch} {e : Env} {R : Room} {below : List Frame} {s : State} {args : Array Value} {len W : Nat} (hc : Con true [] Z y yb ymL yrt Ry Ti To' f' as h Qy) (hZ : Z.Warmed39 s.vm) (hI : IB Z s.vm Ti) (hE : Ext Z.heap h)
    (wc : (Cond.code y yb ymL yrt).before a0 Z = true) (wz : (Cond.initialized y.cls).before a0 Z = true) (hf : Ry.frames + 1 ≤ R.frames) (hl : W + (ymL + 11) + Ry.locals ≤ R.locals) :
    BackS l R p e below s args y len W (fun A a => a = as ∧ A.U.heap = h ∧ A.cells + Ry.cells ≤ R.cells ∧ A.slots + Ry.slots ≤ R.slots)
      (fun A _ v B => ∃ L, (Qy v B.U.heap ∧ Fr f' L ∧ Ext Z.heap B.U.heap ∧ IB Z B.U.vm To') ∧ B.locs = A.locs ++ L ∧ B.cells = A.cells + Ry.cells ∧ B.slots = A.slots + Ry.slots) :=
  BackS.of_freeW (bytes := yb) (maxL := ymL) (ret := yrt) (E := fun _ _ o t L k n => k = Ry.cells ∧ n = Ry.slots ∧ ∃ v, o = .returned v ∧ (Qy v t.heap ∧ Fr f' L ∧ Ext Z.heap t.heap ∧ IB Z t.vm To')) (hc l) hf hl
    (fun m meth c A a Y hp => have hU : Z.Warmed39 A.U.vm := wtrans hZ Y.warmed
      ⟨by show (Cond.and _ .tt).before a A.U = true; rw [Cond.before_and, mv hU wc]; rfl, mv hU wc, mv hU wz, hp.2.2.1, hp.2.2.2⟩)
    (fun m meth c A a g mk Y hp => ⟨hp.1, wtrans hZ Y.warmed, hp.2.1, ib_same hI Y.warmed.interned_eq, hE⟩) (fun _ _ _ _ _ _ _ _ _ => trivial)
    (fun _ _ _ _ ⟨v, L, h1, h2, h3⟩ => ⟨L, _, _, h3, rfl, rfl, v, h1, h2⟩)
    (fun m meth c A a g mk v t L k n Y hp _ _ ⟨e1, e2, v', e3, e4⟩ => by cases e3; subst e1 e2; exact ⟨L, e4, rfl, rfl, rfl⟩)
theorem Pos.afterN {T : State} {vm0 : Vm} {locs : List Loc} {U : State} {ls : List Loc} {ce sl : Nat} {Lc : List Loc} (P : Pos C Z R false b Ts Li h k n T vm0 locs) (X' : Stand C.p C.l C.e R (C.s.setVm vm0) C.m C.a C.bl C.mt C.c U ls ce sl)
    (hF : Fr f' Lc) (hE' : Ext Z.heap U.heap) (hI' : IB Z U.vm To') (l1 : ls = locs ++ Lc) (c1 : ce = k + Ry.cells) (s1 : sl = n + Ry.slots) (hb : b ≤ f') : Pos C Z R false b To' Li U.heap (k + Ry.cells) (n + Ry.slots) U vm0 (locs ++ Lc) := by
  obtain ⟨X, hZ, eT, hS, hI, hw, N, hz, hE, hq, hL⟩ := P
  subst l1 c1 s1
  have e0 := hw rfl
  subst e0
  exact ⟨X', hZ, rfl, (State.WarmedH.refl C.s).since _, ib_same hI' X'.warmed.interned_eq.symm, fun _ => rfl, N.app (fr_low hF hb), hz, hE', X'.same.2.1, hL⟩
theorem Pos.afterS {T : State} {vm0 : Vm} {locs : List Loc} {U : State} {ls : List Loc} {ce sl : Nat} {Lc : List Loc} (P : Pos C Z R true b Ts Li h k n T vm0 locs) (X' : Stand C.p C.l C.e R ((C.s.setVm vm0).setVm U.vm) C.m C.a C.bl C.mt C.c U ls ce sl)
    (hS' : (C.s.setVm vm0).Since U.vm U.heap.size) (hg : T.heap.size ≤ U.heap.size) (hF : Fr f' Lc) (hE' : Ext Z.heap U.heap) (hI' : IB Z U.vm To') (l1 : ls = locs ++ Lc) (c1 : ce = k + Ry.cells) (s1 : sl = n + Ry.slots) (hb : b ≤ f') : Pos C Z R true b To' Li U.heap (k + Ry.cells) (n + Ry.slots) U U.vm (locs ++ Lc) := by
  obtain ⟨X, hZ, eT, hS, hI, hw, N, hz, hE, hq, hL⟩ := P
  subst l1 c1 s1
  exact ⟨X', State.Warmed39.trans (t := C.s.setVm vm0) hZ hS'.1, rfl, hS.trans hS' (by rw [← eT]; exact hg), hI', fun e => (by cases e), N.app (fr_low hF hb), hz, hE', Nat.le_trans hq (by rw [← eT]; exact hg), fun x hx => (hL x hx).stays hS'.1⟩
end Contract
theorem r_static (H : Stn C Z own by_ mL rt nm q) (pc' : Nat) {idx : Nat} {y : MethodName} {yb : ByteArray} {ymL : Nat} {yrt : Option FieldType} {Ry : Room} {To' : List String} {f' : Nat} {Qy : Option Value → Heap → Prop} {argsL rest : List Value} {W : Nat} (hd : decode by_ pc = .ok (.invokestatic idx, 3)) (w1 : (Cond.methodLink own idx y).before a0 Z = true) (w2 : (Cond.static y).before a0 Z = true) (w3 : (Cond.initialized y.cls).before a0 Z = true) (w4 : (Cond.code y yb ymL yrt).before a0 Z = true) (hlen : ∀ sig, parseMethodDescriptor y.desc = some sig → argsL.length = sig.parameters.length) (hc : Con w [] Z y yb ymL yrt Ry Ts To' f' argsL.toArray h Qy) (kk : ∀ v h', Qy v h' → Run C Z R w To f Q b To' Li h' (k + Ry.cells) (n + Ry.slots) pc' L (v.toList ++ rest)) (hy : y.cls ≠ "java/lang/invoke/MethodHandle" ∧ y.cls ≠ "java/lang/invoke/VarHandle" := by decide) (hs : S = argsL.reverse ++ rest := by exact rfl) (hW : (rest.map fun v => v.category).sum ≤ W := by exact Nat.le_of_eq rfl) (hL : L.size = mL := by exact rfl) (hf : Ry.frames + 1 ≤ R.frames := by decide) (hl : W + (ymL + 11) + Ry.locals ≤ R.locals := by decide) (hk : k + Ry.cells ≤ R.cells := by decide) (hn : n + Ry.slots ≤ R.slots := by decide) (hb : b ≤ f' := by exact Nat.le_refl _) (hp : pc' = pc + 3 := by exact rfl) : Run C Z R w To f Q b Ts Li h k n pc L S := by
  subst hp hs
  intro T vm0 locs P
  cases w with
  | false =>
    obtain ⟨v, vm₁, ⟨U, ls, ce, sl⟩, -, X', ⟨Lc, ⟨hQ, hF, hE', hI'⟩, l1, c1, s1⟩, st⟩ := Jvm.LawKit.callS P.1 H.1 (P.cl H) (mvT (s := C.s.setVm vm0) P.2.1 w1) (mvT (s := C.s.setVm vm0) P.2.1 w2) (mvT (s := C.s.setVm vm0) P.2.1 w3) (mvT (s := C.s.setVm vm0) P.2.1 w4) hy (hc.back P.2.1 P.2.2.2.2.1 P.2.2.2.2.2.2.2.2.1 w4 w3 hf hl) (g := mkF C.m pc L (argsL.reverse ++ rest)) rfl (by rw [H.2.2.1]; exact hL) hlen rfl (by show 2 * 0 + _ ≤ _; omega) (H.dec hd) (fun _ _ => ⟨rfl, P.2.2.1, hk, hn⟩)
    obtain ⟨s₂, o, h1, r⟩ := kk v U.heap hQ U vm0 _ (P.afterN X' hF hE' hI' l1 c1 s1 hb)
    exact ⟨s₂, o, st _ h1, r⟩
  | true =>
    obtain ⟨v, vm₁, ⟨U, ls, ce, sl⟩, -, X', hS', hg, ⟨Lc, ⟨hQ, hF, hE', hI'⟩, l1, c1, s1⟩, st⟩ := callSS P.1 H.1 (P.cl H) (mvT (s := C.s.setVm vm0) P.2.1 w1) (mvT (s := C.s.setVm vm0) P.2.1 w2) (mvT (s := C.s.setVm vm0) P.2.1 w3) (mvT (s := C.s.setVm vm0) P.2.1 w4) hy (hc.backS P.2.1 P.2.2.2.2.1 P.2.2.2.2.2.2.2.2.1 w4 w3 hf hl) (g := mkF C.m pc L (argsL.reverse ++ rest)) rfl (by rw [H.2.2.1]; exact hL) hlen rfl (by show 2 * 0 + _ ≤ _; omega) (H.dec hd) (fun _ _ => ⟨rfl, P.2.2.1, hk, hn⟩)
    obtain ⟨s₂, o, h1, r⟩ := kk v U.heap hQ U U.vm _ (P.afterS X' hS' hg hF hE' hI' l1 c1 s1 hb)
    exact ⟨s₂, o, st.trans h1, r⟩
theorem r_special (H : Stn C Z own by_ mL rt nm q) (pc' : Nat) {idx : Nat} {y : MethodName} {yb : ByteArray} {ymL : Nat} {Ry : Room} {To' : List String} {f' : Nat} {Qy : Option Value → Heap → Prop} {a : Addr} {argsL rest : List Value} {W : Nat} (hd : decode by_ pc = .ok (.invokespecial idx, 3)) (w1 : (Cond.methodLink own idx y).before a0 Z = true) (w2 : (Cond.instanceMethod y).before a0 Z = true) (w3 : (Cond.initialized y.cls).before a0 Z = true) (w4 : (Cond.code y yb ymL none).before a0 Z = true) (hlen : ∀ sig, parseMethodDescriptor y.desc = some sig → argsL.length = sig.parameters.length) (hc : Con w [] Z y yb ymL none Ry Ts To' f' (.ref a :: argsL).toArray h Qy) (kk : ∀ v h', Qy v h' → Run C Z R w To f Q b To' Li h' (k + Ry.cells) (n + Ry.slots) pc' L (v.toList ++ rest)) (hy : y.cls ≠ "java/lang/invoke/MethodHandle" ∧ y.cls ≠ "java/lang/invoke/VarHandle" := by decide) (hy1 : y.name = "<init>" := by exact rfl) (hs : S = argsL.reverse ++ .ref a :: rest := by exact rfl) (hW : (rest.map fun v => v.category).sum ≤ W := by exact Nat.le_of_eq rfl) (hL : L.size = mL := by exact rfl) (hf : Ry.frames + 1 ≤ R.frames := by decide) (hl : W + (ymL + 11) + Ry.locals ≤ R.locals := by decide) (hk : k + Ry.cells ≤ R.cells := by decide) (hn : n + Ry.slots ≤ R.slots := by decide) (hb : b ≤ f' := by exact Nat.le_refl _) (hp : pc' = pc + 3 := by exact rfl) : Run C Z R w To f Q b Ts Li h k n pc L S := by
  subst hp hs
  intro T vm0 locs P
  cases w with
  | false =>
    obtain ⟨v, vm₁, ⟨U, ls, ce, sl⟩, -, X', ⟨Lc, ⟨hQ, hF, hE', hI'⟩, l1, c1, s1⟩, st⟩ := P.1.specialBack H.1 hy1 (P.cl H) (mvT (s := C.s.setVm vm0) P.2.1 w1) (mvT (s := C.s.setVm vm0) P.2.1 w2) (mvT (s := C.s.setVm vm0) P.2.1 w4) hy (hc.back P.2.1 P.2.2.2.2.1 P.2.2.2.2.2.2.2.2.1 w4 w3 hf hl) (g := mkF C.m pc L (argsL.reverse ++ .ref a :: rest)) rfl (by rw [H.2.2.1]; exact hL) (Steps.refl _) (a := a) hlen rfl (by show 2 * 0 + _ ≤ _; omega) (H.dec hd) (fun _ _ => ⟨rfl, P.2.2.1, hk, hn⟩)
    obtain ⟨s₂, o, h1, r⟩ := kk v U.heap hQ U vm0 _ (P.afterN X' hF hE' hI' l1 c1 s1 hb)
    exact ⟨s₂, o, st.trans h1, r⟩
  | true =>
    obtain ⟨v, vm₁, ⟨U, ls, ce, sl⟩, -, X', hS', hg, ⟨Lc, ⟨hQ, hF, hE', hI'⟩, l1, c1, s1⟩, st⟩ := P.1.specialBackS H.1 hy1 (P.cl H) (mvT (s := C.s.setVm vm0) P.2.1 w1) (mvT (s := C.s.setVm vm0) P.2.1 w2) (mvT (s := C.s.setVm vm0) P.2.1 w4) hy (hc.backS P.2.1 P.2.2.2.2.1 P.2.2.2.2.2.2.2.2.1 w4 w3 hf hl) (g := mkF C.m pc L (argsL.reverse ++ .ref a :: rest)) rfl (by rw [H.2.2.1]; exact hL) (Steps.refl _) (a := a) hlen rfl (by show 2 * 0 + _ ≤ _; omega) (H.dec hd) (fun _ _ => ⟨rfl, P.2.2.1, hk, hn⟩)
    obtain ⟨s₂, o, h1, r⟩ := kk v U.heap hQ U U.vm _ (P.afterS X' hS' hg hF hE' hI' l1 c1 s1 hb)
    exact ⟨s₂, o, st.trans h1, r⟩
theorem r_virtual (H : Stn C Z own by_ mL rt nm q) (pc' : Nat) {idx : Nat} {y : MethodName} {yb : ByteArray} {ymL : Nat} {yrt : Option FieldType} {Ry : Room} {To' : List String} {f' : Nat} {Qy : Option Value → Heap → Prop} {z : MethodName} {CC : String} {a : Addr} {argsL rest : List Value} {W : Nat} (hd : decode by_ pc = .ok (.invokevirtual idx, 3)) (w1 : (Cond.methodLink own idx y).before a0 Z = true) (wd : (Cond.declares y).before a0 Z = true) (hnf : ∀ vm0, Z.Warmed39 vm0 → NotFace (C.s.setVm vm0) y) (w2 : (Cond.selects CC y z).before a0 Z = true) (w5 : (Cond.instanceMethod z).before a0 Z = true) (w3 : (Cond.initialized z.cls).before a0 Z = true) (w4 : (Cond.code z yb ymL yrt).before a0 Z = true) (E : Exa Z h a CC) (hlen : ∀ sig, parseMethodDescriptor y.desc = some sig → argsL.length = sig.parameters.length) (hc : Con w [] Z z yb ymL yrt Ry Ts To' f' (.ref a :: argsL).toArray h Qy) (kk : ∀ v h', Qy v h' → Run C Z R w To f Q b To' Li h' (k + Ry.cells) (n + Ry.slots) pc' L (v.toList ++ rest)) (hy : y.cls ≠ "java/lang/invoke/MethodHandle" ∧ y.cls ≠ "java/lang/invoke/VarHandle" := by decide) (hs : S = argsL.reverse ++ .ref a :: rest := by exact rfl) (hW : (rest.map fun v => v.category).sum ≤ W := by exact Nat.le_of_eq rfl) (hL : L.size = mL := by exact rfl) (hf : Ry.frames + 1 ≤ R.frames := by decide) (hl : W + (ymL + 11) + Ry.locals ≤ R.locals := by decide) (hk : k + Ry.cells ≤ R.cells := by decide) (hn : n + Ry.slots ≤ R.slots := by decide) (hb : b ≤ f' := by exact Nat.le_refl _) (hp : pc' = pc + 3 := by exact rfl) : Run C Z R w To f Q b Ts Li h k n pc L S := by
  subst hp hs
  intro T vm0 locs P
  obtain ⟨cB, kB, q1, q2, q3⟩ := isOf (T := T) (s := C.s.setVm vm0) P.2.1 P.2.2.1 E
  cases w with
  | false =>
    obtain ⟨v, vm₁, ⟨U, ls, ce, sl⟩, -, X', ⟨Lc, ⟨hQ, hF, hE', hI'⟩, l1, c1, s1⟩, st⟩ := P.1.virtualBack H.1 (P.cl H) (mvT (s := C.s.setVm vm0) P.2.1 w1) (mvT (s := C.s.setVm vm0) P.2.1 wd) (hnf vm0 P.2.1) (mvT (s := C.s.setVm vm0) P.2.1 w2) (mvT (s := C.s.setVm vm0) P.2.1 w5) hy (hc.back P.2.1 P.2.2.2.2.1 P.2.2.2.2.2.2.2.2.1 w4 w3 hf hl) q1 q3 (g := mkF C.m pc L (argsL.reverse ++ .ref a :: rest)) rfl (by rw [H.2.2.1]; exact hL) (Steps.refl _) hlen rfl (by show 2 * 0 + _ ≤ _; omega) (H.dec hd) (fun _ _ => ⟨rfl, P.2.2.1, hk, hn⟩)
    obtain ⟨s₂, o, h1, r⟩ := kk v U.heap hQ U vm0 _ (P.afterN X' hF hE' hI' l1 c1 s1 hb)
    exact ⟨s₂, o, st.trans h1, r⟩
  | true =>
    obtain ⟨v, vm₁, ⟨U, ls, ce, sl⟩, -, X', hS', hg, ⟨Lc, ⟨hQ, hF, hE', hI'⟩, l1, c1, s1⟩, st⟩ := P.1.virtualBackS H.1 (P.cl H) (mvT (s := C.s.setVm vm0) P.2.1 w1) (mvT (s := C.s.setVm vm0) P.2.1 wd) (hnf vm0 P.2.1) (mvT (s := C.s.setVm vm0) P.2.1 w2) (mvT (s := C.s.setVm vm0) P.2.1 w5) hy (hc.backS P.2.1 P.2.2.2.2.1 P.2.2.2.2.2.2.2.2.1 w4 w3 hf hl) q1 q3 (g := mkF C.m pc L (argsL.reverse ++ .ref a :: rest)) rfl (by rw [H.2.2.1]; exact hL) (Steps.refl _) hlen rfl (by show 2 * 0 + _ ≤ _; omega) (H.dec hd) (fun _ _ => ⟨rfl, P.2.2.1, hk, hn⟩)
    obtain ⟨s₂, o, h1, r⟩ := kk v U.heap hQ U U.vm _ (P.afterS X' hS' hg hF hE' hI' l1 c1 s1 hb)
    exact ⟨s₂, o, st.trans h1, r⟩
theorem nf_sel {vmS : State} {CC : String} {y : MethodName} (w2 : (Cond.selects CC y y).before a0 Z = true) : ∀ vm0, Z.Warmed39 vm0 → NotFace (vmS.setVm vm0) y := fun vm0 hZ => notFace_of_selects (args := #[]) (mvT (s := vmS.setVm vm0) hZ w2)

theorem Run.join {P : Int32 → Prop} {pcB : Nat} {LB : Int32 → Array Slot} {SB : Int32 → List Value} (k2 : (∀ z, P z → Run C Z R w To f Q b Ts Li h k n pcB (LB z) (SB z)) → Run C Z R w To f Q b Ts Li h k n pc L S)
    (k1 : ∀ z, P z → Run C Z R w To f Q b Ts Li h k n pcB (LB z) (SB z)) : Run C Z R w To f Q b Ts Li h k n pc L S := k2 k1
end Walk
theorem ushr_eq (x y : Int32) (k : Nat) (hk : y.toBitVec.toNat % 32 = k) (h0 : 0 < k) : (ush32 x y).toInt = (x.toInt % 4294967296) / (2 ^ k : Nat) := c_iushr x y k hk h0
theorem i2c_id {x : Int32} (h : 0 ≤ x.toInt ∧ x.toInt ≤ 65535) : x.toUInt32.toUInt16.toUInt32.toInt32 = x := by
  apply Int32.toInt_inj.mp; have := c_i2c x; omega
theorem i2b_id {x : Int32} (h : -128 ≤ x.toInt ∧ x.toInt ≤ 127) : x.toInt8.toInt32 = x := by
  apply Int32.toInt_inj.mp; have := c_i2b x; omega
theorem and1_id {x : Int32} (h : 0 ≤ x.toInt ∧ x.toInt ≤ 1) : x &&& 1 = x := by
  apply Int32.toInt_inj.mp; have h1 := c_mask x 1 1 (by decide) (by decide); rw [h1]; omega
theorem nar_char_id {x : Int32} (h : 0 ≤ x.toInt ∧ x.toInt ≤ 65535) : nar .char x = x := i2c_id h
theorem nar_byte_id {x : Int32} (h : -128 ≤ x.toInt ∧ x.toInt ≤ 127) : nar .byte x = x := i2b_id h
theorem nar_bool_id {x : Int32} (h : 0 ≤ x.toInt ∧ x.toInt ≤ 1) : nar .boolean x = x := and1_id h
abbrev cL8 (c : Int32) : Int32 := (c >>> ((0 : Int32) &&& 31)).toInt8.toInt32
abbrev cH8 (c : Int32) : Int32 := (c >>> ((8 : Int32) &&& 31)).toInt8.toInt32
abbrev cB8 (c : Int32) : Int32 := c.toInt8.toInt32
theorem iinc_neg {x y c : Int32} {k : Int} (hk : Int32.ofInt k = c) (h : x + c = y) : x + Int32.ofInt k = y := by rw [hk]; exact h
theorem lit_rng {y : Int32} {k : Int} (h : y.toInt = k) : k ≤ y.toInt ∧ y.toInt ≤ k := by omega
theorem iadd_rng {x y : Int32} {a b c d lo hi : Int} (hx : a ≤ x.toInt ∧ x.toInt ≤ b) (hy : c ≤ y.toInt ∧ y.toInt ≤ d) (h : lo = a + c ∧ hi = b + d ∧ -2147483648 ≤ lo ∧ hi ≤ 2147483647) : lo ≤ (x + y).toInt ∧ (x + y).toInt ≤ hi := by
  have h1 := c_iadd x y; have h2 := rng32 (x + y); omega
theorem isub_rng {x y : Int32} {a b c d lo hi : Int} (hx : a ≤ x.toInt ∧ x.toInt ≤ b) (hy : c ≤ y.toInt ∧ y.toInt ≤ d) (h : lo = a - d ∧ hi = b - c ∧ -2147483648 ≤ lo ∧ hi ≤ 2147483647) : lo ≤ (x - y).toInt ∧ (x - y).toInt ≤ hi := by
  have h1 := c_isub x y; have h2 := rng32 (x - y); omega

abbrev vI (x : Int32) : Slot := .val (.int x)
abbrev vR (x : Addr) : Slot := .val (.ref x)
theorem nlr {n : Nat} : n ≤ n := Nat.le_refl n
theorem nlt {a b c : Nat} (h : a ≤ b) (g : b ≤ c) : a ≤ c := Nat.le_trans h g
theorem nlq {a b : Nat} (h : a = b) : a ≤ b := Nat.le_of_eq h
theorem own_u16 (c : Int32) (h : 0 ≤ c.toInt ∧ c.toInt ≤ 65535) : (((((((c >>> ((0 : Int32) &&& 31)).toInt8.toInt32) &&& (255 : Int32)) <<< ((0 : Int32) &&& 31)) ||| (((((c >>> ((8 : Int32) &&& 31)).toInt8.toInt32) &&& (255 : Int32)) <<< ((8 : Int32) &&& 31))))).toUInt32.toUInt16.toUInt32.toInt32) = c := by
  have s0 := c_ishr c 0 0 (by decide)
  have s8 := c_ishr c 8 8 (by decide)
  generalize (c >>> ((0 : Int32) &&& 31)) = a at *
  generalize (c >>> ((8 : Int32) &&& 31)) = b at *
  have b0 := c_i2b a
  have b8 := c_i2b b
  generalize a.toInt8.toInt32 = a' at *
  generalize b.toInt8.toInt32 = b' at *
  have m0 := c_mask a' 255 8 (by decide) (by decide)
  have m8 := c_mask b' 255 8 (by decide) (by decide)
  generalize (a' &&& (255 : Int32)) = p at *
  generalize (b' &&& (255 : Int32)) = r at *
  have l0 := c_ishl p 0 0 (by decide)
  have l8 := c_ishl r 8 8 (by decide)
  have q0 := rng32 (p <<< ((0 : Int32) &&& 31))
  have q8 := rng32 (r <<< ((8 : Int32) &&& 31))
  generalize (p <<< ((0 : Int32) &&& 31)) = x at *
  generalize (r <<< ((8 : Int32) &&& 31)) = y at *
  have o := c_or' x y 8 (by decide) 256 (by decide) (by omega) (by omega) (by omega)
  have qo := rng32 (x ||| y)
  have i := c_i2c (x ||| y)
  apply Int32.toInt_inj.mp
  omega
abbrev HW (a0 : Array Value) (Z : State) : Prop := ∀ d ∈ tables_1, d.before a0 Z = true
abbrev G_S__assertionsDisabled (Z : State) : Prop := Sta Z Z.heap "java/lang/StringUTF16" "$assertionsDisabled" "Z" (.int (1 : Int32))
abbrev G_S_HI_BYTE_SHIFT (Z : State) : Prop := Sta Z Z.heap "java/lang/StringUTF16" "HI_BYTE_SHIFT" "I" (.int (0 : Int32))
abbrev G_S_LO_BYTE_SHIFT (Z : State) : Prop := Sta Z Z.heap "java/lang/StringUTF16" "LO_BYTE_SHIFT" "I" (.int (8 : Int32))
abbrev G_S_cs (Z : State) (cs : Int32) : Prop := Sta Z Z.heap "java/lang/String" "COMPACT_STRINGS" "Z" (.int cs)
theorem tw0 {Z : State} {a0 : Array Value} (hw : HW a0 Z) : ((Jvm.Cond.arrayClass Jvm.ClassFile.FieldType.char)).before a0 Z = true := hw _ (List.mem_of_getElem? (i := 0) rfl)
theorem tw1 {Z : State} {a0 : Array Value} (hw : HW a0 Z) : ((Jvm.Cond.methodLink "com/example/indentree/indentree/reader/CodePointsOffsetPinLaw" (12 : Nat) ({ cls := "com/example/indentree/indentree/reader/CodePointsOffsetPinLaw", name := "mk", desc := "(I)C" } : Jvm.MethodName))).before a0 Z = true := hw _ (List.mem_of_getElem? (i := 1) rfl)
theorem tw2 {Z : State} {a0 : Array Value} (hw : HW a0 Z) : ((Jvm.Cond.static ({ cls := "com/example/indentree/indentree/reader/CodePointsOffsetPinLaw", name := "mk", desc := "(I)C" } : Jvm.MethodName))).before a0 Z = true := hw _ (List.mem_of_getElem? (i := 2) rfl)
theorem tw3 {Z : State} {a0 : Array Value} (hw : HW a0 Z) : ((Jvm.Cond.initialized "com/example/indentree/indentree/reader/CodePointsOffsetPinLaw")).before a0 Z = true := hw _ (List.mem_of_getElem? (i := 3) rfl)
theorem tw4 {Z : State} {a0 : Array Value} (hw : HW a0 Z) : ((Jvm.Cond.code ({ cls := "com/example/indentree/indentree/reader/CodePointsOffsetPinLaw", name := "mk", desc := "(I)C" } : Jvm.MethodName) method_2_code (3 : Nat) (Option.some Jvm.ClassFile.FieldType.char))).before a0 Z = true := hw _ (List.mem_of_getElem? (i := 4) rfl)
theorem tw5 {Z : State} {a0 : Array Value} (hw : HW a0 Z) : ((Jvm.Cond.constant "com/example/indentree/indentree/reader/CodePointsOffsetPinLaw" (9 : Nat) (65535 : Int32))).before a0 Z = true := hw _ (List.mem_of_getElem? (i := 5) rfl)
theorem tw6 {Z : State} {a0 : Array Value} (hw : HW a0 Z) : ((Jvm.Cond.constant "com/example/indentree/indentree/reader/CodePointsOffsetPinLaw" (8 : Nat) (56320 : Int32))).before a0 Z = true := hw _ (List.mem_of_getElem? (i := 6) rfl)
theorem tw7 {Z : State} {a0 : Array Value} (hw : HW a0 Z) : ((Jvm.Cond.constant "com/example/indentree/indentree/reader/CodePointsOffsetPinLaw" (7 : Nat) (55296 : Int32))).before a0 Z = true := hw _ (List.mem_of_getElem? (i := 7) rfl)
theorem tw8 {Z : State} {a0 : Array Value} (hw : HW a0 Z) : ((Jvm.Cond.arrayClass Jvm.ClassFile.FieldType.boolean)).before a0 Z = true := hw _ (List.mem_of_getElem? (i := 8) rfl)
theorem tw9 {Z : State} {a0 : Array Value} (hw : HW a0 Z) : ((Jvm.Cond.methodLink "com/example/indentree/indentree/reader/CodePointsOffsetPinLaw" (18 : Nat) ({ cls := "com/example/indentree/indentree/reader/CodePointsOffsetPinLaw", name := "pair", desc := "(CC)Z" } : Jvm.MethodName))).before a0 Z = true := hw _ (List.mem_of_getElem? (i := 9) rfl)
theorem tw10 {Z : State} {a0 : Array Value} (hw : HW a0 Z) : ((Jvm.Cond.static ({ cls := "com/example/indentree/indentree/reader/CodePointsOffsetPinLaw", name := "pair", desc := "(CC)Z" } : Jvm.MethodName))).before a0 Z = true := hw _ (List.mem_of_getElem? (i := 10) rfl)
theorem tw11 {Z : State} {a0 : Array Value} (hw : HW a0 Z) : ((Jvm.Cond.code ({ cls := "com/example/indentree/indentree/reader/CodePointsOffsetPinLaw", name := "pair", desc := "(CC)Z" } : Jvm.MethodName) method_3_code (2 : Nat) (Option.some Jvm.ClassFile.FieldType.boolean))).before a0 Z = true := hw _ (List.mem_of_getElem? (i := 11) rfl)
theorem tw12 {Z : State} {a0 : Array Value} (hw : HW a0 Z) : ((Jvm.Cond.constant "com/example/indentree/indentree/reader/CodePointsOffsetPinLaw" (10 : Nat) (56319 : Int32))).before a0 Z = true := hw _ (List.mem_of_getElem? (i := 12) rfl)
theorem tw13 {Z : State} {a0 : Array Value} (hw : HW a0 Z) : ((Jvm.Cond.constant "com/example/indentree/indentree/reader/CodePointsOffsetPinLaw" (22 : Nat) (2147483647 : Int32))).before a0 Z = true := hw _ (List.mem_of_getElem? (i := 13) rfl)
theorem tw14 {Z : State} {a0 : Array Value} (hw : HW a0 Z) : ((Jvm.Cond.methodLink "com/example/indentree/indentree/reader/CodePointsOffsetPinLaw" (23 : Nat) ({ cls := "com/example/indentree/indentree/reader/CodePointsOffsetPinLaw", name := "snap", desc := "(I[Z)I" } : Jvm.MethodName))).before a0 Z = true := hw _ (List.mem_of_getElem? (i := 14) rfl)
theorem tw15 {Z : State} {a0 : Array Value} (hw : HW a0 Z) : ((Jvm.Cond.static ({ cls := "com/example/indentree/indentree/reader/CodePointsOffsetPinLaw", name := "snap", desc := "(I[Z)I" } : Jvm.MethodName))).before a0 Z = true := hw _ (List.mem_of_getElem? (i := 15) rfl)
theorem tw16 {Z : State} {a0 : Array Value} (hw : HW a0 Z) : ((Jvm.Cond.code ({ cls := "com/example/indentree/indentree/reader/CodePointsOffsetPinLaw", name := "snap", desc := "(I[Z)I" } : Jvm.MethodName) method_4_code (2 : Nat) (Option.some Jvm.ClassFile.FieldType.int))).before a0 Z = true := hw _ (List.mem_of_getElem? (i := 16) rfl)
theorem tw17 {Z : State} {a0 : Array Value} (hw : HW a0 Z) : ((Jvm.Cond.classLink "com/example/indentree/indentree/reader/CodePointsOffsetPinLaw" (27 : Nat) "com/example/indentree/indentree/reader/CodePoints")).before a0 Z = true := hw _ (List.mem_of_getElem? (i := 17) rfl)
theorem tw18 {Z : State} {a0 : Array Value} (hw : HW a0 Z) : ((Jvm.Cond.instantiable "com/example/indentree/indentree/reader/CodePoints" (3 : Nat))).before a0 Z = true := hw _ (List.mem_of_getElem? (i := 18) rfl)
theorem tw19 {Z : State} {a0 : Array Value} (hw : HW a0 Z) : ((Jvm.Cond.initialized "com/example/indentree/indentree/reader/CodePoints")).before a0 Z = true := hw _ (List.mem_of_getElem? (i := 19) rfl)
theorem tw20 {Z : State} {a0 : Array Value} (hw : HW a0 Z) : ((Jvm.Cond.classLink "com/example/indentree/indentree/reader/CodePointsOffsetPinLaw" (29 : Nat) "java/lang/String")).before a0 Z = true := hw _ (List.mem_of_getElem? (i := 20) rfl)
theorem tw21 {Z : State} {a0 : Array Value} (hw : HW a0 Z) : ((Jvm.Cond.instantiable "java/lang/String" (4 : Nat))).before a0 Z = true := hw _ (List.mem_of_getElem? (i := 21) rfl)
theorem tw22 {Z : State} {a0 : Array Value} (hw : HW a0 Z) : ((Jvm.Cond.initialized "java/lang/String")).before a0 Z = true := hw _ (List.mem_of_getElem? (i := 22) rfl)
theorem tw23 {Z : State} {a0 : Array Value} (hw : HW a0 Z) : ((Jvm.Cond.methodLink "com/example/indentree/indentree/reader/CodePointsOffsetPinLaw" (31 : Nat) ({ cls := "java/lang/String", name := "<init>", desc := "([C)V" } : Jvm.MethodName))).before a0 Z = true := hw _ (List.mem_of_getElem? (i := 23) rfl)
theorem tw24 {Z : State} {a0 : Array Value} (hw : HW a0 Z) : ((Jvm.Cond.instanceMethod ({ cls := "java/lang/String", name := "<init>", desc := "([C)V" } : Jvm.MethodName))).before a0 Z = true := hw _ (List.mem_of_getElem? (i := 24) rfl)
theorem tw25 {Z : State} {a0 : Array Value} (hw : HW a0 Z) : ((Jvm.Cond.code ({ cls := "java/lang/String", name := "<init>", desc := "([C)V" } : Jvm.MethodName) jdk_42_method_3_code (2 : Nat) (Option.none : Option Jvm.ClassFile.FieldType))).before a0 Z = true := hw _ (List.mem_of_getElem? (i := 25) rfl)
theorem tw26 {Z : State} {a0 : Array Value} (hw : HW a0 Z) : ((Jvm.Cond.methodLink "java/lang/String" (27 : Nat) ({ cls := "java/lang/String", name := "<init>", desc := "([CIILjava/lang/Void;)V" } : Jvm.MethodName))).before a0 Z = true := hw _ (List.mem_of_getElem? (i := 26) rfl)
theorem tw27 {Z : State} {a0 : Array Value} (hw : HW a0 Z) : ((Jvm.Cond.instanceMethod ({ cls := "java/lang/String", name := "<init>", desc := "([CIILjava/lang/Void;)V" } : Jvm.MethodName))).before a0 Z = true := hw _ (List.mem_of_getElem? (i := 27) rfl)
theorem tw29 {Z : State} {a0 : Array Value} (hw : HW a0 Z) : ((Jvm.Cond.code ({ cls := "java/lang/String", name := "<init>", desc := "([CIILjava/lang/Void;)V" } : Jvm.MethodName) jdk_42_method_149_code (6 : Nat) (Option.none : Option Jvm.ClassFile.FieldType))).before a0 Z = true := hw _ (List.mem_of_getElem? (i := 29) rfl)
theorem tw30 {Z : State} {a0 : Array Value} (hw : HW a0 Z) : ((Jvm.Cond.methodLink "java/lang/String" (1 : Nat) ({ cls := "java/lang/Object", name := "<init>", desc := "()V" } : Jvm.MethodName))).before a0 Z = true := hw _ (List.mem_of_getElem? (i := 30) rfl)
theorem tw31 {Z : State} {a0 : Array Value} (hw : HW a0 Z) : ((Jvm.Cond.instanceMethod ({ cls := "java/lang/Object", name := "<init>", desc := "()V" } : Jvm.MethodName))).before a0 Z = true := hw _ (List.mem_of_getElem? (i := 31) rfl)
theorem tw32 {Z : State} {a0 : Array Value} (hw : HW a0 Z) : ((Jvm.Cond.code ({ cls := "java/lang/Object", name := "<init>", desc := "()V" } : Jvm.MethodName) object_method_1_code (1 : Nat) (Option.none : Option Jvm.ClassFile.FieldType))).before a0 Z = true := hw _ (List.mem_of_getElem? (i := 32) rfl)
theorem tw33 {Z : State} {a0 : Array Value} (hw : HW a0 Z) : ((Jvm.Cond.fieldLink "java/lang/String" (38 : Nat) "java/lang/String" "COMPACT_STRINGS" "Z")).before a0 Z = true := hw _ (List.mem_of_getElem? (i := 33) rfl)
theorem tw34 {Z : State} {a0 : Array Value} (hw : HW a0 Z) : ((Jvm.Cond.methodLink "java/lang/String" (177 : Nat) ({ cls := "java/lang/StringUTF16", name := "compress", desc := "([CII)[B" } : Jvm.MethodName))).before a0 Z = true := hw _ (List.mem_of_getElem? (i := 34) rfl)
theorem tw35 {Z : State} {a0 : Array Value} (hw : HW a0 Z) : ((Jvm.Cond.static ({ cls := "java/lang/StringUTF16", name := "compress", desc := "([CII)[B" } : Jvm.MethodName))).before a0 Z = true := hw _ (List.mem_of_getElem? (i := 35) rfl)
theorem tw36 {Z : State} {a0 : Array Value} (hw : HW a0 Z) : ((Jvm.Cond.initialized "java/lang/StringUTF16")).before a0 Z = true := hw _ (List.mem_of_getElem? (i := 36) rfl)
theorem tw37 {Z : State} {a0 : Array Value} (hw : HW a0 Z) : ((Jvm.Cond.code ({ cls := "java/lang/StringUTF16", name := "compress", desc := "([CII)[B" } : Jvm.MethodName) jdk_52_method_16_code (6 : Nat) (Option.some (Jvm.ClassFile.FieldType.array Jvm.ClassFile.FieldType.byte)))).before a0 Z = true := hw _ (List.mem_of_getElem? (i := 37) rfl)
theorem tw38 {Z : State} {a0 : Array Value} (hw : HW a0 Z) : ((Jvm.Cond.arrayClass Jvm.ClassFile.FieldType.byte)).before a0 Z = true := hw _ (List.mem_of_getElem? (i := 38) rfl)
theorem tw39 {Z : State} {a0 : Array Value} (hw : HW a0 Z) : ((Jvm.Cond.methodLink "java/lang/StringUTF16" (115 : Nat) ({ cls := "java/lang/StringUTF16", name := "compress", desc := "([CI[BII)I" } : Jvm.MethodName))).before a0 Z = true := hw _ (List.mem_of_getElem? (i := 39) rfl)
theorem tw40 {Z : State} {a0 : Array Value} (hw : HW a0 Z) : ((Jvm.Cond.static ({ cls := "java/lang/StringUTF16", name := "compress", desc := "([CI[BII)I" } : Jvm.MethodName))).before a0 Z = true := hw _ (List.mem_of_getElem? (i := 40) rfl)
theorem tw41 {Z : State} {a0 : Array Value} (hw : HW a0 Z) : ((Jvm.Cond.code ({ cls := "java/lang/StringUTF16", name := "compress", desc := "([CI[BII)I" } : Jvm.MethodName) jdk_52_method_21_code (7 : Nat) (Option.some Jvm.ClassFile.FieldType.int))).before a0 Z = true := hw _ (List.mem_of_getElem? (i := 41) rfl)
theorem tw42 {Z : State} {a0 : Array Value} (hw : HW a0 Z) : ((Jvm.Cond.methodLink "java/lang/StringUTF16" (119 : Nat) ({ cls := "java/lang/StringUTF16", name := "toBytes", desc := "([CII)[B" } : Jvm.MethodName))).before a0 Z = true := hw _ (List.mem_of_getElem? (i := 42) rfl)
theorem tw43 {Z : State} {a0 : Array Value} (hw : HW a0 Z) : ((Jvm.Cond.static ({ cls := "java/lang/StringUTF16", name := "toBytes", desc := "([CII)[B" } : Jvm.MethodName))).before a0 Z = true := hw _ (List.mem_of_getElem? (i := 43) rfl)
theorem tw44 {Z : State} {a0 : Array Value} (hw : HW a0 Z) : ((Jvm.Cond.code ({ cls := "java/lang/StringUTF16", name := "toBytes", desc := "([CII)[B" } : Jvm.MethodName) jdk_52_method_14_code (5 : Nat) (Option.some (Jvm.ClassFile.FieldType.array Jvm.ClassFile.FieldType.byte)))).before a0 Z = true := hw _ (List.mem_of_getElem? (i := 44) rfl)
theorem tw45 {Z : State} {a0 : Array Value} (hw : HW a0 Z) : ((Jvm.Cond.methodLink "java/lang/StringUTF16" (107 : Nat) ({ cls := "java/lang/StringUTF16", name := "newBytesFor", desc := "(I)[B" } : Jvm.MethodName))).before a0 Z = true := hw _ (List.mem_of_getElem? (i := 45) rfl)
theorem tw46 {Z : State} {a0 : Array Value} (hw : HW a0 Z) : ((Jvm.Cond.static ({ cls := "java/lang/StringUTF16", name := "newBytesFor", desc := "(I)[B" } : Jvm.MethodName))).before a0 Z = true := hw _ (List.mem_of_getElem? (i := 46) rfl)
theorem tw47 {Z : State} {a0 : Array Value} (hw : HW a0 Z) : ((Jvm.Cond.code ({ cls := "java/lang/StringUTF16", name := "newBytesFor", desc := "(I)[B" } : Jvm.MethodName) jdk_52_method_2_code (1 : Nat) (Option.some (Jvm.ClassFile.FieldType.array Jvm.ClassFile.FieldType.byte)))).before a0 Z = true := hw _ (List.mem_of_getElem? (i := 47) rfl)
theorem tw48 {Z : State} {a0 : Array Value} (hw : HW a0 Z) : ((Jvm.Cond.methodLink "java/lang/StringUTF16" (11 : Nat) ({ cls := "java/lang/StringUTF16", name := "newBytesLength", desc := "(I)I" } : Jvm.MethodName))).before a0 Z = true := hw _ (List.mem_of_getElem? (i := 48) rfl)
theorem tw49 {Z : State} {a0 : Array Value} (hw : HW a0 Z) : ((Jvm.Cond.static ({ cls := "java/lang/StringUTF16", name := "newBytesLength", desc := "(I)I" } : Jvm.MethodName))).before a0 Z = true := hw _ (List.mem_of_getElem? (i := 49) rfl)
theorem tw50 {Z : State} {a0 : Array Value} (hw : HW a0 Z) : ((Jvm.Cond.code ({ cls := "java/lang/StringUTF16", name := "newBytesLength", desc := "(I)I" } : Jvm.MethodName) jdk_52_method_3_code (1 : Nat) (Option.some Jvm.ClassFile.FieldType.int))).before a0 Z = true := hw _ (List.mem_of_getElem? (i := 50) rfl)
theorem tw51 {Z : State} {a0 : Array Value} (hw : HW a0 Z) : ((Jvm.Cond.constant "java/lang/StringUTF16" (20 : Nat) (1073741823 : Int32))).before a0 Z = true := hw _ (List.mem_of_getElem? (i := 51) rfl)
theorem tw52 {Z : State} {a0 : Array Value} (hw : HW a0 Z) : ((Jvm.Cond.methodLink "java/lang/StringUTF16" (111 : Nat) ({ cls := "java/lang/StringUTF16", name := "putChar", desc := "([BII)V" } : Jvm.MethodName))).before a0 Z = true := hw _ (List.mem_of_getElem? (i := 52) rfl)
theorem tw53 {Z : State} {a0 : Array Value} (hw : HW a0 Z) : ((Jvm.Cond.static ({ cls := "java/lang/StringUTF16", name := "putChar", desc := "([BII)V" } : Jvm.MethodName))).before a0 Z = true := hw _ (List.mem_of_getElem? (i := 53) rfl)
theorem tw54 {Z : State} {a0 : Array Value} (hw : HW a0 Z) : ((Jvm.Cond.code ({ cls := "java/lang/StringUTF16", name := "putChar", desc := "([BII)V" } : Jvm.MethodName) jdk_52_method_4_code (3 : Nat) (Option.none : Option Jvm.ClassFile.FieldType))).before a0 Z = true := hw _ (List.mem_of_getElem? (i := 54) rfl)
theorem tw55 {Z : State} {a0 : Array Value} (hw : HW a0 Z) : ((Jvm.Cond.fieldLink "java/lang/StringUTF16" (44 : Nat) "java/lang/StringUTF16" "$assertionsDisabled" "Z")).before a0 Z = true := hw _ (List.mem_of_getElem? (i := 55) rfl)
theorem tw56 {Z : State} {a0 : Array Value} (hw : HW a0 Z) : ((Jvm.Cond.fieldLink "java/lang/StringUTF16" (59 : Nat) "java/lang/StringUTF16" "HI_BYTE_SHIFT" "I")).before a0 Z = true := hw _ (List.mem_of_getElem? (i := 56) rfl)
theorem tw57 {Z : State} {a0 : Array Value} (hw : HW a0 Z) : ((Jvm.Cond.fieldLink "java/lang/StringUTF16" (63 : Nat) "java/lang/StringUTF16" "LO_BYTE_SHIFT" "I")).before a0 Z = true := hw _ (List.mem_of_getElem? (i := 57) rfl)
theorem tw58 {Z : State} {a0 : Array Value} (hw : HW a0 Z) : ((Jvm.Cond.methodLink "java/lang/StringUTF16" (71 : Nat) ({ cls := "java/lang/StringUTF16", name := "getChar", desc := "([BI)C" } : Jvm.MethodName))).before a0 Z = true := hw _ (List.mem_of_getElem? (i := 58) rfl)
theorem tw59 {Z : State} {a0 : Array Value} (hw : HW a0 Z) : ((Jvm.Cond.static ({ cls := "java/lang/StringUTF16", name := "getChar", desc := "([BI)C" } : Jvm.MethodName))).before a0 Z = true := hw _ (List.mem_of_getElem? (i := 59) rfl)
theorem tw60 {Z : State} {a0 : Array Value} (hw : HW a0 Z) : ((Jvm.Cond.code ({ cls := "java/lang/StringUTF16", name := "getChar", desc := "([BI)C" } : Jvm.MethodName) jdk_52_method_5_code (2 : Nat) (Option.some Jvm.ClassFile.FieldType.char))).before a0 Z = true := hw _ (List.mem_of_getElem? (i := 60) rfl)
theorem tw61 {Z : State} {a0 : Array Value} (hw : HW a0 Z) : ((Jvm.Cond.methodLink "java/lang/String" (47 : Nat) ({ cls := "java/lang/StringUTF16", name := "coderFromArrayLen", desc := "([BI)B" } : Jvm.MethodName))).before a0 Z = true := hw _ (List.mem_of_getElem? (i := 61) rfl)
theorem tw62 {Z : State} {a0 : Array Value} (hw : HW a0 Z) : ((Jvm.Cond.static ({ cls := "java/lang/StringUTF16", name := "coderFromArrayLen", desc := "([BI)B" } : Jvm.MethodName))).before a0 Z = true := hw _ (List.mem_of_getElem? (i := 62) rfl)
theorem tw63 {Z : State} {a0 : Array Value} (hw : HW a0 Z) : ((Jvm.Cond.code ({ cls := "java/lang/StringUTF16", name := "coderFromArrayLen", desc := "([BI)B" } : Jvm.MethodName) jdk_52_method_15_code (2 : Nat) (Option.some Jvm.ClassFile.FieldType.byte))).before a0 Z = true := hw _ (List.mem_of_getElem? (i := 63) rfl)
theorem tw64 {Z : State} {a0 : Array Value} (hw : HW a0 Z) : ((Jvm.Cond.fieldLink "java/lang/String" (15 : Nat) "java/lang/String" "coder" "B")).before a0 Z = true := hw _ (List.mem_of_getElem? (i := 64) rfl)
theorem tw65 {Z : State} {a0 : Array Value} (hw : HW a0 Z) : ((Jvm.Cond.laysFinal "java/lang/String" "java/lang/String" "coder" "B")).before a0 Z = true := hw _ (List.mem_of_getElem? (i := 65) rfl)
theorem tw66 {Z : State} {a0 : Array Value} (hw : HW a0 Z) : ((Jvm.Cond.fieldLink "java/lang/String" (9 : Nat) "java/lang/String" "value" "[B")).before a0 Z = true := hw _ (List.mem_of_getElem? (i := 66) rfl)
theorem tw67 {Z : State} {a0 : Array Value} (hw : HW a0 Z) : ((Jvm.Cond.laysFinal "java/lang/String" "java/lang/String" "value" "[B")).before a0 Z = true := hw _ (List.mem_of_getElem? (i := 67) rfl)
theorem tw68 {Z : State} {a0 : Array Value} (hw : HW a0 Z) : ((Jvm.Cond.methodLink "com/example/indentree/indentree/reader/CodePointsOffsetPinLaw" (34 : Nat) ({ cls := "com/example/indentree/indentree/reader/CodePoints", name := "<init>", desc := "(Ljava/lang/String;)V" } : Jvm.MethodName))).before a0 Z = true := hw _ (List.mem_of_getElem? (i := 68) rfl)
theorem tw69 {Z : State} {a0 : Array Value} (hw : HW a0 Z) : ((Jvm.Cond.instanceMethod ({ cls := "com/example/indentree/indentree/reader/CodePoints", name := "<init>", desc := "(Ljava/lang/String;)V" } : Jvm.MethodName))).before a0 Z = true := hw _ (List.mem_of_getElem? (i := 69) rfl)
theorem tw70 {Z : State} {a0 : Array Value} (hw : HW a0 Z) : ((Jvm.Cond.code ({ cls := "com/example/indentree/indentree/reader/CodePoints", name := "<init>", desc := "(Ljava/lang/String;)V" } : Jvm.MethodName) prog_19_method_1_code (2 : Nat) (Option.none : Option Jvm.ClassFile.FieldType))).before a0 Z = true := hw _ (List.mem_of_getElem? (i := 70) rfl)
theorem tw71 {Z : State} {a0 : Array Value} (hw : HW a0 Z) : ((Jvm.Cond.methodLink "com/example/indentree/indentree/reader/CodePoints" (1 : Nat) ({ cls := "java/lang/Object", name := "<init>", desc := "()V" } : Jvm.MethodName))).before a0 Z = true := hw _ (List.mem_of_getElem? (i := 71) rfl)
theorem tw72 {Z : State} {a0 : Array Value} (hw : HW a0 Z) : ((Jvm.Cond.fieldLink "com/example/indentree/indentree/reader/CodePoints" (7 : Nat) "com/example/indentree/indentree/reader/CodePoints" "text" "Ljava/lang/String;")).before a0 Z = true := hw _ (List.mem_of_getElem? (i := 72) rfl)
theorem tw73 {Z : State} {a0 : Array Value} (hw : HW a0 Z) : ((Jvm.Cond.laysFinal "com/example/indentree/indentree/reader/CodePoints" "com/example/indentree/indentree/reader/CodePoints" "text" "Ljava/lang/String;")).before a0 Z = true := hw _ (List.mem_of_getElem? (i := 73) rfl)
theorem tw74 {Z : State} {a0 : Array Value} (hw : HW a0 Z) : ((Jvm.Cond.methodLink "com/example/indentree/indentree/reader/CodePointsOffsetPinLaw" (37 : Nat) ({ cls := "com/example/indentree/indentree/reader/CodePoints", name := "offset", desc := "(I)I" } : Jvm.MethodName))).before a0 Z = true := hw _ (List.mem_of_getElem? (i := 74) rfl)
theorem tw75 {Z : State} {a0 : Array Value} (hw : HW a0 Z) : ((Jvm.Cond.declares ({ cls := "com/example/indentree/indentree/reader/CodePoints", name := "offset", desc := "(I)I" } : Jvm.MethodName))).before a0 Z = true := hw _ (List.mem_of_getElem? (i := 75) rfl)
theorem tw76 {Z : State} {a0 : Array Value} (hw : HW a0 Z) : ((Jvm.Cond.instanceMethod ({ cls := "com/example/indentree/indentree/reader/CodePoints", name := "offset", desc := "(I)I" } : Jvm.MethodName))).before a0 Z = true := hw _ (List.mem_of_getElem? (i := 76) rfl)
theorem tw77 {Z : State} {a0 : Array Value} (hw : HW a0 Z) : ((Jvm.Cond.selects "com/example/indentree/indentree/reader/CodePoints" ({ cls := "com/example/indentree/indentree/reader/CodePoints", name := "offset", desc := "(I)I" } : Jvm.MethodName) ({ cls := "com/example/indentree/indentree/reader/CodePoints", name := "offset", desc := "(I)I" } : Jvm.MethodName))).before a0 Z = true := hw _ (List.mem_of_getElem? (i := 77) rfl)
theorem tw78 {Z : State} {a0 : Array Value} (hw : HW a0 Z) : ((Jvm.Cond.code ({ cls := "com/example/indentree/indentree/reader/CodePoints", name := "offset", desc := "(I)I" } : Jvm.MethodName) prog_19_method_2_code (2 : Nat) (Option.some Jvm.ClassFile.FieldType.int))).before a0 Z = true := hw _ (List.mem_of_getElem? (i := 78) rfl)
theorem tw79 {Z : State} {a0 : Array Value} (hw : HW a0 Z) : ((Jvm.Cond.fieldLink "com/example/indentree/indentree/reader/CodePoints" (13 : Nat) "com/example/indentree/indentree/reader/CodePoints" "offset" "I")).before a0 Z = true := hw _ (List.mem_of_getElem? (i := 79) rfl)
theorem tw80 {Z : State} {a0 : Array Value} (hw : HW a0 Z) : ((Jvm.Cond.lays "com/example/indentree/indentree/reader/CodePoints" "com/example/indentree/indentree/reader/CodePoints" "offset" "I")).before a0 Z = true := hw _ (List.mem_of_getElem? (i := 80) rfl)
theorem tw81 {Z : State} {a0 : Array Value} (hw : HW a0 Z) : ((Jvm.Cond.fieldLink "com/example/indentree/indentree/reader/CodePoints" (17 : Nat) "com/example/indentree/indentree/reader/CodePoints" "index" "I")).before a0 Z = true := hw _ (List.mem_of_getElem? (i := 81) rfl)
theorem tw82 {Z : State} {a0 : Array Value} (hw : HW a0 Z) : ((Jvm.Cond.lays "com/example/indentree/indentree/reader/CodePoints" "com/example/indentree/indentree/reader/CodePoints" "index" "I")).before a0 Z = true := hw _ (List.mem_of_getElem? (i := 82) rfl)
theorem tw83 {Z : State} {a0 : Array Value} (hw : HW a0 Z) : ((Jvm.Cond.methodLink "com/example/indentree/indentree/reader/CodePoints" (20 : Nat) ({ cls := "java/lang/String", name := "codePointCount", desc := "(II)I" } : Jvm.MethodName))).before a0 Z = true := hw _ (List.mem_of_getElem? (i := 83) rfl)
theorem tw84 {Z : State} {a0 : Array Value} (hw : HW a0 Z) : ((Jvm.Cond.declares ({ cls := "java/lang/String", name := "codePointCount", desc := "(II)I" } : Jvm.MethodName))).before a0 Z = true := hw _ (List.mem_of_getElem? (i := 84) rfl)
theorem tw85 {Z : State} {a0 : Array Value} (hw : HW a0 Z) : ((Jvm.Cond.instanceMethod ({ cls := "java/lang/String", name := "codePointCount", desc := "(II)I" } : Jvm.MethodName))).before a0 Z = true := hw _ (List.mem_of_getElem? (i := 85) rfl)
theorem tw86 {Z : State} {a0 : Array Value} (hw : HW a0 Z) : ((Jvm.Cond.selects "java/lang/String" ({ cls := "java/lang/String", name := "codePointCount", desc := "(II)I" } : Jvm.MethodName) ({ cls := "java/lang/String", name := "codePointCount", desc := "(II)I" } : Jvm.MethodName))).before a0 Z = true := hw _ (List.mem_of_getElem? (i := 86) rfl)
theorem tw87 {Z : State} {a0 : Array Value} (hw : HW a0 Z) : ((Jvm.Cond.code ({ cls := "java/lang/String", name := "codePointCount", desc := "(II)I" } : Jvm.MethodName) jdk_42_method_59_code (3 : Nat) (Option.some Jvm.ClassFile.FieldType.int))).before a0 Z = true := hw _ (List.mem_of_getElem? (i := 87) rfl)
theorem tw88 {Z : State} {a0 : Array Value} (hw : HW a0 Z) : ((Jvm.Cond.methodLink "java/lang/String" (505 : Nat) ({ cls := "java/lang/String", name := "length", desc := "()I" } : Jvm.MethodName))).before a0 Z = true := hw _ (List.mem_of_getElem? (i := 88) rfl)
theorem tw89 {Z : State} {a0 : Array Value} (hw : HW a0 Z) : ((Jvm.Cond.declares ({ cls := "java/lang/String", name := "length", desc := "()I" } : Jvm.MethodName))).before a0 Z = true := hw _ (List.mem_of_getElem? (i := 89) rfl)
theorem tw90 {Z : State} {a0 : Array Value} (hw : HW a0 Z) : ((Jvm.Cond.instanceMethod ({ cls := "java/lang/String", name := "length", desc := "()I" } : Jvm.MethodName))).before a0 Z = true := hw _ (List.mem_of_getElem? (i := 90) rfl)
theorem tw91 {Z : State} {a0 : Array Value} (hw : HW a0 Z) : ((Jvm.Cond.selects "java/lang/String" ({ cls := "java/lang/String", name := "length", desc := "()I" } : Jvm.MethodName) ({ cls := "java/lang/String", name := "length", desc := "()I" } : Jvm.MethodName))).before a0 Z = true := hw _ (List.mem_of_getElem? (i := 91) rfl)
theorem tw92 {Z : State} {a0 : Array Value} (hw : HW a0 Z) : ((Jvm.Cond.code ({ cls := "java/lang/String", name := "length", desc := "()I" } : Jvm.MethodName) jdk_42_method_54_code (1 : Nat) (Option.some Jvm.ClassFile.FieldType.int))).before a0 Z = true := hw _ (List.mem_of_getElem? (i := 92) rfl)
theorem tw93 {Z : State} {a0 : Array Value} (hw : HW a0 Z) : ((Jvm.Cond.methodLink "java/lang/String" (335 : Nat) ({ cls := "java/lang/String", name := "coder", desc := "()B" } : Jvm.MethodName))).before a0 Z = true := hw _ (List.mem_of_getElem? (i := 93) rfl)
theorem tw94 {Z : State} {a0 : Array Value} (hw : HW a0 Z) : ((Jvm.Cond.declares ({ cls := "java/lang/String", name := "coder", desc := "()B" } : Jvm.MethodName))).before a0 Z = true := hw _ (List.mem_of_getElem? (i := 94) rfl)
theorem tw95 {Z : State} {a0 : Array Value} (hw : HW a0 Z) : ((Jvm.Cond.instanceMethod ({ cls := "java/lang/String", name := "coder", desc := "()B" } : Jvm.MethodName))).before a0 Z = true := hw _ (List.mem_of_getElem? (i := 95) rfl)
theorem tw96 {Z : State} {a0 : Array Value} (hw : HW a0 Z) : ((Jvm.Cond.selects "java/lang/String" ({ cls := "java/lang/String", name := "coder", desc := "()B" } : Jvm.MethodName) ({ cls := "java/lang/String", name := "coder", desc := "()B" } : Jvm.MethodName))).before a0 Z = true := hw _ (List.mem_of_getElem? (i := 96) rfl)
theorem tw97 {Z : State} {a0 : Array Value} (hw : HW a0 Z) : ((Jvm.Cond.code ({ cls := "java/lang/String", name := "coder", desc := "()B" } : Jvm.MethodName) jdk_42_method_152_code (1 : Nat) (Option.some Jvm.ClassFile.FieldType.byte))).before a0 Z = true := hw _ (List.mem_of_getElem? (i := 97) rfl)
theorem tw98 {Z : State} {a0 : Array Value} (hw : HW a0 Z) : ((Jvm.Cond.methodLink "java/lang/String" (511 : Nat) ({ cls := "java/util/Objects", name := "checkFromToIndex", desc := "(III)I" } : Jvm.MethodName))).before a0 Z = true := hw _ (List.mem_of_getElem? (i := 98) rfl)
theorem tw99 {Z : State} {a0 : Array Value} (hw : HW a0 Z) : ((Jvm.Cond.static ({ cls := "java/util/Objects", name := "checkFromToIndex", desc := "(III)I" } : Jvm.MethodName))).before a0 Z = true := hw _ (List.mem_of_getElem? (i := 99) rfl)
theorem tw100 {Z : State} {a0 : Array Value} (hw : HW a0 Z) : ((Jvm.Cond.initialized "java/util/Objects")).before a0 Z = true := hw _ (List.mem_of_getElem? (i := 100) rfl)
theorem tw101 {Z : State} {a0 : Array Value} (hw : HW a0 Z) : ((Jvm.Cond.code ({ cls := "java/util/Objects", name := "checkFromToIndex", desc := "(III)I" } : Jvm.MethodName) jdk_31_method_18_code (3 : Nat) (Option.some Jvm.ClassFile.FieldType.int))).before a0 Z = true := hw _ (List.mem_of_getElem? (i := 101) rfl)
theorem tw102 {Z : State} {a0 : Array Value} (hw : HW a0 Z) : ((Jvm.Cond.methodLink "java/util/Objects" (111 : Nat) ({ cls := "jdk/internal/util/Preconditions", name := "checkFromToIndex", desc := "(IIILjava/util/function/BiFunction;)I" } : Jvm.MethodName))).before a0 Z = true := hw _ (List.mem_of_getElem? (i := 102) rfl)
theorem tw103 {Z : State} {a0 : Array Value} (hw : HW a0 Z) : ((Jvm.Cond.static ({ cls := "jdk/internal/util/Preconditions", name := "checkFromToIndex", desc := "(IIILjava/util/function/BiFunction;)I" } : Jvm.MethodName))).before a0 Z = true := hw _ (List.mem_of_getElem? (i := 103) rfl)
theorem tw104 {Z : State} {a0 : Array Value} (hw : HW a0 Z) : ((Jvm.Cond.initialized "jdk/internal/util/Preconditions")).before a0 Z = true := hw _ (List.mem_of_getElem? (i := 104) rfl)
theorem tw105 {Z : State} {a0 : Array Value} (hw : HW a0 Z) : ((Jvm.Cond.code ({ cls := "jdk/internal/util/Preconditions", name := "checkFromToIndex", desc := "(IIILjava/util/function/BiFunction;)I" } : Jvm.MethodName) jdk_41_method_12_code (4 : Nat) (Option.some Jvm.ClassFile.FieldType.int))).before a0 Z = true := hw _ (List.mem_of_getElem? (i := 105) rfl)
theorem tw106 {Z : State} {a0 : Array Value} (hw : HW a0 Z) : ((Jvm.Cond.methodLink "java/lang/String" (492 : Nat) ({ cls := "java/lang/String", name := "isLatin1", desc := "()Z" } : Jvm.MethodName))).before a0 Z = true := hw _ (List.mem_of_getElem? (i := 106) rfl)
theorem tw107 {Z : State} {a0 : Array Value} (hw : HW a0 Z) : ((Jvm.Cond.declares ({ cls := "java/lang/String", name := "isLatin1", desc := "()Z" } : Jvm.MethodName))).before a0 Z = true := hw _ (List.mem_of_getElem? (i := 107) rfl)
theorem tw108 {Z : State} {a0 : Array Value} (hw : HW a0 Z) : ((Jvm.Cond.instanceMethod ({ cls := "java/lang/String", name := "isLatin1", desc := "()Z" } : Jvm.MethodName))).before a0 Z = true := hw _ (List.mem_of_getElem? (i := 108) rfl)
theorem tw109 {Z : State} {a0 : Array Value} (hw : HW a0 Z) : ((Jvm.Cond.selects "java/lang/String" ({ cls := "java/lang/String", name := "isLatin1", desc := "()Z" } : Jvm.MethodName) ({ cls := "java/lang/String", name := "isLatin1", desc := "()Z" } : Jvm.MethodName))).before a0 Z = true := hw _ (List.mem_of_getElem? (i := 109) rfl)
theorem tw110 {Z : State} {a0 : Array Value} (hw : HW a0 Z) : ((Jvm.Cond.code ({ cls := "java/lang/String", name := "isLatin1", desc := "()Z" } : Jvm.MethodName) jdk_42_method_154_code (1 : Nat) (Option.some Jvm.ClassFile.FieldType.boolean))).before a0 Z = true := hw _ (List.mem_of_getElem? (i := 110) rfl)
theorem tw111 {Z : State} {a0 : Array Value} (hw : HW a0 Z) : ((Jvm.Cond.methodLink "java/lang/String" (514 : Nat) ({ cls := "java/lang/StringUTF16", name := "codePointCount", desc := "([BII)I" } : Jvm.MethodName))).before a0 Z = true := hw _ (List.mem_of_getElem? (i := 111) rfl)
theorem tw112 {Z : State} {a0 : Array Value} (hw : HW a0 Z) : ((Jvm.Cond.static ({ cls := "java/lang/StringUTF16", name := "codePointCount", desc := "([BII)I" } : Jvm.MethodName))).before a0 Z = true := hw _ (List.mem_of_getElem? (i := 112) rfl)
theorem tw113 {Z : State} {a0 : Array Value} (hw : HW a0 Z) : ((Jvm.Cond.code ({ cls := "java/lang/StringUTF16", name := "codePointCount", desc := "([BII)I" } : Jvm.MethodName) jdk_52_method_12_code (3 : Nat) (Option.some Jvm.ClassFile.FieldType.int))).before a0 Z = true := hw _ (List.mem_of_getElem? (i := 113) rfl)
theorem tw114 {Z : State} {a0 : Array Value} (hw : HW a0 Z) : ((Jvm.Cond.methodLink "java/lang/StringUTF16" (100 : Nat) ({ cls := "java/lang/StringUTF16", name := "codePointCount", desc := "([BIIZ)I" } : Jvm.MethodName))).before a0 Z = true := hw _ (List.mem_of_getElem? (i := 114) rfl)
theorem tw115 {Z : State} {a0 : Array Value} (hw : HW a0 Z) : ((Jvm.Cond.static ({ cls := "java/lang/StringUTF16", name := "codePointCount", desc := "([BIIZ)I" } : Jvm.MethodName))).before a0 Z = true := hw _ (List.mem_of_getElem? (i := 115) rfl)
theorem tw116 {Z : State} {a0 : Array Value} (hw : HW a0 Z) : ((Jvm.Cond.code ({ cls := "java/lang/StringUTF16", name := "codePointCount", desc := "([BIIZ)I" } : Jvm.MethodName) jdk_52_method_11_code (6 : Nat) (Option.some Jvm.ClassFile.FieldType.int))).before a0 Z = true := hw _ (List.mem_of_getElem? (i := 116) rfl)
theorem tw117 {Z : State} {a0 : Array Value} (hw : HW a0 Z) : ((Jvm.Cond.methodLink "java/lang/StringUTF16" (75 : Nat) ({ cls := "java/lang/Character", name := "isHighSurrogate", desc := "(C)Z" } : Jvm.MethodName))).before a0 Z = true := hw _ (List.mem_of_getElem? (i := 117) rfl)
theorem tw118 {Z : State} {a0 : Array Value} (hw : HW a0 Z) : ((Jvm.Cond.static ({ cls := "java/lang/Character", name := "isHighSurrogate", desc := "(C)Z" } : Jvm.MethodName))).before a0 Z = true := hw _ (List.mem_of_getElem? (i := 118) rfl)
theorem tw119 {Z : State} {a0 : Array Value} (hw : HW a0 Z) : ((Jvm.Cond.initialized "java/lang/Character")).before a0 Z = true := hw _ (List.mem_of_getElem? (i := 119) rfl)
theorem tw120 {Z : State} {a0 : Array Value} (hw : HW a0 Z) : ((Jvm.Cond.code ({ cls := "java/lang/Character", name := "isHighSurrogate", desc := "(C)Z" } : Jvm.MethodName) jdk_89_method_14_code (1 : Nat) (Option.some Jvm.ClassFile.FieldType.boolean))).before a0 Z = true := hw _ (List.mem_of_getElem? (i := 120) rfl)
theorem tw121 {Z : State} {a0 : Array Value} (hw : HW a0 Z) : ((Jvm.Cond.constant "java/lang/Character" (75 : Nat) (55296 : Int32))).before a0 Z = true := hw _ (List.mem_of_getElem? (i := 121) rfl)
theorem tw122 {Z : State} {a0 : Array Value} (hw : HW a0 Z) : ((Jvm.Cond.constant "java/lang/Character" (76 : Nat) (56320 : Int32))).before a0 Z = true := hw _ (List.mem_of_getElem? (i := 122) rfl)
theorem tw123 {Z : State} {a0 : Array Value} (hw : HW a0 Z) : ((Jvm.Cond.methodLink "com/example/indentree/indentree/reader/CodePointsOffsetPinLaw" (41 : Nat) ({ cls := "com/example/indentree/indentree/reader/CodePointsOffsetPinLaw", name := "pre", desc := "(I[Z)I" } : Jvm.MethodName))).before a0 Z = true := hw _ (List.mem_of_getElem? (i := 123) rfl)
theorem tw124 {Z : State} {a0 : Array Value} (hw : HW a0 Z) : ((Jvm.Cond.static ({ cls := "com/example/indentree/indentree/reader/CodePointsOffsetPinLaw", name := "pre", desc := "(I[Z)I" } : Jvm.MethodName))).before a0 Z = true := hw _ (List.mem_of_getElem? (i := 124) rfl)
theorem tw125 {Z : State} {a0 : Array Value} (hw : HW a0 Z) : ((Jvm.Cond.code ({ cls := "com/example/indentree/indentree/reader/CodePointsOffsetPinLaw", name := "pre", desc := "(I[Z)I" } : Jvm.MethodName) method_5_code (3 : Nat) (Option.some Jvm.ClassFile.FieldType.int))).before a0 Z = true := hw _ (List.mem_of_getElem? (i := 125) rfl)
theorem tw126 {Z : State} {a0 : Array Value} (hw : HW a0 Z) : ((Jvm.Cond.methodLink "java/lang/StringUTF16" (81 : Nat) ({ cls := "java/lang/Character", name := "isLowSurrogate", desc := "(C)Z" } : Jvm.MethodName))).before a0 Z = true := hw _ (List.mem_of_getElem? (i := 126) rfl)
theorem tw127 {Z : State} {a0 : Array Value} (hw : HW a0 Z) : ((Jvm.Cond.static ({ cls := "java/lang/Character", name := "isLowSurrogate", desc := "(C)Z" } : Jvm.MethodName))).before a0 Z = true := hw _ (List.mem_of_getElem? (i := 127) rfl)
theorem tw128 {Z : State} {a0 : Array Value} (hw : HW a0 Z) : ((Jvm.Cond.code ({ cls := "java/lang/Character", name := "isLowSurrogate", desc := "(C)Z" } : Jvm.MethodName) jdk_89_method_15_code (1 : Nat) (Option.some Jvm.ClassFile.FieldType.boolean))).before a0 Z = true := hw _ (List.mem_of_getElem? (i := 128) rfl)
theorem tw129 {Z : State} {a0 : Array Value} (hw : HW a0 Z) : ((Jvm.Cond.constant "com/example/indentree/indentree/reader/CodePointsOffsetPinLaw" (11 : Nat) (57343 : Int32))).before a0 Z = true := hw _ (List.mem_of_getElem? (i := 129) rfl)
theorem tw130 {Z : State} {a0 : Array Value} (hw : HW a0 Z) : ((Jvm.Cond.constant "java/lang/Character" (77 : Nat) (57344 : Int32))).before a0 Z = true := hw _ (List.mem_of_getElem? (i := 130) rfl)
theorem pd_0 : parseMethodDescriptor "(I)C" = some ⟨[.int], some .char⟩ := by decide +kernel
theorem pd_1 : parseMethodDescriptor "(CC)Z" = some ⟨[.char, .char], some .boolean⟩ := by decide +kernel
theorem pd_2 : parseMethodDescriptor "(I[Z)I" = some ⟨[.int, (.array .boolean)], some .int⟩ := by decide +kernel
theorem pd_3 : parseMethodDescriptor "([CI[BII)I" = some ⟨[(.array .char), .int, (.array .byte), .int, .int], some .int⟩ := by decide +kernel
theorem pd_4 : parseMethodDescriptor "(I)I" = some ⟨[.int], some .int⟩ := by decide +kernel
theorem pd_5 : parseMethodDescriptor "(I)[B" = some ⟨[.int], some (.array .byte)⟩ := by decide +kernel
theorem pd_6 : parseMethodDescriptor "([BII)V" = some ⟨[(.array .byte), .int, .int], none⟩ := by decide +kernel
theorem pd_7 : parseMethodDescriptor "([CII)[B" = some ⟨[(.array .char), .int, .int], some (.array .byte)⟩ := by decide +kernel
theorem pd_8 : parseMethodDescriptor "([BI)C" = some ⟨[(.array .byte), .int], some .char⟩ := by decide +kernel
theorem pd_9 : parseMethodDescriptor "([BI)B" = some ⟨[(.array .byte), .int], some .byte⟩ := by decide +kernel
theorem pd_10 : parseMethodDescriptor "([CIILjava/lang/Void;)V" = some ⟨[(.array .char), .int, .int, (.object "java/lang/Void")], none⟩ := by decide +kernel
theorem pd_11 : parseMethodDescriptor "([C)V" = some ⟨[(.array .char)], none⟩ := by decide +kernel
theorem pd_12 : parseMethodDescriptor "(Ljava/lang/String;)V" = some ⟨[(.object "java/lang/String")], none⟩ := by decide +kernel
theorem pd_13 : parseMethodDescriptor "()B" = some ⟨[], some .byte⟩ := by decide +kernel
theorem pd_14 : parseMethodDescriptor "()I" = some ⟨[], some .int⟩ := by decide +kernel
theorem pd_15 : parseMethodDescriptor "(IIILjava/util/function/BiFunction;)I" = some ⟨[.int, .int, .int, (.object "java/util/function/BiFunction")], some .int⟩ := by decide +kernel
theorem pd_16 : parseMethodDescriptor "(III)I" = some ⟨[.int, .int, .int], some .int⟩ := by decide +kernel
theorem pd_17 : parseMethodDescriptor "()Z" = some ⟨[], some .boolean⟩ := by decide +kernel
theorem pd_18 : parseMethodDescriptor "(II)I" = some ⟨[.int, .int], some .int⟩ := by decide +kernel
theorem pd_19 : parseMethodDescriptor "(C)Z" = some ⟨[.char], some .boolean⟩ := by decide +kernel
theorem pd_20 : parseMethodDescriptor "([BIIZ)I" = some ⟨[(.array .byte), .int, .int, .boolean], some .int⟩ := by decide +kernel
theorem pd_21 : parseMethodDescriptor "([BII)I" = some ⟨[(.array .byte), .int, .int], some .int⟩ := by decide +kernel
theorem pn_0 : plainName "com/example/indentree/indentree/reader/CodePointsOffsetPinLaw" = true := by first | (simp [plainName, overriddenIn]; done) | decide +kernel
theorem pn_1 : plainName "java/lang/StringUTF16" = true := by first | (simp [plainName, overriddenIn]; done) | decide +kernel
theorem pn_2 : plainName "java/lang/String" = true := by first | (simp [plainName, overriddenIn]; done) | decide +kernel
theorem pn_3 : plainName "com/example/indentree/indentree/reader/CodePoints" = true := by first | (simp [plainName, overriddenIn]; done) | decide +kernel
theorem pn_4 : plainName "jdk/internal/util/Preconditions" = true := by first | (simp [plainName, overriddenIn]; done) | decide +kernel
theorem pn_5 : plainName "java/util/Objects" = true := by first | (simp [plainName, overriddenIn]; done) | decide +kernel
theorem pn_6 : plainName "java/lang/Character" = true := by first | (simp [plainName, overriddenIn]; done) | decide +kernel
theorem d_2_0 : decode method_2_code 0 = .ok (.iload_n 0, 1) := by decide +kernel
theorem d_2_1 : decode method_2_code 1 = .ok (.iconst 3, 1) := by decide +kernel
theorem d_2_2 : decode method_2_code 2 = .ok (.iand, 1) := by decide +kernel
theorem d_2_3 : decode method_2_code 3 = .ok (.istore_n 1, 1) := by decide +kernel
theorem d_2_4 : decode method_2_code 4 = .ok (.iload_n 0, 1) := by decide +kernel
theorem d_2_5 : decode method_2_code 5 = .ok (.iconst 2, 1) := by decide +kernel
theorem d_2_6 : decode method_2_code 6 = .ok (.iushr, 1) := by decide +kernel
theorem d_2_7 : decode method_2_code 7 = .ok (.istore_n 2, 1) := by decide +kernel
theorem d_2_8 : decode method_2_code 8 = .ok (.iload_n 1, 1) := by decide +kernel
theorem d_2_9 : decode method_2_code 9 = .ok (.ifCond .ne 10, 3) := by decide +kernel
theorem d_2_19 : decode method_2_code 19 = .ok (.iload_n 1, 1) := by decide +kernel
theorem d_2_20 : decode method_2_code 20 = .ok (.iconst 1, 1) := by decide +kernel
theorem d_2_21 : decode method_2_code 21 = .ok (.if_icmp .ne 13, 3) := by decide +kernel
theorem d_2_34 : decode method_2_code 34 = .ok (.iload_n 1, 1) := by decide +kernel
theorem d_2_35 : decode method_2_code 35 = .ok (.iconst 2, 1) := by decide +kernel
theorem d_2_36 : decode method_2_code 36 = .ok (.if_icmp .ne 13, 3) := by decide +kernel
theorem d_2_49 : decode method_2_code 49 = .ok (.iload_n 2, 1) := by decide +kernel
theorem d_2_50 : decode method_2_code 50 = .ok (.ldc 9, 2) := by decide +kernel
theorem d_2_52 : decode method_2_code 52 = .ok (.iand, 1) := by decide +kernel
theorem d_2_53 : decode method_2_code 53 = .ok (.i2c, 1) := by decide +kernel
theorem d_2_54 : decode method_2_code 54 = .ok (.ireturn, 1) := by decide +kernel
theorem d_2_39 : decode method_2_code 39 = .ok (.ldc 8, 2) := by decide +kernel
theorem d_2_41 : decode method_2_code 41 = .ok (.iload_n 2, 1) := by decide +kernel
theorem d_2_42 : decode method_2_code 42 = .ok (.sipush 1023, 3) := by decide +kernel
theorem d_2_45 : decode method_2_code 45 = .ok (.iand, 1) := by decide +kernel
theorem d_2_46 : decode method_2_code 46 = .ok (.iadd, 1) := by decide +kernel
theorem d_2_47 : decode method_2_code 47 = .ok (.i2c, 1) := by decide +kernel
theorem d_2_48 : decode method_2_code 48 = .ok (.ireturn, 1) := by decide +kernel
theorem d_2_24 : decode method_2_code 24 = .ok (.ldc 7, 2) := by decide +kernel
theorem d_2_26 : decode method_2_code 26 = .ok (.iload_n 2, 1) := by decide +kernel
theorem d_2_27 : decode method_2_code 27 = .ok (.sipush 1023, 3) := by decide +kernel
theorem d_2_30 : decode method_2_code 30 = .ok (.iand, 1) := by decide +kernel
theorem d_2_31 : decode method_2_code 31 = .ok (.iadd, 1) := by decide +kernel
theorem d_2_32 : decode method_2_code 32 = .ok (.i2c, 1) := by decide +kernel
theorem d_2_33 : decode method_2_code 33 = .ok (.ireturn, 1) := by decide +kernel
theorem d_2_12 : decode method_2_code 12 = .ok (.iload_n 2, 1) := by decide +kernel
theorem d_2_13 : decode method_2_code 13 = .ok (.sipush 255, 3) := by decide +kernel
theorem d_2_16 : decode method_2_code 16 = .ok (.iand, 1) := by decide +kernel
theorem d_2_17 : decode method_2_code 17 = .ok (.i2c, 1) := by decide +kernel
theorem d_2_18 : decode method_2_code 18 = .ok (.ireturn, 1) := by decide +kernel
theorem d_3_0 : decode method_3_code 0 = .ok (.iload_n 0, 1) := by decide +kernel
theorem d_3_1 : decode method_3_code 1 = .ok (.ldc 7, 2) := by decide +kernel
theorem d_3_3 : decode method_3_code 3 = .ok (.if_icmp .lt 25, 3) := by decide +kernel
theorem d_3_28 : decode method_3_code 28 = .ok (.iconst 0, 1) := by decide +kernel
theorem d_3_6 : decode method_3_code 6 = .ok (.iload_n 0, 1) := by decide +kernel
theorem d_3_7 : decode method_3_code 7 = .ok (.ldc 10, 2) := by decide +kernel
theorem d_3_9 : decode method_3_code 9 = .ok (.if_icmp .gt 19, 3) := by decide +kernel
theorem d_3_12 : decode method_3_code 12 = .ok (.iload_n 1, 1) := by decide +kernel
theorem d_3_13 : decode method_3_code 13 = .ok (.ldc 8, 2) := by decide +kernel
theorem d_3_15 : decode method_3_code 15 = .ok (.if_icmp .lt 13, 3) := by decide +kernel
theorem d_3_18 : decode method_3_code 18 = .ok (.iload_n 1, 1) := by decide +kernel
theorem d_3_19 : decode method_3_code 19 = .ok (.ldc 11, 2) := by decide +kernel
theorem d_3_21 : decode method_3_code 21 = .ok (.if_icmp .gt 7, 3) := by decide +kernel
theorem d_3_24 : decode method_3_code 24 = .ok (.iconst 1, 1) := by decide +kernel
theorem d_3_25 : decode method_3_code 25 = .ok (.goto 4, 3) := by decide +kernel
theorem d_3_29 : decode method_3_code 29 = .ok (.ireturn, 1) := by decide +kernel
theorem d_4_0 : decode method_4_code 0 = .ok (.iload_n 0, 1) := by decide +kernel
theorem d_4_1 : decode method_4_code 1 = .ok (.iconst 1, 1) := by decide +kernel
theorem d_4_2 : decode method_4_code 2 = .ok (.if_icmp .lt 18, 3) := by decide +kernel
theorem d_4_20 : decode method_4_code 20 = .ok (.iload_n 0, 1) := by decide +kernel
theorem d_4_21 : decode method_4_code 21 = .ok (.ireturn, 1) := by decide +kernel
theorem d_4_5 : decode method_4_code 5 = .ok (.iload_n 0, 1) := by decide +kernel
theorem d_4_6 : decode method_4_code 6 = .ok (.iconst 3, 1) := by decide +kernel
theorem d_4_7 : decode method_4_code 7 = .ok (.if_icmp .gt 13, 3) := by decide +kernel
theorem d_4_10 : decode method_4_code 10 = .ok (.aload_n 1, 1) := by decide +kernel
theorem d_4_11 : decode method_4_code 11 = .ok (.iload_n 0, 1) := by decide +kernel
theorem d_4_12 : decode method_4_code 12 = .ok (.baload, 1) := by decide +kernel
theorem d_4_13 : decode method_4_code 13 = .ok (.ifCond .eq 7, 3) := by decide +kernel
theorem d_4_16 : decode method_4_code 16 = .ok (.iload_n 0, 1) := by decide +kernel
theorem d_4_17 : decode method_4_code 17 = .ok (.iconst 1, 1) := by decide +kernel
theorem d_4_18 : decode method_4_code 18 = .ok (.isub, 1) := by decide +kernel
theorem d_4_19 : decode method_4_code 19 = .ok (.ireturn, 1) := by decide +kernel
theorem d_j42_3_0 : decode jdk_42_method_3_code 0 = .ok (.aload_n 0, 1) := by decide +kernel
theorem d_j42_3_1 : decode jdk_42_method_3_code 1 = .ok (.aload_n 1, 1) := by decide +kernel
theorem d_j42_3_2 : decode jdk_42_method_3_code 2 = .ok (.iconst 0, 1) := by decide +kernel
theorem d_j42_3_3 : decode jdk_42_method_3_code 3 = .ok (.aload_n 1, 1) := by decide +kernel
theorem d_j42_3_4 : decode jdk_42_method_3_code 4 = .ok (.arraylength, 1) := by decide +kernel
theorem d_j42_3_5 : decode jdk_42_method_3_code 5 = .ok (.aconst_null, 1) := by decide +kernel
theorem d_j42_3_6 : decode jdk_42_method_3_code 6 = .ok (.invokespecial 27, 3) := by decide +kernel
theorem d_j42_149_0 : decode jdk_42_method_149_code 0 = .ok (.aload_n 0, 1) := by decide +kernel
theorem d_j42_149_1 : decode jdk_42_method_149_code 1 = .ok (.invokespecial 1, 3) := by decide +kernel
theorem d_j42_149_4 : decode jdk_42_method_149_code 4 = .ok (.iload_n 3, 1) := by decide +kernel
theorem d_j42_149_5 : decode jdk_42_method_149_code 5 = .ok (.ifCond .ne 22, 3) := by decide +kernel
theorem d_j42_149_27 : decode jdk_42_method_149_code 27 = .ok (.getstatic 38, 3) := by decide +kernel
theorem d_j42_149_30 : decode jdk_42_method_149_code 30 = .ok (.ifCond .eq 28, 3) := by decide +kernel
theorem d_j42_149_33 : decode jdk_42_method_149_code 33 = .ok (.aload_n 1, 1) := by decide +kernel
theorem d_j42_149_34 : decode jdk_42_method_149_code 34 = .ok (.iload_n 2, 1) := by decide +kernel
theorem d_j42_149_35 : decode jdk_42_method_149_code 35 = .ok (.iload_n 3, 1) := by decide +kernel
theorem d_j42_149_36 : decode jdk_42_method_149_code 36 = .ok (.invokestatic 177, 3) := by decide +kernel
theorem d_j52_16_0 : decode jdk_52_method_16_code 0 = .ok (.iload_n 2, 1) := by decide +kernel
theorem d_j52_16_1 : decode jdk_52_method_16_code 1 = .ok (.newarray .byte, 2) := by decide +kernel
theorem d_j52_16_3 : decode jdk_52_method_16_code 3 = .ok (.astore_n 3, 1) := by decide +kernel
theorem d_j52_16_4 : decode jdk_52_method_16_code 4 = .ok (.aload_n 0, 1) := by decide +kernel
theorem d_j52_16_5 : decode jdk_52_method_16_code 5 = .ok (.iload_n 1, 1) := by decide +kernel
theorem d_j52_16_6 : decode jdk_52_method_16_code 6 = .ok (.aload_n 3, 1) := by decide +kernel
theorem d_j52_16_7 : decode jdk_52_method_16_code 7 = .ok (.iconst 0, 1) := by decide +kernel
theorem d_j52_16_8 : decode jdk_52_method_16_code 8 = .ok (.iload_n 2, 1) := by decide +kernel
theorem d_j52_16_9 : decode jdk_52_method_16_code 9 = .ok (.invokestatic 115, 3) := by decide +kernel
theorem d_j52_21_0 : decode jdk_52_method_21_code 0 = .ok (.iconst 0, 1) := by decide +kernel
theorem d_j52_21_1 : decode jdk_52_method_21_code 1 = .ok (.istore 5, 2) := by decide +kernel
theorem d_j52_21_3 : decode jdk_52_method_21_code 3 = .ok (.iload 5, 2) := by decide +kernel
theorem d_j52_21_5 : decode jdk_52_method_21_code 5 = .ok (.iload 4, 2) := by decide +kernel
theorem d_j52_21_7 : decode jdk_52_method_21_code 7 = .ok (.if_icmp .ge 37, 3) := by decide +kernel
theorem d_j52_21_10 : decode jdk_52_method_21_code 10 = .ok (.aload_n 0, 1) := by decide +kernel
theorem d_j52_21_11 : decode jdk_52_method_21_code 11 = .ok (.iload_n 1, 1) := by decide +kernel
theorem d_j52_21_12 : decode jdk_52_method_21_code 12 = .ok (.caload, 1) := by decide +kernel
theorem d_j52_21_13 : decode jdk_52_method_21_code 13 = .ok (.istore 6, 2) := by decide +kernel
theorem d_j52_21_15 : decode jdk_52_method_21_code 15 = .ok (.iload 6, 2) := by decide +kernel
theorem d_j52_21_17 : decode jdk_52_method_21_code 17 = .ok (.sipush 255, 3) := by decide +kernel
theorem d_j52_21_20 : decode jdk_52_method_21_code 20 = .ok (.if_icmp .le 6, 3) := by decide +kernel
theorem d_j52_21_26 : decode jdk_52_method_21_code 26 = .ok (.aload_n 2, 1) := by decide +kernel
theorem d_j52_21_27 : decode jdk_52_method_21_code 27 = .ok (.iload_n 3, 1) := by decide +kernel
theorem d_j52_21_28 : decode jdk_52_method_21_code 28 = .ok (.iload 6, 2) := by decide +kernel
theorem d_j52_21_30 : decode jdk_52_method_21_code 30 = .ok (.i2b, 1) := by decide +kernel
theorem d_j52_21_31 : decode jdk_52_method_21_code 31 = .ok (.bastore, 1) := by decide +kernel
theorem d_j52_21_32 : decode jdk_52_method_21_code 32 = .ok (.iinc 1 1, 3) := by decide +kernel
theorem d_j52_21_35 : decode jdk_52_method_21_code 35 = .ok (.iinc 3 1, 3) := by decide +kernel
theorem d_j52_21_38 : decode jdk_52_method_21_code 38 = .ok (.iinc 5 1, 3) := by decide +kernel
theorem d_j52_21_41 : decode jdk_52_method_21_code 41 = .ok (.goto (-38), 3) := by decide +kernel
theorem d_j52_21_44 : decode jdk_52_method_21_code 44 = .ok (.iload 4, 2) := by decide +kernel
theorem d_j52_21_46 : decode jdk_52_method_21_code 46 = .ok (.ireturn, 1) := by decide +kernel
theorem d_j52_21_23 : decode jdk_52_method_21_code 23 = .ok (.iload 5, 2) := by decide +kernel
theorem d_j52_21_25 : decode jdk_52_method_21_code 25 = .ok (.ireturn, 1) := by decide +kernel
theorem d_j52_16_12 : decode jdk_52_method_16_code 12 = .ok (.istore 4, 2) := by decide +kernel
theorem d_j52_16_14 : decode jdk_52_method_16_code 14 = .ok (.iload 4, 2) := by decide +kernel
theorem d_j52_16_16 : decode jdk_52_method_16_code 16 = .ok (.iload_n 2, 1) := by decide +kernel
theorem d_j52_16_17 : decode jdk_52_method_16_code 17 = .ok (.if_icmp .eq 40, 3) := by decide +kernel
theorem d_j52_16_57 : decode jdk_52_method_16_code 57 = .ok (.aload_n 3, 1) := by decide +kernel
theorem d_j52_16_58 : decode jdk_52_method_16_code 58 = .ok (.areturn, 1) := by decide +kernel
theorem d_j52_16_20 : decode jdk_52_method_16_code 20 = .ok (.aload_n 0, 1) := by decide +kernel
theorem d_j52_16_21 : decode jdk_52_method_16_code 21 = .ok (.iload_n 1, 1) := by decide +kernel
theorem d_j52_16_22 : decode jdk_52_method_16_code 22 = .ok (.iload_n 2, 1) := by decide +kernel
theorem d_j52_16_23 : decode jdk_52_method_16_code 23 = .ok (.invokestatic 119, 3) := by decide +kernel
theorem d_j52_14_0 : decode jdk_52_method_14_code 0 = .ok (.iload_n 2, 1) := by decide +kernel
theorem d_j52_14_1 : decode jdk_52_method_14_code 1 = .ok (.invokestatic 107, 3) := by decide +kernel
theorem d_j52_2_0 : decode jdk_52_method_2_code 0 = .ok (.iload_n 0, 1) := by decide +kernel
theorem d_j52_2_1 : decode jdk_52_method_2_code 1 = .ok (.invokestatic 11, 3) := by decide +kernel
theorem d_j52_3_0 : decode jdk_52_method_3_code 0 = .ok (.iload_n 0, 1) := by decide +kernel
theorem d_j52_3_1 : decode jdk_52_method_3_code 1 = .ok (.ifCond .ge 11, 3) := by decide +kernel
theorem d_j52_3_12 : decode jdk_52_method_3_code 12 = .ok (.iload_n 0, 1) := by decide +kernel
theorem d_j52_3_13 : decode jdk_52_method_3_code 13 = .ok (.ldc 20, 2) := by decide +kernel
theorem d_j52_3_15 : decode jdk_52_method_3_code 15 = .ok (.if_icmp .lt 40, 3) := by decide +kernel
theorem d_j52_3_55 : decode jdk_52_method_3_code 55 = .ok (.iload_n 0, 1) := by decide +kernel
theorem d_j52_3_56 : decode jdk_52_method_3_code 56 = .ok (.iconst 1, 1) := by decide +kernel
theorem d_j52_3_57 : decode jdk_52_method_3_code 57 = .ok (.ishl, 1) := by decide +kernel
theorem d_j52_3_58 : decode jdk_52_method_3_code 58 = .ok (.ireturn, 1) := by decide +kernel
theorem d_j52_2_4 : decode jdk_52_method_2_code 4 = .ok (.newarray .byte, 2) := by decide +kernel
theorem d_j52_2_6 : decode jdk_52_method_2_code 6 = .ok (.areturn, 1) := by decide +kernel
theorem d_j52_14_4 : decode jdk_52_method_14_code 4 = .ok (.astore_n 3, 1) := by decide +kernel
theorem d_j52_14_5 : decode jdk_52_method_14_code 5 = .ok (.iconst 0, 1) := by decide +kernel
theorem d_j52_14_6 : decode jdk_52_method_14_code 6 = .ok (.istore 4, 2) := by decide +kernel
theorem d_j52_14_8 : decode jdk_52_method_14_code 8 = .ok (.iload 4, 2) := by decide +kernel
theorem d_j52_14_10 : decode jdk_52_method_14_code 10 = .ok (.iload_n 2, 1) := by decide +kernel
theorem d_j52_14_11 : decode jdk_52_method_14_code 11 = .ok (.if_icmp .ge 21, 3) := by decide +kernel
theorem d_j52_14_14 : decode jdk_52_method_14_code 14 = .ok (.aload_n 3, 1) := by decide +kernel
theorem d_j52_14_15 : decode jdk_52_method_14_code 15 = .ok (.iload 4, 2) := by decide +kernel
theorem d_j52_14_17 : decode jdk_52_method_14_code 17 = .ok (.aload_n 0, 1) := by decide +kernel
theorem d_j52_14_18 : decode jdk_52_method_14_code 18 = .ok (.iload_n 1, 1) := by decide +kernel
theorem d_j52_14_19 : decode jdk_52_method_14_code 19 = .ok (.caload, 1) := by decide +kernel
theorem d_j52_14_20 : decode jdk_52_method_14_code 20 = .ok (.invokestatic 111, 3) := by decide +kernel
theorem d_j52_4_0 : decode jdk_52_method_4_code 0 = .ok (.getstatic 44, 3) := by decide +kernel
theorem d_j52_4_3 : decode jdk_52_method_4_code 3 = .ok (.ifCond .ne 25, 3) := by decide +kernel
theorem d_j52_4_28 : decode jdk_52_method_4_code 28 = .ok (.iload_n 1, 1) := by decide +kernel
theorem d_j52_4_29 : decode jdk_52_method_4_code 29 = .ok (.iconst 1, 1) := by decide +kernel
theorem d_j52_4_30 : decode jdk_52_method_4_code 30 = .ok (.ishl, 1) := by decide +kernel
theorem d_j52_4_31 : decode jdk_52_method_4_code 31 = .ok (.istore_n 1, 1) := by decide +kernel
theorem d_j52_4_32 : decode jdk_52_method_4_code 32 = .ok (.aload_n 0, 1) := by decide +kernel
theorem d_j52_4_33 : decode jdk_52_method_4_code 33 = .ok (.iload_n 1, 1) := by decide +kernel
theorem d_j52_4_34 : decode jdk_52_method_4_code 34 = .ok (.iinc 1 1, 3) := by decide +kernel
theorem d_j52_4_37 : decode jdk_52_method_4_code 37 = .ok (.iload_n 2, 1) := by decide +kernel
theorem d_j52_4_38 : decode jdk_52_method_4_code 38 = .ok (.getstatic 59, 3) := by decide +kernel
theorem d_j52_4_41 : decode jdk_52_method_4_code 41 = .ok (.ishr, 1) := by decide +kernel
theorem d_j52_4_42 : decode jdk_52_method_4_code 42 = .ok (.i2b, 1) := by decide +kernel
theorem d_j52_4_43 : decode jdk_52_method_4_code 43 = .ok (.bastore, 1) := by decide +kernel
theorem d_j52_4_44 : decode jdk_52_method_4_code 44 = .ok (.aload_n 0, 1) := by decide +kernel
theorem d_j52_4_45 : decode jdk_52_method_4_code 45 = .ok (.iload_n 1, 1) := by decide +kernel
theorem d_j52_4_46 : decode jdk_52_method_4_code 46 = .ok (.iload_n 2, 1) := by decide +kernel
theorem d_j52_4_47 : decode jdk_52_method_4_code 47 = .ok (.getstatic 63, 3) := by decide +kernel
theorem d_j52_4_50 : decode jdk_52_method_4_code 50 = .ok (.ishr, 1) := by decide +kernel
theorem d_j52_4_51 : decode jdk_52_method_4_code 51 = .ok (.i2b, 1) := by decide +kernel
theorem d_j52_4_52 : decode jdk_52_method_4_code 52 = .ok (.bastore, 1) := by decide +kernel
theorem d_j52_4_53 : decode jdk_52_method_4_code 53 = .ok (.return_, 1) := by decide +kernel
theorem d_j52_14_23 : decode jdk_52_method_14_code 23 = .ok (.iinc 1 1, 3) := by decide +kernel
theorem d_j52_14_26 : decode jdk_52_method_14_code 26 = .ok (.iinc 4 1, 3) := by decide +kernel
theorem d_j52_14_29 : decode jdk_52_method_14_code 29 = .ok (.goto (-21), 3) := by decide +kernel
theorem d_j52_14_32 : decode jdk_52_method_14_code 32 = .ok (.aload_n 3, 1) := by decide +kernel
theorem d_j52_14_33 : decode jdk_52_method_14_code 33 = .ok (.areturn, 1) := by decide +kernel
theorem d_j52_16_26 : decode jdk_52_method_16_code 26 = .ok (.astore 5, 2) := by decide +kernel
theorem d_j52_16_28 : decode jdk_52_method_16_code 28 = .ok (.aload 5, 2) := by decide +kernel
theorem d_j52_16_30 : decode jdk_52_method_16_code 30 = .ok (.iload 4, 2) := by decide +kernel
theorem d_j52_16_32 : decode jdk_52_method_16_code 32 = .ok (.invokestatic 71, 3) := by decide +kernel
theorem d_j52_5_0 : decode jdk_52_method_5_code 0 = .ok (.getstatic 44, 3) := by decide +kernel
theorem d_j52_5_3 : decode jdk_52_method_5_code 3 = .ok (.ifCond .ne 25, 3) := by decide +kernel
theorem d_j52_5_28 : decode jdk_52_method_5_code 28 = .ok (.iload_n 1, 1) := by decide +kernel
theorem d_j52_5_29 : decode jdk_52_method_5_code 29 = .ok (.iconst 1, 1) := by decide +kernel
theorem d_j52_5_30 : decode jdk_52_method_5_code 30 = .ok (.ishl, 1) := by decide +kernel
theorem d_j52_5_31 : decode jdk_52_method_5_code 31 = .ok (.istore_n 1, 1) := by decide +kernel
theorem d_j52_5_32 : decode jdk_52_method_5_code 32 = .ok (.aload_n 0, 1) := by decide +kernel
theorem d_j52_5_33 : decode jdk_52_method_5_code 33 = .ok (.iload_n 1, 1) := by decide +kernel
theorem d_j52_5_34 : decode jdk_52_method_5_code 34 = .ok (.iinc 1 1, 3) := by decide +kernel
theorem d_j52_5_37 : decode jdk_52_method_5_code 37 = .ok (.baload, 1) := by decide +kernel
theorem d_j52_5_38 : decode jdk_52_method_5_code 38 = .ok (.sipush 255, 3) := by decide +kernel
theorem d_j52_5_41 : decode jdk_52_method_5_code 41 = .ok (.iand, 1) := by decide +kernel
theorem d_j52_5_42 : decode jdk_52_method_5_code 42 = .ok (.getstatic 59, 3) := by decide +kernel
theorem d_j52_5_45 : decode jdk_52_method_5_code 45 = .ok (.ishl, 1) := by decide +kernel
theorem d_j52_5_46 : decode jdk_52_method_5_code 46 = .ok (.aload_n 0, 1) := by decide +kernel
theorem d_j52_5_47 : decode jdk_52_method_5_code 47 = .ok (.iload_n 1, 1) := by decide +kernel
theorem d_j52_5_48 : decode jdk_52_method_5_code 48 = .ok (.baload, 1) := by decide +kernel
theorem d_j52_5_49 : decode jdk_52_method_5_code 49 = .ok (.sipush 255, 3) := by decide +kernel
theorem d_j52_5_52 : decode jdk_52_method_5_code 52 = .ok (.iand, 1) := by decide +kernel
theorem d_j52_5_53 : decode jdk_52_method_5_code 53 = .ok (.getstatic 63, 3) := by decide +kernel
theorem d_j52_5_56 : decode jdk_52_method_5_code 56 = .ok (.ishl, 1) := by decide +kernel
theorem d_j52_5_57 : decode jdk_52_method_5_code 57 = .ok (.ior, 1) := by decide +kernel
theorem d_j52_5_58 : decode jdk_52_method_5_code 58 = .ok (.i2c, 1) := by decide +kernel
theorem d_j52_5_59 : decode jdk_52_method_5_code 59 = .ok (.ireturn, 1) := by decide +kernel
theorem d_j52_16_35 : decode jdk_52_method_16_code 35 = .ok (.sipush 255, 3) := by decide +kernel
theorem d_j52_16_38 : decode jdk_52_method_16_code 38 = .ok (.if_icmp .gt 16, 3) := by decide +kernel
theorem d_j52_16_54 : decode jdk_52_method_16_code 54 = .ok (.aload 5, 2) := by decide +kernel
theorem d_j52_16_56 : decode jdk_52_method_16_code 56 = .ok (.areturn, 1) := by decide +kernel
theorem d_j42_149_39 : decode jdk_42_method_149_code 39 = .ok (.astore 5, 2) := by decide +kernel
theorem d_j42_149_41 : decode jdk_42_method_149_code 41 = .ok (.aload_n 0, 1) := by decide +kernel
theorem d_j42_149_42 : decode jdk_42_method_149_code 42 = .ok (.aload 5, 2) := by decide +kernel
theorem d_j42_149_44 : decode jdk_42_method_149_code 44 = .ok (.iload_n 3, 1) := by decide +kernel
theorem d_j42_149_45 : decode jdk_42_method_149_code 45 = .ok (.invokestatic 47, 3) := by decide +kernel
theorem d_j52_15_0 : decode jdk_52_method_15_code 0 = .ok (.iload_n 1, 1) := by decide +kernel
theorem d_j52_15_1 : decode jdk_52_method_15_code 1 = .ok (.aload_n 0, 1) := by decide +kernel
theorem d_j52_15_2 : decode jdk_52_method_15_code 2 = .ok (.arraylength, 1) := by decide +kernel
theorem d_j52_15_3 : decode jdk_52_method_15_code 3 = .ok (.isub, 1) := by decide +kernel
theorem d_j52_15_4 : decode jdk_52_method_15_code 4 = .ok (.bipush 31, 2) := by decide +kernel
theorem d_j52_15_6 : decode jdk_52_method_15_code 6 = .ok (.iushr, 1) := by decide +kernel
theorem d_j52_15_7 : decode jdk_52_method_15_code 7 = .ok (.i2b, 1) := by decide +kernel
theorem d_j52_15_8 : decode jdk_52_method_15_code 8 = .ok (.ireturn, 1) := by decide +kernel
theorem d_j42_149_48 : decode jdk_42_method_149_code 48 = .ok (.putfield 15, 3) := by decide +kernel
theorem d_j42_149_51 : decode jdk_42_method_149_code 51 = .ok (.aload_n 0, 1) := by decide +kernel
theorem d_j42_149_52 : decode jdk_42_method_149_code 52 = .ok (.aload 5, 2) := by decide +kernel
theorem d_j42_149_54 : decode jdk_42_method_149_code 54 = .ok (.putfield 9, 3) := by decide +kernel
theorem d_j42_149_57 : decode jdk_42_method_149_code 57 = .ok (.return_, 1) := by decide +kernel
theorem d_j42_3_9 : decode jdk_42_method_3_code 9 = .ok (.return_, 1) := by decide +kernel
theorem d_g19_1_0 : decode prog_19_method_1_code 0 = .ok (.aload_n 0, 1) := by decide +kernel
theorem d_g19_1_1 : decode prog_19_method_1_code 1 = .ok (.invokespecial 1, 3) := by decide +kernel
theorem d_g19_1_4 : decode prog_19_method_1_code 4 = .ok (.aload_n 0, 1) := by decide +kernel
theorem d_g19_1_5 : decode prog_19_method_1_code 5 = .ok (.aload_n 1, 1) := by decide +kernel
theorem d_g19_1_6 : decode prog_19_method_1_code 6 = .ok (.putfield 7, 3) := by decide +kernel
theorem d_g19_1_9 : decode prog_19_method_1_code 9 = .ok (.return_, 1) := by decide +kernel
theorem d_g19_2_0 : decode prog_19_method_2_code 0 = .ok (.aload_n 0, 1) := by decide +kernel
theorem d_g19_2_1 : decode prog_19_method_2_code 1 = .ok (.dup, 1) := by decide +kernel
theorem d_g19_2_2 : decode prog_19_method_2_code 2 = .ok (.getfield 13, 3) := by decide +kernel
theorem d_g19_2_5 : decode prog_19_method_2_code 5 = .ok (.aload_n 0, 1) := by decide +kernel
theorem d_g19_2_6 : decode prog_19_method_2_code 6 = .ok (.getfield 7, 3) := by decide +kernel
theorem d_g19_2_9 : decode prog_19_method_2_code 9 = .ok (.aload_n 0, 1) := by decide +kernel
theorem d_g19_2_10 : decode prog_19_method_2_code 10 = .ok (.getfield 17, 3) := by decide +kernel
theorem d_g19_2_13 : decode prog_19_method_2_code 13 = .ok (.iload_n 1, 1) := by decide +kernel
theorem d_g19_2_14 : decode prog_19_method_2_code 14 = .ok (.invokevirtual 20, 3) := by decide +kernel
theorem d_j42_59_0 : decode jdk_42_method_59_code 0 = .ok (.iload_n 1, 1) := by decide +kernel
theorem d_j42_59_1 : decode jdk_42_method_59_code 1 = .ok (.iload_n 2, 1) := by decide +kernel
theorem d_j42_59_2 : decode jdk_42_method_59_code 2 = .ok (.aload_n 0, 1) := by decide +kernel
theorem d_j42_59_3 : decode jdk_42_method_59_code 3 = .ok (.invokevirtual 505, 3) := by decide +kernel
theorem d_j42_54_0 : decode jdk_42_method_54_code 0 = .ok (.aload_n 0, 1) := by decide +kernel
theorem d_j42_54_1 : decode jdk_42_method_54_code 1 = .ok (.getfield 9, 3) := by decide +kernel
theorem d_j42_54_4 : decode jdk_42_method_54_code 4 = .ok (.arraylength, 1) := by decide +kernel
theorem d_j42_54_5 : decode jdk_42_method_54_code 5 = .ok (.aload_n 0, 1) := by decide +kernel
theorem d_j42_54_6 : decode jdk_42_method_54_code 6 = .ok (.invokevirtual 335, 3) := by decide +kernel
theorem d_j42_152_0 : decode jdk_42_method_152_code 0 = .ok (.getstatic 38, 3) := by decide +kernel
theorem d_j42_152_3 : decode jdk_42_method_152_code 3 = .ok (.ifCond .eq 10, 3) := by decide +kernel
theorem d_j42_152_6 : decode jdk_42_method_152_code 6 = .ok (.aload_n 0, 1) := by decide +kernel
theorem d_j42_152_7 : decode jdk_42_method_152_code 7 = .ok (.getfield 15, 3) := by decide +kernel
theorem d_j42_152_10 : decode jdk_42_method_152_code 10 = .ok (.goto 4, 3) := by decide +kernel
theorem d_j42_152_14 : decode jdk_42_method_152_code 14 = .ok (.ireturn, 1) := by decide +kernel
theorem d_j42_54_9 : decode jdk_42_method_54_code 9 = .ok (.ishr, 1) := by decide +kernel
theorem d_j42_54_10 : decode jdk_42_method_54_code 10 = .ok (.ireturn, 1) := by decide +kernel
theorem d_j42_59_6 : decode jdk_42_method_59_code 6 = .ok (.invokestatic 511, 3) := by decide +kernel
theorem d_j31_18_0 : decode jdk_31_method_18_code 0 = .ok (.iload_n 0, 1) := by decide +kernel
theorem d_j31_18_1 : decode jdk_31_method_18_code 1 = .ok (.iload_n 1, 1) := by decide +kernel
theorem d_j31_18_2 : decode jdk_31_method_18_code 2 = .ok (.iload_n 2, 1) := by decide +kernel
theorem d_j31_18_3 : decode jdk_31_method_18_code 3 = .ok (.aconst_null, 1) := by decide +kernel
theorem d_j31_18_4 : decode jdk_31_method_18_code 4 = .ok (.invokestatic 111, 3) := by decide +kernel
theorem d_j41_12_0 : decode jdk_41_method_12_code 0 = .ok (.iload_n 0, 1) := by decide +kernel
theorem d_j41_12_1 : decode jdk_41_method_12_code 1 = .ok (.ifCond .lt 13, 3) := by decide +kernel
theorem d_j41_12_4 : decode jdk_41_method_12_code 4 = .ok (.iload_n 0, 1) := by decide +kernel
theorem d_j41_12_5 : decode jdk_41_method_12_code 5 = .ok (.iload_n 1, 1) := by decide +kernel
theorem d_j41_12_6 : decode jdk_41_method_12_code 6 = .ok (.if_icmp .gt 8, 3) := by decide +kernel
theorem d_j41_12_9 : decode jdk_41_method_12_code 9 = .ok (.iload_n 1, 1) := by decide +kernel
theorem d_j41_12_10 : decode jdk_41_method_12_code 10 = .ok (.iload_n 2, 1) := by decide +kernel
theorem d_j41_12_11 : decode jdk_41_method_12_code 11 = .ok (.if_icmp .le 11, 3) := by decide +kernel
theorem d_j41_12_22 : decode jdk_41_method_12_code 22 = .ok (.iload_n 0, 1) := by decide +kernel
theorem d_j41_12_23 : decode jdk_41_method_12_code 23 = .ok (.ireturn, 1) := by decide +kernel
theorem d_j31_18_7 : decode jdk_31_method_18_code 7 = .ok (.ireturn, 1) := by decide +kernel
theorem d_j42_59_9 : decode jdk_42_method_59_code 9 = .ok (.pop, 1) := by decide +kernel
theorem d_j42_59_10 : decode jdk_42_method_59_code 10 = .ok (.aload_n 0, 1) := by decide +kernel
theorem d_j42_59_11 : decode jdk_42_method_59_code 11 = .ok (.invokevirtual 492, 3) := by decide +kernel
theorem d_j42_154_0 : decode jdk_42_method_154_code 0 = .ok (.getstatic 38, 3) := by decide +kernel
theorem d_j42_154_3 : decode jdk_42_method_154_code 3 = .ok (.ifCond .eq 14, 3) := by decide +kernel
theorem d_j42_154_6 : decode jdk_42_method_154_code 6 = .ok (.aload_n 0, 1) := by decide +kernel
theorem d_j42_154_7 : decode jdk_42_method_154_code 7 = .ok (.getfield 15, 3) := by decide +kernel
theorem d_j42_154_10 : decode jdk_42_method_154_code 10 = .ok (.ifCond .ne 7, 3) := by decide +kernel
theorem d_j42_154_13 : decode jdk_42_method_154_code 13 = .ok (.iconst 1, 1) := by decide +kernel
theorem d_j42_154_14 : decode jdk_42_method_154_code 14 = .ok (.goto 4, 3) := by decide +kernel
theorem d_j42_154_18 : decode jdk_42_method_154_code 18 = .ok (.ireturn, 1) := by decide +kernel
theorem d_j42_59_14 : decode jdk_42_method_59_code 14 = .ok (.ifCond .eq 7, 3) := by decide +kernel
theorem d_j42_59_17 : decode jdk_42_method_59_code 17 = .ok (.iload_n 2, 1) := by decide +kernel
theorem d_j42_59_18 : decode jdk_42_method_59_code 18 = .ok (.iload_n 1, 1) := by decide +kernel
theorem d_j42_59_19 : decode jdk_42_method_59_code 19 = .ok (.isub, 1) := by decide +kernel
theorem d_j42_59_20 : decode jdk_42_method_59_code 20 = .ok (.ireturn, 1) := by decide +kernel
theorem d_g19_2_17 : decode prog_19_method_2_code 17 = .ok (.iadd, 1) := by decide +kernel
theorem d_g19_2_18 : decode prog_19_method_2_code 18 = .ok (.putfield 13, 3) := by decide +kernel
theorem d_g19_2_21 : decode prog_19_method_2_code 21 = .ok (.aload_n 0, 1) := by decide +kernel
theorem d_g19_2_22 : decode prog_19_method_2_code 22 = .ok (.iload_n 1, 1) := by decide +kernel
theorem d_g19_2_23 : decode prog_19_method_2_code 23 = .ok (.putfield 17, 3) := by decide +kernel
theorem d_g19_2_26 : decode prog_19_method_2_code 26 = .ok (.aload_n 0, 1) := by decide +kernel
theorem d_g19_2_27 : decode prog_19_method_2_code 27 = .ok (.getfield 13, 3) := by decide +kernel
theorem d_g19_2_30 : decode prog_19_method_2_code 30 = .ok (.ireturn, 1) := by decide +kernel
theorem d_5_0 : decode method_5_code 0 = .ok (.iload_n 0, 1) := by decide +kernel
theorem d_5_1 : decode method_5_code 1 = .ok (.istore_n 2, 1) := by decide +kernel
theorem d_5_2 : decode method_5_code 2 = .ok (.iload_n 0, 1) := by decide +kernel
theorem d_5_3 : decode method_5_code 3 = .ok (.iconst 2, 1) := by decide +kernel
theorem d_5_4 : decode method_5_code 4 = .ok (.if_icmp .lt 12, 3) := by decide +kernel
theorem d_5_16 : decode method_5_code 16 = .ok (.iload_n 0, 1) := by decide +kernel
theorem d_5_17 : decode method_5_code 17 = .ok (.iconst 3, 1) := by decide +kernel
theorem d_5_18 : decode method_5_code 18 = .ok (.if_icmp .lt 12, 3) := by decide +kernel
theorem d_5_30 : decode method_5_code 30 = .ok (.iload_n 0, 1) := by decide +kernel
theorem d_5_31 : decode method_5_code 31 = .ok (.iconst 4, 1) := by decide +kernel
theorem d_5_32 : decode method_5_code 32 = .ok (.if_icmp .lt 12, 3) := by decide +kernel
theorem d_5_44 : decode method_5_code 44 = .ok (.iload_n 2, 1) := by decide +kernel
theorem d_5_45 : decode method_5_code 45 = .ok (.ireturn, 1) := by decide +kernel
theorem d_5_7 : decode method_5_code 7 = .ok (.aload_n 1, 1) := by decide +kernel
theorem d_5_8 : decode method_5_code 8 = .ok (.iconst 1, 1) := by decide +kernel
theorem d_5_9 : decode method_5_code 9 = .ok (.baload, 1) := by decide +kernel
theorem d_5_10 : decode method_5_code 10 = .ok (.ifCond .eq 6, 3) := by decide +kernel
theorem d_5_21 : decode method_5_code 21 = .ok (.aload_n 1, 1) := by decide +kernel
theorem d_5_22 : decode method_5_code 22 = .ok (.iconst 2, 1) := by decide +kernel
theorem d_5_23 : decode method_5_code 23 = .ok (.baload, 1) := by decide +kernel
theorem d_5_24 : decode method_5_code 24 = .ok (.ifCond .eq 6, 3) := by decide +kernel
theorem d_5_35 : decode method_5_code 35 = .ok (.aload_n 1, 1) := by decide +kernel
theorem d_5_36 : decode method_5_code 36 = .ok (.iconst 3, 1) := by decide +kernel
theorem d_5_37 : decode method_5_code 37 = .ok (.baload, 1) := by decide +kernel
theorem d_5_38 : decode method_5_code 38 = .ok (.ifCond .eq 6, 3) := by decide +kernel
theorem d_5_41 : decode method_5_code 41 = .ok (.iinc 2 (-1), 3) := by decide +kernel
theorem d_5_27 : decode method_5_code 27 = .ok (.iinc 2 (-1), 3) := by decide +kernel
theorem d_5_13 : decode method_5_code 13 = .ok (.iinc 2 (-1), 3) := by decide +kernel
theorem d_j42_154_17 : decode jdk_42_method_154_code 17 = .ok (.iconst 0, 1) := by decide +kernel
theorem d_j42_59_21 : decode jdk_42_method_59_code 21 = .ok (.aload_n 0, 1) := by decide +kernel
theorem d_j42_59_22 : decode jdk_42_method_59_code 22 = .ok (.getfield 9, 3) := by decide +kernel
theorem d_j42_59_25 : decode jdk_42_method_59_code 25 = .ok (.iload_n 1, 1) := by decide +kernel
theorem d_j42_59_26 : decode jdk_42_method_59_code 26 = .ok (.iload_n 2, 1) := by decide +kernel
theorem d_j42_59_27 : decode jdk_42_method_59_code 27 = .ok (.invokestatic 514, 3) := by decide +kernel
theorem d_j52_12_0 : decode jdk_52_method_12_code 0 = .ok (.aload_n 0, 1) := by decide +kernel
theorem d_j52_12_1 : decode jdk_52_method_12_code 1 = .ok (.iload_n 1, 1) := by decide +kernel
theorem d_j52_12_2 : decode jdk_52_method_12_code 2 = .ok (.iload_n 2, 1) := by decide +kernel
theorem d_j52_12_3 : decode jdk_52_method_12_code 3 = .ok (.iconst 0, 1) := by decide +kernel
theorem d_j52_12_4 : decode jdk_52_method_12_code 4 = .ok (.invokestatic 100, 3) := by decide +kernel
theorem d_j52_11_0 : decode jdk_52_method_11_code 0 = .ok (.getstatic 44, 3) := by decide +kernel
theorem d_j52_11_3 : decode jdk_52_method_11_code 3 = .ok (.ifCond .ne 16, 3) := by decide +kernel
theorem d_j52_11_19 : decode jdk_52_method_11_code 19 = .ok (.iload_n 2, 1) := by decide +kernel
theorem d_j52_11_20 : decode jdk_52_method_11_code 20 = .ok (.iload_n 1, 1) := by decide +kernel
theorem d_j52_11_21 : decode jdk_52_method_11_code 21 = .ok (.isub, 1) := by decide +kernel
theorem d_j52_11_22 : decode jdk_52_method_11_code 22 = .ok (.istore 4, 2) := by decide +kernel
theorem d_j52_11_24 : decode jdk_52_method_11_code 24 = .ok (.iload_n 1, 1) := by decide +kernel
theorem d_j52_11_25 : decode jdk_52_method_11_code 25 = .ok (.istore 5, 2) := by decide +kernel
theorem d_j52_11_27 : decode jdk_52_method_11_code 27 = .ok (.iload_n 3, 1) := by decide +kernel
theorem d_j52_11_28 : decode jdk_52_method_11_code 28 = .ok (.ifCond .eq 16, 3) := by decide +kernel
theorem d_j52_11_44 : decode jdk_52_method_11_code 44 = .ok (.iload 5, 2) := by decide +kernel
theorem d_j52_11_46 : decode jdk_52_method_11_code 46 = .ok (.iload_n 2, 1) := by decide +kernel
theorem d_j52_11_47 : decode jdk_52_method_11_code 47 = .ok (.iconst 1, 1) := by decide +kernel
theorem d_j52_11_48 : decode jdk_52_method_11_code 48 = .ok (.isub, 1) := by decide +kernel
theorem d_j52_11_49 : decode jdk_52_method_11_code 49 = .ok (.if_icmp .ge 39, 3) := by decide +kernel
theorem d_j52_11_88 : decode jdk_52_method_11_code 88 = .ok (.iload 4, 2) := by decide +kernel
theorem d_j52_11_90 : decode jdk_52_method_11_code 90 = .ok (.ireturn, 1) := by decide +kernel
theorem d_j52_11_52 : decode jdk_52_method_11_code 52 = .ok (.aload_n 0, 1) := by decide +kernel
theorem d_j52_11_53 : decode jdk_52_method_11_code 53 = .ok (.iload 5, 2) := by decide +kernel
theorem d_j52_11_55 : decode jdk_52_method_11_code 55 = .ok (.iinc 5 1, 3) := by decide +kernel
theorem d_j52_11_58 : decode jdk_52_method_11_code 58 = .ok (.invokestatic 71, 3) := by decide +kernel
theorem d_j52_11_61 : decode jdk_52_method_11_code 61 = .ok (.invokestatic 75, 3) := by decide +kernel
theorem d_j89_14_0 : decode jdk_89_method_14_code 0 = .ok (.iload_n 0, 1) := by decide +kernel
theorem d_j89_14_1 : decode jdk_89_method_14_code 1 = .ok (.ldc 75, 2) := by decide +kernel
theorem d_j89_14_3 : decode jdk_89_method_14_code 3 = .ok (.if_icmp .lt 13, 3) := by decide +kernel
theorem d_j89_14_16 : decode jdk_89_method_14_code 16 = .ok (.iconst 0, 1) := by decide +kernel
theorem d_j89_14_6 : decode jdk_89_method_14_code 6 = .ok (.iload_n 0, 1) := by decide +kernel
theorem d_j89_14_7 : decode jdk_89_method_14_code 7 = .ok (.ldc 76, 2) := by decide +kernel
theorem d_j89_14_9 : decode jdk_89_method_14_code 9 = .ok (.if_icmp .ge 7, 3) := by decide +kernel
theorem d_j89_14_12 : decode jdk_89_method_14_code 12 = .ok (.iconst 1, 1) := by decide +kernel
theorem d_j89_14_13 : decode jdk_89_method_14_code 13 = .ok (.goto 4, 3) := by decide +kernel
theorem d_j89_14_17 : decode jdk_89_method_14_code 17 = .ok (.ireturn, 1) := by decide +kernel
theorem d_j52_11_64 : decode jdk_52_method_11_code 64 = .ok (.ifCond .eq (-20), 3) := by decide +kernel
theorem d_j52_11_67 : decode jdk_52_method_11_code 67 = .ok (.aload_n 0, 1) := by decide +kernel
theorem d_j52_11_68 : decode jdk_52_method_11_code 68 = .ok (.iload 5, 2) := by decide +kernel
theorem d_j52_11_70 : decode jdk_52_method_11_code 70 = .ok (.invokestatic 71, 3) := by decide +kernel
theorem d_j52_11_73 : decode jdk_52_method_11_code 73 = .ok (.invokestatic 81, 3) := by decide +kernel
theorem d_j89_15_0 : decode jdk_89_method_15_code 0 = .ok (.iload_n 0, 1) := by decide +kernel
theorem d_j89_15_1 : decode jdk_89_method_15_code 1 = .ok (.ldc 76, 2) := by decide +kernel
theorem d_j89_15_3 : decode jdk_89_method_15_code 3 = .ok (.if_icmp .lt 13, 3) := by decide +kernel
theorem d_j89_15_16 : decode jdk_89_method_15_code 16 = .ok (.iconst 0, 1) := by decide +kernel
theorem d_j89_15_6 : decode jdk_89_method_15_code 6 = .ok (.iload_n 0, 1) := by decide +kernel
theorem d_j89_15_7 : decode jdk_89_method_15_code 7 = .ok (.ldc 77, 2) := by decide +kernel
theorem d_j89_15_9 : decode jdk_89_method_15_code 9 = .ok (.if_icmp .ge 7, 3) := by decide +kernel
theorem d_j89_15_12 : decode jdk_89_method_15_code 12 = .ok (.iconst 1, 1) := by decide +kernel
theorem d_j89_15_13 : decode jdk_89_method_15_code 13 = .ok (.goto 4, 3) := by decide +kernel
theorem d_j89_15_17 : decode jdk_89_method_15_code 17 = .ok (.ireturn, 1) := by decide +kernel
theorem d_j52_11_76 : decode jdk_52_method_11_code 76 = .ok (.ifCond .eq (-32), 3) := by decide +kernel
theorem d_j52_11_79 : decode jdk_52_method_11_code 79 = .ok (.iinc 4 (-1), 3) := by decide +kernel
theorem d_j52_11_82 : decode jdk_52_method_11_code 82 = .ok (.iinc 5 1, 3) := by decide +kernel
theorem d_j52_11_85 : decode jdk_52_method_11_code 85 = .ok (.goto (-41), 3) := by decide +kernel
theorem d_j52_12_7 : decode jdk_52_method_12_code 7 = .ok (.ireturn, 1) := by decide +kernel
theorem d_j42_59_30 : decode jdk_42_method_59_code 30 = .ok (.ireturn, 1) := by decide +kernel
abbrev mn0 : MethodName := ⟨"com/example/indentree/indentree/reader/CodePointsOffsetPinLaw", "mk", "(I)C"⟩
abbrev mn1 : MethodName := ⟨"com/example/indentree/indentree/reader/CodePointsOffsetPinLaw", "pair", "(CC)Z"⟩
abbrev mn2 : MethodName := ⟨"com/example/indentree/indentree/reader/CodePointsOffsetPinLaw", "snap", "(I[Z)I"⟩
abbrev mn3 : MethodName := ⟨"java/lang/StringUTF16", "compress", "([CI[BII)I"⟩
abbrev mn4 : MethodName := ⟨"java/lang/StringUTF16", "newBytesLength", "(I)I"⟩
abbrev mn5 : MethodName := ⟨"java/lang/StringUTF16", "newBytesFor", "(I)[B"⟩
abbrev mn6 : MethodName := ⟨"java/lang/StringUTF16", "putChar", "([BII)V"⟩
abbrev mn7 : MethodName := ⟨"java/lang/StringUTF16", "toBytes", "([CII)[B"⟩
abbrev mn8 : MethodName := ⟨"java/lang/StringUTF16", "getChar", "([BI)C"⟩
abbrev mn9 : MethodName := ⟨"java/lang/StringUTF16", "compress", "([CII)[B"⟩
abbrev mn10 : MethodName := ⟨"java/lang/StringUTF16", "coderFromArrayLen", "([BI)B"⟩
abbrev mn11 : MethodName := ⟨"java/lang/String", "<init>", "([CIILjava/lang/Void;)V"⟩
abbrev mn12 : MethodName := ⟨"java/lang/String", "<init>", "([C)V"⟩
abbrev mn13 : MethodName := ⟨"com/example/indentree/indentree/reader/CodePoints", "<init>", "(Ljava/lang/String;)V"⟩
abbrev mn14 : MethodName := ⟨"java/lang/String", "coder", "()B"⟩
abbrev mn15 : MethodName := ⟨"java/lang/String", "length", "()I"⟩
abbrev mn16 : MethodName := ⟨"jdk/internal/util/Preconditions", "checkFromToIndex", "(IIILjava/util/function/BiFunction;)I"⟩
abbrev mn17 : MethodName := ⟨"java/util/Objects", "checkFromToIndex", "(III)I"⟩
abbrev mn18 : MethodName := ⟨"java/lang/String", "isLatin1", "()Z"⟩
abbrev mn19 : MethodName := ⟨"java/lang/String", "codePointCount", "(II)I"⟩
abbrev mn20 : MethodName := ⟨"com/example/indentree/indentree/reader/CodePoints", "offset", "(I)I"⟩
abbrev mn21 : MethodName := ⟨"com/example/indentree/indentree/reader/CodePointsOffsetPinLaw", "pre", "(I[Z)I"⟩
abbrev mn22 : MethodName := ⟨"java/lang/Character", "isHighSurrogate", "(C)Z"⟩
abbrev mn23 : MethodName := ⟨"java/lang/Character", "isLowSurrogate", "(C)Z"⟩
abbrev mn24 : MethodName := ⟨"java/lang/StringUTF16", "codePointCount", "([BIIZ)I"⟩
abbrev mn25 : MethodName := ⟨"java/lang/StringUTF16", "codePointCount", "([BII)I"⟩
def fn_mk_1 (i1 : Int32) : Int32 := (if (i1 &&& (3 : Int32)) = (0 : Int32) then ((ush32 i1 (2 : Int32)) &&& (255 : Int32)) else (if (i1 &&& (3 : Int32)) = (1 : Int32) then ((55296 : Int32) + ((ush32 i1 (2 : Int32)) &&& (1023 : Int32))) else (if (i1 &&& (3 : Int32)) = (2 : Int32) then ((56320 : Int32) + ((ush32 i1 (2 : Int32)) &&& (1023 : Int32))) else ((ush32 i1 (2 : Int32)) &&& (65535 : Int32)))))
def Q_mk_1 (Z : State) (i1 : Int32) (h0 : Heap) (v : Option Value) (h : Heap) : Prop := ∃ z : Int32, v = some (.int z) ∧ h0 = h ∧ (fn_mk_1 i1) = z ∧ (0 ≤ z.toInt ∧ z.toInt ≤ 65535)
def R_mk_1 : Room := { frames := 0, cells := 0, slots := 0, locals := 0 }
theorem rm_mk_1 {w : Bool} {Z : State} {a0 : Array Value} (hw : HW a0 Z) (Ts : List String) (i1 : Int32) (h0 : Heap) (f : Nat) (Zf : Z.heap.size ≤ f) (Z0 : f ≤ h0.size) :
  Con w [] Z mn0 method_2_code 3 (some .char) R_mk_1 Ts Ts f #[.int i1] h0 (Q_mk_1 Z i1 h0) := by
 refine con_of f #[vI i1, .unset, .unset] (plainFor_of_name pn_0) (fun m => rfl) Zf ?_
 intro C H hX0
 refine r_iloadN H 1 d_2_0 ?_
 refine r_iconst H 2 3 d_2_1 ?_
 obtain ⟨p1, ep1, rp1⟩ : ∃ p : Int32, (i1 &&& (3 : Int32)) = p ∧ 0 ≤ p.toInt ∧ p.toInt ≤ 3 := ⟨_, rfl, (by have h := c_and i1 (3 : Int32) (by decide); have : (3 : Int32).toInt = 3 := (by decide); omega)⟩
 refine r_iand H 3 p1 d_2_2 ep1 ?_
 refine r_istoreN H 4 #[vI i1, vI p1, .unset] d_2_3 ?_
 refine r_iloadN H 5 d_2_4 ?_
 refine r_iconst H 6 2 d_2_5 ?_
 obtain ⟨p2, ep2, rp2⟩ : ∃ p : Int32, (ush32 i1 (2 : Int32)) = p ∧ 0 ≤ p.toInt ∧ p.toInt ≤ 1073741823 := ⟨_, rfl, (by have h1 := ushr_eq i1 (2 : Int32) 2 (by decide) (by decide); have h2 := rng32 i1; omega)⟩
 refine r_iushr H 7 p2 d_2_6 ep2 ?_
 refine r_istoreN H 8 #[vI i1, vI p1, vI p2] d_2_7 ?_
 refine r_iloadN H 9 d_2_8 ?_
 refine r_ifne H 19 12 d_2_9 (fun c3 => ?_) (fun c3 => ?_)
 ·
  refine r_iloadN H 20 d_2_19 ?_
  refine r_iconst H 21 1 d_2_20 ?_
  refine r_icmpne H 34 24 d_2_21 (fun c5 => ?_) (fun c5 => ?_)
  ·
   refine r_iloadN H 35 d_2_34 ?_
   refine r_iconst H 36 2 d_2_35 ?_
   refine r_icmpne H 49 39 d_2_36 (fun c7 => ?_) (fun c7 => ?_)
   ·
    refine r_iloadN H 50 d_2_49 ?_
    refine r_ldcI H 52 d_2_50 (tw5 hw) ?_
    obtain ⟨p9, ep9, rp9⟩ : ∃ p : Int32, (p2 &&& (65535 : Int32)) = p ∧ 0 ≤ p.toInt ∧ p.toInt ≤ 65535 := ⟨_, rfl, (by have h := c_and p2 (65535 : Int32) (by decide); have : (65535 : Int32).toInt = 65535 := (by decide); omega)⟩
    refine r_iand H 53 p9 d_2_52 ep9 ?_
    refine r_i2c H 54 p9 d_2_53 (i2c_id (by have := rp9; omega)) ?_
    subst ep1 ep2 ep9
    exact r_nreturn ((ush32 i1 (2 : Int32)) &&& (65535 : Int32)) H d_2_54 (nar_char_id (by have := rp9; omega)) (⟨_, rfl, rfl, (by unfold fn_mk_1; rw [if_neg c3, if_neg c5, if_neg c7]), (by have := rp9; omega)⟩)
   ·
    refine r_ldcI H 41 d_2_39 (tw6 hw) ?_
    refine r_iloadN H 42 d_2_41 ?_
    refine r_sipush H 45 1023 d_2_42 ?_
    obtain ⟨p11, ep11, rp11⟩ : ∃ p : Int32, (p2 &&& (1023 : Int32)) = p ∧ 0 ≤ p.toInt ∧ p.toInt ≤ 1023 := ⟨_, rfl, (by have h := c_and p2 (1023 : Int32) (by decide); have : (1023 : Int32).toInt = 1023 := (by decide); omega)⟩
    refine r_iand H 46 p11 d_2_45 ep11 ?_
    obtain ⟨p12, ep12, rp12⟩ : ∃ p : Int32, ((56320 : Int32) + p11) = p ∧ 56320 ≤ p.toInt ∧ p.toInt ≤ 57343 := ⟨_, rfl, (iadd_rng (lit_rng rfl) rp11 (by decide))⟩
    refine r_iadd H 47 p12 d_2_46 ep12 ?_
    refine r_i2c H 48 p12 d_2_47 (i2c_id (by have := rp12; omega)) ?_
    subst ep1 ep2 ep11 ep12
    exact r_nreturn ((56320 : Int32) + ((ush32 i1 (2 : Int32)) &&& (1023 : Int32))) H d_2_48 (nar_char_id (by have := rp12; omega)) (⟨_, rfl, rfl, (by unfold fn_mk_1; rw [if_neg c3, if_neg c5, if_pos c7]), (by have := rp12; omega)⟩)
  ·
   refine r_ldcI H 26 d_2_24 (tw7 hw) ?_
   refine r_iloadN H 27 d_2_26 ?_
   refine r_sipush H 30 1023 d_2_27 ?_
   obtain ⟨p14, ep14, rp14⟩ : ∃ p : Int32, (p2 &&& (1023 : Int32)) = p ∧ 0 ≤ p.toInt ∧ p.toInt ≤ 1023 := ⟨_, rfl, (by have h := c_and p2 (1023 : Int32) (by decide); have : (1023 : Int32).toInt = 1023 := (by decide); omega)⟩
   refine r_iand H 31 p14 d_2_30 ep14 ?_
   obtain ⟨p15, ep15, rp15⟩ : ∃ p : Int32, ((55296 : Int32) + p14) = p ∧ 55296 ≤ p.toInt ∧ p.toInt ≤ 56319 := ⟨_, rfl, (iadd_rng (lit_rng rfl) rp14 (by decide))⟩
   refine r_iadd H 32 p15 d_2_31 ep15 ?_
   refine r_i2c H 33 p15 d_2_32 (i2c_id (by have := rp15; omega)) ?_
   subst ep1 ep2 ep14 ep15
   exact r_nreturn ((55296 : Int32) + ((ush32 i1 (2 : Int32)) &&& (1023 : Int32))) H d_2_33 (nar_char_id (by have := rp15; omega)) (⟨_, rfl, rfl, (by unfold fn_mk_1; rw [if_neg c3, if_pos c5]), (by have := rp15; omega)⟩)
 ·
  refine r_iloadN H 13 d_2_12 ?_
  refine r_sipush H 16 255 d_2_13 ?_
  obtain ⟨p17, ep17, rp17⟩ : ∃ p : Int32, (p2 &&& (255 : Int32)) = p ∧ 0 ≤ p.toInt ∧ p.toInt ≤ 255 := ⟨_, rfl, (by have h := c_and p2 (255 : Int32) (by decide); have : (255 : Int32).toInt = 255 := (by decide); omega)⟩
  refine r_iand H 17 p17 d_2_16 ep17 ?_
  refine r_i2c H 18 p17 d_2_17 (i2c_id (by have := rp17; omega)) ?_
  subst ep1 ep2 ep17
  exact r_nreturn ((ush32 i1 (2 : Int32)) &&& (255 : Int32)) H d_2_18 (nar_char_id (by have := rp17; omega)) (⟨_, rfl, rfl, (by unfold fn_mk_1; rw [if_pos c3]), (by have := rp17; omega)⟩)
def Q_pair_2 (Z : State) (i1 : Int32) (i2 : Int32) (h0 : Heap) (v : Option Value) (h : Heap) : Prop := ∃ (z : Int32), v = some (.int z) ∧ (if i1 < (55296 : Int32) then (0 : Int32) else (if (56319 : Int32) < i1 then (0 : Int32) else (if i2 < (56320 : Int32) then (0 : Int32) else (if (57343 : Int32) < i2 then (0 : Int32) else (1 : Int32))))) = z ∧ (0 ≤ z.toInt ∧ z.toInt ≤ 1) ∧ h0 = h
def R_pair_2 : Room := { frames := 0, cells := 0, slots := 0, locals := 0 }
theorem rm_pair_2 {w : Bool} {Z : State} {a0 : Array Value} (hw : HW a0 Z) (Ts : List String) (i1 : Int32) (i2 : Int32) (h0 : Heap) (f : Nat) (Zf : Z.heap.size ≤ f) (Z0 : f ≤ h0.size) (r_i1 : 0 ≤ i1.toInt ∧ i1.toInt ≤ 65535) (r_i2 : 0 ≤ i2.toInt ∧ i2.toInt ≤ 65535) :
  Con w [] Z mn1 method_3_code 2 (some .boolean) R_pair_2 Ts Ts f #[.int i1, .int i2] h0 (Q_pair_2 Z i1 i2 h0) := by
 refine con_of f #[vI i1, vI i2] (plainFor_of_name pn_0) (fun m => rfl) Zf ?_
 intro C H hX0
 refine r_iloadN H 1 d_3_0 ?_
 refine r_ldcI H 3 d_3_1 (tw7 hw) ?_
 refine Run.join (P := fun z => (if i1 < (55296 : Int32) then (0 : Int32) else (if (56319 : Int32) < i1 then (0 : Int32) else (if i2 < (56320 : Int32) then (0 : Int32) else (if (57343 : Int32) < i2 then (0 : Int32) else (1 : Int32))))) = z ∧ (0 ≤ z.toInt ∧ z.toInt ≤ 1)) (pcB := 29) (LB := fun z => #[vI i1, vI i2]) (SB := fun z => [.int z]) (fun key => ?_) ?_
 ·
  refine r_icmplt H 28 6 d_3_3 (fun c1 => ?_) (fun c1 => ?_)
  ·
   refine r_iconst H 29 0 d_3_28 ?_
   exact key (0 : Int32) ⟨(by rw [if_pos c1]), (by decide)⟩
  ·
   refine r_iloadN H 7 d_3_6 ?_
   refine r_ldcI H 9 d_3_7 (tw12 hw) ?_
   refine Run.join (P := fun z => (if (56319 : Int32) < i1 then (0 : Int32) else (if i2 < (56320 : Int32) then (0 : Int32) else (if (57343 : Int32) < i2 then (0 : Int32) else (1 : Int32)))) = z ∧ (0 ≤ z.toInt ∧ z.toInt ≤ 1)) (pcB := 29) (LB := fun z => #[vI i1, vI i2]) (SB := fun z => [.int z]) (fun key => ?_) ?_
   ·
    refine r_icmpgt H 28 12 d_3_9 (fun c4 => ?_) (fun c4 => ?_)
    ·
     refine r_iconst H 29 0 d_3_28 ?_
     exact key (0 : Int32) ⟨(by rw [if_pos c4]), (by decide)⟩
    ·
     refine r_iloadN H 13 d_3_12 ?_
     refine r_ldcI H 15 d_3_13 (tw6 hw) ?_
     refine Run.join (P := fun z => (if i2 < (56320 : Int32) then (0 : Int32) else (if (57343 : Int32) < i2 then (0 : Int32) else (1 : Int32))) = z ∧ (0 ≤ z.toInt ∧ z.toInt ≤ 1)) (pcB := 29) (LB := fun z => #[vI i1, vI i2]) (SB := fun z => [.int z]) (fun key => ?_) ?_
     ·
      refine r_icmplt H 28 18 d_3_15 (fun c7 => ?_) (fun c7 => ?_)
      ·
       refine r_iconst H 29 0 d_3_28 ?_
       exact key (0 : Int32) ⟨(by rw [if_pos c7]), (by decide)⟩
      ·
       refine r_iloadN H 19 d_3_18 ?_
       refine r_ldcI H 21 d_3_19 (tw129 hw) ?_
       refine Run.join (P := fun z => (if (57343 : Int32) < i2 then (0 : Int32) else (1 : Int32)) = z ∧ (0 ≤ z.toInt ∧ z.toInt ≤ 1)) (pcB := 29) (LB := fun z => #[vI i1, vI i2]) (SB := fun z => [.int z]) (fun key => ?_) ?_
       ·
        refine r_icmpgt H 28 24 d_3_21 (fun c10 => ?_) (fun c10 => ?_)
        ·
         refine r_iconst H 29 0 d_3_28 ?_
         exact key (0 : Int32) ⟨(by rw [if_pos c10]), (by decide)⟩
        ·
         refine r_iconst H 25 1 d_3_24 ?_
         refine r_goto H 29 d_3_25 ?_
         exact key (1 : Int32) ⟨(by rw [if_neg c10]), (by decide)⟩
       rintro p13 ⟨ep13, rp13⟩
       exact key p13 ⟨(by subst ep13; rw [if_neg c7]), (by have := rp13; omega)⟩
     rintro p14 ⟨ep14, rp14⟩
     exact key p14 ⟨(by subst ep14; rw [if_neg c4]), (by have := rp14; omega)⟩
   rintro p15 ⟨ep15, rp15⟩
   exact key p15 ⟨(by subst ep15; rw [if_neg c1]), (by have := rp15; omega)⟩
 rintro p16 ⟨ep16, rp16⟩
 subst ep16
 exact r_nreturn (if i1 < (55296 : Int32) then (0 : Int32) else (if (56319 : Int32) < i1 then (0 : Int32) else (if i2 < (56320 : Int32) then (0 : Int32) else (if (57343 : Int32) < i2 then (0 : Int32) else (1 : Int32))))) H d_3_29 (nar_bool_id (by have := rp16; omega)) (⟨_, rfl, rfl, (by have := rp16; omega), rfl⟩)
def fn_snap_3 (i1 : Int32) (i2 : Int32) (i3 : Int32) (i4 : Int32) : Int32 := (if i1 < (1 : Int32) then i1 else (if (3 : Int32) < i1 then i1 else (if i1 = (1 : Int32) then (if i2 = (0 : Int32) then (1 : Int32) else (0 : Int32)) else (if i1 = (2 : Int32) then (if i3 = (0 : Int32) then (2 : Int32) else (1 : Int32)) else (if i4 = (0 : Int32) then (3 : Int32) else (2 : Int32))))))
def Q_snap_3 (Z : State) (i1 : Int32) (i2 : Int32) (i3 : Int32) (i4 : Int32) (h0 : Heap) (v : Option Value) (h : Heap) : Prop := ∃ z : Int32, v = some (.int z) ∧ h0 = h ∧ (fn_snap_3 i1 i2 i3 i4) = z ∧ (0 ≤ z.toInt ∧ z.toInt ≤ 4)
def R_snap_3 : Room := { frames := 0, cells := 0, slots := 0, locals := 0 }
theorem rm_snap_3 {w : Bool} {Z : State} {a0 : Array Value} (hw : HW a0 Z) (Ts : List String) (a1 : Addr) (i1 : Int32) (i2 : Int32) (i3 : Int32) (i4 : Int32) (c1 : ClassId) (h0 : Heap) (f : Nat) (Zf : Z.heap.size ≤ f) (Z0 : f ≤ h0.size) (A_a1 : Ar Z h0 a1 c1 .boolean [.int 0, .int i2, .int i3, .int i4, .int 0]) (r_i1 : 0 ≤ i1.toInt ∧ i1.toInt ≤ 4) (r_i2 : 0 ≤ i2.toInt ∧ i2.toInt ≤ 1) (r_i3 : 0 ≤ i3.toInt ∧ i3.toInt ≤ 1) (r_i4 : 0 ≤ i4.toInt ∧ i4.toInt ≤ 1) :
  Con w [] Z mn2 method_4_code 2 (some .int) R_snap_3 Ts Ts f #[.int i1, .ref a1] h0 (Q_snap_3 Z i1 i2 i3 i4 h0) := by
 refine con_of f #[vI i1, vR a1] (plainFor_of_name pn_0) (fun m => rfl) Zf ?_
 intro C H hX0
 refine r_iloadN H 1 d_4_0 ?_
 refine r_iconst H 2 1 d_4_1 ?_
 refine r_icmplt H 20 5 d_4_2 (fun c1 => ?_) (fun c1 => ?_)
 ·
  have rr2 : 0 ≤ i1.toInt ∧ i1.toInt ≤ 0 := by have := r_i1; have : (1 : Int32).toInt = 1 := (by decide); have hc_ := c1; simp only [Int32.lt_iff_toInt_lt, ← Int32.toInt_inj] at hc_; omega
  refine r_iloadN H 21 d_4_20 ?_
  exact r_ireturn H d_4_21 (⟨_, rfl, rfl, (by unfold fn_snap_3; rw [if_pos c1]), (by have := rr2; omega)⟩)
 ·
  have rr3 : 1 ≤ i1.toInt ∧ i1.toInt ≤ 4 := by have := r_i1; have : (1 : Int32).toInt = 1 := (by decide); have hc_ := c1; simp only [Int32.lt_iff_toInt_lt, ← Int32.toInt_inj] at hc_; omega
  refine r_iloadN H 6 d_4_5 ?_
  refine r_iconst H 7 3 d_4_6 ?_
  refine r_icmpgt H 20 10 d_4_7 (fun c4 => ?_) (fun c4 => ?_)
  ·
   have rr5 : 4 ≤ i1.toInt ∧ i1.toInt ≤ 4 := by have := rr3; have : (3 : Int32).toInt = 3 := (by decide); have hc_ := c4; simp only [Int32.lt_iff_toInt_lt, ← Int32.toInt_inj] at hc_; omega
   refine r_iloadN H 21 d_4_20 ?_
   exact r_ireturn H d_4_21 (⟨_, rfl, rfl, (by unfold fn_snap_3; rw [if_neg c1, if_pos c4]), (by have := rr5; omega)⟩)
  ·
   have rr6 : 1 ≤ i1.toInt ∧ i1.toInt ≤ 3 := by have := rr3; have : (3 : Int32).toInt = 3 := (by decide); have hc_ := c4; simp only [Int32.lt_iff_toInt_lt, ← Int32.toInt_inj] at hc_; omega
   refine r_aloadN H 11 d_4_10 ?_
   refine r_iloadN H 12 d_4_11 ?_
   have c7 : i1 = (1 : Int32) ∨ i1 = (2 : Int32) ∨ i1 = (3 : Int32) := by
    have := rr6; simp only [← Int32.toInt_inj]; have : (1 : Int32).toInt = 1 := (by decide); have : (2 : Int32).toInt = 2 := (by decide); have : (3 : Int32).toInt = 3 := (by decide); omega
   rcases c7 with c7 | c7 | c7
   ·
    subst c7
    refine r_zaload H 13 i2 d_4_12 A_a1 ?_
    refine r_ifeq H 20 16 d_4_13 (fun c8 => ?_) (fun c8 => ?_)
    ·
     refine r_iloadN H 21 d_4_20 ?_
     exact r_ireturn H d_4_21 (⟨_, rfl, rfl, (by unfold fn_snap_3; rw [if_neg c1, if_neg c4, if_pos rfl, if_pos c8]), (by decide)⟩)
    ·
     refine r_iloadN H 17 d_4_16 ?_
     refine r_iconst H 18 1 d_4_17 ?_
     refine r_isub H 19 0 d_4_18 ?_
     exact r_ireturn H d_4_19 (⟨_, rfl, rfl, (by unfold fn_snap_3; rw [if_neg c1, if_neg c4, if_pos rfl, if_neg c8]), (by decide)⟩)
   ·
    subst c7
    refine r_zaload H 13 i3 d_4_12 A_a1 ?_
    refine r_ifeq H 20 16 d_4_13 (fun c11 => ?_) (fun c11 => ?_)
    ·
     refine r_iloadN H 21 d_4_20 ?_
     exact r_ireturn H d_4_21 (⟨_, rfl, rfl, (by unfold fn_snap_3; rw [if_neg c1, if_neg c4, if_neg (by decide), if_pos rfl, if_pos c11]), (by decide)⟩)
    ·
     refine r_iloadN H 17 d_4_16 ?_
     refine r_iconst H 18 1 d_4_17 ?_
     refine r_isub H 19 1 d_4_18 ?_
     exact r_ireturn H d_4_19 (⟨_, rfl, rfl, (by unfold fn_snap_3; rw [if_neg c1, if_neg c4, if_neg (by decide), if_pos rfl, if_neg c11]), (by decide)⟩)
   ·
    subst c7
    refine r_zaload H 13 i4 d_4_12 A_a1 ?_
    refine r_ifeq H 20 16 d_4_13 (fun c14 => ?_) (fun c14 => ?_)
    ·
     refine r_iloadN H 21 d_4_20 ?_
     exact r_ireturn H d_4_21 (⟨_, rfl, rfl, (by unfold fn_snap_3; rw [if_neg c1, if_neg c4, if_neg (by decide), if_neg (by decide), if_pos c14]), (by decide)⟩)
    ·
     refine r_iloadN H 17 d_4_16 ?_
     refine r_iconst H 18 1 d_4_17 ?_
     refine r_isub H 19 2 d_4_18 ?_
     exact r_ireturn H d_4_19 (⟨_, rfl, rfl, (by unfold fn_snap_3; rw [if_neg c1, if_neg c4, if_neg (by decide), if_neg (by decide), if_neg c14]), (by decide)⟩)
def Q_compress_7 (Z : State) (a2 : Addr) (i1 : Int32) (i2 : Int32) (i3 : Int32) (i4 : Int32) (c2 : ClassId) (h0 : Heap) (v : Option Value) (h : Heap) : Prop := (v = some (.int 4) ∧ (¬ (255 : Int32) < i1) ∧ (¬ (255 : Int32) < i2) ∧ (¬ (255 : Int32) < i3) ∧ (¬ (255 : Int32) < i4) ∧ Keep h0 h [a2] ∧ Ar Z h a2 c2 .byte [.int (cB8 i1), .int (cB8 i2), .int (cB8 i3), .int (cB8 i4)] ∧ Exa Z h a2 "[B") ∨ (v = some (.int 3) ∧ (¬ (255 : Int32) < i1) ∧ (¬ (255 : Int32) < i2) ∧ (¬ (255 : Int32) < i3) ∧ ((255 : Int32) < i4) ∧ Keep h0 h [a2] ∧ Ar Z h a2 c2 .byte [.int (cB8 i1), .int (cB8 i2), .int (cB8 i3), .int 0] ∧ Exa Z h a2 "[B") ∨ (v = some (.int 2) ∧ (¬ (255 : Int32) < i1) ∧ (¬ (255 : Int32) < i2) ∧ ((255 : Int32) < i3) ∧ Keep h0 h [a2] ∧ Ar Z h a2 c2 .byte [.int (cB8 i1), .int (cB8 i2), .int 0, .int 0] ∧ Exa Z h a2 "[B") ∨ (v = some (.int 1) ∧ (¬ (255 : Int32) < i1) ∧ ((255 : Int32) < i2) ∧ Keep h0 h [a2] ∧ Ar Z h a2 c2 .byte [.int (cB8 i1), .int 0, .int 0, .int 0] ∧ Exa Z h a2 "[B") ∨ (v = some (.int 0) ∧ ((255 : Int32) < i1) ∧ h0 = h)
def R_compress_7 : Room := { frames := 0, cells := 0, slots := 0, locals := 0 }
theorem rm_compress_7 {w : Bool} {Z : State} {a0 : Array Value} (hw : HW a0 Z) (Ts : List String) (a1 : Addr) (a2 : Addr) (i1 : Int32) (i2 : Int32) (i3 : Int32) (i4 : Int32) (c1 : ClassId) (c2 : ClassId) (h0 : Heap) (f : Nat) (Zf : Z.heap.size ≤ f) (Z0 : f ≤ h0.size) (A_a1 : Ar Z h0 a1 c1 .char [.int i1, .int i2, .int i3, .int i4]) (A_a2 : Ar Z h0 a2 c2 .byte [.int 0, .int 0, .int 0, .int 0]) (g_a2 : f ≤ a2) (E_a2 : Exa Z h0 a2 "[B") (E_a1 : Exa Z h0 a1 "[C") (r_i1 : 0 ≤ i1.toInt ∧ i1.toInt ≤ 65535) (r_i2 : 0 ≤ i2.toInt ∧ i2.toInt ≤ 65535) (r_i3 : 0 ≤ i3.toInt ∧ i3.toInt ≤ 65535) (r_i4 : 0 ≤ i4.toInt ∧ i4.toInt ≤ 65535) :
  Con w [] Z mn3 jdk_52_method_21_code 7 (some .int) R_compress_7 Ts Ts f #[.ref a1, .int 0, .ref a2, .int 0, .int 4] h0 (Q_compress_7 Z a2 i1 i2 i3 i4 c2 h0) := by
 refine con_of f #[vR a1, vI 0, vR a2, vI 0, vI 4, .unset, .unset] (plainFor_of_name pn_1) (fun m => rfl) Zf ?_
 intro C H hX0
 refine r_iconst H 1 0 d_j52_21_0 ?_
 refine r_istore H 3 #[vR a1, vI 0, vR a2, vI 0, vI 4, vI 0, .unset] d_j52_21_1 ?_
 refine r_iload H 5 d_j52_21_3 ?_
 refine r_iload H 7 d_j52_21_5 ?_
 refine r_icmpgeF H 10 d_j52_21_7 rfl (by decide) ?_
 refine r_aloadN H 11 d_j52_21_10 ?_
 refine r_iloadN H 12 d_j52_21_11 ?_
 refine r_caload H 13 i1 d_j52_21_12 A_a1 ?_
 refine r_istore H 15 #[vR a1, vI 0, vR a2, vI 0, vI 4, vI 0, vI i1] d_j52_21_13 ?_
 refine r_iload H 17 d_j52_21_15 ?_
 refine r_sipush H 20 255 d_j52_21_17 ?_
 refine r_icmple H 26 23 d_j52_21_20 (fun c1 => ?_) (fun c1 => ?_)
 ·
  refine r_aloadN H 27 d_j52_21_26 ?_
  refine r_iloadN H 28 d_j52_21_27 ?_
  refine r_iload H 30 d_j52_21_28 ?_
  obtain ⟨p3, ep3, rp3⟩ : ∃ p : Int32, (i1.toInt8.toInt32) = p ∧ -128 ≤ p.toInt ∧ p.toInt ≤ 127 := ⟨_, rfl, (by have h := c_i2b i1; omega)⟩
  refine r_i2b H 31 p3 d_j52_21_30 ep3 ?_
  refine r_bastore H 32 p3 d_j52_21_31 A_a2 g_a2 (nar_byte_id (by have := rp3; omega)) ?_
  intro h4 K4 A4
  change Ar Z h4 a2 c2 .byte [.int p3, .int 0, .int 0, .int 0] at A4
  refine r_iinc H 35 #[vR a1, vI 1, vR a2, vI 0, vI 4, vI 0, vI i1] 1 d_j52_21_32 ?_
  refine r_iinc H 38 #[vR a1, vI 1, vR a2, vI 1, vI 4, vI 0, vI i1] 1 d_j52_21_35 ?_
  refine r_iinc H 41 #[vR a1, vI 1, vR a2, vI 1, vI 4, vI 1, vI i1] 1 d_j52_21_38 ?_
  refine r_goto H 3 d_j52_21_41 ?_
  refine r_iload H 5 d_j52_21_3 ?_
  refine r_iload H 7 d_j52_21_5 ?_
  refine r_icmpgeF H 10 d_j52_21_7 rfl (by decide) ?_
  refine r_aloadN H 11 d_j52_21_10 ?_
  refine r_iloadN H 12 d_j52_21_11 ?_
  have q5 := (E_a1.keep K4)
  have q6 := (E_a2.keep K4)
  have q7 := (A_a1.keep K4 (ninS (ne_exa q5 q6 (by decide)) nin0))
  refine r_caload H 13 i2 d_j52_21_12 q7 ?_
  refine r_istore H 15 #[vR a1, vI 1, vR a2, vI 1, vI 4, vI 1, vI i2] d_j52_21_13 ?_
  refine r_iload H 17 d_j52_21_15 ?_
  refine r_sipush H 20 255 d_j52_21_17 ?_
  refine r_icmple H 26 23 d_j52_21_20 (fun c8 => ?_) (fun c8 => ?_)
  ·
   refine r_aloadN H 27 d_j52_21_26 ?_
   refine r_iloadN H 28 d_j52_21_27 ?_
   refine r_iload H 30 d_j52_21_28 ?_
   obtain ⟨p10, ep10, rp10⟩ : ∃ p : Int32, (i2.toInt8.toInt32) = p ∧ -128 ≤ p.toInt ∧ p.toInt ≤ 127 := ⟨_, rfl, (by have h := c_i2b i2; omega)⟩
   refine r_i2b H 31 p10 d_j52_21_30 ep10 ?_
   refine r_bastore H 32 p10 d_j52_21_31 A4 g_a2 (nar_byte_id (by have := rp10; omega)) ?_
   intro h11 K11 A11
   change Ar Z h11 a2 c2 .byte [.int p3, .int p10, .int 0, .int 0] at A11
   refine r_iinc H 35 #[vR a1, vI 2, vR a2, vI 1, vI 4, vI 1, vI i2] 2 d_j52_21_32 ?_
   refine r_iinc H 38 #[vR a1, vI 2, vR a2, vI 2, vI 4, vI 1, vI i2] 2 d_j52_21_35 ?_
   refine r_iinc H 41 #[vR a1, vI 2, vR a2, vI 2, vI 4, vI 2, vI i2] 2 d_j52_21_38 ?_
   refine r_goto H 3 d_j52_21_41 ?_
   refine r_iload H 5 d_j52_21_3 ?_
   refine r_iload H 7 d_j52_21_5 ?_
   refine r_icmpgeF H 10 d_j52_21_7 rfl (by decide) ?_
   refine r_aloadN H 11 d_j52_21_10 ?_
   refine r_iloadN H 12 d_j52_21_11 ?_
   have q12 := (q5.keep K11)
   have q13 := (q6.keep K11)
   have q14 := (q7.keep K11 (ninS (ne_exa q12 q13 (by decide)) nin0))
   refine r_caload H 13 i3 d_j52_21_12 q14 ?_
   refine r_istore H 15 #[vR a1, vI 2, vR a2, vI 2, vI 4, vI 2, vI i3] d_j52_21_13 ?_
   refine r_iload H 17 d_j52_21_15 ?_
   refine r_sipush H 20 255 d_j52_21_17 ?_
   refine r_icmple H 26 23 d_j52_21_20 (fun c15 => ?_) (fun c15 => ?_)
   ·
    refine r_aloadN H 27 d_j52_21_26 ?_
    refine r_iloadN H 28 d_j52_21_27 ?_
    refine r_iload H 30 d_j52_21_28 ?_
    obtain ⟨p17, ep17, rp17⟩ : ∃ p : Int32, (i3.toInt8.toInt32) = p ∧ -128 ≤ p.toInt ∧ p.toInt ≤ 127 := ⟨_, rfl, (by have h := c_i2b i3; omega)⟩
    refine r_i2b H 31 p17 d_j52_21_30 ep17 ?_
    refine r_bastore H 32 p17 d_j52_21_31 A11 g_a2 (nar_byte_id (by have := rp17; omega)) ?_
    intro h18 K18 A18
    change Ar Z h18 a2 c2 .byte [.int p3, .int p10, .int p17, .int 0] at A18
    refine r_iinc H 35 #[vR a1, vI 3, vR a2, vI 2, vI 4, vI 2, vI i3] 3 d_j52_21_32 ?_
    refine r_iinc H 38 #[vR a1, vI 3, vR a2, vI 3, vI 4, vI 2, vI i3] 3 d_j52_21_35 ?_
    refine r_iinc H 41 #[vR a1, vI 3, vR a2, vI 3, vI 4, vI 3, vI i3] 3 d_j52_21_38 ?_
    refine r_goto H 3 d_j52_21_41 ?_
    refine r_iload H 5 d_j52_21_3 ?_
    refine r_iload H 7 d_j52_21_5 ?_
    refine r_icmpgeF H 10 d_j52_21_7 rfl (by decide) ?_
    refine r_aloadN H 11 d_j52_21_10 ?_
    refine r_iloadN H 12 d_j52_21_11 ?_
    have q19 := (q12.keep K18)
    have q20 := (q13.keep K18)
    have q21 := (q14.keep K18 (ninS (ne_exa q19 q20 (by decide)) nin0))
    refine r_caload H 13 i4 d_j52_21_12 q21 ?_
    refine r_istore H 15 #[vR a1, vI 3, vR a2, vI 3, vI 4, vI 3, vI i4] d_j52_21_13 ?_
    refine r_iload H 17 d_j52_21_15 ?_
    refine r_sipush H 20 255 d_j52_21_17 ?_
    refine r_icmple H 26 23 d_j52_21_20 (fun c22 => ?_) (fun c22 => ?_)
    ·
     refine r_aloadN H 27 d_j52_21_26 ?_
     refine r_iloadN H 28 d_j52_21_27 ?_
     refine r_iload H 30 d_j52_21_28 ?_
     obtain ⟨p24, ep24, rp24⟩ : ∃ p : Int32, (i4.toInt8.toInt32) = p ∧ -128 ≤ p.toInt ∧ p.toInt ≤ 127 := ⟨_, rfl, (by have h := c_i2b i4; omega)⟩
     refine r_i2b H 31 p24 d_j52_21_30 ep24 ?_
     refine r_bastore H 32 p24 d_j52_21_31 A18 g_a2 (nar_byte_id (by have := rp24; omega)) ?_
     intro h25 K25 A25
     change Ar Z h25 a2 c2 .byte [.int p3, .int p10, .int p17, .int p24] at A25
     refine r_iinc H 35 #[vR a1, vI 4, vR a2, vI 3, vI 4, vI 3, vI i4] 4 d_j52_21_32 ?_
     refine r_iinc H 38 #[vR a1, vI 4, vR a2, vI 4, vI 4, vI 3, vI i4] 4 d_j52_21_35 ?_
     refine r_iinc H 41 #[vR a1, vI 4, vR a2, vI 4, vI 4, vI 4, vI i4] 4 d_j52_21_38 ?_
     refine r_goto H 3 d_j52_21_41 ?_
     refine r_iload H 5 d_j52_21_3 ?_
     refine r_iload H 7 d_j52_21_5 ?_
     refine r_icmpgeT H 44 d_j52_21_7 (by decide) (by decide) (by decide) ?_
     refine r_iload H 46 d_j52_21_44 ?_
     have k26 : Keep h0 h4 [a2] := Keep.trans (Keep.refl h0 [a2]) K4 (allS (Or.inl (List.mem_of_getElem? (i := 0) rfl)) all0)
     have k27 : Keep h0 h11 [a2] := Keep.trans k26 K11 (allS (Or.inl (List.mem_of_getElem? (i := 0) rfl)) all0)
     have k28 : Keep h0 h18 [a2] := Keep.trans k27 K18 (allS (Or.inl (List.mem_of_getElem? (i := 0) rfl)) all0)
     have k29 : Keep h0 h25 [a2] := Keep.trans k28 K25 (allS (Or.inl (List.mem_of_getElem? (i := 0) rfl)) all0)
     have q30 := (q20.keep K25)
     subst ep3 ep10 ep17 ep24
     exact r_ireturn H d_j52_21_46 (Or.inl ⟨rfl, c1, c8, c15, c22, k29, A25, q30⟩)
    ·
     refine r_iload H 25 d_j52_21_23 ?_
     have k32 : Keep h0 h4 [a2] := Keep.trans (Keep.refl h0 [a2]) K4 (allS (Or.inl (List.mem_of_getElem? (i := 0) rfl)) all0)
     have k33 : Keep h0 h11 [a2] := Keep.trans k32 K11 (allS (Or.inl (List.mem_of_getElem? (i := 0) rfl)) all0)
     have k34 : Keep h0 h18 [a2] := Keep.trans k33 K18 (allS (Or.inl (List.mem_of_getElem? (i := 0) rfl)) all0)
     subst ep3 ep10 ep17
     exact r_ireturn H d_j52_21_25 (Or.inr (Or.inl ⟨rfl, c1, c8, c15, c22, k34, A18, q20⟩))
   ·
    refine r_iload H 25 d_j52_21_23 ?_
    have k36 : Keep h0 h4 [a2] := Keep.trans (Keep.refl h0 [a2]) K4 (allS (Or.inl (List.mem_of_getElem? (i := 0) rfl)) all0)
    have k37 : Keep h0 h11 [a2] := Keep.trans k36 K11 (allS (Or.inl (List.mem_of_getElem? (i := 0) rfl)) all0)
    subst ep3 ep10
    exact r_ireturn H d_j52_21_25 (Or.inr (Or.inr (Or.inl ⟨rfl, c1, c8, c15, k37, A11, q13⟩)))
  ·
   refine r_iload H 25 d_j52_21_23 ?_
   have k39 : Keep h0 h4 [a2] := Keep.trans (Keep.refl h0 [a2]) K4 (allS (Or.inl (List.mem_of_getElem? (i := 0) rfl)) all0)
   subst ep3
   exact r_ireturn H d_j52_21_25 (Or.inr (Or.inr (Or.inr (Or.inl ⟨rfl, c1, c8, k39, A4, q6⟩))))
 ·
  refine r_iload H 25 d_j52_21_23 ?_
  exact r_ireturn H d_j52_21_25 (Or.inr (Or.inr (Or.inr (Or.inr (⟨rfl, c1, rfl⟩)))))
def Q_newBytesLength_10 (Z : State) (h0 : Heap) (v : Option Value) (h : Heap) : Prop := v = some (.int 8) ∧ h0 = h
def R_newBytesLength_10 : Room := { frames := 0, cells := 0, slots := 0, locals := 0 }
theorem rm_newBytesLength_10 {w : Bool} {Z : State} {a0 : Array Value} (hw : HW a0 Z) (Ts : List String) (h0 : Heap) (f : Nat) (Zf : Z.heap.size ≤ f) (Z0 : f ≤ h0.size) :
  Con w [] Z mn4 jdk_52_method_3_code 1 (some .int) R_newBytesLength_10 Ts Ts f #[.int 4] h0 (Q_newBytesLength_10 Z h0) := by
 refine con_of f #[vI 4] (plainFor_of_name pn_1) (fun m => rfl) Zf ?_
 intro C H hX0
 refine r_iloadN H 1 d_j52_3_0 ?_
 refine r_ifgeT H 12 d_j52_3_1 ?_
 refine r_iloadN H 13 d_j52_3_12 ?_
 refine r_ldcI H 15 d_j52_3_13 (tw51 hw) ?_
 refine r_icmpltT H 55 d_j52_3_15 (by decide) (by decide) (by decide) ?_
 refine r_iloadN H 56 d_j52_3_55 ?_
 refine r_iconst H 57 1 d_j52_3_56 ?_
 refine r_ishl H 58 8 d_j52_3_57 (by decide) ?_
 exact r_ireturn H d_j52_3_58 (⟨rfl, rfl⟩)
def Q_newBytesFor_9 (Z : State) (h0 : Heap) (v : Option Value) (h : Heap) : Prop := ∃ (b2 : Addr) (kc2 : ClassId), v = some (.ref b2) ∧ Keep h0 h [] ∧ h0.size ≤ b2 ∧ Ar Z h b2 kc2 .byte [.int 0, .int 0, .int 0, .int 0, .int 0, .int 0, .int 0, .int 0] ∧ Exa Z h b2 "[B"
def R_newBytesFor_9 : Room := { frames := 1, cells := 1, slots := 8, locals := 12 }
theorem rm_newBytesFor_9 {w : Bool} {Z : State} {a0 : Array Value} (hw : HW a0 Z) (Ts : List String) (h0 : Heap) (f : Nat) (Zf : Z.heap.size ≤ f) (Z0 : f ≤ h0.size) :
  Con w [] Z mn5 jdk_52_method_2_code 1 (some (.array .byte)) R_newBytesFor_9 Ts Ts f #[.int 4] h0 (Q_newBytesFor_9 Z h0) := by
 refine con_of f #[vI 4] (plainFor_of_name pn_1) (fun m => rfl) Zf ?_
 intro C H hX0
 refine r_iloadN H 1 d_j52_2_0 ?_
 refine r_static (argsL := [.int 4]) (rest := []) (W := 0) H 4 d_j52_2_1 (tw48 hw) (tw49 hw) (tw36 hw) (tw50 hw) (lenOf pd_4 rfl) (rm_newBytesLength_10 hw Ts h0 f Zf Z0) ?_
 rintro _ _ ⟨rfl, rfl⟩
 refine r_newP H 6 "[B" 8 d_j52_2_4 (tw38 hw) ?_
 intro h2 b2 kc2 g2 l2 K2 E2 A2
 change Ar Z h2 b2 kc2 .byte [.int 0, .int 0, .int 0, .int 0, .int 0, .int 0, .int 0, .int 0] at A2
 have k3 : Keep h0 h2 [] := Keep.trans (Keep.refl h0 []) K2 all0
 exact r_areturn H d_j52_2_6 (⟨b2, kc2, rfl, k3, (nlt nlr (Nat.le_of_eq g2.symm)), A2, E2⟩)
def Q_putChar_11 (Z : State) (a1 : Addr) (i1 : Int32) (i4 : Int32) (i5 : Int32) (i6 : Int32) (i7 : Int32) (i8 : Int32) (i9 : Int32) (c1 : ClassId) (h0 : Heap) (v : Option Value) (h : Heap) : Prop := v = none ∧ Keep h0 h [a1] ∧ Ar Z h a1 c1 .byte [.int (cL8 i1), .int (cH8 i1), .int i4, .int i5, .int i6, .int i7, .int i8, .int i9] ∧ Exa Z h a1 "[B"
def R_putChar_11 : Room := { frames := 0, cells := 0, slots := 0, locals := 0 }
theorem rm_putChar_11 {w : Bool} {Z : State} {a0 : Array Value} (hw : HW a0 Z) (Ts : List String) (a1 : Addr) (i1 : Int32) (i2 : Int32) (i3 : Int32) (i4 : Int32) (i5 : Int32) (i6 : Int32) (i7 : Int32) (i8 : Int32) (i9 : Int32) (c1 : ClassId) (h0 : Heap) (f : Nat) (Zf : Z.heap.size ≤ f) (Z0 : f ≤ h0.size) (A_a1 : Ar Z h0 a1 c1 .byte [.int i2, .int i3, .int i4, .int i5, .int i6, .int i7, .int i8, .int i9]) (g_a1 : f ≤ a1) (E_a1 : Exa Z h0 a1 "[B") (r_i1 : 0 ≤ i1.toInt ∧ i1.toInt ≤ 65535) (S__assertionsDisabled : G_S__assertionsDisabled Z) (S_HI_BYTE_SHIFT : G_S_HI_BYTE_SHIFT Z) (S_LO_BYTE_SHIFT : G_S_LO_BYTE_SHIFT Z) :
  Con w [] Z mn6 jdk_52_method_4_code 3 none R_putChar_11 Ts Ts f #[.ref a1, .int 0, .int i1] h0 (Q_putChar_11 Z a1 i1 i4 i5 i6 i7 i8 i9 c1 h0) := by
 refine con_of f #[vR a1, vI 0, vI i1] (plainFor_of_name pn_1) (fun m => rfl) Zf ?_
 intro C H hX0
 refine r_gets H 3 d_j52_4_0 (tw55 hw) S__assertionsDisabled ?_
 refine r_ifneT H 28 d_j52_4_3 (by decide) (by decide) (by decide) ?_
 refine r_iloadN H 29 d_j52_4_28 ?_
 refine r_iconst H 30 1 d_j52_4_29 ?_
 refine r_ishl H 31 0 d_j52_4_30 (by decide) ?_
 refine r_istoreN H 32 #[vR a1, vI 0, vI i1] d_j52_4_31 ?_
 refine r_aloadN H 33 d_j52_4_32 ?_
 refine r_iloadN H 34 d_j52_4_33 ?_
 refine r_iinc H 37 #[vR a1, vI 1, vI i1] 1 d_j52_4_34 ?_
 refine r_iloadN H 38 d_j52_4_37 ?_
 refine r_gets H 41 d_j52_4_38 (tw56 hw) S_HI_BYTE_SHIFT ?_
 obtain ⟨p1, ep1, rp1⟩ : ∃ p : Int32, (i1 >>> ((0 : Int32) &&& 31)) = p ∧ 0 ≤ p.toInt ∧ p.toInt ≤ 65535 := ⟨_, rfl, (by have := r_i1; have h1 := c_ishr i1 (0 : Int32) 0 (by decide); omega)⟩
 refine r_ishr H 42 p1 d_j52_4_41 ep1 ?_
 obtain ⟨p2, ep2, rp2⟩ : ∃ p : Int32, (p1.toInt8.toInt32) = p ∧ -128 ≤ p.toInt ∧ p.toInt ≤ 127 := ⟨_, rfl, (by have h := c_i2b p1; omega)⟩
 refine r_i2b H 43 p2 d_j52_4_42 ep2 ?_
 refine r_bastore H 44 p2 d_j52_4_43 A_a1 g_a1 (nar_byte_id (by have := rp2; omega)) ?_
 intro h3 K3 A3
 change Ar Z h3 a1 c1 .byte [.int p2, .int i3, .int i4, .int i5, .int i6, .int i7, .int i8, .int i9] at A3
 refine r_aloadN H 45 d_j52_4_44 ?_
 refine r_iloadN H 46 d_j52_4_45 ?_
 refine r_iloadN H 47 d_j52_4_46 ?_
 refine r_gets H 50 d_j52_4_47 (tw57 hw) S_LO_BYTE_SHIFT ?_
 obtain ⟨p4, ep4, rp4⟩ : ∃ p : Int32, (i1 >>> ((8 : Int32) &&& 31)) = p ∧ 0 ≤ p.toInt ∧ p.toInt ≤ 255 := ⟨_, rfl, (by have := r_i1; have h1 := c_ishr i1 (8 : Int32) 8 (by decide); omega)⟩
 refine r_ishr H 51 p4 d_j52_4_50 ep4 ?_
 obtain ⟨p5, ep5, rp5⟩ : ∃ p : Int32, (p4.toInt8.toInt32) = p ∧ -128 ≤ p.toInt ∧ p.toInt ≤ 127 := ⟨_, rfl, (by have h := c_i2b p4; omega)⟩
 refine r_i2b H 52 p5 d_j52_4_51 ep5 ?_
 refine r_bastore H 53 p5 d_j52_4_52 A3 g_a1 (nar_byte_id (by have := rp5; omega)) ?_
 intro h6 K6 A6
 have q7 := (E_a1.keep K3)
 change Ar Z h6 a1 c1 .byte [.int p2, .int p5, .int i4, .int i5, .int i6, .int i7, .int i8, .int i9] at A6
 have k8 : Keep h0 h3 [a1] := Keep.trans (Keep.refl h0 [a1]) K3 (allS (Or.inl (List.mem_of_getElem? (i := 0) rfl)) all0)
 have k9 : Keep h0 h6 [a1] := Keep.trans k8 K6 (allS (Or.inl (List.mem_of_getElem? (i := 0) rfl)) all0)
 have q10 := (q7.keep K6)
 subst ep1 ep2 ep4 ep5
 exact r_return H d_j52_4_53 (⟨rfl, k9, A6, q10⟩)
def Q_putChar_12 (Z : State) (a1 : Addr) (i1 : Int32) (i2 : Int32) (i3 : Int32) (i6 : Int32) (i7 : Int32) (i8 : Int32) (i9 : Int32) (c1 : ClassId) (h0 : Heap) (v : Option Value) (h : Heap) : Prop := v = none ∧ Keep h0 h [a1] ∧ Ar Z h a1 c1 .byte [.int i2, .int i3, .int (cL8 i1), .int (cH8 i1), .int i6, .int i7, .int i8, .int i9] ∧ Exa Z h a1 "[B"
def R_putChar_12 : Room := { frames := 0, cells := 0, slots := 0, locals := 0 }
theorem rm_putChar_12 {w : Bool} {Z : State} {a0 : Array Value} (hw : HW a0 Z) (Ts : List String) (a1 : Addr) (i1 : Int32) (i2 : Int32) (i3 : Int32) (i4 : Int32) (i5 : Int32) (i6 : Int32) (i7 : Int32) (i8 : Int32) (i9 : Int32) (c1 : ClassId) (h0 : Heap) (f : Nat) (Zf : Z.heap.size ≤ f) (Z0 : f ≤ h0.size) (A_a1 : Ar Z h0 a1 c1 .byte [.int i2, .int i3, .int i4, .int i5, .int i6, .int i7, .int i8, .int i9]) (g_a1 : f ≤ a1) (E_a1 : Exa Z h0 a1 "[B") (r_i1 : 0 ≤ i1.toInt ∧ i1.toInt ≤ 65535) (S__assertionsDisabled : G_S__assertionsDisabled Z) (S_HI_BYTE_SHIFT : G_S_HI_BYTE_SHIFT Z) (S_LO_BYTE_SHIFT : G_S_LO_BYTE_SHIFT Z) :
  Con w [] Z mn6 jdk_52_method_4_code 3 none R_putChar_12 Ts Ts f #[.ref a1, .int 1, .int i1] h0 (Q_putChar_12 Z a1 i1 i2 i3 i6 i7 i8 i9 c1 h0) := by
 refine con_of f #[vR a1, vI 1, vI i1] (plainFor_of_name pn_1) (fun m => rfl) Zf ?_
 intro C H hX0
 refine r_gets H 3 d_j52_4_0 (tw55 hw) S__assertionsDisabled ?_
 refine r_ifneT H 28 d_j52_4_3 (by decide) (by decide) (by decide) ?_
 refine r_iloadN H 29 d_j52_4_28 ?_
 refine r_iconst H 30 1 d_j52_4_29 ?_
 refine r_ishl H 31 2 d_j52_4_30 (by decide) ?_
 refine r_istoreN H 32 #[vR a1, vI 2, vI i1] d_j52_4_31 ?_
 refine r_aloadN H 33 d_j52_4_32 ?_
 refine r_iloadN H 34 d_j52_4_33 ?_
 refine r_iinc H 37 #[vR a1, vI 3, vI i1] 3 d_j52_4_34 ?_
 refine r_iloadN H 38 d_j52_4_37 ?_
 refine r_gets H 41 d_j52_4_38 (tw56 hw) S_HI_BYTE_SHIFT ?_
 obtain ⟨p1, ep1, rp1⟩ : ∃ p : Int32, (i1 >>> ((0 : Int32) &&& 31)) = p ∧ 0 ≤ p.toInt ∧ p.toInt ≤ 65535 := ⟨_, rfl, (by have := r_i1; have h1 := c_ishr i1 (0 : Int32) 0 (by decide); omega)⟩
 refine r_ishr H 42 p1 d_j52_4_41 ep1 ?_
 obtain ⟨p2, ep2, rp2⟩ : ∃ p : Int32, (p1.toInt8.toInt32) = p ∧ -128 ≤ p.toInt ∧ p.toInt ≤ 127 := ⟨_, rfl, (by have h := c_i2b p1; omega)⟩
 refine r_i2b H 43 p2 d_j52_4_42 ep2 ?_
 refine r_bastore H 44 p2 d_j52_4_43 A_a1 g_a1 (nar_byte_id (by have := rp2; omega)) ?_
 intro h3 K3 A3
 change Ar Z h3 a1 c1 .byte [.int i2, .int i3, .int p2, .int i5, .int i6, .int i7, .int i8, .int i9] at A3
 refine r_aloadN H 45 d_j52_4_44 ?_
 refine r_iloadN H 46 d_j52_4_45 ?_
 refine r_iloadN H 47 d_j52_4_46 ?_
 refine r_gets H 50 d_j52_4_47 (tw57 hw) S_LO_BYTE_SHIFT ?_
 obtain ⟨p4, ep4, rp4⟩ : ∃ p : Int32, (i1 >>> ((8 : Int32) &&& 31)) = p ∧ 0 ≤ p.toInt ∧ p.toInt ≤ 255 := ⟨_, rfl, (by have := r_i1; have h1 := c_ishr i1 (8 : Int32) 8 (by decide); omega)⟩
 refine r_ishr H 51 p4 d_j52_4_50 ep4 ?_
 obtain ⟨p5, ep5, rp5⟩ : ∃ p : Int32, (p4.toInt8.toInt32) = p ∧ -128 ≤ p.toInt ∧ p.toInt ≤ 127 := ⟨_, rfl, (by have h := c_i2b p4; omega)⟩
 refine r_i2b H 52 p5 d_j52_4_51 ep5 ?_
 refine r_bastore H 53 p5 d_j52_4_52 A3 g_a1 (nar_byte_id (by have := rp5; omega)) ?_
 intro h6 K6 A6
 have q7 := (E_a1.keep K3)
 change Ar Z h6 a1 c1 .byte [.int i2, .int i3, .int p2, .int p5, .int i6, .int i7, .int i8, .int i9] at A6
 have k8 : Keep h0 h3 [a1] := Keep.trans (Keep.refl h0 [a1]) K3 (allS (Or.inl (List.mem_of_getElem? (i := 0) rfl)) all0)
 have k9 : Keep h0 h6 [a1] := Keep.trans k8 K6 (allS (Or.inl (List.mem_of_getElem? (i := 0) rfl)) all0)
 have q10 := (q7.keep K6)
 subst ep1 ep2 ep4 ep5
 exact r_return H d_j52_4_53 (⟨rfl, k9, A6, q10⟩)
def Q_putChar_13 (Z : State) (a1 : Addr) (i1 : Int32) (i2 : Int32) (i3 : Int32) (i4 : Int32) (i5 : Int32) (i8 : Int32) (i9 : Int32) (c1 : ClassId) (h0 : Heap) (v : Option Value) (h : Heap) : Prop := v = none ∧ Keep h0 h [a1] ∧ Ar Z h a1 c1 .byte [.int i2, .int i3, .int i4, .int i5, .int (cL8 i1), .int (cH8 i1), .int i8, .int i9] ∧ Exa Z h a1 "[B"
def R_putChar_13 : Room := { frames := 0, cells := 0, slots := 0, locals := 0 }
theorem rm_putChar_13 {w : Bool} {Z : State} {a0 : Array Value} (hw : HW a0 Z) (Ts : List String) (a1 : Addr) (i1 : Int32) (i2 : Int32) (i3 : Int32) (i4 : Int32) (i5 : Int32) (i6 : Int32) (i7 : Int32) (i8 : Int32) (i9 : Int32) (c1 : ClassId) (h0 : Heap) (f : Nat) (Zf : Z.heap.size ≤ f) (Z0 : f ≤ h0.size) (A_a1 : Ar Z h0 a1 c1 .byte [.int i2, .int i3, .int i4, .int i5, .int i6, .int i7, .int i8, .int i9]) (g_a1 : f ≤ a1) (E_a1 : Exa Z h0 a1 "[B") (r_i1 : 0 ≤ i1.toInt ∧ i1.toInt ≤ 65535) (S__assertionsDisabled : G_S__assertionsDisabled Z) (S_HI_BYTE_SHIFT : G_S_HI_BYTE_SHIFT Z) (S_LO_BYTE_SHIFT : G_S_LO_BYTE_SHIFT Z) :
  Con w [] Z mn6 jdk_52_method_4_code 3 none R_putChar_13 Ts Ts f #[.ref a1, .int 2, .int i1] h0 (Q_putChar_13 Z a1 i1 i2 i3 i4 i5 i8 i9 c1 h0) := by
 refine con_of f #[vR a1, vI 2, vI i1] (plainFor_of_name pn_1) (fun m => rfl) Zf ?_
 intro C H hX0
 refine r_gets H 3 d_j52_4_0 (tw55 hw) S__assertionsDisabled ?_
 refine r_ifneT H 28 d_j52_4_3 (by decide) (by decide) (by decide) ?_
 refine r_iloadN H 29 d_j52_4_28 ?_
 refine r_iconst H 30 1 d_j52_4_29 ?_
 refine r_ishl H 31 4 d_j52_4_30 (by decide) ?_
 refine r_istoreN H 32 #[vR a1, vI 4, vI i1] d_j52_4_31 ?_
 refine r_aloadN H 33 d_j52_4_32 ?_
 refine r_iloadN H 34 d_j52_4_33 ?_
 refine r_iinc H 37 #[vR a1, vI 5, vI i1] 5 d_j52_4_34 ?_
 refine r_iloadN H 38 d_j52_4_37 ?_
 refine r_gets H 41 d_j52_4_38 (tw56 hw) S_HI_BYTE_SHIFT ?_
 obtain ⟨p1, ep1, rp1⟩ : ∃ p : Int32, (i1 >>> ((0 : Int32) &&& 31)) = p ∧ 0 ≤ p.toInt ∧ p.toInt ≤ 65535 := ⟨_, rfl, (by have := r_i1; have h1 := c_ishr i1 (0 : Int32) 0 (by decide); omega)⟩
 refine r_ishr H 42 p1 d_j52_4_41 ep1 ?_
 obtain ⟨p2, ep2, rp2⟩ : ∃ p : Int32, (p1.toInt8.toInt32) = p ∧ -128 ≤ p.toInt ∧ p.toInt ≤ 127 := ⟨_, rfl, (by have h := c_i2b p1; omega)⟩
 refine r_i2b H 43 p2 d_j52_4_42 ep2 ?_
 refine r_bastore H 44 p2 d_j52_4_43 A_a1 g_a1 (nar_byte_id (by have := rp2; omega)) ?_
 intro h3 K3 A3
 change Ar Z h3 a1 c1 .byte [.int i2, .int i3, .int i4, .int i5, .int p2, .int i7, .int i8, .int i9] at A3
 refine r_aloadN H 45 d_j52_4_44 ?_
 refine r_iloadN H 46 d_j52_4_45 ?_
 refine r_iloadN H 47 d_j52_4_46 ?_
 refine r_gets H 50 d_j52_4_47 (tw57 hw) S_LO_BYTE_SHIFT ?_
 obtain ⟨p4, ep4, rp4⟩ : ∃ p : Int32, (i1 >>> ((8 : Int32) &&& 31)) = p ∧ 0 ≤ p.toInt ∧ p.toInt ≤ 255 := ⟨_, rfl, (by have := r_i1; have h1 := c_ishr i1 (8 : Int32) 8 (by decide); omega)⟩
 refine r_ishr H 51 p4 d_j52_4_50 ep4 ?_
 obtain ⟨p5, ep5, rp5⟩ : ∃ p : Int32, (p4.toInt8.toInt32) = p ∧ -128 ≤ p.toInt ∧ p.toInt ≤ 127 := ⟨_, rfl, (by have h := c_i2b p4; omega)⟩
 refine r_i2b H 52 p5 d_j52_4_51 ep5 ?_
 refine r_bastore H 53 p5 d_j52_4_52 A3 g_a1 (nar_byte_id (by have := rp5; omega)) ?_
 intro h6 K6 A6
 have q7 := (E_a1.keep K3)
 change Ar Z h6 a1 c1 .byte [.int i2, .int i3, .int i4, .int i5, .int p2, .int p5, .int i8, .int i9] at A6
 have k8 : Keep h0 h3 [a1] := Keep.trans (Keep.refl h0 [a1]) K3 (allS (Or.inl (List.mem_of_getElem? (i := 0) rfl)) all0)
 have k9 : Keep h0 h6 [a1] := Keep.trans k8 K6 (allS (Or.inl (List.mem_of_getElem? (i := 0) rfl)) all0)
 have q10 := (q7.keep K6)
 subst ep1 ep2 ep4 ep5
 exact r_return H d_j52_4_53 (⟨rfl, k9, A6, q10⟩)
def Q_putChar_14 (Z : State) (a1 : Addr) (i1 : Int32) (i2 : Int32) (i3 : Int32) (i4 : Int32) (i5 : Int32) (i6 : Int32) (i7 : Int32) (c1 : ClassId) (h0 : Heap) (v : Option Value) (h : Heap) : Prop := v = none ∧ Keep h0 h [a1] ∧ Ar Z h a1 c1 .byte [.int i2, .int i3, .int i4, .int i5, .int i6, .int i7, .int (cL8 i1), .int (cH8 i1)] ∧ Exa Z h a1 "[B"
def R_putChar_14 : Room := { frames := 0, cells := 0, slots := 0, locals := 0 }
theorem rm_putChar_14 {w : Bool} {Z : State} {a0 : Array Value} (hw : HW a0 Z) (Ts : List String) (a1 : Addr) (i1 : Int32) (i2 : Int32) (i3 : Int32) (i4 : Int32) (i5 : Int32) (i6 : Int32) (i7 : Int32) (i8 : Int32) (i9 : Int32) (c1 : ClassId) (h0 : Heap) (f : Nat) (Zf : Z.heap.size ≤ f) (Z0 : f ≤ h0.size) (A_a1 : Ar Z h0 a1 c1 .byte [.int i2, .int i3, .int i4, .int i5, .int i6, .int i7, .int i8, .int i9]) (g_a1 : f ≤ a1) (E_a1 : Exa Z h0 a1 "[B") (r_i1 : 0 ≤ i1.toInt ∧ i1.toInt ≤ 65535) (S__assertionsDisabled : G_S__assertionsDisabled Z) (S_HI_BYTE_SHIFT : G_S_HI_BYTE_SHIFT Z) (S_LO_BYTE_SHIFT : G_S_LO_BYTE_SHIFT Z) :
  Con w [] Z mn6 jdk_52_method_4_code 3 none R_putChar_14 Ts Ts f #[.ref a1, .int 3, .int i1] h0 (Q_putChar_14 Z a1 i1 i2 i3 i4 i5 i6 i7 c1 h0) := by
 refine con_of f #[vR a1, vI 3, vI i1] (plainFor_of_name pn_1) (fun m => rfl) Zf ?_
 intro C H hX0
 refine r_gets H 3 d_j52_4_0 (tw55 hw) S__assertionsDisabled ?_
 refine r_ifneT H 28 d_j52_4_3 (by decide) (by decide) (by decide) ?_
 refine r_iloadN H 29 d_j52_4_28 ?_
 refine r_iconst H 30 1 d_j52_4_29 ?_
 refine r_ishl H 31 6 d_j52_4_30 (by decide) ?_
 refine r_istoreN H 32 #[vR a1, vI 6, vI i1] d_j52_4_31 ?_
 refine r_aloadN H 33 d_j52_4_32 ?_
 refine r_iloadN H 34 d_j52_4_33 ?_
 refine r_iinc H 37 #[vR a1, vI 7, vI i1] 7 d_j52_4_34 ?_
 refine r_iloadN H 38 d_j52_4_37 ?_
 refine r_gets H 41 d_j52_4_38 (tw56 hw) S_HI_BYTE_SHIFT ?_
 obtain ⟨p1, ep1, rp1⟩ : ∃ p : Int32, (i1 >>> ((0 : Int32) &&& 31)) = p ∧ 0 ≤ p.toInt ∧ p.toInt ≤ 65535 := ⟨_, rfl, (by have := r_i1; have h1 := c_ishr i1 (0 : Int32) 0 (by decide); omega)⟩
 refine r_ishr H 42 p1 d_j52_4_41 ep1 ?_
 obtain ⟨p2, ep2, rp2⟩ : ∃ p : Int32, (p1.toInt8.toInt32) = p ∧ -128 ≤ p.toInt ∧ p.toInt ≤ 127 := ⟨_, rfl, (by have h := c_i2b p1; omega)⟩
 refine r_i2b H 43 p2 d_j52_4_42 ep2 ?_
 refine r_bastore H 44 p2 d_j52_4_43 A_a1 g_a1 (nar_byte_id (by have := rp2; omega)) ?_
 intro h3 K3 A3
 change Ar Z h3 a1 c1 .byte [.int i2, .int i3, .int i4, .int i5, .int i6, .int i7, .int p2, .int i9] at A3
 refine r_aloadN H 45 d_j52_4_44 ?_
 refine r_iloadN H 46 d_j52_4_45 ?_
 refine r_iloadN H 47 d_j52_4_46 ?_
 refine r_gets H 50 d_j52_4_47 (tw57 hw) S_LO_BYTE_SHIFT ?_
 obtain ⟨p4, ep4, rp4⟩ : ∃ p : Int32, (i1 >>> ((8 : Int32) &&& 31)) = p ∧ 0 ≤ p.toInt ∧ p.toInt ≤ 255 := ⟨_, rfl, (by have := r_i1; have h1 := c_ishr i1 (8 : Int32) 8 (by decide); omega)⟩
 refine r_ishr H 51 p4 d_j52_4_50 ep4 ?_
 obtain ⟨p5, ep5, rp5⟩ : ∃ p : Int32, (p4.toInt8.toInt32) = p ∧ -128 ≤ p.toInt ∧ p.toInt ≤ 127 := ⟨_, rfl, (by have h := c_i2b p4; omega)⟩
 refine r_i2b H 52 p5 d_j52_4_51 ep5 ?_
 refine r_bastore H 53 p5 d_j52_4_52 A3 g_a1 (nar_byte_id (by have := rp5; omega)) ?_
 intro h6 K6 A6
 have q7 := (E_a1.keep K3)
 change Ar Z h6 a1 c1 .byte [.int i2, .int i3, .int i4, .int i5, .int i6, .int i7, .int p2, .int p5] at A6
 have k8 : Keep h0 h3 [a1] := Keep.trans (Keep.refl h0 [a1]) K3 (allS (Or.inl (List.mem_of_getElem? (i := 0) rfl)) all0)
 have k9 : Keep h0 h6 [a1] := Keep.trans k8 K6 (allS (Or.inl (List.mem_of_getElem? (i := 0) rfl)) all0)
 have q10 := (q7.keep K6)
 subst ep1 ep2 ep4 ep5
 exact r_return H d_j52_4_53 (⟨rfl, k9, A6, q10⟩)
def Q_toBytes_8 (Z : State) (i1 : Int32) (i2 : Int32) (i3 : Int32) (i4 : Int32) (h0 : Heap) (v : Option Value) (h : Heap) : Prop := ∃ (b1 : Addr) (kc2 : ClassId), v = some (.ref b1) ∧ Keep h0 h [] ∧ h0.size ≤ b1 ∧ Ar Z h b1 kc2 .byte [.int (cL8 i1), .int (cH8 i1), .int (cL8 i2), .int (cH8 i2), .int (cL8 i3), .int (cH8 i3), .int (cL8 i4), .int (cH8 i4)] ∧ Exa Z h b1 "[B"
def R_toBytes_8 : Room := { frames := 2, cells := 1, slots := 8, locals := 24 }
theorem rm_toBytes_8 {w : Bool} {Z : State} {a0 : Array Value} (hw : HW a0 Z) (Ts : List String) (a1 : Addr) (i1 : Int32) (i2 : Int32) (i3 : Int32) (i4 : Int32) (c1 : ClassId) (h0 : Heap) (f : Nat) (Zf : Z.heap.size ≤ f) (Z0 : f ≤ h0.size) (A_a1 : Ar Z h0 a1 c1 .char [.int i1, .int i2, .int i3, .int i4]) (r_i1 : 0 ≤ i1.toInt ∧ i1.toInt ≤ 65535) (r_i2 : 0 ≤ i2.toInt ∧ i2.toInt ≤ 65535) (r_i3 : 0 ≤ i3.toInt ∧ i3.toInt ≤ 65535) (r_i4 : 0 ≤ i4.toInt ∧ i4.toInt ≤ 65535) (S__assertionsDisabled : G_S__assertionsDisabled Z) (S_HI_BYTE_SHIFT : G_S_HI_BYTE_SHIFT Z) (S_LO_BYTE_SHIFT : G_S_LO_BYTE_SHIFT Z) :
  Con w [] Z mn7 jdk_52_method_14_code 5 (some (.array .byte)) R_toBytes_8 Ts Ts f #[.ref a1, .int 0, .int 4] h0 (Q_toBytes_8 Z i1 i2 i3 i4 h0) := by
 refine con_of f #[vR a1, vI 0, vI 4, .unset, .unset] (plainFor_of_name pn_1) (fun m => rfl) Zf ?_
 intro C H hX0
 refine r_iloadN H 1 d_j52_14_0 ?_
 refine r_static (argsL := [.int 4]) (rest := []) (W := 0) H 4 d_j52_14_1 (tw45 hw) (tw46 hw) (tw36 hw) (tw47 hw) (lenOf pd_5 rfl) (rm_newBytesFor_9 hw Ts h0 f Zf Z0) ?_
 rintro _ hh7 ⟨b1, kc2, rfl, K3, g4, q5, q6⟩
 refine r_astoreN H 5 #[vR a1, vI 0, vI 4, vR b1, .unset] d_j52_14_4 ?_
 refine r_iconst H 6 0 d_j52_14_5 ?_
 refine r_istore H 8 #[vR a1, vI 0, vI 4, vR b1, vI 0] d_j52_14_6 ?_
 refine r_iload H 10 d_j52_14_8 ?_
 refine r_iloadN H 11 d_j52_14_10 ?_
 refine r_icmpgeF H 14 d_j52_14_11 rfl (by decide) ?_
 refine r_aloadN H 15 d_j52_14_14 ?_
 refine r_iload H 17 d_j52_14_15 ?_
 refine r_aloadN H 18 d_j52_14_17 ?_
 refine r_iloadN H 19 d_j52_14_18 ?_
 have q8 := (A_a1.keep K3 nin0)
 refine r_caload H 20 i1 d_j52_14_19 q8 ?_
 refine r_static (argsL := [.ref b1, .int 0, .int i1]) (rest := []) (W := 0) H 23 d_j52_14_20 (tw52 hw) (tw53 hw) (tw36 hw) (tw54 hw) (lenOf pd_6 rfl) (rm_putChar_11 hw Ts b1 i1 (0 : Int32) (0 : Int32) (0 : Int32) (0 : Int32) (0 : Int32) (0 : Int32) (0 : Int32) (0 : Int32) kc2 hh7 f Zf (nlt Z0 K3.1) q5 (nlt Z0 g4) q6 (by have := r_i1; omega) S__assertionsDisabled S_HI_BYTE_SHIFT S_LO_BYTE_SHIFT) ?_
 rintro _ hh12 ⟨rfl, K9, q10, q11⟩
 refine r_iinc H 26 #[vR a1, vI 1, vI 4, vR b1, vI 0] 1 d_j52_14_23 ?_
 refine r_iinc H 29 #[vR a1, vI 1, vI 4, vR b1, vI 1] 1 d_j52_14_26 ?_
 refine r_goto H 8 d_j52_14_29 ?_
 refine r_iload H 10 d_j52_14_8 ?_
 refine r_iloadN H 11 d_j52_14_10 ?_
 refine r_icmpgeF H 14 d_j52_14_11 rfl (by decide) ?_
 refine r_aloadN H 15 d_j52_14_14 ?_
 refine r_iload H 17 d_j52_14_15 ?_
 refine r_aloadN H 18 d_j52_14_17 ?_
 refine r_iloadN H 19 d_j52_14_18 ?_
 have q13 := (q8.keep K9 (ninS (Nat.ne_of_lt (Nat.lt_of_lt_of_le A_a1.lt (nlt nlr g4))) nin0))
 refine r_caload H 20 i2 d_j52_14_19 q13 ?_
 have z14 := Nat.le_trans K3.1 K9.1
 refine r_static (argsL := [.ref b1, .int 1, .int i2]) (rest := []) (W := 0) H 23 d_j52_14_20 (tw52 hw) (tw53 hw) (tw36 hw) (tw54 hw) (lenOf pd_6 rfl) (rm_putChar_12 hw Ts b1 i2 (cL8 i1) (cH8 i1) (0 : Int32) (0 : Int32) (0 : Int32) (0 : Int32) (0 : Int32) (0 : Int32) kc2 hh12 f Zf (nlt Z0 z14) q10 (nlt Z0 g4) q11 (by have := r_i2; omega) S__assertionsDisabled S_HI_BYTE_SHIFT S_LO_BYTE_SHIFT) ?_
 rintro _ hh18 ⟨rfl, K15, q16, q17⟩
 refine r_iinc H 26 #[vR a1, vI 2, vI 4, vR b1, vI 1] 2 d_j52_14_23 ?_
 refine r_iinc H 29 #[vR a1, vI 2, vI 4, vR b1, vI 2] 2 d_j52_14_26 ?_
 refine r_goto H 8 d_j52_14_29 ?_
 refine r_iload H 10 d_j52_14_8 ?_
 refine r_iloadN H 11 d_j52_14_10 ?_
 refine r_icmpgeF H 14 d_j52_14_11 rfl (by decide) ?_
 refine r_aloadN H 15 d_j52_14_14 ?_
 refine r_iload H 17 d_j52_14_15 ?_
 refine r_aloadN H 18 d_j52_14_17 ?_
 refine r_iloadN H 19 d_j52_14_18 ?_
 have q19 := (q13.keep K15 (ninS (Nat.ne_of_lt (Nat.lt_of_lt_of_le A_a1.lt (nlt nlr g4))) nin0))
 refine r_caload H 20 i3 d_j52_14_19 q19 ?_
 have z20 := Nat.le_trans z14 K15.1
 refine r_static (argsL := [.ref b1, .int 2, .int i3]) (rest := []) (W := 0) H 23 d_j52_14_20 (tw52 hw) (tw53 hw) (tw36 hw) (tw54 hw) (lenOf pd_6 rfl) (rm_putChar_13 hw Ts b1 i3 (cL8 i1) (cH8 i1) (cL8 i2) (cH8 i2) (0 : Int32) (0 : Int32) (0 : Int32) (0 : Int32) kc2 hh18 f Zf (nlt Z0 z20) q16 (nlt Z0 g4) q17 (by have := r_i3; omega) S__assertionsDisabled S_HI_BYTE_SHIFT S_LO_BYTE_SHIFT) ?_
 rintro _ hh24 ⟨rfl, K21, q22, q23⟩
 refine r_iinc H 26 #[vR a1, vI 3, vI 4, vR b1, vI 2] 3 d_j52_14_23 ?_
 refine r_iinc H 29 #[vR a1, vI 3, vI 4, vR b1, vI 3] 3 d_j52_14_26 ?_
 refine r_goto H 8 d_j52_14_29 ?_
 refine r_iload H 10 d_j52_14_8 ?_
 refine r_iloadN H 11 d_j52_14_10 ?_
 refine r_icmpgeF H 14 d_j52_14_11 rfl (by decide) ?_
 refine r_aloadN H 15 d_j52_14_14 ?_
 refine r_iload H 17 d_j52_14_15 ?_
 refine r_aloadN H 18 d_j52_14_17 ?_
 refine r_iloadN H 19 d_j52_14_18 ?_
 have q25 := (q19.keep K21 (ninS (Nat.ne_of_lt (Nat.lt_of_lt_of_le A_a1.lt (nlt nlr g4))) nin0))
 refine r_caload H 20 i4 d_j52_14_19 q25 ?_
 have z26 := Nat.le_trans z20 K21.1
 refine r_static (argsL := [.ref b1, .int 3, .int i4]) (rest := []) (W := 0) H 23 d_j52_14_20 (tw52 hw) (tw53 hw) (tw36 hw) (tw54 hw) (lenOf pd_6 rfl) (rm_putChar_14 hw Ts b1 i4 (cL8 i1) (cH8 i1) (cL8 i2) (cH8 i2) (cL8 i3) (cH8 i3) (0 : Int32) (0 : Int32) kc2 hh24 f Zf (nlt Z0 z26) q22 (nlt Z0 g4) q23 (by have := r_i4; omega) S__assertionsDisabled S_HI_BYTE_SHIFT S_LO_BYTE_SHIFT) ?_
 rintro _ hh30 ⟨rfl, K27, q28, q29⟩
 refine r_iinc H 26 #[vR a1, vI 4, vI 4, vR b1, vI 3] 4 d_j52_14_23 ?_
 refine r_iinc H 29 #[vR a1, vI 4, vI 4, vR b1, vI 4] 4 d_j52_14_26 ?_
 refine r_goto H 8 d_j52_14_29 ?_
 refine r_iload H 10 d_j52_14_8 ?_
 refine r_iloadN H 11 d_j52_14_10 ?_
 refine r_icmpgeT H 32 d_j52_14_11 (by decide) (by decide) (by decide) ?_
 refine r_aloadN H 33 d_j52_14_32 ?_
 have k31 : Keep h0 hh7 [] := Keep.trans (Keep.refl h0 []) K3 all0
 have k32 : Keep h0 hh12 [] := Keep.trans k31 K9 (allS (Or.inr (nlt nlr g4)) all0)
 have k33 : Keep h0 hh18 [] := Keep.trans k32 K15 (allS (Or.inr (nlt nlr g4)) all0)
 have k34 : Keep h0 hh24 [] := Keep.trans k33 K21 (allS (Or.inr (nlt nlr g4)) all0)
 have k35 : Keep h0 hh30 [] := Keep.trans k34 K27 (allS (Or.inr (nlt nlr g4)) all0)
 exact r_areturn H d_j52_14_33 (⟨b1, kc2, rfl, k35, (nlt nlr g4), q28, q29⟩)
def Q_getChar_15 (Z : State) (i7 : Int32) (i8 : Int32) (h0 : Heap) (v : Option Value) (h : Heap) : Prop := ∃ (z : Int32), v = some (.int z) ∧ ((((i7 &&& (255 : Int32)) <<< ((0 : Int32) &&& 31)) ||| ((i8 &&& (255 : Int32)) <<< ((8 : Int32) &&& 31))).toUInt32.toUInt16.toUInt32.toInt32) = z ∧ (0 ≤ z.toInt ∧ z.toInt ≤ 65535) ∧ h0 = h
def R_getChar_15 : Room := { frames := 0, cells := 0, slots := 0, locals := 0 }
theorem rm_getChar_15 {w : Bool} {Z : State} {a0 : Array Value} (hw : HW a0 Z) (Ts : List String) (a1 : Addr) (i1 : Int32) (i2 : Int32) (i3 : Int32) (i4 : Int32) (i5 : Int32) (i6 : Int32) (i7 : Int32) (i8 : Int32) (c1 : ClassId) (h0 : Heap) (f : Nat) (Zf : Z.heap.size ≤ f) (Z0 : f ≤ h0.size) (A_a1 : Ar Z h0 a1 c1 .byte [.int i1, .int i2, .int i3, .int i4, .int i5, .int i6, .int i7, .int i8]) (S__assertionsDisabled : G_S__assertionsDisabled Z) (S_HI_BYTE_SHIFT : G_S_HI_BYTE_SHIFT Z) (S_LO_BYTE_SHIFT : G_S_LO_BYTE_SHIFT Z) :
  Con w [] Z mn8 jdk_52_method_5_code 2 (some .char) R_getChar_15 Ts Ts f #[.ref a1, .int 3] h0 (Q_getChar_15 Z i7 i8 h0) := by
 refine con_of f #[vR a1, vI 3] (plainFor_of_name pn_1) (fun m => rfl) Zf ?_
 intro C H hX0
 refine r_gets H 3 d_j52_5_0 (tw55 hw) S__assertionsDisabled ?_
 refine r_ifneT H 28 d_j52_5_3 (by decide) (by decide) (by decide) ?_
 refine r_iloadN H 29 d_j52_5_28 ?_
 refine r_iconst H 30 1 d_j52_5_29 ?_
 refine r_ishl H 31 6 d_j52_5_30 (by decide) ?_
 refine r_istoreN H 32 #[vR a1, vI 6] d_j52_5_31 ?_
 refine r_aloadN H 33 d_j52_5_32 ?_
 refine r_iloadN H 34 d_j52_5_33 ?_
 refine r_iinc H 37 #[vR a1, vI 7] 7 d_j52_5_34 ?_
 refine r_baload H 38 i7 d_j52_5_37 A_a1 ?_
 refine r_sipush H 41 255 d_j52_5_38 ?_
 obtain ⟨p1, ep1, rp1⟩ : ∃ p : Int32, (i7 &&& (255 : Int32)) = p ∧ 0 ≤ p.toInt ∧ p.toInt ≤ 255 := ⟨_, rfl, (by have h := c_and i7 (255 : Int32) (by decide); have : (255 : Int32).toInt = 255 := (by decide); omega)⟩
 refine r_iand H 42 p1 d_j52_5_41 ep1 ?_
 refine r_gets H 45 d_j52_5_42 (tw56 hw) S_HI_BYTE_SHIFT ?_
 refine r_ishl H 46 (p1 <<< ((0 : Int32) &&& 31)) d_j52_5_45 rfl ?_
 refine r_aloadN H 47 d_j52_5_46 ?_
 refine r_iloadN H 48 d_j52_5_47 ?_
 refine r_baload H 49 i8 d_j52_5_48 A_a1 ?_
 refine r_sipush H 52 255 d_j52_5_49 ?_
 obtain ⟨p2, ep2, rp2⟩ : ∃ p : Int32, (i8 &&& (255 : Int32)) = p ∧ 0 ≤ p.toInt ∧ p.toInt ≤ 255 := ⟨_, rfl, (by have h := c_and i8 (255 : Int32) (by decide); have : (255 : Int32).toInt = 255 := (by decide); omega)⟩
 refine r_iand H 53 p2 d_j52_5_52 ep2 ?_
 refine r_gets H 56 d_j52_5_53 (tw57 hw) S_LO_BYTE_SHIFT ?_
 refine r_ishl H 57 (p2 <<< ((8 : Int32) &&& 31)) d_j52_5_56 rfl ?_
 refine r_ior H 58 ((p1 <<< ((0 : Int32) &&& 31)) ||| (p2 <<< ((8 : Int32) &&& 31))) d_j52_5_57 ?_
 obtain ⟨p3, ep3, rp3⟩ : ∃ p : Int32, (((p1 <<< ((0 : Int32) &&& 31)) ||| (p2 <<< ((8 : Int32) &&& 31))).toUInt32.toUInt16.toUInt32.toInt32) = p ∧ 0 ≤ p.toInt ∧ p.toInt ≤ 65535 := ⟨_, rfl, (by have h := c_i2c ((p1 <<< ((0 : Int32) &&& 31)) ||| (p2 <<< ((8 : Int32) &&& 31))); omega)⟩
 refine r_i2c H 59 p3 d_j52_5_58 ep3 ?_
 subst ep1 ep2 ep3
 exact r_nreturn ((((i7 &&& (255 : Int32)) <<< ((0 : Int32) &&& 31)) ||| ((i8 &&& (255 : Int32)) <<< ((8 : Int32) &&& 31))).toUInt32.toUInt16.toUInt32.toInt32) H d_j52_5_59 (nar_char_id (by have := rp3; omega)) (⟨_, rfl, rfl, (by have := rp3; omega), rfl⟩)
def Q_getChar_16 (Z : State) (i5 : Int32) (i6 : Int32) (h0 : Heap) (v : Option Value) (h : Heap) : Prop := ∃ (z : Int32), v = some (.int z) ∧ ((((i5 &&& (255 : Int32)) <<< ((0 : Int32) &&& 31)) ||| ((i6 &&& (255 : Int32)) <<< ((8 : Int32) &&& 31))).toUInt32.toUInt16.toUInt32.toInt32) = z ∧ (0 ≤ z.toInt ∧ z.toInt ≤ 65535) ∧ h0 = h
def R_getChar_16 : Room := { frames := 0, cells := 0, slots := 0, locals := 0 }
theorem rm_getChar_16 {w : Bool} {Z : State} {a0 : Array Value} (hw : HW a0 Z) (Ts : List String) (a1 : Addr) (i1 : Int32) (i2 : Int32) (i3 : Int32) (i4 : Int32) (i5 : Int32) (i6 : Int32) (i7 : Int32) (i8 : Int32) (c1 : ClassId) (h0 : Heap) (f : Nat) (Zf : Z.heap.size ≤ f) (Z0 : f ≤ h0.size) (A_a1 : Ar Z h0 a1 c1 .byte [.int i1, .int i2, .int i3, .int i4, .int i5, .int i6, .int i7, .int i8]) (S__assertionsDisabled : G_S__assertionsDisabled Z) (S_HI_BYTE_SHIFT : G_S_HI_BYTE_SHIFT Z) (S_LO_BYTE_SHIFT : G_S_LO_BYTE_SHIFT Z) :
  Con w [] Z mn8 jdk_52_method_5_code 2 (some .char) R_getChar_16 Ts Ts f #[.ref a1, .int 2] h0 (Q_getChar_16 Z i5 i6 h0) := by
 refine con_of f #[vR a1, vI 2] (plainFor_of_name pn_1) (fun m => rfl) Zf ?_
 intro C H hX0
 refine r_gets H 3 d_j52_5_0 (tw55 hw) S__assertionsDisabled ?_
 refine r_ifneT H 28 d_j52_5_3 (by decide) (by decide) (by decide) ?_
 refine r_iloadN H 29 d_j52_5_28 ?_
 refine r_iconst H 30 1 d_j52_5_29 ?_
 refine r_ishl H 31 4 d_j52_5_30 (by decide) ?_
 refine r_istoreN H 32 #[vR a1, vI 4] d_j52_5_31 ?_
 refine r_aloadN H 33 d_j52_5_32 ?_
 refine r_iloadN H 34 d_j52_5_33 ?_
 refine r_iinc H 37 #[vR a1, vI 5] 5 d_j52_5_34 ?_
 refine r_baload H 38 i5 d_j52_5_37 A_a1 ?_
 refine r_sipush H 41 255 d_j52_5_38 ?_
 obtain ⟨p1, ep1, rp1⟩ : ∃ p : Int32, (i5 &&& (255 : Int32)) = p ∧ 0 ≤ p.toInt ∧ p.toInt ≤ 255 := ⟨_, rfl, (by have h := c_and i5 (255 : Int32) (by decide); have : (255 : Int32).toInt = 255 := (by decide); omega)⟩
 refine r_iand H 42 p1 d_j52_5_41 ep1 ?_
 refine r_gets H 45 d_j52_5_42 (tw56 hw) S_HI_BYTE_SHIFT ?_
 refine r_ishl H 46 (p1 <<< ((0 : Int32) &&& 31)) d_j52_5_45 rfl ?_
 refine r_aloadN H 47 d_j52_5_46 ?_
 refine r_iloadN H 48 d_j52_5_47 ?_
 refine r_baload H 49 i6 d_j52_5_48 A_a1 ?_
 refine r_sipush H 52 255 d_j52_5_49 ?_
 obtain ⟨p2, ep2, rp2⟩ : ∃ p : Int32, (i6 &&& (255 : Int32)) = p ∧ 0 ≤ p.toInt ∧ p.toInt ≤ 255 := ⟨_, rfl, (by have h := c_and i6 (255 : Int32) (by decide); have : (255 : Int32).toInt = 255 := (by decide); omega)⟩
 refine r_iand H 53 p2 d_j52_5_52 ep2 ?_
 refine r_gets H 56 d_j52_5_53 (tw57 hw) S_LO_BYTE_SHIFT ?_
 refine r_ishl H 57 (p2 <<< ((8 : Int32) &&& 31)) d_j52_5_56 rfl ?_
 refine r_ior H 58 ((p1 <<< ((0 : Int32) &&& 31)) ||| (p2 <<< ((8 : Int32) &&& 31))) d_j52_5_57 ?_
 obtain ⟨p3, ep3, rp3⟩ : ∃ p : Int32, (((p1 <<< ((0 : Int32) &&& 31)) ||| (p2 <<< ((8 : Int32) &&& 31))).toUInt32.toUInt16.toUInt32.toInt32) = p ∧ 0 ≤ p.toInt ∧ p.toInt ≤ 65535 := ⟨_, rfl, (by have h := c_i2c ((p1 <<< ((0 : Int32) &&& 31)) ||| (p2 <<< ((8 : Int32) &&& 31))); omega)⟩
 refine r_i2c H 59 p3 d_j52_5_58 ep3 ?_
 subst ep1 ep2 ep3
 exact r_nreturn ((((i5 &&& (255 : Int32)) <<< ((0 : Int32) &&& 31)) ||| ((i6 &&& (255 : Int32)) <<< ((8 : Int32) &&& 31))).toUInt32.toUInt16.toUInt32.toInt32) H d_j52_5_59 (nar_char_id (by have := rp3; omega)) (⟨_, rfl, rfl, (by have := rp3; omega), rfl⟩)
def Q_getChar_17 (Z : State) (i3 : Int32) (i4 : Int32) (h0 : Heap) (v : Option Value) (h : Heap) : Prop := ∃ (z : Int32), v = some (.int z) ∧ ((((i3 &&& (255 : Int32)) <<< ((0 : Int32) &&& 31)) ||| ((i4 &&& (255 : Int32)) <<< ((8 : Int32) &&& 31))).toUInt32.toUInt16.toUInt32.toInt32) = z ∧ (0 ≤ z.toInt ∧ z.toInt ≤ 65535) ∧ h0 = h
def R_getChar_17 : Room := { frames := 0, cells := 0, slots := 0, locals := 0 }
theorem rm_getChar_17 {w : Bool} {Z : State} {a0 : Array Value} (hw : HW a0 Z) (Ts : List String) (a1 : Addr) (i1 : Int32) (i2 : Int32) (i3 : Int32) (i4 : Int32) (i5 : Int32) (i6 : Int32) (i7 : Int32) (i8 : Int32) (c1 : ClassId) (h0 : Heap) (f : Nat) (Zf : Z.heap.size ≤ f) (Z0 : f ≤ h0.size) (A_a1 : Ar Z h0 a1 c1 .byte [.int i1, .int i2, .int i3, .int i4, .int i5, .int i6, .int i7, .int i8]) (S__assertionsDisabled : G_S__assertionsDisabled Z) (S_HI_BYTE_SHIFT : G_S_HI_BYTE_SHIFT Z) (S_LO_BYTE_SHIFT : G_S_LO_BYTE_SHIFT Z) :
  Con w [] Z mn8 jdk_52_method_5_code 2 (some .char) R_getChar_17 Ts Ts f #[.ref a1, .int 1] h0 (Q_getChar_17 Z i3 i4 h0) := by
 refine con_of f #[vR a1, vI 1] (plainFor_of_name pn_1) (fun m => rfl) Zf ?_
 intro C H hX0
 refine r_gets H 3 d_j52_5_0 (tw55 hw) S__assertionsDisabled ?_
 refine r_ifneT H 28 d_j52_5_3 (by decide) (by decide) (by decide) ?_
 refine r_iloadN H 29 d_j52_5_28 ?_
 refine r_iconst H 30 1 d_j52_5_29 ?_
 refine r_ishl H 31 2 d_j52_5_30 (by decide) ?_
 refine r_istoreN H 32 #[vR a1, vI 2] d_j52_5_31 ?_
 refine r_aloadN H 33 d_j52_5_32 ?_
 refine r_iloadN H 34 d_j52_5_33 ?_
 refine r_iinc H 37 #[vR a1, vI 3] 3 d_j52_5_34 ?_
 refine r_baload H 38 i3 d_j52_5_37 A_a1 ?_
 refine r_sipush H 41 255 d_j52_5_38 ?_
 obtain ⟨p1, ep1, rp1⟩ : ∃ p : Int32, (i3 &&& (255 : Int32)) = p ∧ 0 ≤ p.toInt ∧ p.toInt ≤ 255 := ⟨_, rfl, (by have h := c_and i3 (255 : Int32) (by decide); have : (255 : Int32).toInt = 255 := (by decide); omega)⟩
 refine r_iand H 42 p1 d_j52_5_41 ep1 ?_
 refine r_gets H 45 d_j52_5_42 (tw56 hw) S_HI_BYTE_SHIFT ?_
 refine r_ishl H 46 (p1 <<< ((0 : Int32) &&& 31)) d_j52_5_45 rfl ?_
 refine r_aloadN H 47 d_j52_5_46 ?_
 refine r_iloadN H 48 d_j52_5_47 ?_
 refine r_baload H 49 i4 d_j52_5_48 A_a1 ?_
 refine r_sipush H 52 255 d_j52_5_49 ?_
 obtain ⟨p2, ep2, rp2⟩ : ∃ p : Int32, (i4 &&& (255 : Int32)) = p ∧ 0 ≤ p.toInt ∧ p.toInt ≤ 255 := ⟨_, rfl, (by have h := c_and i4 (255 : Int32) (by decide); have : (255 : Int32).toInt = 255 := (by decide); omega)⟩
 refine r_iand H 53 p2 d_j52_5_52 ep2 ?_
 refine r_gets H 56 d_j52_5_53 (tw57 hw) S_LO_BYTE_SHIFT ?_
 refine r_ishl H 57 (p2 <<< ((8 : Int32) &&& 31)) d_j52_5_56 rfl ?_
 refine r_ior H 58 ((p1 <<< ((0 : Int32) &&& 31)) ||| (p2 <<< ((8 : Int32) &&& 31))) d_j52_5_57 ?_
 obtain ⟨p3, ep3, rp3⟩ : ∃ p : Int32, (((p1 <<< ((0 : Int32) &&& 31)) ||| (p2 <<< ((8 : Int32) &&& 31))).toUInt32.toUInt16.toUInt32.toInt32) = p ∧ 0 ≤ p.toInt ∧ p.toInt ≤ 65535 := ⟨_, rfl, (by have h := c_i2c ((p1 <<< ((0 : Int32) &&& 31)) ||| (p2 <<< ((8 : Int32) &&& 31))); omega)⟩
 refine r_i2c H 59 p3 d_j52_5_58 ep3 ?_
 subst ep1 ep2 ep3
 exact r_nreturn ((((i3 &&& (255 : Int32)) <<< ((0 : Int32) &&& 31)) ||| ((i4 &&& (255 : Int32)) <<< ((8 : Int32) &&& 31))).toUInt32.toUInt16.toUInt32.toInt32) H d_j52_5_59 (nar_char_id (by have := rp3; omega)) (⟨_, rfl, rfl, (by have := rp3; omega), rfl⟩)
def Q_getChar_18 (Z : State) (i1 : Int32) (i2 : Int32) (h0 : Heap) (v : Option Value) (h : Heap) : Prop := ∃ (z : Int32), v = some (.int z) ∧ ((((i1 &&& (255 : Int32)) <<< ((0 : Int32) &&& 31)) ||| ((i2 &&& (255 : Int32)) <<< ((8 : Int32) &&& 31))).toUInt32.toUInt16.toUInt32.toInt32) = z ∧ (0 ≤ z.toInt ∧ z.toInt ≤ 65535) ∧ h0 = h
def R_getChar_18 : Room := { frames := 0, cells := 0, slots := 0, locals := 0 }
theorem rm_getChar_18 {w : Bool} {Z : State} {a0 : Array Value} (hw : HW a0 Z) (Ts : List String) (a1 : Addr) (i1 : Int32) (i2 : Int32) (i3 : Int32) (i4 : Int32) (i5 : Int32) (i6 : Int32) (i7 : Int32) (i8 : Int32) (c1 : ClassId) (h0 : Heap) (f : Nat) (Zf : Z.heap.size ≤ f) (Z0 : f ≤ h0.size) (A_a1 : Ar Z h0 a1 c1 .byte [.int i1, .int i2, .int i3, .int i4, .int i5, .int i6, .int i7, .int i8]) (S__assertionsDisabled : G_S__assertionsDisabled Z) (S_HI_BYTE_SHIFT : G_S_HI_BYTE_SHIFT Z) (S_LO_BYTE_SHIFT : G_S_LO_BYTE_SHIFT Z) :
  Con w [] Z mn8 jdk_52_method_5_code 2 (some .char) R_getChar_18 Ts Ts f #[.ref a1, .int 0] h0 (Q_getChar_18 Z i1 i2 h0) := by
 refine con_of f #[vR a1, vI 0] (plainFor_of_name pn_1) (fun m => rfl) Zf ?_
 intro C H hX0
 refine r_gets H 3 d_j52_5_0 (tw55 hw) S__assertionsDisabled ?_
 refine r_ifneT H 28 d_j52_5_3 (by decide) (by decide) (by decide) ?_
 refine r_iloadN H 29 d_j52_5_28 ?_
 refine r_iconst H 30 1 d_j52_5_29 ?_
 refine r_ishl H 31 0 d_j52_5_30 (by decide) ?_
 refine r_istoreN H 32 #[vR a1, vI 0] d_j52_5_31 ?_
 refine r_aloadN H 33 d_j52_5_32 ?_
 refine r_iloadN H 34 d_j52_5_33 ?_
 refine r_iinc H 37 #[vR a1, vI 1] 1 d_j52_5_34 ?_
 refine r_baload H 38 i1 d_j52_5_37 A_a1 ?_
 refine r_sipush H 41 255 d_j52_5_38 ?_
 obtain ⟨p1, ep1, rp1⟩ : ∃ p : Int32, (i1 &&& (255 : Int32)) = p ∧ 0 ≤ p.toInt ∧ p.toInt ≤ 255 := ⟨_, rfl, (by have h := c_and i1 (255 : Int32) (by decide); have : (255 : Int32).toInt = 255 := (by decide); omega)⟩
 refine r_iand H 42 p1 d_j52_5_41 ep1 ?_
 refine r_gets H 45 d_j52_5_42 (tw56 hw) S_HI_BYTE_SHIFT ?_
 refine r_ishl H 46 (p1 <<< ((0 : Int32) &&& 31)) d_j52_5_45 rfl ?_
 refine r_aloadN H 47 d_j52_5_46 ?_
 refine r_iloadN H 48 d_j52_5_47 ?_
 refine r_baload H 49 i2 d_j52_5_48 A_a1 ?_
 refine r_sipush H 52 255 d_j52_5_49 ?_
 obtain ⟨p2, ep2, rp2⟩ : ∃ p : Int32, (i2 &&& (255 : Int32)) = p ∧ 0 ≤ p.toInt ∧ p.toInt ≤ 255 := ⟨_, rfl, (by have h := c_and i2 (255 : Int32) (by decide); have : (255 : Int32).toInt = 255 := (by decide); omega)⟩
 refine r_iand H 53 p2 d_j52_5_52 ep2 ?_
 refine r_gets H 56 d_j52_5_53 (tw57 hw) S_LO_BYTE_SHIFT ?_
 refine r_ishl H 57 (p2 <<< ((8 : Int32) &&& 31)) d_j52_5_56 rfl ?_
 refine r_ior H 58 ((p1 <<< ((0 : Int32) &&& 31)) ||| (p2 <<< ((8 : Int32) &&& 31))) d_j52_5_57 ?_
 obtain ⟨p3, ep3, rp3⟩ : ∃ p : Int32, (((p1 <<< ((0 : Int32) &&& 31)) ||| (p2 <<< ((8 : Int32) &&& 31))).toUInt32.toUInt16.toUInt32.toInt32) = p ∧ 0 ≤ p.toInt ∧ p.toInt ≤ 65535 := ⟨_, rfl, (by have h := c_i2c ((p1 <<< ((0 : Int32) &&& 31)) ||| (p2 <<< ((8 : Int32) &&& 31))); omega)⟩
 refine r_i2c H 59 p3 d_j52_5_58 ep3 ?_
 subst ep1 ep2 ep3
 exact r_nreturn ((((i1 &&& (255 : Int32)) <<< ((0 : Int32) &&& 31)) ||| ((i2 &&& (255 : Int32)) <<< ((8 : Int32) &&& 31))).toUInt32.toUInt16.toUInt32.toInt32) H d_j52_5_59 (nar_char_id (by have := rp3; omega)) (⟨_, rfl, rfl, (by have := rp3; omega), rfl⟩)
def Q_compress_6 (Z : State) (i1 : Int32) (i2 : Int32) (i3 : Int32) (i4 : Int32) (h0 : Heap) (v : Option Value) (h : Heap) : Prop := (∃ (b1 : Addr) (kc1 : ClassId), v = some (.ref b1) ∧ (¬ (255 : Int32) < i1) ∧ (¬ (255 : Int32) < i2) ∧ (¬ (255 : Int32) < i3) ∧ (¬ (255 : Int32) < i4) ∧ Keep h0 h [] ∧ h0.size ≤ b1 ∧ Ar Z h b1 kc1 .byte [.int (cB8 i1), .int (cB8 i2), .int (cB8 i3), .int (cB8 i4)] ∧ Exa Z h b1 "[B") ∨ (∃ (b44 : Addr) (kc45 : ClassId), v = some (.ref b44) ∧ Keep h0 h [] ∧ h0.size ≤ b44 ∧ Ar Z h b44 kc45 .byte [.int (cL8 i1), .int (cH8 i1), .int (cL8 i2), .int (cH8 i2), .int (cL8 i3), .int (cH8 i3), .int (cL8 i4), .int (cH8 i4)] ∧ Exa Z h b44 "[B")
def R_compress_6 : Room := { frames := 3, cells := 2, slots := 12, locals := 40 }
theorem rm_compress_6 {w : Bool} {Z : State} {a0 : Array Value} (hw : HW a0 Z) (Ts : List String) (a1 : Addr) (i1 : Int32) (i2 : Int32) (i3 : Int32) (i4 : Int32) (c1 : ClassId) (h0 : Heap) (f : Nat) (Zf : Z.heap.size ≤ f) (Z0 : f ≤ h0.size) (A_a1 : Ar Z h0 a1 c1 .char [.int i1, .int i2, .int i3, .int i4]) (E_a1 : Exa Z h0 a1 "[C") (r_i1 : 0 ≤ i1.toInt ∧ i1.toInt ≤ 65535) (r_i2 : 0 ≤ i2.toInt ∧ i2.toInt ≤ 65535) (r_i3 : 0 ≤ i3.toInt ∧ i3.toInt ≤ 65535) (r_i4 : 0 ≤ i4.toInt ∧ i4.toInt ≤ 65535) (S__assertionsDisabled : G_S__assertionsDisabled Z) (S_HI_BYTE_SHIFT : G_S_HI_BYTE_SHIFT Z) (S_LO_BYTE_SHIFT : G_S_LO_BYTE_SHIFT Z) :
  Con w [] Z mn9 jdk_52_method_16_code 6 (some (.array .byte)) R_compress_6 Ts Ts f #[.ref a1, .int 0, .int 4] h0 (Q_compress_6 Z i1 i2 i3 i4 h0) := by
 refine con_of f #[vR a1, vI 0, vI 4, .unset, .unset, .unset] (plainFor_of_name pn_1) (fun m => rfl) Zf ?_
 intro C H hX0
 refine r_iloadN H 1 d_j52_16_0 ?_
 refine r_newP H 3 "[B" 4 d_j52_16_1 (tw38 hw) ?_
 intro h1 b1 kc1 g1 l1 K1 E1 A1
 change Ar Z h1 b1 kc1 .byte [.int 0, .int 0, .int 0, .int 0] at A1
 refine r_astoreN H 4 #[vR a1, vI 0, vI 4, vR b1, .unset, .unset] d_j52_16_3 ?_
 refine r_aloadN H 5 d_j52_16_4 ?_
 refine r_iloadN H 6 d_j52_16_5 ?_
 refine r_aloadN H 7 d_j52_16_6 ?_
 refine r_iconst H 8 0 d_j52_16_7 ?_
 refine r_iloadN H 9 d_j52_16_8 ?_
 have q2 := (A_a1.keep K1 nin0)
 have q3 := (E_a1.keep K1)
 refine r_static (argsL := [.ref a1, .int 0, .ref b1, .int 0, .int 4]) (rest := []) (W := 0) H 12 d_j52_16_9 (tw39 hw) (tw40 hw) (tw36 hw) (tw41 hw) (lenOf pd_3 rfl) (rm_compress_7 hw Ts a1 b1 i1 i2 i3 i4 c1 kc1 h1 f Zf (nlt Z0 K1.1) q2 A1 (nlt Z0 (Nat.le_of_eq g1.symm)) E1 q3 r_i1 r_i2 r_i3 r_i4) ?_
 rintro _ hh31 (⟨rfl, c5, c6, c7, c8, K4, q9, q10⟩ | ⟨rfl, c12, c13, c14, c15, K11, q16, q17⟩ | ⟨rfl, c19, c20, c21, K18, q22, q23⟩ | ⟨rfl, c25, c26, K24, q27, q28⟩ | ⟨rfl, c30, rfl⟩)
 ·
  refine r_istore H 14 #[vR a1, vI 0, vI 4, vR b1, vI 4, .unset] d_j52_16_12 ?_
  refine r_iload H 16 d_j52_16_14 ?_
  refine r_iloadN H 17 d_j52_16_16 ?_
  refine r_icmpeqT H 57 d_j52_16_17 ?_
  refine r_aloadN H 58 d_j52_16_57 ?_
  have k36 : Keep h0 h1 [] := Keep.trans (Keep.refl h0 []) K1 all0
  have k37 : Keep h0 hh31 [] := Keep.trans k36 K4 (allS (Or.inr (nlt nlr (Nat.le_of_eq g1.symm))) all0)
  exact r_areturn H d_j52_16_58 (Or.inl ⟨b1, kc1, rfl, c5, c6, c7, c8, k37, (nlt nlr (Nat.le_of_eq g1.symm)), q9, q10⟩)
 ·
  have rr38 : 0 ≤ i1.toInt ∧ i1.toInt ≤ 255 := by have := r_i1; have : (255 : Int32).toInt = 255 := (by decide); have hc_ := c12; simp only [Int32.lt_iff_toInt_lt, ← Int32.toInt_inj] at hc_; omega
  have rr39 : 0 ≤ i2.toInt ∧ i2.toInt ≤ 255 := by have := r_i2; have : (255 : Int32).toInt = 255 := (by decide); have hc_ := c13; simp only [Int32.lt_iff_toInt_lt, ← Int32.toInt_inj] at hc_; omega
  have rr40 : 0 ≤ i3.toInt ∧ i3.toInt ≤ 255 := by have := r_i3; have : (255 : Int32).toInt = 255 := (by decide); have hc_ := c14; simp only [Int32.lt_iff_toInt_lt, ← Int32.toInt_inj] at hc_; omega
  have rr41 : 256 ≤ i4.toInt ∧ i4.toInt ≤ 65535 := by have := r_i4; have : (255 : Int32).toInt = 255 := (by decide); have hc_ := c15; simp only [Int32.lt_iff_toInt_lt, ← Int32.toInt_inj] at hc_; omega
  refine r_istore H 14 #[vR a1, vI 0, vI 4, vR b1, vI 3, .unset] d_j52_16_12 ?_
  refine r_iload H 16 d_j52_16_14 ?_
  refine r_iloadN H 17 d_j52_16_16 ?_
  refine r_icmpeqF H 20 d_j52_16_17 ?_
  refine r_aloadN H 21 d_j52_16_20 ?_
  refine r_iloadN H 22 d_j52_16_21 ?_
  refine r_iloadN H 23 d_j52_16_22 ?_
  have q42 := (q2.keep K11 (ninS (Nat.ne_of_lt (Nat.lt_of_lt_of_le A_a1.lt (nlt nlr (Nat.le_of_eq g1.symm)))) nin0))
  have z43 := Nat.le_trans K1.1 K11.1
  refine r_static (argsL := [.ref a1, .int 0, .int 4]) (rest := []) (W := 0) H 26 d_j52_16_23 (tw42 hw) (tw43 hw) (tw36 hw) (tw44 hw) (lenOf pd_7 rfl) (rm_toBytes_8 hw Ts a1 i1 i2 i3 i4 c1 hh31 f Zf (nlt Z0 z43) q42 (by have := rr38; omega) (by have := rr39; omega) (by have := rr40; omega) (by have := rr41; omega) S__assertionsDisabled S_HI_BYTE_SHIFT S_LO_BYTE_SHIFT) ?_
  rintro _ hh50 ⟨b44, kc45, rfl, K46, g47, q48, q49⟩
  refine r_astore H 28 #[vR a1, vI 0, vI 4, vR b1, vI 3, vR b44] d_j52_16_26 ?_
  refine r_aload H 30 d_j52_16_28 ?_
  refine r_iload H 32 d_j52_16_30 ?_
  have z51 := Nat.le_trans z43 K46.1
  refine r_static (argsL := [.ref b44, .int 3]) (rest := []) (W := 0) H 35 d_j52_16_32 (tw58 hw) (tw59 hw) (tw36 hw) (tw60 hw) (lenOf pd_8 rfl) (rm_getChar_15 hw Ts b44 (cL8 i1) (cH8 i1) (cL8 i2) (cH8 i2) (cL8 i3) (cH8 i3) (cL8 i4) (cH8 i4) kc45 hh50 f Zf (nlt Z0 z51) q48 S__assertionsDisabled S_HI_BYTE_SHIFT S_LO_BYTE_SHIFT) ?_
  rintro _ _ ⟨p52, rfl, ep52, rp52, rfl⟩
  have hzp52 : i4 = p52 := by rw [← ep52]; exact (own_u16 i4 (by have := rr41; omega)).symm
  subst hzp52
  refine r_sipush H 38 255 d_j52_16_35 ?_
  refine r_icmpgtT H 54 d_j52_16_38 (by decide) (by decide) (by have := rr41; have : (255 : Int32).toInt = 255 := (by decide); simp only [Int32.lt_iff_toInt_lt, ← Int32.toInt_inj]; omega) ?_
  refine r_aload H 56 d_j52_16_54 ?_
  have k54 : Keep h0 h1 [] := Keep.trans (Keep.refl h0 []) K1 all0
  have k55 : Keep h0 hh31 [] := Keep.trans k54 K11 (allS (Or.inr (nlt nlr (Nat.le_of_eq g1.symm))) all0)
  have k56 : Keep h0 hh50 [] := Keep.trans k55 K46 all0
  exact r_areturn H d_j52_16_56 (Or.inr (⟨b44, kc45, rfl, k56, (nlt z43 g47), q48, q49⟩))
 ·
  have rr57 : 0 ≤ i1.toInt ∧ i1.toInt ≤ 255 := by have := r_i1; have : (255 : Int32).toInt = 255 := (by decide); have hc_ := c19; simp only [Int32.lt_iff_toInt_lt, ← Int32.toInt_inj] at hc_; omega
  have rr58 : 0 ≤ i2.toInt ∧ i2.toInt ≤ 255 := by have := r_i2; have : (255 : Int32).toInt = 255 := (by decide); have hc_ := c20; simp only [Int32.lt_iff_toInt_lt, ← Int32.toInt_inj] at hc_; omega
  have rr59 : 256 ≤ i3.toInt ∧ i3.toInt ≤ 65535 := by have := r_i3; have : (255 : Int32).toInt = 255 := (by decide); have hc_ := c21; simp only [Int32.lt_iff_toInt_lt, ← Int32.toInt_inj] at hc_; omega
  refine r_istore H 14 #[vR a1, vI 0, vI 4, vR b1, vI 2, .unset] d_j52_16_12 ?_
  refine r_iload H 16 d_j52_16_14 ?_
  refine r_iloadN H 17 d_j52_16_16 ?_
  refine r_icmpeqF H 20 d_j52_16_17 ?_
  refine r_aloadN H 21 d_j52_16_20 ?_
  refine r_iloadN H 22 d_j52_16_21 ?_
  refine r_iloadN H 23 d_j52_16_22 ?_
  have q60 := (q2.keep K18 (ninS (Nat.ne_of_lt (Nat.lt_of_lt_of_le A_a1.lt (nlt nlr (Nat.le_of_eq g1.symm)))) nin0))
  have z61 := Nat.le_trans K1.1 K18.1
  refine r_static (argsL := [.ref a1, .int 0, .int 4]) (rest := []) (W := 0) H 26 d_j52_16_23 (tw42 hw) (tw43 hw) (tw36 hw) (tw44 hw) (lenOf pd_7 rfl) (rm_toBytes_8 hw Ts a1 i1 i2 i3 i4 c1 hh31 f Zf (nlt Z0 z61) q60 (by have := rr57; omega) (by have := rr58; omega) (by have := rr59; omega) (by have := r_i4; omega) S__assertionsDisabled S_HI_BYTE_SHIFT S_LO_BYTE_SHIFT) ?_
  rintro _ hh68 ⟨b62, kc63, rfl, K64, g65, q66, q67⟩
  refine r_astore H 28 #[vR a1, vI 0, vI 4, vR b1, vI 2, vR b62] d_j52_16_26 ?_
  refine r_aload H 30 d_j52_16_28 ?_
  refine r_iload H 32 d_j52_16_30 ?_
  have z69 := Nat.le_trans z61 K64.1
  refine r_static (argsL := [.ref b62, .int 2]) (rest := []) (W := 0) H 35 d_j52_16_32 (tw58 hw) (tw59 hw) (tw36 hw) (tw60 hw) (lenOf pd_8 rfl) (rm_getChar_16 hw Ts b62 (cL8 i1) (cH8 i1) (cL8 i2) (cH8 i2) (cL8 i3) (cH8 i3) (cL8 i4) (cH8 i4) kc63 hh68 f Zf (nlt Z0 z69) q66 S__assertionsDisabled S_HI_BYTE_SHIFT S_LO_BYTE_SHIFT) ?_
  rintro _ _ ⟨p70, rfl, ep70, rp70, rfl⟩
  have hzp70 : i3 = p70 := by rw [← ep70]; exact (own_u16 i3 (by have := rr59; omega)).symm
  subst hzp70
  refine r_sipush H 38 255 d_j52_16_35 ?_
  refine r_icmpgtT H 54 d_j52_16_38 (by decide) (by decide) (by have := rr59; have : (255 : Int32).toInt = 255 := (by decide); simp only [Int32.lt_iff_toInt_lt, ← Int32.toInt_inj]; omega) ?_
  refine r_aload H 56 d_j52_16_54 ?_
  have k72 : Keep h0 h1 [] := Keep.trans (Keep.refl h0 []) K1 all0
  have k73 : Keep h0 hh31 [] := Keep.trans k72 K18 (allS (Or.inr (nlt nlr (Nat.le_of_eq g1.symm))) all0)
  have k74 : Keep h0 hh68 [] := Keep.trans k73 K64 all0
  exact r_areturn H d_j52_16_56 (Or.inr (⟨b62, kc63, rfl, k74, (nlt z61 g65), q66, q67⟩))
 ·
  have rr75 : 0 ≤ i1.toInt ∧ i1.toInt ≤ 255 := by have := r_i1; have : (255 : Int32).toInt = 255 := (by decide); have hc_ := c25; simp only [Int32.lt_iff_toInt_lt, ← Int32.toInt_inj] at hc_; omega
  have rr76 : 256 ≤ i2.toInt ∧ i2.toInt ≤ 65535 := by have := r_i2; have : (255 : Int32).toInt = 255 := (by decide); have hc_ := c26; simp only [Int32.lt_iff_toInt_lt, ← Int32.toInt_inj] at hc_; omega
  refine r_istore H 14 #[vR a1, vI 0, vI 4, vR b1, vI 1, .unset] d_j52_16_12 ?_
  refine r_iload H 16 d_j52_16_14 ?_
  refine r_iloadN H 17 d_j52_16_16 ?_
  refine r_icmpeqF H 20 d_j52_16_17 ?_
  refine r_aloadN H 21 d_j52_16_20 ?_
  refine r_iloadN H 22 d_j52_16_21 ?_
  refine r_iloadN H 23 d_j52_16_22 ?_
  have q77 := (q2.keep K24 (ninS (Nat.ne_of_lt (Nat.lt_of_lt_of_le A_a1.lt (nlt nlr (Nat.le_of_eq g1.symm)))) nin0))
  have z78 := Nat.le_trans K1.1 K24.1
  refine r_static (argsL := [.ref a1, .int 0, .int 4]) (rest := []) (W := 0) H 26 d_j52_16_23 (tw42 hw) (tw43 hw) (tw36 hw) (tw44 hw) (lenOf pd_7 rfl) (rm_toBytes_8 hw Ts a1 i1 i2 i3 i4 c1 hh31 f Zf (nlt Z0 z78) q77 (by have := rr75; omega) (by have := rr76; omega) (by have := r_i3; omega) (by have := r_i4; omega) S__assertionsDisabled S_HI_BYTE_SHIFT S_LO_BYTE_SHIFT) ?_
  rintro _ hh85 ⟨b79, kc80, rfl, K81, g82, q83, q84⟩
  refine r_astore H 28 #[vR a1, vI 0, vI 4, vR b1, vI 1, vR b79] d_j52_16_26 ?_
  refine r_aload H 30 d_j52_16_28 ?_
  refine r_iload H 32 d_j52_16_30 ?_
  have z86 := Nat.le_trans z78 K81.1
  refine r_static (argsL := [.ref b79, .int 1]) (rest := []) (W := 0) H 35 d_j52_16_32 (tw58 hw) (tw59 hw) (tw36 hw) (tw60 hw) (lenOf pd_8 rfl) (rm_getChar_17 hw Ts b79 (cL8 i1) (cH8 i1) (cL8 i2) (cH8 i2) (cL8 i3) (cH8 i3) (cL8 i4) (cH8 i4) kc80 hh85 f Zf (nlt Z0 z86) q83 S__assertionsDisabled S_HI_BYTE_SHIFT S_LO_BYTE_SHIFT) ?_
  rintro _ _ ⟨p87, rfl, ep87, rp87, rfl⟩
  have hzp87 : i2 = p87 := by rw [← ep87]; exact (own_u16 i2 (by have := rr76; omega)).symm
  subst hzp87
  refine r_sipush H 38 255 d_j52_16_35 ?_
  refine r_icmpgtT H 54 d_j52_16_38 (by decide) (by decide) (by have := rr76; have : (255 : Int32).toInt = 255 := (by decide); simp only [Int32.lt_iff_toInt_lt, ← Int32.toInt_inj]; omega) ?_
  refine r_aload H 56 d_j52_16_54 ?_
  have k89 : Keep h0 h1 [] := Keep.trans (Keep.refl h0 []) K1 all0
  have k90 : Keep h0 hh31 [] := Keep.trans k89 K24 (allS (Or.inr (nlt nlr (Nat.le_of_eq g1.symm))) all0)
  have k91 : Keep h0 hh85 [] := Keep.trans k90 K81 all0
  exact r_areturn H d_j52_16_56 (Or.inr (⟨b79, kc80, rfl, k91, (nlt z78 g82), q83, q84⟩))
 ·
  have rr92 : 256 ≤ i1.toInt ∧ i1.toInt ≤ 65535 := by have := r_i1; have : (255 : Int32).toInt = 255 := (by decide); have hc_ := c30; simp only [Int32.lt_iff_toInt_lt, ← Int32.toInt_inj] at hc_; omega
  refine r_istore H 14 #[vR a1, vI 0, vI 4, vR b1, vI 0, .unset] d_j52_16_12 ?_
  refine r_iload H 16 d_j52_16_14 ?_
  refine r_iloadN H 17 d_j52_16_16 ?_
  refine r_icmpeqF H 20 d_j52_16_17 ?_
  refine r_aloadN H 21 d_j52_16_20 ?_
  refine r_iloadN H 22 d_j52_16_21 ?_
  refine r_iloadN H 23 d_j52_16_22 ?_
  refine r_static (argsL := [.ref a1, .int 0, .int 4]) (rest := []) (W := 0) H 26 d_j52_16_23 (tw42 hw) (tw43 hw) (tw36 hw) (tw44 hw) (lenOf pd_7 rfl) (rm_toBytes_8 hw Ts a1 i1 i2 i3 i4 c1 h1 f Zf (nlt Z0 K1.1) q2 (by have := rr92; omega) (by have := r_i2; omega) (by have := r_i3; omega) (by have := r_i4; omega) S__assertionsDisabled S_HI_BYTE_SHIFT S_LO_BYTE_SHIFT) ?_
  rintro _ hh99 ⟨b93, kc94, rfl, K95, g96, q97, q98⟩
  refine r_astore H 28 #[vR a1, vI 0, vI 4, vR b1, vI 0, vR b93] d_j52_16_26 ?_
  refine r_aload H 30 d_j52_16_28 ?_
  refine r_iload H 32 d_j52_16_30 ?_
  have z100 := Nat.le_trans K1.1 K95.1
  refine r_static (argsL := [.ref b93, .int 0]) (rest := []) (W := 0) H 35 d_j52_16_32 (tw58 hw) (tw59 hw) (tw36 hw) (tw60 hw) (lenOf pd_8 rfl) (rm_getChar_18 hw Ts b93 (cL8 i1) (cH8 i1) (cL8 i2) (cH8 i2) (cL8 i3) (cH8 i3) (cL8 i4) (cH8 i4) kc94 hh99 f Zf (nlt Z0 z100) q97 S__assertionsDisabled S_HI_BYTE_SHIFT S_LO_BYTE_SHIFT) ?_
  rintro _ _ ⟨p101, rfl, ep101, rp101, rfl⟩
  have hzp101 : i1 = p101 := by rw [← ep101]; exact (own_u16 i1 (by have := rr92; omega)).symm
  subst hzp101
  refine r_sipush H 38 255 d_j52_16_35 ?_
  refine r_icmpgtT H 54 d_j52_16_38 (by decide) (by decide) (by have := rr92; have : (255 : Int32).toInt = 255 := (by decide); simp only [Int32.lt_iff_toInt_lt, ← Int32.toInt_inj]; omega) ?_
  refine r_aload H 56 d_j52_16_54 ?_
  have k103 : Keep h0 h1 [] := Keep.trans (Keep.refl h0 []) K1 all0
  have k104 : Keep h0 hh99 [] := Keep.trans k103 K95 all0
  exact r_areturn H d_j52_16_56 (Or.inr (⟨b93, kc94, rfl, k104, (nlt K1.1 g96), q97, q98⟩))
def Q_coderFromArrayLen_19 (Z : State) (h0 : Heap) (v : Option Value) (h : Heap) : Prop := v = some (.int 0) ∧ h0 = h
def R_coderFromArrayLen_19 : Room := { frames := 0, cells := 0, slots := 0, locals := 0 }
theorem rm_coderFromArrayLen_19 {w : Bool} {Z : State} {a0 : Array Value} (hw : HW a0 Z) (Ts : List String) (a1 : Addr) (i1 : Int32) (i2 : Int32) (i3 : Int32) (i4 : Int32) (c1 : ClassId) (h0 : Heap) (f : Nat) (Zf : Z.heap.size ≤ f) (Z0 : f ≤ h0.size) (A_a1 : Ar Z h0 a1 c1 .byte [.int (cB8 i1), .int (cB8 i2), .int (cB8 i3), .int (cB8 i4)]) :
  Con w [] Z mn10 jdk_52_method_15_code 2 (some .byte) R_coderFromArrayLen_19 Ts Ts f #[.ref a1, .int 4] h0 (Q_coderFromArrayLen_19 Z h0) := by
 refine con_of f #[vR a1, vI 4] (plainFor_of_name pn_1) (fun m => rfl) Zf ?_
 intro C H hX0
 refine r_iloadN H 1 d_j52_15_0 ?_
 refine r_aloadN H 2 d_j52_15_1 ?_
 refine r_alen H 3 4 d_j52_15_2 A_a1 ?_
 refine r_isub H 4 0 d_j52_15_3 ?_
 refine r_bipush H 6 31 d_j52_15_4 ?_
 refine r_iushr H 7 0 d_j52_15_6 (by decide) ?_
 refine r_i2b H 8 0 d_j52_15_7 (by decide) ?_
 exact r_nreturn (0 : Int32) H d_j52_15_8 (by decide) (⟨rfl, rfl⟩)
def Q_coderFromArrayLen_20 (Z : State) (h0 : Heap) (v : Option Value) (h : Heap) : Prop := v = some (.int 1) ∧ h0 = h
def R_coderFromArrayLen_20 : Room := { frames := 0, cells := 0, slots := 0, locals := 0 }
theorem rm_coderFromArrayLen_20 {w : Bool} {Z : State} {a0 : Array Value} (hw : HW a0 Z) (Ts : List String) (a1 : Addr) (i1 : Int32) (i2 : Int32) (i3 : Int32) (i4 : Int32) (c1 : ClassId) (h0 : Heap) (f : Nat) (Zf : Z.heap.size ≤ f) (Z0 : f ≤ h0.size) (A_a1 : Ar Z h0 a1 c1 .byte [.int (cL8 i1), .int (cH8 i1), .int (cL8 i2), .int (cH8 i2), .int (cL8 i3), .int (cH8 i3), .int (cL8 i4), .int (cH8 i4)]) :
  Con w [] Z mn10 jdk_52_method_15_code 2 (some .byte) R_coderFromArrayLen_20 Ts Ts f #[.ref a1, .int 4] h0 (Q_coderFromArrayLen_20 Z h0) := by
 refine con_of f #[vR a1, vI 4] (plainFor_of_name pn_1) (fun m => rfl) Zf ?_
 intro C H hX0
 refine r_iloadN H 1 d_j52_15_0 ?_
 refine r_aloadN H 2 d_j52_15_1 ?_
 refine r_alen H 3 8 d_j52_15_2 A_a1 ?_
 refine r_isub H 4 (-4 : Int32) d_j52_15_3 ?_
 refine r_bipush H 6 31 d_j52_15_4 ?_
 refine r_iushr H 7 1 d_j52_15_6 (by decide) ?_
 refine r_i2b H 8 1 d_j52_15_7 (by decide) ?_
 exact r_nreturn (1 : Int32) H d_j52_15_8 (by decide) (⟨rfl, rfl⟩)
def Q_init_5 (Z : State) (a1 : Addr) (i1 : Int32) (i2 : Int32) (i3 : Int32) (i4 : Int32) (h0 : Heap) (v : Option Value) (h : Heap) : Prop := (∃ (b1 : Addr) (kc2 : ClassId), v = none ∧ (¬ (255 : Int32) < i1) ∧ (¬ (255 : Int32) < i2) ∧ (¬ (255 : Int32) < i3) ∧ (¬ (255 : Int32) < i4) ∧ Keep h0 h [a1] ∧ h0.size ≤ b1 ∧ Exa Z h a1 "java/lang/String" ∧ Fld Z h a1 "java/lang/String" "coder" "B" (.int 0) ∧ Fld Z h a1 "java/lang/String" "value" "[B" (.ref b1) ∧ Ar Z h b1 kc2 .byte [.int (cB8 i1), .int (cB8 i2), .int (cB8 i3), .int (cB8 i4)] ∧ Exa Z h b1 "[B") ∨ (∃ (b11 : Addr) (kc12 : ClassId), v = none ∧ Keep h0 h [a1] ∧ h0.size ≤ b11 ∧ Exa Z h a1 "java/lang/String" ∧ Fld Z h a1 "java/lang/String" "coder" "B" (.int 1) ∧ Fld Z h a1 "java/lang/String" "value" "[B" (.ref b11) ∧ Ar Z h b11 kc12 .byte [.int (cL8 i1), .int (cH8 i1), .int (cL8 i2), .int (cH8 i2), .int (cL8 i3), .int (cH8 i3), .int (cL8 i4), .int (cH8 i4)] ∧ Exa Z h b11 "[B")
def R_init_5 : Room := { frames := 4, cells := 2, slots := 12, locals := 57 }
theorem rm_init_5 {w : Bool} {Z : State} {a0 : Array Value} (hw : HW a0 Z) (Ts : List String) (a1 : Addr) (a2 : Addr) (i1 : Int32) (i2 : Int32) (i3 : Int32) (i4 : Int32) (c1 : ClassId) (cs : Int32) (h0 : Heap) (f : Nat) (Zf : Z.heap.size ≤ f) (Z0 : f ≤ h0.size) (A_a2 : Ar Z h0 a2 c1 .char [.int i1, .int i2, .int i3, .int i4]) (E_a2 : Exa Z h0 a2 "[C") (E_a1 : Exa Z h0 a1 "java/lang/String") (F_coder_a1 : Fld Z h0 a1 "java/lang/String" "coder" "B" (.int 0)) (g_a1 : f ≤ a1) (F_value_a1 : Fld Z h0 a1 "java/lang/String" "value" "[B" .null) (r_i1 : 0 ≤ i1.toInt ∧ i1.toInt ≤ 65535) (r_i2 : 0 ≤ i2.toInt ∧ i2.toInt ≤ 65535) (r_i3 : 0 ≤ i3.toInt ∧ i3.toInt ≤ 65535) (r_i4 : 0 ≤ i4.toInt ∧ i4.toInt ≤ 65535) (S_cs : G_S_cs Z cs) (S__assertionsDisabled : G_S__assertionsDisabled Z) (S_HI_BYTE_SHIFT : G_S_HI_BYTE_SHIFT Z) (S_LO_BYTE_SHIFT : G_S_LO_BYTE_SHIFT Z) (hcs : ¬ cs = 0) :
  Con w [] Z mn11 jdk_42_method_149_code 6 none R_init_5 Ts Ts f #[.ref a1, .ref a2, .int 0, .int 4, .null] h0 (Q_init_5 Z a1 i1 i2 i3 i4 h0) := by
 refine con_of f #[vR a1, vR a2, vI 0, vI 4, .val .null, .unset] (plainFor_of_name pn_2) (fun m => rfl) Zf ?_
 intro C H hX0
 refine r_aloadN H 1 d_j42_149_0 ?_
 refine r_initO (W := 0) H 4 d_j42_149_1 (tw30 hw) (tw31 hw) (tw32 hw) ?_
 refine r_iloadN H 5 d_j42_149_4 ?_
 refine r_ifneT H 27 d_j42_149_5 (by decide) (by decide) (by decide) ?_
 refine r_gets H 30 d_j42_149_27 (tw33 hw) S_cs ?_
 refine r_ifeqF H 33 d_j42_149_30 rfl hcs ?_
 refine r_aloadN H 34 d_j42_149_33 ?_
 refine r_iloadN H 35 d_j42_149_34 ?_
 refine r_iloadN H 36 d_j42_149_35 ?_
 refine r_static (argsL := [.ref a2, .int 0, .int 4]) (rest := []) (W := 0) H 39 d_j42_149_36 (tw34 hw) (tw35 hw) (tw36 hw) (tw37 hw) (lenOf pd_7 rfl) (rm_compress_6 hw Ts a2 i1 i2 i3 i4 c1 h0 f Zf Z0 A_a2 E_a2 r_i1 r_i2 r_i3 r_i4 S__assertionsDisabled S_HI_BYTE_SHIFT S_LO_BYTE_SHIFT) ?_
 rintro _ hh17 (⟨b1, kc2, rfl, c4, c5, c6, c7, K3, g8, q9, q10⟩ | ⟨b11, kc12, rfl, K13, g14, q15, q16⟩)
 ·
  refine r_astore H 41 #[vR a1, vR a2, vI 0, vI 4, .val .null, vR b1] d_j42_149_39 ?_
  refine r_aloadN H 42 d_j42_149_41 ?_
  refine r_aload H 44 d_j42_149_42 ?_
  refine r_iloadN H 45 d_j42_149_44 ?_
  refine r_static (argsL := [.ref b1, .int 4]) (rest := [.ref a1]) (W := 1) H 48 d_j42_149_45 (tw61 hw) (tw62 hw) (tw36 hw) (tw63 hw) (lenOf pd_9 rfl) (rm_coderFromArrayLen_19 hw Ts b1 i1 i2 i3 i4 kc2 hh17 f Zf (nlt Z0 K3.1) q9) ?_
  rintro _ _ ⟨rfl, rfl⟩
  have q23 := (E_a1.keep K3)
  have q24 := (F_coder_a1.keep K3 nin0)
  refine r_putn (v' := (.int 0)) (ty := .byte) H 51 d_j42_149_48 (tw64 hw) q24 q23 (Or.inr ⟨(tw65 hw), rfl, rfl⟩) (tw21 hw) g_a1 ?_
  intro h25 W25 K25 E25 F25
  refine r_aloadN H 52 d_j42_149_51 ?_
  refine r_aload H 54 d_j42_149_52 ?_
  have q26 := ((F_value_a1.keep K3 nin0).other W25 (Or.inr (slot_ne (Or.inr (tw67 hw)) (Or.inr (tw65 hw)) (by decide) (t := (.array .byte)) (t' := .byte) (by decide) (by decide))))
  refine r_putf (ty := (.array .byte)) H 57 d_j42_149_54 (tw66 hw) q26 E25 (Or.inr ⟨(tw67 hw), rfl, rfl⟩) (tw21 hw) g_a1 ?_
  intro h27 W27 K27 E27 F27
  have k28 : Keep h0 hh17 [a1] := Keep.trans (Keep.refl h0 [a1]) K3 all0
  have k29 : Keep h0 h25 [a1] := Keep.trans k28 K25 (allS (Or.inl (List.mem_of_getElem? (i := 0) rfl)) all0)
  have k30 : Keep h0 h27 [a1] := Keep.trans k29 K27 (allS (Or.inl (List.mem_of_getElem? (i := 0) rfl)) all0)
  have q31 := (F25.other W27 (Or.inr (slot_ne (Or.inr (tw65 hw)) (Or.inr (tw67 hw)) (by decide) (t := .byte) (t' := (.array .byte)) (by decide) (by decide))))
  have q32 := ((q9.keep K25 (ninS (Ne.symm (Nat.ne_of_lt (Nat.lt_of_lt_of_le E_a1.lt (nlt nlr g8)))) nin0)).keep K27 (ninS (Ne.symm (Nat.ne_of_lt (Nat.lt_of_lt_of_le E_a1.lt (nlt nlr g8)))) nin0))
  have q33 := ((q10.keep K25).keep K27)
  exact r_return H d_j42_149_57 (Or.inl ⟨b1, kc2, rfl, c4, c5, c6, c7, k30, (nlt nlr g8), E27, q31, F27, q32, q33⟩)
 ·
  refine r_astore H 41 #[vR a1, vR a2, vI 0, vI 4, .val .null, vR b11] d_j42_149_39 ?_
  refine r_aloadN H 42 d_j42_149_41 ?_
  refine r_aload H 44 d_j42_149_42 ?_
  refine r_iloadN H 45 d_j42_149_44 ?_
  refine r_static (argsL := [.ref b11, .int 4]) (rest := [.ref a1]) (W := 1) H 48 d_j42_149_45 (tw61 hw) (tw62 hw) (tw36 hw) (tw63 hw) (lenOf pd_9 rfl) (rm_coderFromArrayLen_20 hw Ts b11 i1 i2 i3 i4 kc12 hh17 f Zf (nlt Z0 K13.1) q15) ?_
  rintro _ _ ⟨rfl, rfl⟩
  have q35 := (E_a1.keep K13)
  have q36 := (F_coder_a1.keep K13 nin0)
  refine r_putn (v' := (.int 1)) (ty := .byte) H 51 d_j42_149_48 (tw64 hw) q36 q35 (Or.inr ⟨(tw65 hw), rfl, rfl⟩) (tw21 hw) g_a1 ?_
  intro h37 W37 K37 E37 F37
  refine r_aloadN H 52 d_j42_149_51 ?_
  refine r_aload H 54 d_j42_149_52 ?_
  have q38 := ((F_value_a1.keep K13 nin0).other W37 (Or.inr (slot_ne (Or.inr (tw67 hw)) (Or.inr (tw65 hw)) (by decide) (t := (.array .byte)) (t' := .byte) (by decide) (by decide))))
  refine r_putf (ty := (.array .byte)) H 57 d_j42_149_54 (tw66 hw) q38 E37 (Or.inr ⟨(tw67 hw), rfl, rfl⟩) (tw21 hw) g_a1 ?_
  intro h39 W39 K39 E39 F39
  have k40 : Keep h0 hh17 [a1] := Keep.trans (Keep.refl h0 [a1]) K13 all0
  have k41 : Keep h0 h37 [a1] := Keep.trans k40 K37 (allS (Or.inl (List.mem_of_getElem? (i := 0) rfl)) all0)
  have k42 : Keep h0 h39 [a1] := Keep.trans k41 K39 (allS (Or.inl (List.mem_of_getElem? (i := 0) rfl)) all0)
  have q43 := (F37.other W39 (Or.inr (slot_ne (Or.inr (tw65 hw)) (Or.inr (tw67 hw)) (by decide) (t := .byte) (t' := (.array .byte)) (by decide) (by decide))))
  have q44 := ((q15.keep K37 (ninS (Ne.symm (Nat.ne_of_lt (Nat.lt_of_lt_of_le E_a1.lt (nlt nlr g14)))) nin0)).keep K39 (ninS (Ne.symm (Nat.ne_of_lt (Nat.lt_of_lt_of_le E_a1.lt (nlt nlr g14)))) nin0))
  have q45 := ((q16.keep K37).keep K39)
  exact r_return H d_j42_149_57 (Or.inr (⟨b11, kc12, rfl, k42, (nlt nlr g14), E39, q43, F39, q44, q45⟩))
def Q_init_4 (Z : State) (a1 : Addr) (i1 : Int32) (i2 : Int32) (i3 : Int32) (i4 : Int32) (h0 : Heap) (v : Option Value) (h : Heap) : Prop := (∃ (b1 : Addr) (kc2 : ClassId), v = none ∧ (¬ (255 : Int32) < i1) ∧ (¬ (255 : Int32) < i2) ∧ (¬ (255 : Int32) < i3) ∧ (¬ (255 : Int32) < i4) ∧ Keep h0 h [a1] ∧ h0.size ≤ b1 ∧ Exa Z h a1 "java/lang/String" ∧ Fld Z h a1 "java/lang/String" "coder" "B" (.int 0) ∧ Fld Z h a1 "java/lang/String" "value" "[B" (.ref b1) ∧ Ar Z h b1 kc2 .byte [.int (cB8 i1), .int (cB8 i2), .int (cB8 i3), .int (cB8 i4)] ∧ Exa Z h b1 "[B") ∨ (∃ (b14 : Addr) (kc15 : ClassId), v = none ∧ Keep h0 h [a1] ∧ h0.size ≤ b14 ∧ Exa Z h a1 "java/lang/String" ∧ Fld Z h a1 "java/lang/String" "coder" "B" (.int 1) ∧ Fld Z h a1 "java/lang/String" "value" "[B" (.ref b14) ∧ Ar Z h b14 kc15 .byte [.int (cL8 i1), .int (cH8 i1), .int (cL8 i2), .int (cH8 i2), .int (cL8 i3), .int (cH8 i3), .int (cL8 i4), .int (cH8 i4)] ∧ Exa Z h b14 "[B")
def R_init_4 : Room := { frames := 5, cells := 2, slots := 12, locals := 74 }
theorem rm_init_4 {w : Bool} {Z : State} {a0 : Array Value} (hw : HW a0 Z) (Ts : List String) (a1 : Addr) (a2 : Addr) (i1 : Int32) (i2 : Int32) (i3 : Int32) (i4 : Int32) (c1 : ClassId) (cs : Int32) (h0 : Heap) (f : Nat) (Zf : Z.heap.size ≤ f) (Z0 : f ≤ h0.size) (A_a2 : Ar Z h0 a2 c1 .char [.int i1, .int i2, .int i3, .int i4]) (g_a1 : f ≤ a1) (E_a2 : Exa Z h0 a2 "[C") (E_a1 : Exa Z h0 a1 "java/lang/String") (F_coder_a1 : Fld Z h0 a1 "java/lang/String" "coder" "B" (.int 0)) (F_value_a1 : Fld Z h0 a1 "java/lang/String" "value" "[B" .null) (r_i1 : 0 ≤ i1.toInt ∧ i1.toInt ≤ 65535) (r_i2 : 0 ≤ i2.toInt ∧ i2.toInt ≤ 65535) (r_i3 : 0 ≤ i3.toInt ∧ i3.toInt ≤ 65535) (r_i4 : 0 ≤ i4.toInt ∧ i4.toInt ≤ 65535) (S_cs : G_S_cs Z cs) (S__assertionsDisabled : G_S__assertionsDisabled Z) (S_HI_BYTE_SHIFT : G_S_HI_BYTE_SHIFT Z) (S_LO_BYTE_SHIFT : G_S_LO_BYTE_SHIFT Z) (hcs : ¬ cs = 0) :
  Con w [] Z mn12 jdk_42_method_3_code 2 none R_init_4 Ts Ts f #[.ref a1, .ref a2] h0 (Q_init_4 Z a1 i1 i2 i3 i4 h0) := by
 refine con_of f #[vR a1, vR a2] (plainFor_of_name pn_2) (fun m => rfl) Zf ?_
 intro C H hX0
 refine r_aloadN H 1 d_j42_3_0 ?_
 refine r_aloadN H 2 d_j42_3_1 ?_
 refine r_iconst H 3 0 d_j42_3_2 ?_
 refine r_aloadN H 4 d_j42_3_3 ?_
 refine r_alen H 5 4 d_j42_3_4 A_a2 ?_
 refine r_null H 6 d_j42_3_5 ?_
 refine r_special (a := a1) (argsL := [.ref a2, .int 0, .int 4, .null]) (rest := []) (W := 0) H 9 d_j42_3_6 (tw26 hw) (tw27 hw) (tw22 hw) (tw29 hw) (lenOf pd_10 rfl) (rm_init_5 hw Ts a1 a2 i1 i2 i3 i4 c1 cs h0 f Zf Z0 A_a2 E_a2 E_a1 F_coder_a1 g_a1 F_value_a1 r_i1 r_i2 r_i3 r_i4 S_cs S__assertionsDisabled S_HI_BYTE_SHIFT S_LO_BYTE_SHIFT hcs) ?_
 rintro _ hh23 (⟨b1, kc2, rfl, c4, c5, c6, c7, K3, g8, q9, q10, q11, q12, q13⟩ | ⟨b14, kc15, rfl, K16, g17, q18, q19, q20, q21, q22⟩)
 ·
  have k28 : Keep h0 hh23 [a1] := Keep.trans (Keep.refl h0 [a1]) K3 (allS (Or.inl (List.mem_of_getElem? (i := 0) rfl)) all0)
  exact r_return H d_j42_3_9 (Or.inl ⟨b1, kc2, rfl, c4, c5, c6, c7, k28, (nlt nlr g8), q9, q10, q11, q12, q13⟩)
 ·
  have k29 : Keep h0 hh23 [a1] := Keep.trans (Keep.refl h0 [a1]) K16 (allS (Or.inl (List.mem_of_getElem? (i := 0) rfl)) all0)
  exact r_return H d_j42_3_9 (Or.inr (⟨b14, kc15, rfl, k29, (nlt nlr g17), q18, q19, q20, q21, q22⟩))
def Q_init_21 (Z : State) (a1 : Addr) (a2 : Addr) (h0 : Heap) (v : Option Value) (h : Heap) : Prop := v = none ∧ Keep h0 h [a1] ∧ Exa Z h a1 "com/example/indentree/indentree/reader/CodePoints" ∧ Fld Z h a1 "com/example/indentree/indentree/reader/CodePoints" "index" "I" (.int 0) ∧ Fld Z h a1 "com/example/indentree/indentree/reader/CodePoints" "offset" "I" (.int 0) ∧ Fld Z h a1 "com/example/indentree/indentree/reader/CodePoints" "text" "Ljava/lang/String;" (.ref a2)
def R_init_21 : Room := { frames := 1, cells := 0, slots := 0, locals := 12 }
theorem rm_init_21 {w : Bool} {Z : State} {a0 : Array Value} (hw : HW a0 Z) (Ts : List String) (a1 : Addr) (a2 : Addr) (h0 : Heap) (f : Nat) (Zf : Z.heap.size ≤ f) (Z0 : f ≤ h0.size) (E_a1 : Exa Z h0 a1 "com/example/indentree/indentree/reader/CodePoints") (F_text_a1 : Fld Z h0 a1 "com/example/indentree/indentree/reader/CodePoints" "text" "Ljava/lang/String;" .null) (g_a1 : f ≤ a1) (F_index_a1 : Fld Z h0 a1 "com/example/indentree/indentree/reader/CodePoints" "index" "I" (.int 0)) (F_offset_a1 : Fld Z h0 a1 "com/example/indentree/indentree/reader/CodePoints" "offset" "I" (.int 0)) :
  Con w [] Z mn13 prog_19_method_1_code 2 none R_init_21 Ts Ts f #[.ref a1, .ref a2] h0 (Q_init_21 Z a1 a2 h0) := by
 refine con_of f #[vR a1, vR a2] (plainFor_of_name pn_3) (fun m => rfl) Zf ?_
 intro C H hX0
 refine r_aloadN H 1 d_g19_1_0 ?_
 refine r_initO (W := 0) H 4 d_g19_1_1 (tw71 hw) (tw31 hw) (tw32 hw) ?_
 refine r_aloadN H 5 d_g19_1_4 ?_
 refine r_aloadN H 6 d_g19_1_5 ?_
 refine r_putf (ty := (.object "java/lang/String")) H 9 d_g19_1_6 (tw72 hw) F_text_a1 E_a1 (Or.inr ⟨(tw73 hw), rfl, rfl⟩) (tw18 hw) g_a1 ?_
 intro h1 W1 K1 E1 F1
 have k2 : Keep h0 h1 [a1] := Keep.trans (Keep.refl h0 [a1]) K1 (allS (Or.inl (List.mem_of_getElem? (i := 0) rfl)) all0)
 have q3 := (F_index_a1.other W1 (Or.inr (slot_ne (Or.inl (tw82 hw)) (Or.inr (tw73 hw)) (by decide) (t := .int) (t' := (.object "java/lang/String")) (by decide) (by decide))))
 have q4 := (F_offset_a1.other W1 (Or.inr (slot_ne (Or.inl (tw80 hw)) (Or.inr (tw73 hw)) (by decide) (t := .int) (t' := (.object "java/lang/String")) (by decide) (by decide))))
 exact r_return H d_g19_1_9 (⟨rfl, k2, E1, q3, q4, F1⟩)
def Q_coder_25 (Z : State) (h0 : Heap) (v : Option Value) (h : Heap) : Prop := v = some (.int 0) ∧ h0 = h
def R_coder_25 : Room := { frames := 0, cells := 0, slots := 0, locals := 0 }
theorem rm_coder_25 {w : Bool} {Z : State} {a0 : Array Value} (hw : HW a0 Z) (Ts : List String) (a1 : Addr) (cs : Int32) (h0 : Heap) (f : Nat) (Zf : Z.heap.size ≤ f) (Z0 : f ≤ h0.size) (F_coder_a1 : Fld Z h0 a1 "java/lang/String" "coder" "B" (.int 0)) (S_cs : G_S_cs Z cs) (hcs : ¬ cs = 0) :
  Con w [] Z mn14 jdk_42_method_152_code 1 (some .byte) R_coder_25 Ts Ts f #[.ref a1] h0 (Q_coder_25 Z h0) := by
 refine con_of f #[vR a1] (plainFor_of_name pn_2) (fun m => rfl) Zf ?_
 intro C H hX0
 refine r_gets H 3 d_j42_152_0 (tw33 hw) S_cs ?_
 refine r_ifeqF H 6 d_j42_152_3 rfl hcs ?_
 refine r_aloadN H 7 d_j42_152_6 ?_
 refine r_getf H 10 d_j42_152_7 (tw64 hw) F_coder_a1 ?_
 refine r_goto H 14 d_j42_152_10 ?_
 exact r_nreturn (0 : Int32) H d_j42_152_14 (by decide) (⟨rfl, rfl⟩)
def Q_length_24 (Z : State) (h0 : Heap) (v : Option Value) (h : Heap) : Prop := v = some (.int 4) ∧ h0 = h
def R_length_24 : Room := { frames := 1, cells := 0, slots := 0, locals := 13 }
theorem rm_length_24 {w : Bool} {Z : State} {a0 : Array Value} (hw : HW a0 Z) (Ts : List String) (a1 : Addr) (a2 : Addr) (i1 : Int32) (i2 : Int32) (i3 : Int32) (i4 : Int32) (c1 : ClassId) (cs : Int32) (h0 : Heap) (f : Nat) (Zf : Z.heap.size ≤ f) (Z0 : f ≤ h0.size) (F_value_a1 : Fld Z h0 a1 "java/lang/String" "value" "[B" (.ref a2)) (A_a2 : Ar Z h0 a2 c1 .byte [.int i1, .int i2, .int i3, .int i4]) (E_a1 : Exa Z h0 a1 "java/lang/String") (F_coder_a1 : Fld Z h0 a1 "java/lang/String" "coder" "B" (.int 0)) (S_cs : G_S_cs Z cs) (hcs : ¬ cs = 0) :
  Con w [] Z mn15 jdk_42_method_54_code 1 (some .int) R_length_24 Ts Ts f #[.ref a1] h0 (Q_length_24 Z h0) := by
 refine con_of f #[vR a1] (plainFor_of_name pn_2) (fun m => rfl) Zf ?_
 intro C H hX0
 refine r_aloadN H 1 d_j42_54_0 ?_
 refine r_getf H 4 d_j42_54_1 (tw66 hw) F_value_a1 ?_
 refine r_alen H 5 4 d_j42_54_4 A_a2 ?_
 refine r_aloadN H 6 d_j42_54_5 ?_
 refine r_virtual (z := mn14) (a := a1) (argsL := []) (rest := [.int 4]) (W := 1) H 9 d_j42_54_6 (tw93 hw) (tw94 hw) (nf_sel (tw96 hw)) (tw96 hw) (tw95 hw) (tw22 hw) (tw97 hw) E_a1 (lenOf pd_13 rfl) (rm_coder_25 hw Ts a1 cs h0 f Zf Z0 F_coder_a1 S_cs hcs) ?_
 rintro _ _ ⟨rfl, rfl⟩
 refine r_ishr H 10 4 d_j42_54_9 (by decide) ?_
 exact r_ireturn H d_j42_54_10 (⟨rfl, rfl⟩)
def Q_checkFromToIndex_27 (Z : State) (h0 : Heap) (v : Option Value) (h : Heap) : Prop := v = some (.int 0) ∧ h0 = h
def R_checkFromToIndex_27 : Room := { frames := 0, cells := 0, slots := 0, locals := 0 }
theorem rm_checkFromToIndex_27 {w : Bool} {Z : State} {a0 : Array Value} (hw : HW a0 Z) (Ts : List String) (i1 : Int32) (h0 : Heap) (f : Nat) (Zf : Z.heap.size ≤ f) (Z0 : f ≤ h0.size) (r_i1 : 0 ≤ i1.toInt ∧ i1.toInt ≤ 4) :
  Con w [] Z mn16 jdk_41_method_12_code 4 (some .int) R_checkFromToIndex_27 Ts Ts f #[.int 0, .int i1, .int 4, .null] h0 (Q_checkFromToIndex_27 Z h0) := by
 refine con_of f #[vI 0, vI i1, vI 4, .val .null] (plainFor_of_name pn_4) (fun m => rfl) Zf ?_
 intro C H hX0
 refine r_iloadN H 1 d_j41_12_0 ?_
 refine r_ifltF H 4 d_j41_12_1 (by decide) ?_
 refine r_iloadN H 5 d_j41_12_4 ?_
 refine r_iloadN H 6 d_j41_12_5 ?_
 refine r_icmpgtF H 9 d_j41_12_6 rfl (by have : (0 : Int32).toInt = 0 := (by decide); have := r_i1; simp only [Int32.lt_iff_toInt_lt, ← Int32.toInt_inj]; omega) ?_
 refine r_iloadN H 10 d_j41_12_9 ?_
 refine r_iloadN H 11 d_j41_12_10 ?_
 refine r_icmpleT H 22 d_j41_12_11 (by decide) (by decide) (by have := r_i1; have : (4 : Int32).toInt = 4 := (by decide); simp only [Int32.lt_iff_toInt_lt, ← Int32.toInt_inj]; omega) ?_
 refine r_iloadN H 23 d_j41_12_22 ?_
 exact r_ireturn H d_j41_12_23 (⟨rfl, rfl⟩)
def Q_checkFromToIndex_26 (Z : State) (h0 : Heap) (v : Option Value) (h : Heap) : Prop := v = some (.int 0) ∧ h0 = h
def R_checkFromToIndex_26 : Room := { frames := 1, cells := 0, slots := 0, locals := 15 }
theorem rm_checkFromToIndex_26 {w : Bool} {Z : State} {a0 : Array Value} (hw : HW a0 Z) (Ts : List String) (i1 : Int32) (h0 : Heap) (f : Nat) (Zf : Z.heap.size ≤ f) (Z0 : f ≤ h0.size) (r_i1 : 0 ≤ i1.toInt ∧ i1.toInt ≤ 4) :
  Con w [] Z mn17 jdk_31_method_18_code 3 (some .int) R_checkFromToIndex_26 Ts Ts f #[.int 0, .int i1, .int 4] h0 (Q_checkFromToIndex_26 Z h0) := by
 refine con_of f #[vI 0, vI i1, vI 4] (plainFor_of_name pn_5) (fun m => rfl) Zf ?_
 intro C H hX0
 refine r_iloadN H 1 d_j31_18_0 ?_
 refine r_iloadN H 2 d_j31_18_1 ?_
 refine r_iloadN H 3 d_j31_18_2 ?_
 refine r_null H 4 d_j31_18_3 ?_
 refine r_static (argsL := [.int 0, .int i1, .int 4, .null]) (rest := []) (W := 0) H 7 d_j31_18_4 (tw102 hw) (tw103 hw) (tw104 hw) (tw105 hw) (lenOf pd_15 rfl) (rm_checkFromToIndex_27 hw Ts i1 h0 f Zf Z0 r_i1) ?_
 rintro _ _ ⟨rfl, rfl⟩
 exact r_ireturn H d_j31_18_7 (⟨rfl, rfl⟩)
def Q_isLatin1_28 (Z : State) (h0 : Heap) (v : Option Value) (h : Heap) : Prop := v = some (.int 1) ∧ h0 = h
def R_isLatin1_28 : Room := { frames := 0, cells := 0, slots := 0, locals := 0 }
theorem rm_isLatin1_28 {w : Bool} {Z : State} {a0 : Array Value} (hw : HW a0 Z) (Ts : List String) (a1 : Addr) (cs : Int32) (h0 : Heap) (f : Nat) (Zf : Z.heap.size ≤ f) (Z0 : f ≤ h0.size) (F_coder_a1 : Fld Z h0 a1 "java/lang/String" "coder" "B" (.int 0)) (S_cs : G_S_cs Z cs) (hcs : ¬ cs = 0) :
  Con w [] Z mn18 jdk_42_method_154_code 1 (some .boolean) R_isLatin1_28 Ts Ts f #[.ref a1] h0 (Q_isLatin1_28 Z h0) := by
 refine con_of f #[vR a1] (plainFor_of_name pn_2) (fun m => rfl) Zf ?_
 intro C H hX0
 refine r_gets H 3 d_j42_154_0 (tw33 hw) S_cs ?_
 refine r_ifeqF H 6 d_j42_154_3 rfl hcs ?_
 refine r_aloadN H 7 d_j42_154_6 ?_
 refine r_getf H 10 d_j42_154_7 (tw64 hw) F_coder_a1 ?_
 refine r_ifneF H 13 d_j42_154_10 rfl (by decide) ?_
 refine r_iconst H 14 1 d_j42_154_13 ?_
 refine r_goto H 18 d_j42_154_14 ?_
 exact r_nreturn (1 : Int32) H d_j42_154_18 (by decide) (⟨rfl, rfl⟩)
def Q_codePointCount_23 (Z : State) (i1 : Int32) (h0 : Heap) (v : Option Value) (h : Heap) : Prop := ∃ (z : Int32), v = some (.int z) ∧ (i1 - (0 : Int32)) = z ∧ (0 ≤ z.toInt ∧ z.toInt ≤ 4) ∧ h0 = h
def R_codePointCount_23 : Room := { frames := 2, cells := 0, slots := 0, locals := 29 }
theorem rm_codePointCount_23 {w : Bool} {Z : State} {a0 : Array Value} (hw : HW a0 Z) (Ts : List String) (a1 : Addr) (a2 : Addr) (i1 : Int32) (i2 : Int32) (i3 : Int32) (i4 : Int32) (i5 : Int32) (c1 : ClassId) (cs : Int32) (h0 : Heap) (f : Nat) (Zf : Z.heap.size ≤ f) (Z0 : f ≤ h0.size) (E_a1 : Exa Z h0 a1 "java/lang/String") (F_value_a1 : Fld Z h0 a1 "java/lang/String" "value" "[B" (.ref a2)) (A_a2 : Ar Z h0 a2 c1 .byte [.int (cB8 i2), .int (cB8 i3), .int (cB8 i4), .int (cB8 i5)]) (F_coder_a1 : Fld Z h0 a1 "java/lang/String" "coder" "B" (.int 0)) (r_i1 : 0 ≤ i1.toInt ∧ i1.toInt ≤ 4) (S_cs : G_S_cs Z cs) (hcs : ¬ cs = 0) :
  Con w [] Z mn19 jdk_42_method_59_code 3 (some .int) R_codePointCount_23 Ts Ts f #[.ref a1, .int 0, .int i1] h0 (Q_codePointCount_23 Z i1 h0) := by
 refine con_of f #[vR a1, vI 0, vI i1] (plainFor_of_name pn_2) (fun m => rfl) Zf ?_
 intro C H hX0
 refine r_iloadN H 1 d_j42_59_0 ?_
 refine r_iloadN H 2 d_j42_59_1 ?_
 refine r_aloadN H 3 d_j42_59_2 ?_
 refine r_virtual (z := mn15) (a := a1) (argsL := []) (rest := [.int i1, .int 0]) (W := 2) H 6 d_j42_59_3 (tw88 hw) (tw89 hw) (nf_sel (tw91 hw)) (tw91 hw) (tw90 hw) (tw22 hw) (tw92 hw) E_a1 (lenOf pd_14 rfl) (rm_length_24 hw Ts a1 a2 (cB8 i2) (cB8 i3) (cB8 i4) (cB8 i5) c1 cs h0 f Zf Z0 F_value_a1 A_a2 E_a1 F_coder_a1 S_cs hcs) ?_
 rintro _ _ ⟨rfl, rfl⟩
 refine r_static (argsL := [.int 0, .int i1, .int 4]) (rest := []) (W := 0) H 9 d_j42_59_6 (tw98 hw) (tw99 hw) (tw100 hw) (tw101 hw) (lenOf pd_16 rfl) (rm_checkFromToIndex_26 hw Ts i1 h0 f Zf Z0 r_i1) ?_
 rintro _ _ ⟨rfl, rfl⟩
 refine r_pop H 10 d_j42_59_9 ?_
 refine r_aloadN H 11 d_j42_59_10 ?_
 refine r_virtual (z := mn18) (a := a1) (argsL := []) (rest := []) (W := 0) H 14 d_j42_59_11 (tw106 hw) (tw107 hw) (nf_sel (tw109 hw)) (tw109 hw) (tw108 hw) (tw22 hw) (tw110 hw) E_a1 (lenOf pd_17 rfl) (rm_isLatin1_28 hw Ts a1 cs h0 f Zf Z0 F_coder_a1 S_cs hcs) ?_
 rintro _ _ ⟨rfl, rfl⟩
 refine r_ifeqF H 17 d_j42_59_14 rfl (by decide) ?_
 refine r_iloadN H 18 d_j42_59_17 ?_
 refine r_iloadN H 19 d_j42_59_18 ?_
 obtain ⟨p4, ep4, rp4⟩ : ∃ p : Int32, (i1 - (0 : Int32)) = p ∧ 0 ≤ p.toInt ∧ p.toInt ≤ 4 := ⟨_, rfl, (isub_rng r_i1 (lit_rng rfl) (by decide))⟩
 refine r_isub (hz := ep4) H 20 p4 d_j42_59_19 ?_
 subst ep4
 exact r_ireturn H d_j42_59_20 (⟨_, rfl, rfl, (by have := rp4; omega), rfl⟩)
def Q_offset_22 (Z : State) (a1 : Addr) (a2 : Addr) (i1 : Int32) (h0 : Heap) (v : Option Value) (h : Heap) : Prop := ∃ (z : Int32), v = some (.int z) ∧ ((0 : Int32) + (i1 - (0 : Int32))) = z ∧ (0 ≤ z.toInt ∧ z.toInt ≤ 4) ∧ Keep h0 h [a1] ∧ Exa Z h a1 "com/example/indentree/indentree/reader/CodePoints" ∧ Fld Z h a1 "com/example/indentree/indentree/reader/CodePoints" "index" "I" (.int i1) ∧ Fld Z h a1 "com/example/indentree/indentree/reader/CodePoints" "offset" "I" (.int ((0 : Int32) + (i1 - (0 : Int32)))) ∧ Fld Z h a1 "com/example/indentree/indentree/reader/CodePoints" "text" "Ljava/lang/String;" (.ref a2)
def R_offset_22 : Room := { frames := 3, cells := 0, slots := 0, locals := 45 }
theorem rm_offset_22 {w : Bool} {Z : State} {a0 : Array Value} (hw : HW a0 Z) (Ts : List String) (a1 : Addr) (a2 : Addr) (a3 : Addr) (i1 : Int32) (i2 : Int32) (i3 : Int32) (i4 : Int32) (i5 : Int32) (c1 : ClassId) (cs : Int32) (h0 : Heap) (f : Nat) (Zf : Z.heap.size ≤ f) (Z0 : f ≤ h0.size) (F_offset_a1 : Fld Z h0 a1 "com/example/indentree/indentree/reader/CodePoints" "offset" "I" (.int 0)) (F_text_a1 : Fld Z h0 a1 "com/example/indentree/indentree/reader/CodePoints" "text" "Ljava/lang/String;" (.ref a2)) (F_index_a1 : Fld Z h0 a1 "com/example/indentree/indentree/reader/CodePoints" "index" "I" (.int 0)) (E_a2 : Exa Z h0 a2 "java/lang/String") (F_value_a2 : Fld Z h0 a2 "java/lang/String" "value" "[B" (.ref a3)) (A_a3 : Ar Z h0 a3 c1 .byte [.int (cB8 i2), .int (cB8 i3), .int (cB8 i4), .int (cB8 i5)]) (F_coder_a2 : Fld Z h0 a2 "java/lang/String" "coder" "B" (.int 0)) (E_a1 : Exa Z h0 a1 "com/example/indentree/indentree/reader/CodePoints") (g_a1 : f ≤ a1) (r_i1 : 0 ≤ i1.toInt ∧ i1.toInt ≤ 4) (S_cs : G_S_cs Z cs) (hcs : ¬ cs = 0) :
  Con w [] Z mn20 prog_19_method_2_code 2 (some .int) R_offset_22 Ts Ts f #[.ref a1, .int i1] h0 (Q_offset_22 Z a1 a2 i1 h0) := by
 refine con_of f #[vR a1, vI i1] (plainFor_of_name pn_3) (fun m => rfl) Zf ?_
 intro C H hX0
 refine r_aloadN H 1 d_g19_2_0 ?_
 refine r_dup H 2 d_g19_2_1 ?_
 refine r_getf H 5 d_g19_2_2 (tw79 hw) F_offset_a1 ?_
 refine r_aloadN H 6 d_g19_2_5 ?_
 refine r_getf H 9 d_g19_2_6 (tw72 hw) F_text_a1 ?_
 refine r_aloadN H 10 d_g19_2_9 ?_
 refine r_getf H 13 d_g19_2_10 (tw81 hw) F_index_a1 ?_
 refine r_iloadN H 14 d_g19_2_13 ?_
 refine r_virtual (z := mn19) (a := a2) (argsL := [.int 0, .int i1]) (rest := [.int 0, .ref a1]) (W := 2) H 17 d_g19_2_14 (tw83 hw) (tw84 hw) (nf_sel (tw86 hw)) (tw86 hw) (tw85 hw) (tw22 hw) (tw87 hw) E_a2 (lenOf pd_18 rfl) (rm_codePointCount_23 hw Ts a2 a3 i1 i2 i3 i4 i5 c1 cs h0 f Zf Z0 E_a2 F_value_a2 A_a3 F_coder_a2 r_i1 S_cs hcs) ?_
 rintro _ _ ⟨p1, rfl, ep1, rp1, rfl⟩
 obtain ⟨p3, ep3, rp3⟩ : ∃ p : Int32, ((0 : Int32) + p1) = p ∧ 0 ≤ p.toInt ∧ p.toInt ≤ 4 := ⟨_, rfl, (iadd_rng (lit_rng rfl) rp1 (by decide))⟩
 refine r_iadd H 18 p3 d_g19_2_17 ep3 ?_
 refine r_putf (ty := .int) H 21 d_g19_2_18 (tw79 hw) F_offset_a1 E_a1 (Or.inl (tw80 hw)) (tw18 hw) g_a1 ?_
 intro h4 W4 K4 E4 F4
 refine r_aloadN H 22 d_g19_2_21 ?_
 refine r_iloadN H 23 d_g19_2_22 ?_
 have q5 := (F_index_a1.other W4 (Or.inr (slot_ne (Or.inl (tw82 hw)) (Or.inl (tw80 hw)) (by decide) (t := .int) (t' := .int) (by decide) (by decide))))
 refine r_putf (ty := .int) H 26 d_g19_2_23 (tw81 hw) q5 E4 (Or.inl (tw82 hw)) (tw18 hw) g_a1 ?_
 intro h6 W6 K6 E6 F6
 refine r_aloadN H 27 d_g19_2_26 ?_
 have q7 := (F4.other W6 (Or.inr (slot_ne (Or.inl (tw80 hw)) (Or.inl (tw82 hw)) (by decide) (t := .int) (t' := .int) (by decide) (by decide))))
 refine r_getf H 30 d_g19_2_27 (tw79 hw) q7 ?_
 have k8 : Keep h0 h4 [a1] := Keep.trans (Keep.refl h0 [a1]) K4 (allS (Or.inl (List.mem_of_getElem? (i := 0) rfl)) all0)
 have k9 : Keep h0 h6 [a1] := Keep.trans k8 K6 (allS (Or.inl (List.mem_of_getElem? (i := 0) rfl)) all0)
 have q10 := ((F_text_a1.other W4 (Or.inr (slot_ne (Or.inr (tw73 hw)) (Or.inl (tw80 hw)) (by decide) (t := (.object "java/lang/String")) (t' := .int) (by decide) (by decide)))).other W6 (Or.inr (slot_ne (Or.inr (tw73 hw)) (Or.inl (tw82 hw)) (by decide) (t := (.object "java/lang/String")) (t' := .int) (by decide) (by decide))))
 subst ep1 ep3
 exact r_ireturn H d_g19_2_30 (⟨_, rfl, rfl, (by have := rp3; omega), k9, E6, F6, q7, q10⟩)
def Q_checkFromToIndex_32 (Z : State) (i1 : Int32) (h0 : Heap) (v : Option Value) (h : Heap) : Prop := v = some (.int i1) ∧ h0 = h
def R_checkFromToIndex_32 : Room := { frames := 0, cells := 0, slots := 0, locals := 0 }
theorem rm_checkFromToIndex_32 {w : Bool} {Z : State} {a0 : Array Value} (hw : HW a0 Z) (Ts : List String) (i1 : Int32) (i2 : Int32) (h0 : Heap) (f : Nat) (Zf : Z.heap.size ≤ f) (Z0 : f ≤ h0.size) (l_i1_i2 : i1.toInt ≤ i2.toInt) (r_i1 : 0 ≤ i1.toInt ∧ i1.toInt ≤ 4) (r_i2 : 0 ≤ i2.toInt ∧ i2.toInt ≤ 4) :
  Con w [] Z mn16 jdk_41_method_12_code 4 (some .int) R_checkFromToIndex_32 Ts Ts f #[.int i1, .int i2, .int 4, .null] h0 (Q_checkFromToIndex_32 Z i1 h0) := by
 refine con_of f #[vI i1, vI i2, vI 4, .val .null] (plainFor_of_name pn_4) (fun m => rfl) Zf ?_
 intro C H hX0
 refine r_iloadN H 1 d_j41_12_0 ?_
 refine r_ifltF H 4 d_j41_12_1 (by have := r_i1; have : (0 : Int32).toInt = 0 := (by decide); simp only [Int32.lt_iff_toInt_lt, ← Int32.toInt_inj]; omega) ?_
 refine r_iloadN H 5 d_j41_12_4 ?_
 refine r_iloadN H 6 d_j41_12_5 ?_
 refine r_icmpgtF H 9 d_j41_12_6 rfl (by have := l_i1_i2; rw [Int32.lt_iff_toInt_lt]; omega) ?_
 refine r_iloadN H 10 d_j41_12_9 ?_
 refine r_iloadN H 11 d_j41_12_10 ?_
 refine r_icmpleT H 22 d_j41_12_11 (by decide) (by decide) (by have := r_i2; have : (4 : Int32).toInt = 4 := (by decide); simp only [Int32.lt_iff_toInt_lt, ← Int32.toInt_inj]; omega) ?_
 refine r_iloadN H 23 d_j41_12_22 ?_
 exact r_ireturn H d_j41_12_23 (⟨rfl, rfl⟩)
def Q_checkFromToIndex_31 (Z : State) (i1 : Int32) (h0 : Heap) (v : Option Value) (h : Heap) : Prop := v = some (.int i1) ∧ h0 = h
def R_checkFromToIndex_31 : Room := { frames := 1, cells := 0, slots := 0, locals := 15 }
theorem rm_checkFromToIndex_31 {w : Bool} {Z : State} {a0 : Array Value} (hw : HW a0 Z) (Ts : List String) (i1 : Int32) (i2 : Int32) (h0 : Heap) (f : Nat) (Zf : Z.heap.size ≤ f) (Z0 : f ≤ h0.size) (l_i1_i2 : i1.toInt ≤ i2.toInt) (r_i1 : 0 ≤ i1.toInt ∧ i1.toInt ≤ 4) (r_i2 : 0 ≤ i2.toInt ∧ i2.toInt ≤ 4) :
  Con w [] Z mn17 jdk_31_method_18_code 3 (some .int) R_checkFromToIndex_31 Ts Ts f #[.int i1, .int i2, .int 4] h0 (Q_checkFromToIndex_31 Z i1 h0) := by
 refine con_of f #[vI i1, vI i2, vI 4] (plainFor_of_name pn_5) (fun m => rfl) Zf ?_
 intro C H hX0
 refine r_iloadN H 1 d_j31_18_0 ?_
 refine r_iloadN H 2 d_j31_18_1 ?_
 refine r_iloadN H 3 d_j31_18_2 ?_
 refine r_null H 4 d_j31_18_3 ?_
 refine r_static (argsL := [.int i1, .int i2, .int 4, .null]) (rest := []) (W := 0) H 7 d_j31_18_4 (tw102 hw) (tw103 hw) (tw104 hw) (tw105 hw) (lenOf pd_15 rfl) (rm_checkFromToIndex_32 hw Ts i1 i2 h0 f Zf Z0 l_i1_i2 r_i1 r_i2) ?_
 rintro _ _ ⟨rfl, rfl⟩
 exact r_ireturn H d_j31_18_7 (⟨rfl, rfl⟩)
def Q_codePointCount_30 (Z : State) (i1 : Int32) (i2 : Int32) (h0 : Heap) (v : Option Value) (h : Heap) : Prop := ∃ (z : Int32), v = some (.int z) ∧ (i2 - i1) = z ∧ (-4 ≤ z.toInt ∧ z.toInt ≤ 4) ∧ h0 = h
def R_codePointCount_30 : Room := { frames := 2, cells := 0, slots := 0, locals := 29 }
theorem rm_codePointCount_30 {w : Bool} {Z : State} {a0 : Array Value} (hw : HW a0 Z) (Ts : List String) (a1 : Addr) (a2 : Addr) (i1 : Int32) (i2 : Int32) (i3 : Int32) (i4 : Int32) (i5 : Int32) (i6 : Int32) (c1 : ClassId) (cs : Int32) (h0 : Heap) (f : Nat) (Zf : Z.heap.size ≤ f) (Z0 : f ≤ h0.size) (E_a1 : Exa Z h0 a1 "java/lang/String") (F_value_a1 : Fld Z h0 a1 "java/lang/String" "value" "[B" (.ref a2)) (A_a2 : Ar Z h0 a2 c1 .byte [.int (cB8 i3), .int (cB8 i4), .int (cB8 i5), .int (cB8 i6)]) (F_coder_a1 : Fld Z h0 a1 "java/lang/String" "coder" "B" (.int 0)) (l_i1_i2 : i1.toInt ≤ i2.toInt) (r_i1 : 0 ≤ i1.toInt ∧ i1.toInt ≤ 4) (r_i2 : 0 ≤ i2.toInt ∧ i2.toInt ≤ 4) (S_cs : G_S_cs Z cs) (hcs : ¬ cs = 0) :
  Con w [] Z mn19 jdk_42_method_59_code 3 (some .int) R_codePointCount_30 Ts Ts f #[.ref a1, .int i1, .int i2] h0 (Q_codePointCount_30 Z i1 i2 h0) := by
 refine con_of f #[vR a1, vI i1, vI i2] (plainFor_of_name pn_2) (fun m => rfl) Zf ?_
 intro C H hX0
 refine r_iloadN H 1 d_j42_59_0 ?_
 refine r_iloadN H 2 d_j42_59_1 ?_
 refine r_aloadN H 3 d_j42_59_2 ?_
 refine r_virtual (z := mn15) (a := a1) (argsL := []) (rest := [.int i2, .int i1]) (W := 2) H 6 d_j42_59_3 (tw88 hw) (tw89 hw) (nf_sel (tw91 hw)) (tw91 hw) (tw90 hw) (tw22 hw) (tw92 hw) E_a1 (lenOf pd_14 rfl) (rm_length_24 hw Ts a1 a2 (cB8 i3) (cB8 i4) (cB8 i5) (cB8 i6) c1 cs h0 f Zf Z0 F_value_a1 A_a2 E_a1 F_coder_a1 S_cs hcs) ?_
 rintro _ _ ⟨rfl, rfl⟩
 refine r_static (argsL := [.int i1, .int i2, .int 4]) (rest := []) (W := 0) H 9 d_j42_59_6 (tw98 hw) (tw99 hw) (tw100 hw) (tw101 hw) (lenOf pd_16 rfl) (rm_checkFromToIndex_31 hw Ts i1 i2 h0 f Zf Z0 l_i1_i2 r_i1 r_i2) ?_
 rintro _ _ ⟨rfl, rfl⟩
 refine r_pop H 10 d_j42_59_9 ?_
 refine r_aloadN H 11 d_j42_59_10 ?_
 refine r_virtual (z := mn18) (a := a1) (argsL := []) (rest := []) (W := 0) H 14 d_j42_59_11 (tw106 hw) (tw107 hw) (nf_sel (tw109 hw)) (tw109 hw) (tw108 hw) (tw22 hw) (tw110 hw) E_a1 (lenOf pd_17 rfl) (rm_isLatin1_28 hw Ts a1 cs h0 f Zf Z0 F_coder_a1 S_cs hcs) ?_
 rintro _ _ ⟨rfl, rfl⟩
 refine r_ifeqF H 17 d_j42_59_14 rfl (by decide) ?_
 refine r_iloadN H 18 d_j42_59_17 ?_
 refine r_iloadN H 19 d_j42_59_18 ?_
 obtain ⟨p4, ep4, rp4⟩ : ∃ p : Int32, (i2 - i1) = p ∧ -4 ≤ p.toInt ∧ p.toInt ≤ 4 := ⟨_, rfl, (isub_rng r_i2 r_i1 (by decide))⟩
 refine r_isub (hz := ep4) H 20 p4 d_j42_59_19 ?_
 subst ep4
 exact r_ireturn H d_j42_59_20 (⟨_, rfl, rfl, (by have := rp4; omega), rfl⟩)
def Q_offset_29 (Z : State) (a1 : Addr) (a2 : Addr) (i1 : Int32) (i2 : Int32) (i3 : Int32) (h0 : Heap) (v : Option Value) (h : Heap) : Prop := ∃ (z : Int32), v = some (.int z) ∧ (i3 + (i1 - i2)) = z ∧ Keep h0 h [a1] ∧ Exa Z h a1 "com/example/indentree/indentree/reader/CodePoints" ∧ Fld Z h a1 "com/example/indentree/indentree/reader/CodePoints" "index" "I" (.int i1) ∧ Fld Z h a1 "com/example/indentree/indentree/reader/CodePoints" "offset" "I" (.int (i3 + (i1 - i2))) ∧ Fld Z h a1 "com/example/indentree/indentree/reader/CodePoints" "text" "Ljava/lang/String;" (.ref a2)
def R_offset_29 : Room := { frames := 3, cells := 0, slots := 0, locals := 45 }
theorem rm_offset_29 {w : Bool} {Z : State} {a0 : Array Value} (hw : HW a0 Z) (Ts : List String) (a1 : Addr) (a2 : Addr) (a3 : Addr) (i1 : Int32) (i2 : Int32) (i3 : Int32) (i4 : Int32) (i5 : Int32) (i6 : Int32) (i7 : Int32) (c1 : ClassId) (cs : Int32) (h0 : Heap) (f : Nat) (Zf : Z.heap.size ≤ f) (Z0 : f ≤ h0.size) (F_offset_a1 : Fld Z h0 a1 "com/example/indentree/indentree/reader/CodePoints" "offset" "I" (.int i3)) (F_text_a1 : Fld Z h0 a1 "com/example/indentree/indentree/reader/CodePoints" "text" "Ljava/lang/String;" (.ref a2)) (F_index_a1 : Fld Z h0 a1 "com/example/indentree/indentree/reader/CodePoints" "index" "I" (.int i2)) (E_a2 : Exa Z h0 a2 "java/lang/String") (F_value_a2 : Fld Z h0 a2 "java/lang/String" "value" "[B" (.ref a3)) (A_a3 : Ar Z h0 a3 c1 .byte [.int (cB8 i4), .int (cB8 i5), .int (cB8 i6), .int (cB8 i7)]) (F_coder_a2 : Fld Z h0 a2 "java/lang/String" "coder" "B" (.int 0)) (l_i2_i1 : i2.toInt ≤ i1.toInt) (E_a1 : Exa Z h0 a1 "com/example/indentree/indentree/reader/CodePoints") (g_a1 : f ≤ a1) (r_i1 : 0 ≤ i1.toInt ∧ i1.toInt ≤ 4) (r_i2 : 0 ≤ i2.toInt ∧ i2.toInt ≤ 4) (S_cs : G_S_cs Z cs) (hcs : ¬ cs = 0) :
  Con w [] Z mn20 prog_19_method_2_code 2 (some .int) R_offset_29 Ts Ts f #[.ref a1, .int i1] h0 (Q_offset_29 Z a1 a2 i1 i2 i3 h0) := by
 refine con_of f #[vR a1, vI i1] (plainFor_of_name pn_3) (fun m => rfl) Zf ?_
 intro C H hX0
 refine r_aloadN H 1 d_g19_2_0 ?_
 refine r_dup H 2 d_g19_2_1 ?_
 refine r_getf H 5 d_g19_2_2 (tw79 hw) F_offset_a1 ?_
 refine r_aloadN H 6 d_g19_2_5 ?_
 refine r_getf H 9 d_g19_2_6 (tw72 hw) F_text_a1 ?_
 refine r_aloadN H 10 d_g19_2_9 ?_
 refine r_getf H 13 d_g19_2_10 (tw81 hw) F_index_a1 ?_
 refine r_iloadN H 14 d_g19_2_13 ?_
 refine r_virtual (z := mn19) (a := a2) (argsL := [.int i2, .int i1]) (rest := [.int i3, .ref a1]) (W := 2) H 17 d_g19_2_14 (tw83 hw) (tw84 hw) (nf_sel (tw86 hw)) (tw86 hw) (tw85 hw) (tw22 hw) (tw87 hw) E_a2 (lenOf pd_18 rfl) (rm_codePointCount_30 hw Ts a2 a3 i2 i1 i4 i5 i6 i7 c1 cs h0 f Zf Z0 E_a2 F_value_a2 A_a3 F_coder_a2 l_i2_i1 r_i2 r_i1 S_cs hcs) ?_
 rintro _ _ ⟨p1, rfl, ep1, rp1, rfl⟩
 refine r_iadd H 18 (i3 + p1) d_g19_2_17 rfl ?_
 refine r_putf (ty := .int) H 21 d_g19_2_18 (tw79 hw) F_offset_a1 E_a1 (Or.inl (tw80 hw)) (tw18 hw) g_a1 ?_
 intro h3 W3 K3 E3 F3
 refine r_aloadN H 22 d_g19_2_21 ?_
 refine r_iloadN H 23 d_g19_2_22 ?_
 have q4 := (F_index_a1.other W3 (Or.inr (slot_ne (Or.inl (tw82 hw)) (Or.inl (tw80 hw)) (by decide) (t := .int) (t' := .int) (by decide) (by decide))))
 refine r_putf (ty := .int) H 26 d_g19_2_23 (tw81 hw) q4 E3 (Or.inl (tw82 hw)) (tw18 hw) g_a1 ?_
 intro h5 W5 K5 E5 F5
 refine r_aloadN H 27 d_g19_2_26 ?_
 have q6 := (F3.other W5 (Or.inr (slot_ne (Or.inl (tw80 hw)) (Or.inl (tw82 hw)) (by decide) (t := .int) (t' := .int) (by decide) (by decide))))
 refine r_getf H 30 d_g19_2_27 (tw79 hw) q6 ?_
 have k7 : Keep h0 h3 [a1] := Keep.trans (Keep.refl h0 [a1]) K3 (allS (Or.inl (List.mem_of_getElem? (i := 0) rfl)) all0)
 have k8 : Keep h0 h5 [a1] := Keep.trans k7 K5 (allS (Or.inl (List.mem_of_getElem? (i := 0) rfl)) all0)
 have q9 := ((F_text_a1.other W3 (Or.inr (slot_ne (Or.inr (tw73 hw)) (Or.inl (tw80 hw)) (by decide) (t := (.object "java/lang/String")) (t' := .int) (by decide) (by decide)))).other W5 (Or.inr (slot_ne (Or.inr (tw73 hw)) (Or.inl (tw82 hw)) (by decide) (t := (.object "java/lang/String")) (t' := .int) (by decide) (by decide))))
 subst ep1
 exact r_ireturn H d_g19_2_30 (⟨_, rfl, rfl, k8, E5, F5, q6, q9⟩)
def Q_checkFromToIndex_36 (Z : State) (i1 : Int32) (h0 : Heap) (v : Option Value) (h : Heap) : Prop := v = some (.int i1) ∧ h0 = h
def R_checkFromToIndex_36 : Room := { frames := 0, cells := 0, slots := 0, locals := 0 }
theorem rm_checkFromToIndex_36 {w : Bool} {Z : State} {a0 : Array Value} (hw : HW a0 Z) (Ts : List String) (i1 : Int32) (h0 : Heap) (f : Nat) (Zf : Z.heap.size ≤ f) (Z0 : f ≤ h0.size) (r_i1 : 0 ≤ i1.toInt ∧ i1.toInt ≤ 4) :
  Con w [] Z mn16 jdk_41_method_12_code 4 (some .int) R_checkFromToIndex_36 Ts Ts f #[.int i1, .int i1, .int 4, .null] h0 (Q_checkFromToIndex_36 Z i1 h0) := by
 refine con_of f #[vI i1, vI i1, vI 4, .val .null] (plainFor_of_name pn_4) (fun m => rfl) Zf ?_
 intro C H hX0
 refine r_iloadN H 1 d_j41_12_0 ?_
 refine r_ifltF H 4 d_j41_12_1 (by have := r_i1; have : (0 : Int32).toInt = 0 := (by decide); simp only [Int32.lt_iff_toInt_lt, ← Int32.toInt_inj]; omega) ?_
 refine r_iloadN H 5 d_j41_12_4 ?_
 refine r_iloadN H 6 d_j41_12_5 ?_
 refine r_icmpgtF H 9 d_j41_12_6 rfl (by simp only [Int32.lt_iff_toInt_lt]; omega) ?_
 refine r_iloadN H 10 d_j41_12_9 ?_
 refine r_iloadN H 11 d_j41_12_10 ?_
 refine r_icmpleT H 22 d_j41_12_11 (by decide) (by decide) (by have := r_i1; have : (4 : Int32).toInt = 4 := (by decide); simp only [Int32.lt_iff_toInt_lt, ← Int32.toInt_inj]; omega) ?_
 refine r_iloadN H 23 d_j41_12_22 ?_
 exact r_ireturn H d_j41_12_23 (⟨rfl, rfl⟩)
def Q_checkFromToIndex_35 (Z : State) (i1 : Int32) (h0 : Heap) (v : Option Value) (h : Heap) : Prop := v = some (.int i1) ∧ h0 = h
def R_checkFromToIndex_35 : Room := { frames := 1, cells := 0, slots := 0, locals := 15 }
theorem rm_checkFromToIndex_35 {w : Bool} {Z : State} {a0 : Array Value} (hw : HW a0 Z) (Ts : List String) (i1 : Int32) (h0 : Heap) (f : Nat) (Zf : Z.heap.size ≤ f) (Z0 : f ≤ h0.size) (r_i1 : 0 ≤ i1.toInt ∧ i1.toInt ≤ 4) :
  Con w [] Z mn17 jdk_31_method_18_code 3 (some .int) R_checkFromToIndex_35 Ts Ts f #[.int i1, .int i1, .int 4] h0 (Q_checkFromToIndex_35 Z i1 h0) := by
 refine con_of f #[vI i1, vI i1, vI 4] (plainFor_of_name pn_5) (fun m => rfl) Zf ?_
 intro C H hX0
 refine r_iloadN H 1 d_j31_18_0 ?_
 refine r_iloadN H 2 d_j31_18_1 ?_
 refine r_iloadN H 3 d_j31_18_2 ?_
 refine r_null H 4 d_j31_18_3 ?_
 refine r_static (argsL := [.int i1, .int i1, .int 4, .null]) (rest := []) (W := 0) H 7 d_j31_18_4 (tw102 hw) (tw103 hw) (tw104 hw) (tw105 hw) (lenOf pd_15 rfl) (rm_checkFromToIndex_36 hw Ts i1 h0 f Zf Z0 r_i1) ?_
 rintro _ _ ⟨rfl, rfl⟩
 exact r_ireturn H d_j31_18_7 (⟨rfl, rfl⟩)
def Q_codePointCount_34 (Z : State) (i1 : Int32) (h0 : Heap) (v : Option Value) (h : Heap) : Prop := ∃ (z : Int32), v = some (.int z) ∧ (i1 - i1) = z ∧ (-4 ≤ z.toInt ∧ z.toInt ≤ 4) ∧ h0 = h
def R_codePointCount_34 : Room := { frames := 2, cells := 0, slots := 0, locals := 29 }
theorem rm_codePointCount_34 {w : Bool} {Z : State} {a0 : Array Value} (hw : HW a0 Z) (Ts : List String) (a1 : Addr) (a2 : Addr) (i1 : Int32) (i2 : Int32) (i3 : Int32) (i4 : Int32) (i5 : Int32) (c1 : ClassId) (cs : Int32) (h0 : Heap) (f : Nat) (Zf : Z.heap.size ≤ f) (Z0 : f ≤ h0.size) (E_a1 : Exa Z h0 a1 "java/lang/String") (F_value_a1 : Fld Z h0 a1 "java/lang/String" "value" "[B" (.ref a2)) (A_a2 : Ar Z h0 a2 c1 .byte [.int (cB8 i2), .int (cB8 i3), .int (cB8 i4), .int (cB8 i5)]) (F_coder_a1 : Fld Z h0 a1 "java/lang/String" "coder" "B" (.int 0)) (r_i1 : 0 ≤ i1.toInt ∧ i1.toInt ≤ 4) (S_cs : G_S_cs Z cs) (hcs : ¬ cs = 0) :
  Con w [] Z mn19 jdk_42_method_59_code 3 (some .int) R_codePointCount_34 Ts Ts f #[.ref a1, .int i1, .int i1] h0 (Q_codePointCount_34 Z i1 h0) := by
 refine con_of f #[vR a1, vI i1, vI i1] (plainFor_of_name pn_2) (fun m => rfl) Zf ?_
 intro C H hX0
 refine r_iloadN H 1 d_j42_59_0 ?_
 refine r_iloadN H 2 d_j42_59_1 ?_
 refine r_aloadN H 3 d_j42_59_2 ?_
 refine r_virtual (z := mn15) (a := a1) (argsL := []) (rest := [.int i1, .int i1]) (W := 2) H 6 d_j42_59_3 (tw88 hw) (tw89 hw) (nf_sel (tw91 hw)) (tw91 hw) (tw90 hw) (tw22 hw) (tw92 hw) E_a1 (lenOf pd_14 rfl) (rm_length_24 hw Ts a1 a2 (cB8 i2) (cB8 i3) (cB8 i4) (cB8 i5) c1 cs h0 f Zf Z0 F_value_a1 A_a2 E_a1 F_coder_a1 S_cs hcs) ?_
 rintro _ _ ⟨rfl, rfl⟩
 refine r_static (argsL := [.int i1, .int i1, .int 4]) (rest := []) (W := 0) H 9 d_j42_59_6 (tw98 hw) (tw99 hw) (tw100 hw) (tw101 hw) (lenOf pd_16 rfl) (rm_checkFromToIndex_35 hw Ts i1 h0 f Zf Z0 r_i1) ?_
 rintro _ _ ⟨rfl, rfl⟩
 refine r_pop H 10 d_j42_59_9 ?_
 refine r_aloadN H 11 d_j42_59_10 ?_
 refine r_virtual (z := mn18) (a := a1) (argsL := []) (rest := []) (W := 0) H 14 d_j42_59_11 (tw106 hw) (tw107 hw) (nf_sel (tw109 hw)) (tw109 hw) (tw108 hw) (tw22 hw) (tw110 hw) E_a1 (lenOf pd_17 rfl) (rm_isLatin1_28 hw Ts a1 cs h0 f Zf Z0 F_coder_a1 S_cs hcs) ?_
 rintro _ _ ⟨rfl, rfl⟩
 refine r_ifeqF H 17 d_j42_59_14 rfl (by decide) ?_
 refine r_iloadN H 18 d_j42_59_17 ?_
 refine r_iloadN H 19 d_j42_59_18 ?_
 obtain ⟨p4, ep4, rp4⟩ : ∃ p : Int32, (i1 - i1) = p ∧ -4 ≤ p.toInt ∧ p.toInt ≤ 4 := ⟨_, rfl, (isub_rng r_i1 r_i1 (by decide))⟩
 refine r_isub (hz := ep4) H 20 p4 d_j42_59_19 ?_
 subst ep4
 exact r_ireturn H d_j42_59_20 (⟨_, rfl, rfl, (by have := rp4; omega), rfl⟩)
def Q_offset_33 (Z : State) (a1 : Addr) (a2 : Addr) (i1 : Int32) (i2 : Int32) (h0 : Heap) (v : Option Value) (h : Heap) : Prop := ∃ (z : Int32), v = some (.int z) ∧ (i2 + (i1 - i1)) = z ∧ Keep h0 h [a1] ∧ Exa Z h a1 "com/example/indentree/indentree/reader/CodePoints" ∧ Fld Z h a1 "com/example/indentree/indentree/reader/CodePoints" "index" "I" (.int i1) ∧ Fld Z h a1 "com/example/indentree/indentree/reader/CodePoints" "offset" "I" (.int (i2 + (i1 - i1))) ∧ Fld Z h a1 "com/example/indentree/indentree/reader/CodePoints" "text" "Ljava/lang/String;" (.ref a2)
def R_offset_33 : Room := { frames := 3, cells := 0, slots := 0, locals := 45 }
theorem rm_offset_33 {w : Bool} {Z : State} {a0 : Array Value} (hw : HW a0 Z) (Ts : List String) (a1 : Addr) (a2 : Addr) (a3 : Addr) (i1 : Int32) (i2 : Int32) (i3 : Int32) (i4 : Int32) (i5 : Int32) (i6 : Int32) (c1 : ClassId) (cs : Int32) (h0 : Heap) (f : Nat) (Zf : Z.heap.size ≤ f) (Z0 : f ≤ h0.size) (F_offset_a1 : Fld Z h0 a1 "com/example/indentree/indentree/reader/CodePoints" "offset" "I" (.int i2)) (F_text_a1 : Fld Z h0 a1 "com/example/indentree/indentree/reader/CodePoints" "text" "Ljava/lang/String;" (.ref a2)) (F_index_a1 : Fld Z h0 a1 "com/example/indentree/indentree/reader/CodePoints" "index" "I" (.int i1)) (E_a2 : Exa Z h0 a2 "java/lang/String") (F_value_a2 : Fld Z h0 a2 "java/lang/String" "value" "[B" (.ref a3)) (A_a3 : Ar Z h0 a3 c1 .byte [.int (cB8 i3), .int (cB8 i4), .int (cB8 i5), .int (cB8 i6)]) (F_coder_a2 : Fld Z h0 a2 "java/lang/String" "coder" "B" (.int 0)) (E_a1 : Exa Z h0 a1 "com/example/indentree/indentree/reader/CodePoints") (g_a1 : f ≤ a1) (r_i1 : 0 ≤ i1.toInt ∧ i1.toInt ≤ 4) (S_cs : G_S_cs Z cs) (hcs : ¬ cs = 0) :
  Con w [] Z mn20 prog_19_method_2_code 2 (some .int) R_offset_33 Ts Ts f #[.ref a1, .int i1] h0 (Q_offset_33 Z a1 a2 i1 i2 h0) := by
 refine con_of f #[vR a1, vI i1] (plainFor_of_name pn_3) (fun m => rfl) Zf ?_
 intro C H hX0
 refine r_aloadN H 1 d_g19_2_0 ?_
 refine r_dup H 2 d_g19_2_1 ?_
 refine r_getf H 5 d_g19_2_2 (tw79 hw) F_offset_a1 ?_
 refine r_aloadN H 6 d_g19_2_5 ?_
 refine r_getf H 9 d_g19_2_6 (tw72 hw) F_text_a1 ?_
 refine r_aloadN H 10 d_g19_2_9 ?_
 refine r_getf H 13 d_g19_2_10 (tw81 hw) F_index_a1 ?_
 refine r_iloadN H 14 d_g19_2_13 ?_
 refine r_virtual (z := mn19) (a := a2) (argsL := [.int i1, .int i1]) (rest := [.int i2, .ref a1]) (W := 2) H 17 d_g19_2_14 (tw83 hw) (tw84 hw) (nf_sel (tw86 hw)) (tw86 hw) (tw85 hw) (tw22 hw) (tw87 hw) E_a2 (lenOf pd_18 rfl) (rm_codePointCount_34 hw Ts a2 a3 i1 i3 i4 i5 i6 c1 cs h0 f Zf Z0 E_a2 F_value_a2 A_a3 F_coder_a2 r_i1 S_cs hcs) ?_
 rintro _ _ ⟨p1, rfl, ep1, rp1, rfl⟩
 refine r_iadd H 18 (i2 + p1) d_g19_2_17 rfl ?_
 refine r_putf (ty := .int) H 21 d_g19_2_18 (tw79 hw) F_offset_a1 E_a1 (Or.inl (tw80 hw)) (tw18 hw) g_a1 ?_
 intro h3 W3 K3 E3 F3
 refine r_aloadN H 22 d_g19_2_21 ?_
 refine r_iloadN H 23 d_g19_2_22 ?_
 have q4 := (F_index_a1.other W3 (Or.inr (slot_ne (Or.inl (tw82 hw)) (Or.inl (tw80 hw)) (by decide) (t := .int) (t' := .int) (by decide) (by decide))))
 refine r_putf (ty := .int) H 26 d_g19_2_23 (tw81 hw) q4 E3 (Or.inl (tw82 hw)) (tw18 hw) g_a1 ?_
 intro h5 W5 K5 E5 F5
 refine r_aloadN H 27 d_g19_2_26 ?_
 have q6 := (F3.other W5 (Or.inr (slot_ne (Or.inl (tw80 hw)) (Or.inl (tw82 hw)) (by decide) (t := .int) (t' := .int) (by decide) (by decide))))
 refine r_getf H 30 d_g19_2_27 (tw79 hw) q6 ?_
 have k7 : Keep h0 h3 [a1] := Keep.trans (Keep.refl h0 [a1]) K3 (allS (Or.inl (List.mem_of_getElem? (i := 0) rfl)) all0)
 have k8 : Keep h0 h5 [a1] := Keep.trans k7 K5 (allS (Or.inl (List.mem_of_getElem? (i := 0) rfl)) all0)
 have q9 := ((F_text_a1.other W3 (Or.inr (slot_ne (Or.inr (tw73 hw)) (Or.inl (tw80 hw)) (by decide) (t := (.object "java/lang/String")) (t' := .int) (by decide) (by decide)))).other W5 (Or.inr (slot_ne (Or.inr (tw73 hw)) (Or.inl (tw82 hw)) (by decide) (t := (.object "java/lang/String")) (t' := .int) (by decide) (by decide))))
 subst ep1
 exact r_ireturn H d_g19_2_30 (⟨_, rfl, rfl, k8, E5, F5, q6, q9⟩)
def Q_checkFromToIndex_40 (Z : State) (i1 : Int32) (h0 : Heap) (v : Option Value) (h : Heap) : Prop := v = some (.int i1) ∧ h0 = h
def R_checkFromToIndex_40 : Room := { frames := 0, cells := 0, slots := 0, locals := 0 }
theorem rm_checkFromToIndex_40 {w : Bool} {Z : State} {a0 : Array Value} (hw : HW a0 Z) (Ts : List String) (i1 : Int32) (h0 : Heap) (f : Nat) (Zf : Z.heap.size ≤ f) (Z0 : f ≤ h0.size) (r_i1 : 0 ≤ i1.toInt ∧ i1.toInt ≤ 4) :
  Con w [] Z mn16 jdk_41_method_12_code 4 (some .int) R_checkFromToIndex_40 Ts Ts f #[.int i1, .int 4, .int 4, .null] h0 (Q_checkFromToIndex_40 Z i1 h0) := by
 refine con_of f #[vI i1, vI 4, vI 4, .val .null] (plainFor_of_name pn_4) (fun m => rfl) Zf ?_
 intro C H hX0
 refine r_iloadN H 1 d_j41_12_0 ?_
 refine r_ifltF H 4 d_j41_12_1 (by have := r_i1; have : (0 : Int32).toInt = 0 := (by decide); simp only [Int32.lt_iff_toInt_lt, ← Int32.toInt_inj]; omega) ?_
 refine r_iloadN H 5 d_j41_12_4 ?_
 refine r_iloadN H 6 d_j41_12_5 ?_
 refine r_icmpgtF H 9 d_j41_12_6 rfl (by have := r_i1; have : (4 : Int32).toInt = 4 := (by decide); simp only [Int32.lt_iff_toInt_lt, ← Int32.toInt_inj]; omega) ?_
 refine r_iloadN H 10 d_j41_12_9 ?_
 refine r_iloadN H 11 d_j41_12_10 ?_
 refine r_icmpleT H 22 d_j41_12_11 (by decide) (by decide) (by decide) ?_
 refine r_iloadN H 23 d_j41_12_22 ?_
 exact r_ireturn H d_j41_12_23 (⟨rfl, rfl⟩)
def Q_checkFromToIndex_39 (Z : State) (i1 : Int32) (h0 : Heap) (v : Option Value) (h : Heap) : Prop := v = some (.int i1) ∧ h0 = h
def R_checkFromToIndex_39 : Room := { frames := 1, cells := 0, slots := 0, locals := 15 }
theorem rm_checkFromToIndex_39 {w : Bool} {Z : State} {a0 : Array Value} (hw : HW a0 Z) (Ts : List String) (i1 : Int32) (h0 : Heap) (f : Nat) (Zf : Z.heap.size ≤ f) (Z0 : f ≤ h0.size) (r_i1 : 0 ≤ i1.toInt ∧ i1.toInt ≤ 4) :
  Con w [] Z mn17 jdk_31_method_18_code 3 (some .int) R_checkFromToIndex_39 Ts Ts f #[.int i1, .int 4, .int 4] h0 (Q_checkFromToIndex_39 Z i1 h0) := by
 refine con_of f #[vI i1, vI 4, vI 4] (plainFor_of_name pn_5) (fun m => rfl) Zf ?_
 intro C H hX0
 refine r_iloadN H 1 d_j31_18_0 ?_
 refine r_iloadN H 2 d_j31_18_1 ?_
 refine r_iloadN H 3 d_j31_18_2 ?_
 refine r_null H 4 d_j31_18_3 ?_
 refine r_static (argsL := [.int i1, .int 4, .int 4, .null]) (rest := []) (W := 0) H 7 d_j31_18_4 (tw102 hw) (tw103 hw) (tw104 hw) (tw105 hw) (lenOf pd_15 rfl) (rm_checkFromToIndex_40 hw Ts i1 h0 f Zf Z0 r_i1) ?_
 rintro _ _ ⟨rfl, rfl⟩
 exact r_ireturn H d_j31_18_7 (⟨rfl, rfl⟩)
def Q_codePointCount_38 (Z : State) (i1 : Int32) (h0 : Heap) (v : Option Value) (h : Heap) : Prop := ∃ (z : Int32), v = some (.int z) ∧ ((4 : Int32) - i1) = z ∧ (0 ≤ z.toInt ∧ z.toInt ≤ 4) ∧ h0 = h
def R_codePointCount_38 : Room := { frames := 2, cells := 0, slots := 0, locals := 29 }
theorem rm_codePointCount_38 {w : Bool} {Z : State} {a0 : Array Value} (hw : HW a0 Z) (Ts : List String) (a1 : Addr) (a2 : Addr) (i1 : Int32) (i2 : Int32) (i3 : Int32) (i4 : Int32) (i5 : Int32) (c1 : ClassId) (cs : Int32) (h0 : Heap) (f : Nat) (Zf : Z.heap.size ≤ f) (Z0 : f ≤ h0.size) (E_a1 : Exa Z h0 a1 "java/lang/String") (F_value_a1 : Fld Z h0 a1 "java/lang/String" "value" "[B" (.ref a2)) (A_a2 : Ar Z h0 a2 c1 .byte [.int (cB8 i2), .int (cB8 i3), .int (cB8 i4), .int (cB8 i5)]) (F_coder_a1 : Fld Z h0 a1 "java/lang/String" "coder" "B" (.int 0)) (r_i1 : 0 ≤ i1.toInt ∧ i1.toInt ≤ 4) (S_cs : G_S_cs Z cs) (hcs : ¬ cs = 0) :
  Con w [] Z mn19 jdk_42_method_59_code 3 (some .int) R_codePointCount_38 Ts Ts f #[.ref a1, .int i1, .int 4] h0 (Q_codePointCount_38 Z i1 h0) := by
 refine con_of f #[vR a1, vI i1, vI 4] (plainFor_of_name pn_2) (fun m => rfl) Zf ?_
 intro C H hX0
 refine r_iloadN H 1 d_j42_59_0 ?_
 refine r_iloadN H 2 d_j42_59_1 ?_
 refine r_aloadN H 3 d_j42_59_2 ?_
 refine r_virtual (z := mn15) (a := a1) (argsL := []) (rest := [.int 4, .int i1]) (W := 2) H 6 d_j42_59_3 (tw88 hw) (tw89 hw) (nf_sel (tw91 hw)) (tw91 hw) (tw90 hw) (tw22 hw) (tw92 hw) E_a1 (lenOf pd_14 rfl) (rm_length_24 hw Ts a1 a2 (cB8 i2) (cB8 i3) (cB8 i4) (cB8 i5) c1 cs h0 f Zf Z0 F_value_a1 A_a2 E_a1 F_coder_a1 S_cs hcs) ?_
 rintro _ _ ⟨rfl, rfl⟩
 refine r_static (argsL := [.int i1, .int 4, .int 4]) (rest := []) (W := 0) H 9 d_j42_59_6 (tw98 hw) (tw99 hw) (tw100 hw) (tw101 hw) (lenOf pd_16 rfl) (rm_checkFromToIndex_39 hw Ts i1 h0 f Zf Z0 r_i1) ?_
 rintro _ _ ⟨rfl, rfl⟩
 refine r_pop H 10 d_j42_59_9 ?_
 refine r_aloadN H 11 d_j42_59_10 ?_
 refine r_virtual (z := mn18) (a := a1) (argsL := []) (rest := []) (W := 0) H 14 d_j42_59_11 (tw106 hw) (tw107 hw) (nf_sel (tw109 hw)) (tw109 hw) (tw108 hw) (tw22 hw) (tw110 hw) E_a1 (lenOf pd_17 rfl) (rm_isLatin1_28 hw Ts a1 cs h0 f Zf Z0 F_coder_a1 S_cs hcs) ?_
 rintro _ _ ⟨rfl, rfl⟩
 refine r_ifeqF H 17 d_j42_59_14 rfl (by decide) ?_
 refine r_iloadN H 18 d_j42_59_17 ?_
 refine r_iloadN H 19 d_j42_59_18 ?_
 obtain ⟨p4, ep4, rp4⟩ : ∃ p : Int32, ((4 : Int32) - i1) = p ∧ 0 ≤ p.toInt ∧ p.toInt ≤ 4 := ⟨_, rfl, (isub_rng (lit_rng rfl) r_i1 (by decide))⟩
 refine r_isub (hz := ep4) H 20 p4 d_j42_59_19 ?_
 subst ep4
 exact r_ireturn H d_j42_59_20 (⟨_, rfl, rfl, (by have := rp4; omega), rfl⟩)
def Q_offset_37 (Z : State) (a1 : Addr) (a2 : Addr) (i1 : Int32) (i2 : Int32) (h0 : Heap) (v : Option Value) (h : Heap) : Prop := ∃ (z : Int32), v = some (.int z) ∧ (i2 + ((4 : Int32) - i1)) = z ∧ Keep h0 h [a1] ∧ Exa Z h a1 "com/example/indentree/indentree/reader/CodePoints" ∧ Fld Z h a1 "com/example/indentree/indentree/reader/CodePoints" "index" "I" (.int 4) ∧ Fld Z h a1 "com/example/indentree/indentree/reader/CodePoints" "offset" "I" (.int (i2 + ((4 : Int32) - i1))) ∧ Fld Z h a1 "com/example/indentree/indentree/reader/CodePoints" "text" "Ljava/lang/String;" (.ref a2)
def R_offset_37 : Room := { frames := 3, cells := 0, slots := 0, locals := 45 }
theorem rm_offset_37 {w : Bool} {Z : State} {a0 : Array Value} (hw : HW a0 Z) (Ts : List String) (a1 : Addr) (a2 : Addr) (a3 : Addr) (i1 : Int32) (i2 : Int32) (i3 : Int32) (i4 : Int32) (i5 : Int32) (i6 : Int32) (c1 : ClassId) (cs : Int32) (h0 : Heap) (f : Nat) (Zf : Z.heap.size ≤ f) (Z0 : f ≤ h0.size) (F_offset_a1 : Fld Z h0 a1 "com/example/indentree/indentree/reader/CodePoints" "offset" "I" (.int i2)) (F_text_a1 : Fld Z h0 a1 "com/example/indentree/indentree/reader/CodePoints" "text" "Ljava/lang/String;" (.ref a2)) (F_index_a1 : Fld Z h0 a1 "com/example/indentree/indentree/reader/CodePoints" "index" "I" (.int i1)) (E_a2 : Exa Z h0 a2 "java/lang/String") (F_value_a2 : Fld Z h0 a2 "java/lang/String" "value" "[B" (.ref a3)) (A_a3 : Ar Z h0 a3 c1 .byte [.int (cB8 i3), .int (cB8 i4), .int (cB8 i5), .int (cB8 i6)]) (F_coder_a2 : Fld Z h0 a2 "java/lang/String" "coder" "B" (.int 0)) (E_a1 : Exa Z h0 a1 "com/example/indentree/indentree/reader/CodePoints") (g_a1 : f ≤ a1) (r_i1 : 0 ≤ i1.toInt ∧ i1.toInt ≤ 4) (S_cs : G_S_cs Z cs) (hcs : ¬ cs = 0) :
  Con w [] Z mn20 prog_19_method_2_code 2 (some .int) R_offset_37 Ts Ts f #[.ref a1, .int 4] h0 (Q_offset_37 Z a1 a2 i1 i2 h0) := by
 refine con_of f #[vR a1, vI 4] (plainFor_of_name pn_3) (fun m => rfl) Zf ?_
 intro C H hX0
 refine r_aloadN H 1 d_g19_2_0 ?_
 refine r_dup H 2 d_g19_2_1 ?_
 refine r_getf H 5 d_g19_2_2 (tw79 hw) F_offset_a1 ?_
 refine r_aloadN H 6 d_g19_2_5 ?_
 refine r_getf H 9 d_g19_2_6 (tw72 hw) F_text_a1 ?_
 refine r_aloadN H 10 d_g19_2_9 ?_
 refine r_getf H 13 d_g19_2_10 (tw81 hw) F_index_a1 ?_
 refine r_iloadN H 14 d_g19_2_13 ?_
 refine r_virtual (z := mn19) (a := a2) (argsL := [.int i1, .int 4]) (rest := [.int i2, .ref a1]) (W := 2) H 17 d_g19_2_14 (tw83 hw) (tw84 hw) (nf_sel (tw86 hw)) (tw86 hw) (tw85 hw) (tw22 hw) (tw87 hw) E_a2 (lenOf pd_18 rfl) (rm_codePointCount_38 hw Ts a2 a3 i1 i3 i4 i5 i6 c1 cs h0 f Zf Z0 E_a2 F_value_a2 A_a3 F_coder_a2 r_i1 S_cs hcs) ?_
 rintro _ _ ⟨p1, rfl, ep1, rp1, rfl⟩
 refine r_iadd H 18 (i2 + p1) d_g19_2_17 rfl ?_
 refine r_putf (ty := .int) H 21 d_g19_2_18 (tw79 hw) F_offset_a1 E_a1 (Or.inl (tw80 hw)) (tw18 hw) g_a1 ?_
 intro h3 W3 K3 E3 F3
 refine r_aloadN H 22 d_g19_2_21 ?_
 refine r_iloadN H 23 d_g19_2_22 ?_
 have q4 := (F_index_a1.other W3 (Or.inr (slot_ne (Or.inl (tw82 hw)) (Or.inl (tw80 hw)) (by decide) (t := .int) (t' := .int) (by decide) (by decide))))
 refine r_putf (ty := .int) H 26 d_g19_2_23 (tw81 hw) q4 E3 (Or.inl (tw82 hw)) (tw18 hw) g_a1 ?_
 intro h5 W5 K5 E5 F5
 refine r_aloadN H 27 d_g19_2_26 ?_
 have q6 := (F3.other W5 (Or.inr (slot_ne (Or.inl (tw80 hw)) (Or.inl (tw82 hw)) (by decide) (t := .int) (t' := .int) (by decide) (by decide))))
 refine r_getf H 30 d_g19_2_27 (tw79 hw) q6 ?_
 have k7 : Keep h0 h3 [a1] := Keep.trans (Keep.refl h0 [a1]) K3 (allS (Or.inl (List.mem_of_getElem? (i := 0) rfl)) all0)
 have k8 : Keep h0 h5 [a1] := Keep.trans k7 K5 (allS (Or.inl (List.mem_of_getElem? (i := 0) rfl)) all0)
 have q9 := ((F_text_a1.other W3 (Or.inr (slot_ne (Or.inr (tw73 hw)) (Or.inl (tw80 hw)) (by decide) (t := (.object "java/lang/String")) (t' := .int) (by decide) (by decide)))).other W5 (Or.inr (slot_ne (Or.inr (tw73 hw)) (Or.inl (tw82 hw)) (by decide) (t := (.object "java/lang/String")) (t' := .int) (by decide) (by decide))))
 subst ep1
 exact r_ireturn H d_g19_2_30 (⟨_, rfl, rfl, k8, E5, F5, q6, q9⟩)
def fn_pre_41 (i1 : Int32) (i2 : Int32) (i3 : Int32) (i4 : Int32) : Int32 := (if i1 < (2 : Int32) then i1 else (if i2 = (0 : Int32) then (if i1 < (3 : Int32) then i1 else (if i3 = (0 : Int32) then (if i1 < (4 : Int32) then i1 else (if i4 = (0 : Int32) then i1 else (i1 + (-1 : Int32)))) else (if i1 < (4 : Int32) then (i1 + (-1 : Int32)) else (if i4 = (0 : Int32) then (i1 + (-1 : Int32)) else ((i1 + (-1 : Int32)) + (-1 : Int32)))))) else (if i1 < (3 : Int32) then (i1 + (-1 : Int32)) else (if i3 = (0 : Int32) then (if i1 < (4 : Int32) then (i1 + (-1 : Int32)) else (if i4 = (0 : Int32) then (i1 + (-1 : Int32)) else ((i1 + (-1 : Int32)) + (-1 : Int32)))) else (if i1 < (4 : Int32) then ((i1 + (-1 : Int32)) + (-1 : Int32)) else (if i4 = (0 : Int32) then ((i1 + (-1 : Int32)) + (-1 : Int32)) else (((i1 + (-1 : Int32)) + (-1 : Int32)) + (-1 : Int32))))))))
def Q_pre_41 (Z : State) (i1 : Int32) (i2 : Int32) (i3 : Int32) (i4 : Int32) (h0 : Heap) (v : Option Value) (h : Heap) : Prop := ∃ z : Int32, v = some (.int z) ∧ h0 = h ∧ (fn_pre_41 i1 i2 i3 i4) = z ∧ (-1 ≤ z.toInt ∧ z.toInt ≤ 4)
def R_pre_41 : Room := { frames := 0, cells := 0, slots := 0, locals := 0 }
theorem rm_pre_41 {w : Bool} {Z : State} {a0 : Array Value} (hw : HW a0 Z) (Ts : List String) (a1 : Addr) (i1 : Int32) (i2 : Int32) (i3 : Int32) (i4 : Int32) (c1 : ClassId) (h0 : Heap) (f : Nat) (Zf : Z.heap.size ≤ f) (Z0 : f ≤ h0.size) (A_a1 : Ar Z h0 a1 c1 .boolean [.int 0, .int i2, .int i3, .int i4, .int 0]) (r_i1 : 0 ≤ i1.toInt ∧ i1.toInt ≤ 4) (r_i2 : 0 ≤ i2.toInt ∧ i2.toInt ≤ 1) (r_i3 : 0 ≤ i3.toInt ∧ i3.toInt ≤ 1) (r_i4 : 0 ≤ i4.toInt ∧ i4.toInt ≤ 1) :
  Con w [] Z mn21 method_5_code 3 (some .int) R_pre_41 Ts Ts f #[.int i1, .ref a1] h0 (Q_pre_41 Z i1 i2 i3 i4 h0) := by
 refine con_of f #[vI i1, vR a1, .unset] (plainFor_of_name pn_0) (fun m => rfl) Zf ?_
 intro C H hX0
 refine r_iloadN H 1 d_5_0 ?_
 refine r_istoreN H 2 #[vI i1, vR a1, vI i1] d_5_1 ?_
 refine r_iloadN H 3 d_5_2 ?_
 refine r_iconst H 4 2 d_5_3 ?_
 refine r_icmplt H 16 7 d_5_4 (fun c1 => ?_) (fun c1 => ?_)
 ·
  have rr2 : 0 ≤ i1.toInt ∧ i1.toInt ≤ 1 := by have := r_i1; have : (2 : Int32).toInt = 2 := (by decide); have hc_ := c1; simp only [Int32.lt_iff_toInt_lt, ← Int32.toInt_inj] at hc_; omega
  refine r_iloadN H 17 d_5_16 ?_
  refine r_iconst H 18 3 d_5_17 ?_
  refine r_icmpltT H 30 d_5_18 (by decide) (by decide) (by have := rr2; have : (3 : Int32).toInt = 3 := (by decide); simp only [Int32.lt_iff_toInt_lt, ← Int32.toInt_inj]; omega) ?_
  refine r_iloadN H 31 d_5_30 ?_
  refine r_iconst H 32 4 d_5_31 ?_
  refine r_icmpltT H 44 d_5_32 (by decide) (by decide) (by have := rr2; have : (4 : Int32).toInt = 4 := (by decide); simp only [Int32.lt_iff_toInt_lt, ← Int32.toInt_inj]; omega) ?_
  refine r_iloadN H 45 d_5_44 ?_
  exact r_ireturn H d_5_45 (⟨_, rfl, rfl, (by unfold fn_pre_41; rw [if_pos c1]), (by have := rr2; omega)⟩)
 ·
  have rr3 : 2 ≤ i1.toInt ∧ i1.toInt ≤ 4 := by have := r_i1; have : (2 : Int32).toInt = 2 := (by decide); have hc_ := c1; simp only [Int32.lt_iff_toInt_lt, ← Int32.toInt_inj] at hc_; omega
  refine r_aloadN H 8 d_5_7 ?_
  refine r_iconst H 9 1 d_5_8 ?_
  refine r_zaload H 10 i2 d_5_9 A_a1 ?_
  refine r_ifeq H 16 13 d_5_10 (fun c4 => ?_) (fun c4 => ?_)
  ·
   refine r_iloadN H 17 d_5_16 ?_
   refine r_iconst H 18 3 d_5_17 ?_
   refine r_icmplt H 30 21 d_5_18 (fun c6 => ?_) (fun c6 => ?_)
   ·
    have rr7 : 2 ≤ i1.toInt ∧ i1.toInt ≤ 2 := by have := rr3; have : (3 : Int32).toInt = 3 := (by decide); have hc_ := c6; simp only [Int32.lt_iff_toInt_lt, ← Int32.toInt_inj] at hc_; omega
    refine r_iloadN H 31 d_5_30 ?_
    refine r_iconst H 32 4 d_5_31 ?_
    refine r_icmpltT H 44 d_5_32 (by decide) (by decide) (by have := rr7; have : (4 : Int32).toInt = 4 := (by decide); simp only [Int32.lt_iff_toInt_lt, ← Int32.toInt_inj]; omega) ?_
    refine r_iloadN H 45 d_5_44 ?_
    exact r_ireturn H d_5_45 (⟨_, rfl, rfl, (by unfold fn_pre_41; rw [if_neg c1, if_pos c4, if_pos c6]), (by have := rr7; omega)⟩)
   ·
    have rr8 : 3 ≤ i1.toInt ∧ i1.toInt ≤ 4 := by have := rr3; have : (3 : Int32).toInt = 3 := (by decide); have hc_ := c6; simp only [Int32.lt_iff_toInt_lt, ← Int32.toInt_inj] at hc_; omega
    refine r_aloadN H 22 d_5_21 ?_
    refine r_iconst H 23 2 d_5_22 ?_
    refine r_zaload H 24 i3 d_5_23 A_a1 ?_
    refine r_ifeq H 30 27 d_5_24 (fun c9 => ?_) (fun c9 => ?_)
    ·
     refine r_iloadN H 31 d_5_30 ?_
     refine r_iconst H 32 4 d_5_31 ?_
     refine r_icmplt H 44 35 d_5_32 (fun c11 => ?_) (fun c11 => ?_)
     ·
      have rr12 : 3 ≤ i1.toInt ∧ i1.toInt ≤ 3 := by have := rr8; have : (4 : Int32).toInt = 4 := (by decide); have hc_ := c11; simp only [Int32.lt_iff_toInt_lt, ← Int32.toInt_inj] at hc_; omega
      refine r_iloadN H 45 d_5_44 ?_
      exact r_ireturn H d_5_45 (⟨_, rfl, rfl, (by unfold fn_pre_41; rw [if_neg c1, if_pos c4, if_neg c6, if_pos c9, if_pos c11]), (by have := rr12; omega)⟩)
     ·
      have rr13 : 4 ≤ i1.toInt ∧ i1.toInt ≤ 4 := by have := rr8; have : (4 : Int32).toInt = 4 := (by decide); have hc_ := c11; simp only [Int32.lt_iff_toInt_lt, ← Int32.toInt_inj] at hc_; omega
      refine r_aloadN H 36 d_5_35 ?_
      refine r_iconst H 37 3 d_5_36 ?_
      refine r_zaload H 38 i4 d_5_37 A_a1 ?_
      refine r_ifeq H 44 41 d_5_38 (fun c14 => ?_) (fun c14 => ?_)
      ·
       refine r_iloadN H 45 d_5_44 ?_
       exact r_ireturn H d_5_45 (⟨_, rfl, rfl, (by unfold fn_pre_41; rw [if_neg c1, if_pos c4, if_neg c6, if_pos c9, if_neg c11, if_pos c14]), (by have := rr13; omega)⟩)
      ·
       obtain ⟨p17, ep17, rp17⟩ : ∃ p : Int32, (i1 + (-1 : Int32)) = p ∧ 3 ≤ p.toInt ∧ p.toInt ≤ 3 := ⟨_, rfl, (iadd_rng rr13 (lit_rng rfl) (by decide))⟩
       refine r_iinc (hy := (iinc_neg (by decide) ep17)) H 44 #[vI i1, vR a1, vI p17] p17 d_5_41 ?_
       refine r_iloadN H 45 d_5_44 ?_
       subst ep17
       exact r_ireturn H d_5_45 (⟨_, rfl, rfl, (by unfold fn_pre_41; rw [if_neg c1, if_pos c4, if_neg c6, if_pos c9, if_neg c11, if_neg c14]), (by have := rp17; omega)⟩)
    ·
     obtain ⟨p19, ep19, rp19⟩ : ∃ p : Int32, (i1 + (-1 : Int32)) = p ∧ 2 ≤ p.toInt ∧ p.toInt ≤ 3 := ⟨_, rfl, (iadd_rng rr8 (lit_rng rfl) (by decide))⟩
     refine r_iinc (hy := (iinc_neg (by decide) ep19)) H 30 #[vI i1, vR a1, vI p19] p19 d_5_27 ?_
     refine r_iloadN H 31 d_5_30 ?_
     refine r_iconst H 32 4 d_5_31 ?_
     refine r_icmplt H 44 35 d_5_32 (fun c20 => ?_) (fun c20 => ?_)
     ·
      refine r_iloadN H 45 d_5_44 ?_
      subst ep19
      exact r_ireturn H d_5_45 (⟨_, rfl, rfl, (by unfold fn_pre_41; rw [if_neg c1, if_pos c4, if_neg c6, if_neg c9, if_pos c20]), (by have := rp19; omega)⟩)
     ·
      refine r_aloadN H 36 d_5_35 ?_
      refine r_iconst H 37 3 d_5_36 ?_
      refine r_zaload H 38 i4 d_5_37 A_a1 ?_
      refine r_ifeq H 44 41 d_5_38 (fun c23 => ?_) (fun c23 => ?_)
      ·
       refine r_iloadN H 45 d_5_44 ?_
       subst ep19
       exact r_ireturn H d_5_45 (⟨_, rfl, rfl, (by unfold fn_pre_41; rw [if_neg c1, if_pos c4, if_neg c6, if_neg c9, if_neg c20, if_pos c23]), (by have := rp19; omega)⟩)
      ·
       obtain ⟨p26, ep26, rp26⟩ : ∃ p : Int32, (p19 + (-1 : Int32)) = p ∧ 1 ≤ p.toInt ∧ p.toInt ≤ 2 := ⟨_, rfl, (iadd_rng rp19 (lit_rng rfl) (by decide))⟩
       refine r_iinc (hy := (iinc_neg (by decide) ep26)) H 44 #[vI i1, vR a1, vI p26] p26 d_5_41 ?_
       refine r_iloadN H 45 d_5_44 ?_
       subst ep19 ep26
       exact r_ireturn H d_5_45 (⟨_, rfl, rfl, (by unfold fn_pre_41; rw [if_neg c1, if_pos c4, if_neg c6, if_neg c9, if_neg c20, if_neg c23]), (by have := rp26; omega)⟩)
  ·
   obtain ⟨p28, ep28, rp28⟩ : ∃ p : Int32, (i1 + (-1 : Int32)) = p ∧ 1 ≤ p.toInt ∧ p.toInt ≤ 3 := ⟨_, rfl, (iadd_rng rr3 (lit_rng rfl) (by decide))⟩
   refine r_iinc (hy := (iinc_neg (by decide) ep28)) H 16 #[vI i1, vR a1, vI p28] p28 d_5_13 ?_
   refine r_iloadN H 17 d_5_16 ?_
   refine r_iconst H 18 3 d_5_17 ?_
   refine r_icmplt H 30 21 d_5_18 (fun c29 => ?_) (fun c29 => ?_)
   ·
    have rr30 : 2 ≤ i1.toInt ∧ i1.toInt ≤ 2 := by have := rr3; have : (3 : Int32).toInt = 3 := (by decide); have hc_ := c29; simp only [Int32.lt_iff_toInt_lt, ← Int32.toInt_inj] at hc_; omega
    refine r_iloadN H 31 d_5_30 ?_
    refine r_iconst H 32 4 d_5_31 ?_
    refine r_icmpltT H 44 d_5_32 (by decide) (by decide) (by have := rr30; have : (4 : Int32).toInt = 4 := (by decide); simp only [Int32.lt_iff_toInt_lt, ← Int32.toInt_inj]; omega) ?_
    refine r_iloadN H 45 d_5_44 ?_
    subst ep28
    exact r_ireturn H d_5_45 (⟨_, rfl, rfl, (by unfold fn_pre_41; rw [if_neg c1, if_neg c4, if_pos c29]), (by have := rp28; omega)⟩)
   ·
    refine r_aloadN H 22 d_5_21 ?_
    refine r_iconst H 23 2 d_5_22 ?_
    refine r_zaload H 24 i3 d_5_23 A_a1 ?_
    refine r_ifeq H 30 27 d_5_24 (fun c32 => ?_) (fun c32 => ?_)
    ·
     refine r_iloadN H 31 d_5_30 ?_
     refine r_iconst H 32 4 d_5_31 ?_
     refine r_icmplt H 44 35 d_5_32 (fun c34 => ?_) (fun c34 => ?_)
     ·
      refine r_iloadN H 45 d_5_44 ?_
      subst ep28
      exact r_ireturn H d_5_45 (⟨_, rfl, rfl, (by unfold fn_pre_41; rw [if_neg c1, if_neg c4, if_neg c29, if_pos c32, if_pos c34]), (by have := rp28; omega)⟩)
     ·
      refine r_aloadN H 36 d_5_35 ?_
      refine r_iconst H 37 3 d_5_36 ?_
      refine r_zaload H 38 i4 d_5_37 A_a1 ?_
      refine r_ifeq H 44 41 d_5_38 (fun c37 => ?_) (fun c37 => ?_)
      ·
       refine r_iloadN H 45 d_5_44 ?_
       subst ep28
       exact r_ireturn H d_5_45 (⟨_, rfl, rfl, (by unfold fn_pre_41; rw [if_neg c1, if_neg c4, if_neg c29, if_pos c32, if_neg c34, if_pos c37]), (by have := rp28; omega)⟩)
      ·
       obtain ⟨p40, ep40, rp40⟩ : ∃ p : Int32, (p28 + (-1 : Int32)) = p ∧ 0 ≤ p.toInt ∧ p.toInt ≤ 2 := ⟨_, rfl, (iadd_rng rp28 (lit_rng rfl) (by decide))⟩
       refine r_iinc (hy := (iinc_neg (by decide) ep40)) H 44 #[vI i1, vR a1, vI p40] p40 d_5_41 ?_
       refine r_iloadN H 45 d_5_44 ?_
       subst ep28 ep40
       exact r_ireturn H d_5_45 (⟨_, rfl, rfl, (by unfold fn_pre_41; rw [if_neg c1, if_neg c4, if_neg c29, if_pos c32, if_neg c34, if_neg c37]), (by have := rp40; omega)⟩)
    ·
     obtain ⟨p42, ep42, rp42⟩ : ∃ p : Int32, (p28 + (-1 : Int32)) = p ∧ 0 ≤ p.toInt ∧ p.toInt ≤ 2 := ⟨_, rfl, (iadd_rng rp28 (lit_rng rfl) (by decide))⟩
     refine r_iinc (hy := (iinc_neg (by decide) ep42)) H 30 #[vI i1, vR a1, vI p42] p42 d_5_27 ?_
     refine r_iloadN H 31 d_5_30 ?_
     refine r_iconst H 32 4 d_5_31 ?_
     refine r_icmplt H 44 35 d_5_32 (fun c43 => ?_) (fun c43 => ?_)
     ·
      refine r_iloadN H 45 d_5_44 ?_
      subst ep28 ep42
      exact r_ireturn H d_5_45 (⟨_, rfl, rfl, (by unfold fn_pre_41; rw [if_neg c1, if_neg c4, if_neg c29, if_neg c32, if_pos c43]), (by have := rp42; omega)⟩)
     ·
      refine r_aloadN H 36 d_5_35 ?_
      refine r_iconst H 37 3 d_5_36 ?_
      refine r_zaload H 38 i4 d_5_37 A_a1 ?_
      refine r_ifeq H 44 41 d_5_38 (fun c46 => ?_) (fun c46 => ?_)
      ·
       refine r_iloadN H 45 d_5_44 ?_
       subst ep28 ep42
       exact r_ireturn H d_5_45 (⟨_, rfl, rfl, (by unfold fn_pre_41; rw [if_neg c1, if_neg c4, if_neg c29, if_neg c32, if_neg c43, if_pos c46]), (by have := rp42; omega)⟩)
      ·
       obtain ⟨p49, ep49, rp49⟩ : ∃ p : Int32, (p42 + (-1 : Int32)) = p ∧ -1 ≤ p.toInt ∧ p.toInt ≤ 1 := ⟨_, rfl, (iadd_rng rp42 (lit_rng rfl) (by decide))⟩
       refine r_iinc (hy := (iinc_neg (by decide) ep49)) H 44 #[vI i1, vR a1, vI p49] p49 d_5_41 ?_
       refine r_iloadN H 45 d_5_44 ?_
       subst ep28 ep42 ep49
       exact r_ireturn H d_5_45 (⟨_, rfl, rfl, (by unfold fn_pre_41; rw [if_neg c1, if_neg c4, if_neg c29, if_neg c32, if_neg c43, if_neg c46]), (by have := rp49; omega)⟩)
def fn_pre_42 (i1 : Int32) (i2 : Int32) (i3 : Int32) : Int32 := (if i1 = (0 : Int32) then (if i2 = (0 : Int32) then (if i3 = (0 : Int32) then (4 : Int32) else (3 : Int32)) else (if i3 = (0 : Int32) then (3 : Int32) else (2 : Int32))) else (if i2 = (0 : Int32) then (if i3 = (0 : Int32) then (3 : Int32) else (2 : Int32)) else (if i3 = (0 : Int32) then (2 : Int32) else (1 : Int32))))
def Q_pre_42 (Z : State) (i1 : Int32) (i2 : Int32) (i3 : Int32) (h0 : Heap) (v : Option Value) (h : Heap) : Prop := ∃ z : Int32, v = some (.int z) ∧ h0 = h ∧ (fn_pre_42 i1 i2 i3) = z ∧ (1 ≤ z.toInt ∧ z.toInt ≤ 4)
def R_pre_42 : Room := { frames := 0, cells := 0, slots := 0, locals := 0 }
theorem rm_pre_42 {w : Bool} {Z : State} {a0 : Array Value} (hw : HW a0 Z) (Ts : List String) (a1 : Addr) (i1 : Int32) (i2 : Int32) (i3 : Int32) (c1 : ClassId) (h0 : Heap) (f : Nat) (Zf : Z.heap.size ≤ f) (Z0 : f ≤ h0.size) (A_a1 : Ar Z h0 a1 c1 .boolean [.int 0, .int i1, .int i2, .int i3, .int 0]) (r_i1 : 0 ≤ i1.toInt ∧ i1.toInt ≤ 1) (r_i2 : 0 ≤ i2.toInt ∧ i2.toInt ≤ 1) (r_i3 : 0 ≤ i3.toInt ∧ i3.toInt ≤ 1) :
  Con w [] Z mn21 method_5_code 3 (some .int) R_pre_42 Ts Ts f #[.int 4, .ref a1] h0 (Q_pre_42 Z i1 i2 i3 h0) := by
 refine con_of f #[vI 4, vR a1, .unset] (plainFor_of_name pn_0) (fun m => rfl) Zf ?_
 intro C H hX0
 refine r_iloadN H 1 d_5_0 ?_
 refine r_istoreN H 2 #[vI 4, vR a1, vI 4] d_5_1 ?_
 refine r_iloadN H 3 d_5_2 ?_
 refine r_iconst H 4 2 d_5_3 ?_
 refine r_icmpltF H 7 d_5_4 rfl (by decide) ?_
 refine r_aloadN H 8 d_5_7 ?_
 refine r_iconst H 9 1 d_5_8 ?_
 refine r_zaload H 10 i1 d_5_9 A_a1 ?_
 refine r_ifeq H 16 13 d_5_10 (fun c1 => ?_) (fun c1 => ?_)
 ·
  refine r_iloadN H 17 d_5_16 ?_
  refine r_iconst H 18 3 d_5_17 ?_
  refine r_icmpltF H 21 d_5_18 rfl (by decide) ?_
  refine r_aloadN H 22 d_5_21 ?_
  refine r_iconst H 23 2 d_5_22 ?_
  refine r_zaload H 24 i2 d_5_23 A_a1 ?_
  refine r_ifeq H 30 27 d_5_24 (fun c3 => ?_) (fun c3 => ?_)
  ·
   refine r_iloadN H 31 d_5_30 ?_
   refine r_iconst H 32 4 d_5_31 ?_
   refine r_icmpltF H 35 d_5_32 rfl (by decide) ?_
   refine r_aloadN H 36 d_5_35 ?_
   refine r_iconst H 37 3 d_5_36 ?_
   refine r_zaload H 38 i3 d_5_37 A_a1 ?_
   refine r_ifeq H 44 41 d_5_38 (fun c5 => ?_) (fun c5 => ?_)
   ·
    refine r_iloadN H 45 d_5_44 ?_
    exact r_ireturn H d_5_45 (⟨_, rfl, rfl, (by unfold fn_pre_42; rw [if_pos c1, if_pos c3, if_pos c5]), (by decide)⟩)
   ·
    refine r_iinc H 44 #[vI 4, vR a1, vI 3] 3 d_5_41 ?_
    refine r_iloadN H 45 d_5_44 ?_
    exact r_ireturn H d_5_45 (⟨_, rfl, rfl, (by unfold fn_pre_42; rw [if_pos c1, if_pos c3, if_neg c5]), (by decide)⟩)
  ·
   refine r_iinc H 30 #[vI 4, vR a1, vI 3] 3 d_5_27 ?_
   refine r_iloadN H 31 d_5_30 ?_
   refine r_iconst H 32 4 d_5_31 ?_
   refine r_icmpltF H 35 d_5_32 rfl (by decide) ?_
   refine r_aloadN H 36 d_5_35 ?_
   refine r_iconst H 37 3 d_5_36 ?_
   refine r_zaload H 38 i3 d_5_37 A_a1 ?_
   refine r_ifeq H 44 41 d_5_38 (fun c9 => ?_) (fun c9 => ?_)
   ·
    refine r_iloadN H 45 d_5_44 ?_
    exact r_ireturn H d_5_45 (⟨_, rfl, rfl, (by unfold fn_pre_42; rw [if_pos c1, if_neg c3, if_pos c9]), (by decide)⟩)
   ·
    refine r_iinc H 44 #[vI 4, vR a1, vI 2] 2 d_5_41 ?_
    refine r_iloadN H 45 d_5_44 ?_
    exact r_ireturn H d_5_45 (⟨_, rfl, rfl, (by unfold fn_pre_42; rw [if_pos c1, if_neg c3, if_neg c9]), (by decide)⟩)
 ·
  refine r_iinc H 16 #[vI 4, vR a1, vI 3] 3 d_5_13 ?_
  refine r_iloadN H 17 d_5_16 ?_
  refine r_iconst H 18 3 d_5_17 ?_
  refine r_icmpltF H 21 d_5_18 rfl (by decide) ?_
  refine r_aloadN H 22 d_5_21 ?_
  refine r_iconst H 23 2 d_5_22 ?_
  refine r_zaload H 24 i2 d_5_23 A_a1 ?_
  refine r_ifeq H 30 27 d_5_24 (fun c13 => ?_) (fun c13 => ?_)
  ·
   refine r_iloadN H 31 d_5_30 ?_
   refine r_iconst H 32 4 d_5_31 ?_
   refine r_icmpltF H 35 d_5_32 rfl (by decide) ?_
   refine r_aloadN H 36 d_5_35 ?_
   refine r_iconst H 37 3 d_5_36 ?_
   refine r_zaload H 38 i3 d_5_37 A_a1 ?_
   refine r_ifeq H 44 41 d_5_38 (fun c15 => ?_) (fun c15 => ?_)
   ·
    refine r_iloadN H 45 d_5_44 ?_
    exact r_ireturn H d_5_45 (⟨_, rfl, rfl, (by unfold fn_pre_42; rw [if_neg c1, if_pos c13, if_pos c15]), (by decide)⟩)
   ·
    refine r_iinc H 44 #[vI 4, vR a1, vI 2] 2 d_5_41 ?_
    refine r_iloadN H 45 d_5_44 ?_
    exact r_ireturn H d_5_45 (⟨_, rfl, rfl, (by unfold fn_pre_42; rw [if_neg c1, if_pos c13, if_neg c15]), (by decide)⟩)
  ·
   refine r_iinc H 30 #[vI 4, vR a1, vI 2] 2 d_5_27 ?_
   refine r_iloadN H 31 d_5_30 ?_
   refine r_iconst H 32 4 d_5_31 ?_
   refine r_icmpltF H 35 d_5_32 rfl (by decide) ?_
   refine r_aloadN H 36 d_5_35 ?_
   refine r_iconst H 37 3 d_5_36 ?_
   refine r_zaload H 38 i3 d_5_37 A_a1 ?_
   refine r_ifeq H 44 41 d_5_38 (fun c19 => ?_) (fun c19 => ?_)
   ·
    refine r_iloadN H 45 d_5_44 ?_
    exact r_ireturn H d_5_45 (⟨_, rfl, rfl, (by unfold fn_pre_42; rw [if_neg c1, if_neg c13, if_pos c19]), (by decide)⟩)
   ·
    refine r_iinc H 44 #[vI 4, vR a1, vI 1] 1 d_5_41 ?_
    refine r_iloadN H 45 d_5_44 ?_
    exact r_ireturn H d_5_45 (⟨_, rfl, rfl, (by unfold fn_pre_42; rw [if_neg c1, if_neg c13, if_neg c19]), (by decide)⟩)
def Q_coder_46 (Z : State) (h0 : Heap) (v : Option Value) (h : Heap) : Prop := v = some (.int 1) ∧ h0 = h
def R_coder_46 : Room := { frames := 0, cells := 0, slots := 0, locals := 0 }
theorem rm_coder_46 {w : Bool} {Z : State} {a0 : Array Value} (hw : HW a0 Z) (Ts : List String) (a1 : Addr) (cs : Int32) (h0 : Heap) (f : Nat) (Zf : Z.heap.size ≤ f) (Z0 : f ≤ h0.size) (F_coder_a1 : Fld Z h0 a1 "java/lang/String" "coder" "B" (.int 1)) (S_cs : G_S_cs Z cs) (hcs : ¬ cs = 0) :
  Con w [] Z mn14 jdk_42_method_152_code 1 (some .byte) R_coder_46 Ts Ts f #[.ref a1] h0 (Q_coder_46 Z h0) := by
 refine con_of f #[vR a1] (plainFor_of_name pn_2) (fun m => rfl) Zf ?_
 intro C H hX0
 refine r_gets H 3 d_j42_152_0 (tw33 hw) S_cs ?_
 refine r_ifeqF H 6 d_j42_152_3 rfl hcs ?_
 refine r_aloadN H 7 d_j42_152_6 ?_
 refine r_getf H 10 d_j42_152_7 (tw64 hw) F_coder_a1 ?_
 refine r_goto H 14 d_j42_152_10 ?_
 exact r_nreturn (1 : Int32) H d_j42_152_14 (by decide) (⟨rfl, rfl⟩)
def Q_length_45 (Z : State) (h0 : Heap) (v : Option Value) (h : Heap) : Prop := v = some (.int 4) ∧ h0 = h
def R_length_45 : Room := { frames := 1, cells := 0, slots := 0, locals := 13 }
theorem rm_length_45 {w : Bool} {Z : State} {a0 : Array Value} (hw : HW a0 Z) (Ts : List String) (a1 : Addr) (a2 : Addr) (i1 : Int32) (i2 : Int32) (i3 : Int32) (i4 : Int32) (i5 : Int32) (i6 : Int32) (i7 : Int32) (i8 : Int32) (c1 : ClassId) (cs : Int32) (h0 : Heap) (f : Nat) (Zf : Z.heap.size ≤ f) (Z0 : f ≤ h0.size) (F_value_a1 : Fld Z h0 a1 "java/lang/String" "value" "[B" (.ref a2)) (A_a2 : Ar Z h0 a2 c1 .byte [.int i1, .int i2, .int i3, .int i4, .int i5, .int i6, .int i7, .int i8]) (E_a1 : Exa Z h0 a1 "java/lang/String") (F_coder_a1 : Fld Z h0 a1 "java/lang/String" "coder" "B" (.int 1)) (S_cs : G_S_cs Z cs) (hcs : ¬ cs = 0) :
  Con w [] Z mn15 jdk_42_method_54_code 1 (some .int) R_length_45 Ts Ts f #[.ref a1] h0 (Q_length_45 Z h0) := by
 refine con_of f #[vR a1] (plainFor_of_name pn_2) (fun m => rfl) Zf ?_
 intro C H hX0
 refine r_aloadN H 1 d_j42_54_0 ?_
 refine r_getf H 4 d_j42_54_1 (tw66 hw) F_value_a1 ?_
 refine r_alen H 5 8 d_j42_54_4 A_a2 ?_
 refine r_aloadN H 6 d_j42_54_5 ?_
 refine r_virtual (z := mn14) (a := a1) (argsL := []) (rest := [.int 8]) (W := 1) H 9 d_j42_54_6 (tw93 hw) (tw94 hw) (nf_sel (tw96 hw)) (tw96 hw) (tw95 hw) (tw22 hw) (tw97 hw) E_a1 (lenOf pd_13 rfl) (rm_coder_46 hw Ts a1 cs h0 f Zf Z0 F_coder_a1 S_cs hcs) ?_
 rintro _ _ ⟨rfl, rfl⟩
 refine r_ishr H 10 4 d_j42_54_9 (by decide) ?_
 exact r_ireturn H d_j42_54_10 (⟨rfl, rfl⟩)
def Q_isLatin1_47 (Z : State) (h0 : Heap) (v : Option Value) (h : Heap) : Prop := v = some (.int 0) ∧ h0 = h
def R_isLatin1_47 : Room := { frames := 0, cells := 0, slots := 0, locals := 0 }
theorem rm_isLatin1_47 {w : Bool} {Z : State} {a0 : Array Value} (hw : HW a0 Z) (Ts : List String) (a1 : Addr) (cs : Int32) (h0 : Heap) (f : Nat) (Zf : Z.heap.size ≤ f) (Z0 : f ≤ h0.size) (F_coder_a1 : Fld Z h0 a1 "java/lang/String" "coder" "B" (.int 1)) (S_cs : G_S_cs Z cs) (hcs : ¬ cs = 0) :
  Con w [] Z mn18 jdk_42_method_154_code 1 (some .boolean) R_isLatin1_47 Ts Ts f #[.ref a1] h0 (Q_isLatin1_47 Z h0) := by
 refine con_of f #[vR a1] (plainFor_of_name pn_2) (fun m => rfl) Zf ?_
 intro C H hX0
 refine r_gets H 3 d_j42_154_0 (tw33 hw) S_cs ?_
 refine r_ifeqF H 6 d_j42_154_3 rfl hcs ?_
 refine r_aloadN H 7 d_j42_154_6 ?_
 refine r_getf H 10 d_j42_154_7 (tw64 hw) F_coder_a1 ?_
 refine r_ifneT H 17 d_j42_154_10 (by decide) (by decide) (by decide) ?_
 refine r_iconst H 18 0 d_j42_154_17 ?_
 exact r_nreturn (0 : Int32) H d_j42_154_18 (by decide) (⟨rfl, rfl⟩)
def Q_isHighSurrogate_50 (Z : State) (i1 : Int32) (h0 : Heap) (v : Option Value) (h : Heap) : Prop := ∃ (z : Int32), v = some (.int z) ∧ (if i1 < (55296 : Int32) then (0 : Int32) else (if i1 < (56320 : Int32) then (1 : Int32) else (0 : Int32))) = z ∧ (0 ≤ z.toInt ∧ z.toInt ≤ 1) ∧ h0 = h
def R_isHighSurrogate_50 : Room := { frames := 0, cells := 0, slots := 0, locals := 0 }
theorem rm_isHighSurrogate_50 {w : Bool} {Z : State} {a0 : Array Value} (hw : HW a0 Z) (Ts : List String) (i1 : Int32) (h0 : Heap) (f : Nat) (Zf : Z.heap.size ≤ f) (Z0 : f ≤ h0.size) (r_i1 : 0 ≤ i1.toInt ∧ i1.toInt ≤ 65535) :
  Con w [] Z mn22 jdk_89_method_14_code 1 (some .boolean) R_isHighSurrogate_50 Ts Ts f #[.int i1] h0 (Q_isHighSurrogate_50 Z i1 h0) := by
 refine con_of f #[vI i1] (plainFor_of_name pn_6) (fun m => rfl) Zf ?_
 intro C H hX0
 refine r_iloadN H 1 d_j89_14_0 ?_
 refine r_ldcI H 3 d_j89_14_1 (tw121 hw) ?_
 refine Run.join (P := fun z => (if i1 < (55296 : Int32) then (0 : Int32) else (if i1 < (56320 : Int32) then (1 : Int32) else (0 : Int32))) = z ∧ (0 ≤ z.toInt ∧ z.toInt ≤ 1)) (pcB := 17) (LB := fun z => #[vI i1]) (SB := fun z => [.int z]) (fun key => ?_) ?_
 ·
  refine r_icmplt H 16 6 d_j89_14_3 (fun c1 => ?_) (fun c1 => ?_)
  ·
   refine r_iconst H 17 0 d_j89_14_16 ?_
   exact key (0 : Int32) ⟨(by rw [if_pos c1]), (by decide)⟩
  ·
   refine r_iloadN H 7 d_j89_14_6 ?_
   refine r_ldcI H 9 d_j89_14_7 (tw122 hw) ?_
   refine Run.join (P := fun z => (if i1 < (56320 : Int32) then (1 : Int32) else (0 : Int32)) = z ∧ (0 ≤ z.toInt ∧ z.toInt ≤ 1)) (pcB := 17) (LB := fun z => #[vI i1]) (SB := fun z => [.int z]) (fun key => ?_) ?_
   ·
    refine r_icmpge H 16 12 d_j89_14_9 (fun c4 => ?_) (fun c4 => ?_)
    ·
     refine r_iconst H 17 0 d_j89_14_16 ?_
     exact key (0 : Int32) ⟨(by rw [if_neg c4]), (by decide)⟩
    ·
     refine r_iconst H 13 1 d_j89_14_12 ?_
     refine r_goto H 17 d_j89_14_13 ?_
     exact key (1 : Int32) ⟨(by rw [if_pos c4]), (by decide)⟩
   rintro p7 ⟨ep7, rp7⟩
   exact key p7 ⟨(by subst ep7; rw [if_neg c1]), (by have := rp7; omega)⟩
 rintro p8 ⟨ep8, rp8⟩
 subst ep8
 exact r_nreturn (if i1 < (55296 : Int32) then (0 : Int32) else (if i1 < (56320 : Int32) then (1 : Int32) else (0 : Int32))) H d_j89_14_17 (nar_bool_id (by have := rp8; omega)) (⟨_, rfl, rfl, (by have := rp8; omega), rfl⟩)
def Q_isLowSurrogate_51 (Z : State) (i1 : Int32) (h0 : Heap) (v : Option Value) (h : Heap) : Prop := ∃ (z : Int32), v = some (.int z) ∧ (if i1 < (56320 : Int32) then (0 : Int32) else (if i1 < (57344 : Int32) then (1 : Int32) else (0 : Int32))) = z ∧ (0 ≤ z.toInt ∧ z.toInt ≤ 1) ∧ h0 = h
def R_isLowSurrogate_51 : Room := { frames := 0, cells := 0, slots := 0, locals := 0 }
theorem rm_isLowSurrogate_51 {w : Bool} {Z : State} {a0 : Array Value} (hw : HW a0 Z) (Ts : List String) (i1 : Int32) (h0 : Heap) (f : Nat) (Zf : Z.heap.size ≤ f) (Z0 : f ≤ h0.size) (r_i1 : 0 ≤ i1.toInt ∧ i1.toInt ≤ 65535) :
  Con w [] Z mn23 jdk_89_method_15_code 1 (some .boolean) R_isLowSurrogate_51 Ts Ts f #[.int i1] h0 (Q_isLowSurrogate_51 Z i1 h0) := by
 refine con_of f #[vI i1] (plainFor_of_name pn_6) (fun m => rfl) Zf ?_
 intro C H hX0
 refine r_iloadN H 1 d_j89_15_0 ?_
 refine r_ldcI H 3 d_j89_15_1 (tw122 hw) ?_
 refine Run.join (P := fun z => (if i1 < (56320 : Int32) then (0 : Int32) else (if i1 < (57344 : Int32) then (1 : Int32) else (0 : Int32))) = z ∧ (0 ≤ z.toInt ∧ z.toInt ≤ 1)) (pcB := 17) (LB := fun z => #[vI i1]) (SB := fun z => [.int z]) (fun key => ?_) ?_
 ·
  refine r_icmplt H 16 6 d_j89_15_3 (fun c1 => ?_) (fun c1 => ?_)
  ·
   refine r_iconst H 17 0 d_j89_15_16 ?_
   exact key (0 : Int32) ⟨(by rw [if_pos c1]), (by decide)⟩
  ·
   refine r_iloadN H 7 d_j89_15_6 ?_
   refine r_ldcI H 9 d_j89_15_7 (tw130 hw) ?_
   refine Run.join (P := fun z => (if i1 < (57344 : Int32) then (1 : Int32) else (0 : Int32)) = z ∧ (0 ≤ z.toInt ∧ z.toInt ≤ 1)) (pcB := 17) (LB := fun z => #[vI i1]) (SB := fun z => [.int z]) (fun key => ?_) ?_
   ·
    refine r_icmpge H 16 12 d_j89_15_9 (fun c4 => ?_) (fun c4 => ?_)
    ·
     refine r_iconst H 17 0 d_j89_15_16 ?_
     exact key (0 : Int32) ⟨(by rw [if_neg c4]), (by decide)⟩
    ·
     refine r_iconst H 13 1 d_j89_15_12 ?_
     refine r_goto H 17 d_j89_15_13 ?_
     exact key (1 : Int32) ⟨(by rw [if_pos c4]), (by decide)⟩
   rintro p7 ⟨ep7, rp7⟩
   exact key p7 ⟨(by subst ep7; rw [if_neg c1]), (by have := rp7; omega)⟩
 rintro p8 ⟨ep8, rp8⟩
 subst ep8
 exact r_nreturn (if i1 < (56320 : Int32) then (0 : Int32) else (if i1 < (57344 : Int32) then (1 : Int32) else (0 : Int32))) H d_j89_15_17 (nar_bool_id (by have := rp8; omega)) (⟨_, rfl, rfl, (by have := rp8; omega), rfl⟩)
def fn_codePointCount_49 (i1 : Int32) (i2 : Int32) (i3 : Int32) (i4 : Int32) (i5 : Int32) : Int32 := (if i1 = (0 : Int32) then (0 : Int32) else (if i1 = (1 : Int32) then (1 : Int32) else (if i1 = (2 : Int32) then (if (if i2 < (55296 : Int32) then (0 : Int32) else (if i2 < (56320 : Int32) then (1 : Int32) else (0 : Int32))) = (0 : Int32) then (2 : Int32) else (if (if i3 < (56320 : Int32) then (0 : Int32) else (if i3 < (57344 : Int32) then (1 : Int32) else (0 : Int32))) = (0 : Int32) then (2 : Int32) else (1 : Int32))) else (if i1 = (3 : Int32) then (if (if i2 < (55296 : Int32) then (0 : Int32) else (if i2 < (56320 : Int32) then (1 : Int32) else (0 : Int32))) = (0 : Int32) then (if (if i3 < (55296 : Int32) then (0 : Int32) else (if i3 < (56320 : Int32) then (1 : Int32) else (0 : Int32))) = (0 : Int32) then (3 : Int32) else (if (if i4 < (56320 : Int32) then (0 : Int32) else (if i4 < (57344 : Int32) then (1 : Int32) else (0 : Int32))) = (0 : Int32) then (3 : Int32) else (2 : Int32))) else (if (if i3 < (56320 : Int32) then (0 : Int32) else (if i3 < (57344 : Int32) then (1 : Int32) else (0 : Int32))) = (0 : Int32) then (if (if i3 < (55296 : Int32) then (0 : Int32) else (if i3 < (56320 : Int32) then (1 : Int32) else (0 : Int32))) = (0 : Int32) then (3 : Int32) else (if (if i4 < (56320 : Int32) then (0 : Int32) else (if i4 < (57344 : Int32) then (1 : Int32) else (0 : Int32))) = (0 : Int32) then (3 : Int32) else (2 : Int32))) else (2 : Int32))) else (if (if i2 < (55296 : Int32) then (0 : Int32) else (if i2 < (56320 : Int32) then (1 : Int32) else (0 : Int32))) = (0 : Int32) then (if (if i3 < (55296 : Int32) then (0 : Int32) else (if i3 < (56320 : Int32) then (1 : Int32) else (0 : Int32))) = (0 : Int32) then (if (if i4 < (55296 : Int32) then (0 : Int32) else (if i4 < (56320 : Int32) then (1 : Int32) else (0 : Int32))) = (0 : Int32) then (4 : Int32) else (if (if i5 < (56320 : Int32) then (0 : Int32) else (if i5 < (57344 : Int32) then (1 : Int32) else (0 : Int32))) = (0 : Int32) then (4 : Int32) else (3 : Int32))) else (if (if i4 < (56320 : Int32) then (0 : Int32) else (if i4 < (57344 : Int32) then (1 : Int32) else (0 : Int32))) = (0 : Int32) then (if (if i4 < (55296 : Int32) then (0 : Int32) else (if i4 < (56320 : Int32) then (1 : Int32) else (0 : Int32))) = (0 : Int32) then (4 : Int32) else (if (if i5 < (56320 : Int32) then (0 : Int32) else (if i5 < (57344 : Int32) then (1 : Int32) else (0 : Int32))) = (0 : Int32) then (4 : Int32) else (3 : Int32))) else (3 : Int32))) else (if (if i3 < (56320 : Int32) then (0 : Int32) else (if i3 < (57344 : Int32) then (1 : Int32) else (0 : Int32))) = (0 : Int32) then (if (if i3 < (55296 : Int32) then (0 : Int32) else (if i3 < (56320 : Int32) then (1 : Int32) else (0 : Int32))) = (0 : Int32) then (if (if i4 < (55296 : Int32) then (0 : Int32) else (if i4 < (56320 : Int32) then (1 : Int32) else (0 : Int32))) = (0 : Int32) then (4 : Int32) else (if (if i5 < (56320 : Int32) then (0 : Int32) else (if i5 < (57344 : Int32) then (1 : Int32) else (0 : Int32))) = (0 : Int32) then (4 : Int32) else (3 : Int32))) else (if (if i4 < (56320 : Int32) then (0 : Int32) else (if i4 < (57344 : Int32) then (1 : Int32) else (0 : Int32))) = (0 : Int32) then (if (if i4 < (55296 : Int32) then (0 : Int32) else (if i4 < (56320 : Int32) then (1 : Int32) else (0 : Int32))) = (0 : Int32) then (4 : Int32) else (if (if i5 < (56320 : Int32) then (0 : Int32) else (if i5 < (57344 : Int32) then (1 : Int32) else (0 : Int32))) = (0 : Int32) then (4 : Int32) else (3 : Int32))) else (3 : Int32))) else (if (if i4 < (55296 : Int32) then (0 : Int32) else (if i4 < (56320 : Int32) then (1 : Int32) else (0 : Int32))) = (0 : Int32) then (3 : Int32) else (if (if i5 < (56320 : Int32) then (0 : Int32) else (if i5 < (57344 : Int32) then (1 : Int32) else (0 : Int32))) = (0 : Int32) then (3 : Int32) else (2 : Int32)))))))))
def Q_codePointCount_49 (Z : State) (i1 : Int32) (i2 : Int32) (i3 : Int32) (i4 : Int32) (i5 : Int32) (h0 : Heap) (v : Option Value) (h : Heap) : Prop := ∃ z : Int32, v = some (.int z) ∧ h0 = h ∧ (fn_codePointCount_49 i1 i2 i3 i4 i5) = z ∧ (0 ≤ z.toInt ∧ z.toInt ≤ 4)
def R_codePointCount_49 : Room := { frames := 1, cells := 0, slots := 0, locals := 13 }
theorem rm_codePointCount_49 {w : Bool} {Z : State} {a0 : Array Value} (hw : HW a0 Z) (Ts : List String) (a1 : Addr) (i1 : Int32) (i2 : Int32) (i3 : Int32) (i4 : Int32) (i5 : Int32) (c1 : ClassId) (h0 : Heap) (f : Nat) (Zf : Z.heap.size ≤ f) (Z0 : f ≤ h0.size) (A_a1 : Ar Z h0 a1 c1 .byte [.int (cL8 i2), .int (cH8 i2), .int (cL8 i3), .int (cH8 i3), .int (cL8 i4), .int (cH8 i4), .int (cL8 i5), .int (cH8 i5)]) (r_i1 : 0 ≤ i1.toInt ∧ i1.toInt ≤ 4) (r_i2 : 0 ≤ i2.toInt ∧ i2.toInt ≤ 65535) (r_i3 : 0 ≤ i3.toInt ∧ i3.toInt ≤ 65535) (r_i4 : 0 ≤ i4.toInt ∧ i4.toInt ≤ 65535) (r_i5 : 0 ≤ i5.toInt ∧ i5.toInt ≤ 65535) (S__assertionsDisabled : G_S__assertionsDisabled Z) (S_HI_BYTE_SHIFT : G_S_HI_BYTE_SHIFT Z) (S_LO_BYTE_SHIFT : G_S_LO_BYTE_SHIFT Z) :
  Con w [] Z mn24 jdk_52_method_11_code 6 (some .int) R_codePointCount_49 Ts Ts f #[.ref a1, .int 0, .int i1, .int 0] h0 (Q_codePointCount_49 Z i1 i2 i3 i4 i5 h0) := by
 refine con_of f #[vR a1, vI 0, vI i1, vI 0, .unset, .unset] (plainFor_of_name pn_1) (fun m => rfl) Zf ?_
 intro C H hX0
 refine r_gets H 3 d_j52_11_0 (tw55 hw) S__assertionsDisabled ?_
 refine r_ifneT H 19 d_j52_11_3 (by decide) (by decide) (by decide) ?_
 refine r_iloadN H 20 d_j52_11_19 ?_
 have c1 : i1 = (0 : Int32) ∨ i1 = (1 : Int32) ∨ i1 = (2 : Int32) ∨ i1 = (3 : Int32) ∨ i1 = (4 : Int32) := by
  have := r_i1; simp only [← Int32.toInt_inj]; have : (0 : Int32).toInt = 0 := (by decide); have : (1 : Int32).toInt = 1 := (by decide); have : (2 : Int32).toInt = 2 := (by decide); have : (3 : Int32).toInt = 3 := (by decide); have : (4 : Int32).toInt = 4 := (by decide); omega
 rcases c1 with c1 | c1 | c1 | c1 | c1
 ·
  subst c1
  refine r_iloadN H 21 d_j52_11_20 ?_
  refine r_isub H 22 0 d_j52_11_21 ?_
  refine r_istore H 24 #[vR a1, vI 0, vI 0, vI 0, vI 0, .unset] d_j52_11_22 ?_
  refine r_iloadN H 25 d_j52_11_24 ?_
  refine r_istore H 27 #[vR a1, vI 0, vI 0, vI 0, vI 0, vI 0] d_j52_11_25 ?_
  refine r_iloadN H 28 d_j52_11_27 ?_
  refine r_ifeqT H 44 d_j52_11_28 (by decide) (by decide) (by decide) ?_
  refine r_iload H 46 d_j52_11_44 ?_
  refine r_iloadN H 47 d_j52_11_46 ?_
  refine r_iconst H 48 1 d_j52_11_47 ?_
  refine r_isub H 49 (-1 : Int32) d_j52_11_48 ?_
  refine r_icmpgeT H 88 d_j52_11_49 (by decide) (by decide) (by decide) ?_
  refine r_iload H 90 d_j52_11_88 ?_
  exact r_ireturn H d_j52_11_90 (⟨_, rfl, rfl, (by unfold fn_codePointCount_49; rw [if_pos rfl]), (by decide)⟩)
 ·
  subst c1
  refine r_iloadN H 21 d_j52_11_20 ?_
  refine r_isub H 22 1 d_j52_11_21 ?_
  refine r_istore H 24 #[vR a1, vI 0, vI 1, vI 0, vI 1, .unset] d_j52_11_22 ?_
  refine r_iloadN H 25 d_j52_11_24 ?_
  refine r_istore H 27 #[vR a1, vI 0, vI 1, vI 0, vI 1, vI 0] d_j52_11_25 ?_
  refine r_iloadN H 28 d_j52_11_27 ?_
  refine r_ifeqT H 44 d_j52_11_28 (by decide) (by decide) (by decide) ?_
  refine r_iload H 46 d_j52_11_44 ?_
  refine r_iloadN H 47 d_j52_11_46 ?_
  refine r_iconst H 48 1 d_j52_11_47 ?_
  refine r_isub H 49 0 d_j52_11_48 ?_
  refine r_icmpgeT H 88 d_j52_11_49 (by decide) (by decide) (by decide) ?_
  refine r_iload H 90 d_j52_11_88 ?_
  exact r_ireturn H d_j52_11_90 (⟨_, rfl, rfl, (by unfold fn_codePointCount_49; rw [if_neg (by decide), if_pos rfl]), (by decide)⟩)
 ·
  subst c1
  refine r_iloadN H 21 d_j52_11_20 ?_
  refine r_isub H 22 2 d_j52_11_21 ?_
  refine r_istore H 24 #[vR a1, vI 0, vI 2, vI 0, vI 2, .unset] d_j52_11_22 ?_
  refine r_iloadN H 25 d_j52_11_24 ?_
  refine r_istore H 27 #[vR a1, vI 0, vI 2, vI 0, vI 2, vI 0] d_j52_11_25 ?_
  refine r_iloadN H 28 d_j52_11_27 ?_
  refine r_ifeqT H 44 d_j52_11_28 (by decide) (by decide) (by decide) ?_
  refine r_iload H 46 d_j52_11_44 ?_
  refine r_iloadN H 47 d_j52_11_46 ?_
  refine r_iconst H 48 1 d_j52_11_47 ?_
  refine r_isub H 49 1 d_j52_11_48 ?_
  refine r_icmpgeF H 52 d_j52_11_49 rfl (by decide) ?_
  refine r_aloadN H 53 d_j52_11_52 ?_
  refine r_iload H 55 d_j52_11_53 ?_
  refine r_iinc H 58 #[vR a1, vI 0, vI 2, vI 0, vI 2, vI 1] 1 d_j52_11_55 ?_
  refine r_static (argsL := [.ref a1, .int 0]) (rest := []) (W := 0) H 61 d_j52_11_58 (tw58 hw) (tw59 hw) (tw36 hw) (tw60 hw) (lenOf pd_8 rfl) (rm_getChar_18 hw Ts a1 (cL8 i2) (cH8 i2) (cL8 i3) (cH8 i3) (cL8 i4) (cH8 i4) (cL8 i5) (cH8 i5) c1 h0 f Zf Z0 A_a1 S__assertionsDisabled S_HI_BYTE_SHIFT S_LO_BYTE_SHIFT) ?_
  rintro _ _ ⟨p2, rfl, ep2, rp2, rfl⟩
  have hzp2 : i2 = p2 := by rw [← ep2]; exact (own_u16 i2 (by have := r_i2; omega)).symm
  subst hzp2
  refine r_static (argsL := [.int i2]) (rest := []) (W := 0) H 64 d_j52_11_61 (tw117 hw) (tw118 hw) (tw119 hw) (tw120 hw) (lenOf pd_19 rfl) (rm_isHighSurrogate_50 hw Ts i2 h0 f Zf Z0 r_i2) ?_
  rintro _ _ ⟨p4, rfl, ep4, rp4, rfl⟩
  refine r_ifeq H 44 67 d_j52_11_64 (fun c6 => ?_) (fun c6 => ?_)
  ·
   refine r_iload H 46 d_j52_11_44 ?_
   refine r_iloadN H 47 d_j52_11_46 ?_
   refine r_iconst H 48 1 d_j52_11_47 ?_
   refine r_isub H 49 1 d_j52_11_48 ?_
   refine r_icmpgeT H 88 d_j52_11_49 (by decide) (by decide) (by decide) ?_
   refine r_iload H 90 d_j52_11_88 ?_
   subst ep4
   exact r_ireturn H d_j52_11_90 (⟨_, rfl, rfl, (by unfold fn_codePointCount_49; rw [if_neg (by decide), if_neg (by decide), if_pos rfl, if_pos c6]), (by decide)⟩)
  ·
   refine r_aloadN H 68 d_j52_11_67 ?_
   refine r_iload H 70 d_j52_11_68 ?_
   refine r_static (argsL := [.ref a1, .int 1]) (rest := []) (W := 0) H 73 d_j52_11_70 (tw58 hw) (tw59 hw) (tw36 hw) (tw60 hw) (lenOf pd_8 rfl) (rm_getChar_17 hw Ts a1 (cL8 i2) (cH8 i2) (cL8 i3) (cH8 i3) (cL8 i4) (cH8 i4) (cL8 i5) (cH8 i5) c1 h0 f Zf Z0 A_a1 S__assertionsDisabled S_HI_BYTE_SHIFT S_LO_BYTE_SHIFT) ?_
   rintro _ _ ⟨p9, rfl, ep9, rp9, rfl⟩
   have hzp9 : i3 = p9 := by rw [← ep9]; exact (own_u16 i3 (by have := r_i3; omega)).symm
   subst hzp9
   refine r_static (argsL := [.int i3]) (rest := []) (W := 0) H 76 d_j52_11_73 (tw126 hw) (tw127 hw) (tw119 hw) (tw128 hw) (lenOf pd_19 rfl) (rm_isLowSurrogate_51 hw Ts i3 h0 f Zf Z0 r_i3) ?_
   rintro _ _ ⟨p11, rfl, ep11, rp11, rfl⟩
   refine r_ifeq H 44 79 d_j52_11_76 (fun c13 => ?_) (fun c13 => ?_)
   ·
    refine r_iload H 46 d_j52_11_44 ?_
    refine r_iloadN H 47 d_j52_11_46 ?_
    refine r_iconst H 48 1 d_j52_11_47 ?_
    refine r_isub H 49 1 d_j52_11_48 ?_
    refine r_icmpgeT H 88 d_j52_11_49 (by decide) (by decide) (by decide) ?_
    refine r_iload H 90 d_j52_11_88 ?_
    subst ep4 ep11
    exact r_ireturn H d_j52_11_90 (⟨_, rfl, rfl, (by unfold fn_codePointCount_49; rw [if_neg (by decide), if_neg (by decide), if_pos rfl, if_neg c6, if_pos c13]), (by decide)⟩)
   ·
    refine r_iinc H 82 #[vR a1, vI 0, vI 2, vI 0, vI 1, vI 1] 1 d_j52_11_79 ?_
    refine r_iinc H 85 #[vR a1, vI 0, vI 2, vI 0, vI 1, vI 2] 2 d_j52_11_82 ?_
    refine r_goto H 44 d_j52_11_85 ?_
    refine r_iload H 46 d_j52_11_44 ?_
    refine r_iloadN H 47 d_j52_11_46 ?_
    refine r_iconst H 48 1 d_j52_11_47 ?_
    refine r_isub H 49 1 d_j52_11_48 ?_
    refine r_icmpgeT H 88 d_j52_11_49 (by decide) (by decide) (by decide) ?_
    refine r_iload H 90 d_j52_11_88 ?_
    subst ep4 ep11
    exact r_ireturn H d_j52_11_90 (⟨_, rfl, rfl, (by unfold fn_codePointCount_49; rw [if_neg (by decide), if_neg (by decide), if_pos rfl, if_neg c6, if_neg c13]), (by decide)⟩)
 ·
  subst c1
  refine r_iloadN H 21 d_j52_11_20 ?_
  refine r_isub H 22 3 d_j52_11_21 ?_
  refine r_istore H 24 #[vR a1, vI 0, vI 3, vI 0, vI 3, .unset] d_j52_11_22 ?_
  refine r_iloadN H 25 d_j52_11_24 ?_
  refine r_istore H 27 #[vR a1, vI 0, vI 3, vI 0, vI 3, vI 0] d_j52_11_25 ?_
  refine r_iloadN H 28 d_j52_11_27 ?_
  refine r_ifeqT H 44 d_j52_11_28 (by decide) (by decide) (by decide) ?_
  refine r_iload H 46 d_j52_11_44 ?_
  refine r_iloadN H 47 d_j52_11_46 ?_
  refine r_iconst H 48 1 d_j52_11_47 ?_
  refine r_isub H 49 2 d_j52_11_48 ?_
  refine r_icmpgeF H 52 d_j52_11_49 rfl (by decide) ?_
  refine r_aloadN H 53 d_j52_11_52 ?_
  refine r_iload H 55 d_j52_11_53 ?_
  refine r_iinc H 58 #[vR a1, vI 0, vI 3, vI 0, vI 3, vI 1] 1 d_j52_11_55 ?_
  refine r_static (argsL := [.ref a1, .int 0]) (rest := []) (W := 0) H 61 d_j52_11_58 (tw58 hw) (tw59 hw) (tw36 hw) (tw60 hw) (lenOf pd_8 rfl) (rm_getChar_18 hw Ts a1 (cL8 i2) (cH8 i2) (cL8 i3) (cH8 i3) (cL8 i4) (cH8 i4) (cL8 i5) (cH8 i5) c1 h0 f Zf Z0 A_a1 S__assertionsDisabled S_HI_BYTE_SHIFT S_LO_BYTE_SHIFT) ?_
  rintro _ _ ⟨p16, rfl, ep16, rp16, rfl⟩
  have hzp16 : i2 = p16 := by rw [← ep16]; exact (own_u16 i2 (by have := r_i2; omega)).symm
  subst hzp16
  refine r_static (argsL := [.int i2]) (rest := []) (W := 0) H 64 d_j52_11_61 (tw117 hw) (tw118 hw) (tw119 hw) (tw120 hw) (lenOf pd_19 rfl) (rm_isHighSurrogate_50 hw Ts i2 h0 f Zf Z0 r_i2) ?_
  rintro _ _ ⟨p18, rfl, ep18, rp18, rfl⟩
  refine r_ifeq H 44 67 d_j52_11_64 (fun c20 => ?_) (fun c20 => ?_)
  ·
   refine r_iload H 46 d_j52_11_44 ?_
   refine r_iloadN H 47 d_j52_11_46 ?_
   refine r_iconst H 48 1 d_j52_11_47 ?_
   refine r_isub H 49 2 d_j52_11_48 ?_
   refine r_icmpgeF H 52 d_j52_11_49 rfl (by decide) ?_
   refine r_aloadN H 53 d_j52_11_52 ?_
   refine r_iload H 55 d_j52_11_53 ?_
   refine r_iinc H 58 #[vR a1, vI 0, vI 3, vI 0, vI 3, vI 2] 2 d_j52_11_55 ?_
   refine r_static (argsL := [.ref a1, .int 1]) (rest := []) (W := 0) H 61 d_j52_11_58 (tw58 hw) (tw59 hw) (tw36 hw) (tw60 hw) (lenOf pd_8 rfl) (rm_getChar_17 hw Ts a1 (cL8 i2) (cH8 i2) (cL8 i3) (cH8 i3) (cL8 i4) (cH8 i4) (cL8 i5) (cH8 i5) c1 h0 f Zf Z0 A_a1 S__assertionsDisabled S_HI_BYTE_SHIFT S_LO_BYTE_SHIFT) ?_
   rintro _ _ ⟨p22, rfl, ep22, rp22, rfl⟩
   have hzp22 : i3 = p22 := by rw [← ep22]; exact (own_u16 i3 (by have := r_i3; omega)).symm
   subst hzp22
   refine r_static (argsL := [.int i3]) (rest := []) (W := 0) H 64 d_j52_11_61 (tw117 hw) (tw118 hw) (tw119 hw) (tw120 hw) (lenOf pd_19 rfl) (rm_isHighSurrogate_50 hw Ts i3 h0 f Zf Z0 r_i3) ?_
   rintro _ _ ⟨p24, rfl, ep24, rp24, rfl⟩
   refine r_ifeq H 44 67 d_j52_11_64 (fun c26 => ?_) (fun c26 => ?_)
   ·
    refine r_iload H 46 d_j52_11_44 ?_
    refine r_iloadN H 47 d_j52_11_46 ?_
    refine r_iconst H 48 1 d_j52_11_47 ?_
    refine r_isub H 49 2 d_j52_11_48 ?_
    refine r_icmpgeT H 88 d_j52_11_49 (by decide) (by decide) (by decide) ?_
    refine r_iload H 90 d_j52_11_88 ?_
    subst ep18 ep24
    exact r_ireturn H d_j52_11_90 (⟨_, rfl, rfl, (by unfold fn_codePointCount_49; rw [if_neg (by decide), if_neg (by decide), if_neg (by decide), if_pos rfl, if_pos c20, if_pos c26]), (by decide)⟩)
   ·
    refine r_aloadN H 68 d_j52_11_67 ?_
    refine r_iload H 70 d_j52_11_68 ?_
    refine r_static (argsL := [.ref a1, .int 2]) (rest := []) (W := 0) H 73 d_j52_11_70 (tw58 hw) (tw59 hw) (tw36 hw) (tw60 hw) (lenOf pd_8 rfl) (rm_getChar_16 hw Ts a1 (cL8 i2) (cH8 i2) (cL8 i3) (cH8 i3) (cL8 i4) (cH8 i4) (cL8 i5) (cH8 i5) c1 h0 f Zf Z0 A_a1 S__assertionsDisabled S_HI_BYTE_SHIFT S_LO_BYTE_SHIFT) ?_
    rintro _ _ ⟨p29, rfl, ep29, rp29, rfl⟩
    have hzp29 : i4 = p29 := by rw [← ep29]; exact (own_u16 i4 (by have := r_i4; omega)).symm
    subst hzp29
    refine r_static (argsL := [.int i4]) (rest := []) (W := 0) H 76 d_j52_11_73 (tw126 hw) (tw127 hw) (tw119 hw) (tw128 hw) (lenOf pd_19 rfl) (rm_isLowSurrogate_51 hw Ts i4 h0 f Zf Z0 r_i4) ?_
    rintro _ _ ⟨p31, rfl, ep31, rp31, rfl⟩
    refine r_ifeq H 44 79 d_j52_11_76 (fun c33 => ?_) (fun c33 => ?_)
    ·
     refine r_iload H 46 d_j52_11_44 ?_
     refine r_iloadN H 47 d_j52_11_46 ?_
     refine r_iconst H 48 1 d_j52_11_47 ?_
     refine r_isub H 49 2 d_j52_11_48 ?_
     refine r_icmpgeT H 88 d_j52_11_49 (by decide) (by decide) (by decide) ?_
     refine r_iload H 90 d_j52_11_88 ?_
     subst ep18 ep24 ep31
     exact r_ireturn H d_j52_11_90 (⟨_, rfl, rfl, (by unfold fn_codePointCount_49; rw [if_neg (by decide), if_neg (by decide), if_neg (by decide), if_pos rfl, if_pos c20, if_neg c26, if_pos c33]), (by decide)⟩)
    ·
     refine r_iinc H 82 #[vR a1, vI 0, vI 3, vI 0, vI 2, vI 2] 2 d_j52_11_79 ?_
     refine r_iinc H 85 #[vR a1, vI 0, vI 3, vI 0, vI 2, vI 3] 3 d_j52_11_82 ?_
     refine r_goto H 44 d_j52_11_85 ?_
     refine r_iload H 46 d_j52_11_44 ?_
     refine r_iloadN H 47 d_j52_11_46 ?_
     refine r_iconst H 48 1 d_j52_11_47 ?_
     refine r_isub H 49 2 d_j52_11_48 ?_
     refine r_icmpgeT H 88 d_j52_11_49 (by decide) (by decide) (by decide) ?_
     refine r_iload H 90 d_j52_11_88 ?_
     subst ep18 ep24 ep31
     exact r_ireturn H d_j52_11_90 (⟨_, rfl, rfl, (by unfold fn_codePointCount_49; rw [if_neg (by decide), if_neg (by decide), if_neg (by decide), if_pos rfl, if_pos c20, if_neg c26, if_neg c33]), (by decide)⟩)
  ·
   refine r_aloadN H 68 d_j52_11_67 ?_
   refine r_iload H 70 d_j52_11_68 ?_
   refine r_static (argsL := [.ref a1, .int 1]) (rest := []) (W := 0) H 73 d_j52_11_70 (tw58 hw) (tw59 hw) (tw36 hw) (tw60 hw) (lenOf pd_8 rfl) (rm_getChar_17 hw Ts a1 (cL8 i2) (cH8 i2) (cL8 i3) (cH8 i3) (cL8 i4) (cH8 i4) (cL8 i5) (cH8 i5) c1 h0 f Zf Z0 A_a1 S__assertionsDisabled S_HI_BYTE_SHIFT S_LO_BYTE_SHIFT) ?_
   rintro _ _ ⟨p37, rfl, ep37, rp37, rfl⟩
   have hzp37 : i3 = p37 := by rw [← ep37]; exact (own_u16 i3 (by have := r_i3; omega)).symm
   subst hzp37
   refine r_static (argsL := [.int i3]) (rest := []) (W := 0) H 76 d_j52_11_73 (tw126 hw) (tw127 hw) (tw119 hw) (tw128 hw) (lenOf pd_19 rfl) (rm_isLowSurrogate_51 hw Ts i3 h0 f Zf Z0 r_i3) ?_
   rintro _ _ ⟨p39, rfl, ep39, rp39, rfl⟩
   refine r_ifeq H 44 79 d_j52_11_76 (fun c41 => ?_) (fun c41 => ?_)
   ·
    refine r_iload H 46 d_j52_11_44 ?_
    refine r_iloadN H 47 d_j52_11_46 ?_
    refine r_iconst H 48 1 d_j52_11_47 ?_
    refine r_isub H 49 2 d_j52_11_48 ?_
    refine r_icmpgeF H 52 d_j52_11_49 rfl (by decide) ?_
    refine r_aloadN H 53 d_j52_11_52 ?_
    refine r_iload H 55 d_j52_11_53 ?_
    refine r_iinc H 58 #[vR a1, vI 0, vI 3, vI 0, vI 3, vI 2] 2 d_j52_11_55 ?_
    refine r_static (argsL := [.ref a1, .int 1]) (rest := []) (W := 0) H 61 d_j52_11_58 (tw58 hw) (tw59 hw) (tw36 hw) (tw60 hw) (lenOf pd_8 rfl) (rm_getChar_17 hw Ts a1 (cL8 i2) (cH8 i2) (cL8 i3) (cH8 i3) (cL8 i4) (cH8 i4) (cL8 i5) (cH8 i5) c1 h0 f Zf Z0 A_a1 S__assertionsDisabled S_HI_BYTE_SHIFT S_LO_BYTE_SHIFT) ?_
    rintro _ _ ⟨p43, rfl, ep43, rp43, rfl⟩
    have hzp43 : i3 = p43 := by rw [← ep43]; exact (own_u16 i3 (by have := r_i3; omega)).symm
    subst hzp43
    refine r_static (argsL := [.int i3]) (rest := []) (W := 0) H 64 d_j52_11_61 (tw117 hw) (tw118 hw) (tw119 hw) (tw120 hw) (lenOf pd_19 rfl) (rm_isHighSurrogate_50 hw Ts i3 h0 f Zf Z0 r_i3) ?_
    rintro _ _ ⟨p45, rfl, ep45, rp45, rfl⟩
    refine r_ifeq H 44 67 d_j52_11_64 (fun c47 => ?_) (fun c47 => ?_)
    ·
     refine r_iload H 46 d_j52_11_44 ?_
     refine r_iloadN H 47 d_j52_11_46 ?_
     refine r_iconst H 48 1 d_j52_11_47 ?_
     refine r_isub H 49 2 d_j52_11_48 ?_
     refine r_icmpgeT H 88 d_j52_11_49 (by decide) (by decide) (by decide) ?_
     refine r_iload H 90 d_j52_11_88 ?_
     subst ep18 ep39 ep45
     exact r_ireturn H d_j52_11_90 (⟨_, rfl, rfl, (by unfold fn_codePointCount_49; rw [if_neg (by decide), if_neg (by decide), if_neg (by decide), if_pos rfl, if_neg c20, if_pos c41, if_pos c47]), (by decide)⟩)
    ·
     refine r_aloadN H 68 d_j52_11_67 ?_
     refine r_iload H 70 d_j52_11_68 ?_
     refine r_static (argsL := [.ref a1, .int 2]) (rest := []) (W := 0) H 73 d_j52_11_70 (tw58 hw) (tw59 hw) (tw36 hw) (tw60 hw) (lenOf pd_8 rfl) (rm_getChar_16 hw Ts a1 (cL8 i2) (cH8 i2) (cL8 i3) (cH8 i3) (cL8 i4) (cH8 i4) (cL8 i5) (cH8 i5) c1 h0 f Zf Z0 A_a1 S__assertionsDisabled S_HI_BYTE_SHIFT S_LO_BYTE_SHIFT) ?_
     rintro _ _ ⟨p50, rfl, ep50, rp50, rfl⟩
     have hzp50 : i4 = p50 := by rw [← ep50]; exact (own_u16 i4 (by have := r_i4; omega)).symm
     subst hzp50
     refine r_static (argsL := [.int i4]) (rest := []) (W := 0) H 76 d_j52_11_73 (tw126 hw) (tw127 hw) (tw119 hw) (tw128 hw) (lenOf pd_19 rfl) (rm_isLowSurrogate_51 hw Ts i4 h0 f Zf Z0 r_i4) ?_
     rintro _ _ ⟨p52, rfl, ep52, rp52, rfl⟩
     refine r_ifeq H 44 79 d_j52_11_76 (fun c54 => ?_) (fun c54 => ?_)
     ·
      refine r_iload H 46 d_j52_11_44 ?_
      refine r_iloadN H 47 d_j52_11_46 ?_
      refine r_iconst H 48 1 d_j52_11_47 ?_
      refine r_isub H 49 2 d_j52_11_48 ?_
      refine r_icmpgeT H 88 d_j52_11_49 (by decide) (by decide) (by decide) ?_
      refine r_iload H 90 d_j52_11_88 ?_
      subst ep18 ep39 ep45 ep52
      exact r_ireturn H d_j52_11_90 (⟨_, rfl, rfl, (by unfold fn_codePointCount_49; rw [if_neg (by decide), if_neg (by decide), if_neg (by decide), if_pos rfl, if_neg c20, if_pos c41, if_neg c47, if_pos c54]), (by decide)⟩)
     ·
      refine r_iinc H 82 #[vR a1, vI 0, vI 3, vI 0, vI 2, vI 2] 2 d_j52_11_79 ?_
      refine r_iinc H 85 #[vR a1, vI 0, vI 3, vI 0, vI 2, vI 3] 3 d_j52_11_82 ?_
      refine r_goto H 44 d_j52_11_85 ?_
      refine r_iload H 46 d_j52_11_44 ?_
      refine r_iloadN H 47 d_j52_11_46 ?_
      refine r_iconst H 48 1 d_j52_11_47 ?_
      refine r_isub H 49 2 d_j52_11_48 ?_
      refine r_icmpgeT H 88 d_j52_11_49 (by decide) (by decide) (by decide) ?_
      refine r_iload H 90 d_j52_11_88 ?_
      subst ep18 ep39 ep45 ep52
      exact r_ireturn H d_j52_11_90 (⟨_, rfl, rfl, (by unfold fn_codePointCount_49; rw [if_neg (by decide), if_neg (by decide), if_neg (by decide), if_pos rfl, if_neg c20, if_pos c41, if_neg c47, if_neg c54]), (by decide)⟩)
   ·
    refine r_iinc H 82 #[vR a1, vI 0, vI 3, vI 0, vI 2, vI 1] 2 d_j52_11_79 ?_
    refine r_iinc H 85 #[vR a1, vI 0, vI 3, vI 0, vI 2, vI 2] 2 d_j52_11_82 ?_
    refine r_goto H 44 d_j52_11_85 ?_
    refine r_iload H 46 d_j52_11_44 ?_
    refine r_iloadN H 47 d_j52_11_46 ?_
    refine r_iconst H 48 1 d_j52_11_47 ?_
    refine r_isub H 49 2 d_j52_11_48 ?_
    refine r_icmpgeT H 88 d_j52_11_49 (by decide) (by decide) (by decide) ?_
    refine r_iload H 90 d_j52_11_88 ?_
    subst ep18 ep39
    exact r_ireturn H d_j52_11_90 (⟨_, rfl, rfl, (by unfold fn_codePointCount_49; rw [if_neg (by decide), if_neg (by decide), if_neg (by decide), if_pos rfl, if_neg c20, if_neg c41]), (by decide)⟩)
 ·
  subst c1
  refine r_iloadN H 21 d_j52_11_20 ?_
  refine r_isub H 22 4 d_j52_11_21 ?_
  refine r_istore H 24 #[vR a1, vI 0, vI 4, vI 0, vI 4, .unset] d_j52_11_22 ?_
  refine r_iloadN H 25 d_j52_11_24 ?_
  refine r_istore H 27 #[vR a1, vI 0, vI 4, vI 0, vI 4, vI 0] d_j52_11_25 ?_
  refine r_iloadN H 28 d_j52_11_27 ?_
  refine r_ifeqT H 44 d_j52_11_28 (by decide) (by decide) (by decide) ?_
  refine r_iload H 46 d_j52_11_44 ?_
  refine r_iloadN H 47 d_j52_11_46 ?_
  refine r_iconst H 48 1 d_j52_11_47 ?_
  refine r_isub H 49 3 d_j52_11_48 ?_
  refine r_icmpgeF H 52 d_j52_11_49 rfl (by decide) ?_
  refine r_aloadN H 53 d_j52_11_52 ?_
  refine r_iload H 55 d_j52_11_53 ?_
  refine r_iinc H 58 #[vR a1, vI 0, vI 4, vI 0, vI 4, vI 1] 1 d_j52_11_55 ?_
  refine r_static (argsL := [.ref a1, .int 0]) (rest := []) (W := 0) H 61 d_j52_11_58 (tw58 hw) (tw59 hw) (tw36 hw) (tw60 hw) (lenOf pd_8 rfl) (rm_getChar_18 hw Ts a1 (cL8 i2) (cH8 i2) (cL8 i3) (cH8 i3) (cL8 i4) (cH8 i4) (cL8 i5) (cH8 i5) c1 h0 f Zf Z0 A_a1 S__assertionsDisabled S_HI_BYTE_SHIFT S_LO_BYTE_SHIFT) ?_
  rintro _ _ ⟨p58, rfl, ep58, rp58, rfl⟩
  have hzp58 : i2 = p58 := by rw [← ep58]; exact (own_u16 i2 (by have := r_i2; omega)).symm
  subst hzp58
  refine r_static (argsL := [.int i2]) (rest := []) (W := 0) H 64 d_j52_11_61 (tw117 hw) (tw118 hw) (tw119 hw) (tw120 hw) (lenOf pd_19 rfl) (rm_isHighSurrogate_50 hw Ts i2 h0 f Zf Z0 r_i2) ?_
  rintro _ _ ⟨p60, rfl, ep60, rp60, rfl⟩
  refine r_ifeq H 44 67 d_j52_11_64 (fun c62 => ?_) (fun c62 => ?_)
  ·
   refine r_iload H 46 d_j52_11_44 ?_
   refine r_iloadN H 47 d_j52_11_46 ?_
   refine r_iconst H 48 1 d_j52_11_47 ?_
   refine r_isub H 49 3 d_j52_11_48 ?_
   refine r_icmpgeF H 52 d_j52_11_49 rfl (by decide) ?_
   refine r_aloadN H 53 d_j52_11_52 ?_
   refine r_iload H 55 d_j52_11_53 ?_
   refine r_iinc H 58 #[vR a1, vI 0, vI 4, vI 0, vI 4, vI 2] 2 d_j52_11_55 ?_
   refine r_static (argsL := [.ref a1, .int 1]) (rest := []) (W := 0) H 61 d_j52_11_58 (tw58 hw) (tw59 hw) (tw36 hw) (tw60 hw) (lenOf pd_8 rfl) (rm_getChar_17 hw Ts a1 (cL8 i2) (cH8 i2) (cL8 i3) (cH8 i3) (cL8 i4) (cH8 i4) (cL8 i5) (cH8 i5) c1 h0 f Zf Z0 A_a1 S__assertionsDisabled S_HI_BYTE_SHIFT S_LO_BYTE_SHIFT) ?_
   rintro _ _ ⟨p64, rfl, ep64, rp64, rfl⟩
   have hzp64 : i3 = p64 := by rw [← ep64]; exact (own_u16 i3 (by have := r_i3; omega)).symm
   subst hzp64
   refine r_static (argsL := [.int i3]) (rest := []) (W := 0) H 64 d_j52_11_61 (tw117 hw) (tw118 hw) (tw119 hw) (tw120 hw) (lenOf pd_19 rfl) (rm_isHighSurrogate_50 hw Ts i3 h0 f Zf Z0 r_i3) ?_
   rintro _ _ ⟨p66, rfl, ep66, rp66, rfl⟩
   refine r_ifeq H 44 67 d_j52_11_64 (fun c68 => ?_) (fun c68 => ?_)
   ·
    refine r_iload H 46 d_j52_11_44 ?_
    refine r_iloadN H 47 d_j52_11_46 ?_
    refine r_iconst H 48 1 d_j52_11_47 ?_
    refine r_isub H 49 3 d_j52_11_48 ?_
    refine r_icmpgeF H 52 d_j52_11_49 rfl (by decide) ?_
    refine r_aloadN H 53 d_j52_11_52 ?_
    refine r_iload H 55 d_j52_11_53 ?_
    refine r_iinc H 58 #[vR a1, vI 0, vI 4, vI 0, vI 4, vI 3] 3 d_j52_11_55 ?_
    refine r_static (argsL := [.ref a1, .int 2]) (rest := []) (W := 0) H 61 d_j52_11_58 (tw58 hw) (tw59 hw) (tw36 hw) (tw60 hw) (lenOf pd_8 rfl) (rm_getChar_16 hw Ts a1 (cL8 i2) (cH8 i2) (cL8 i3) (cH8 i3) (cL8 i4) (cH8 i4) (cL8 i5) (cH8 i5) c1 h0 f Zf Z0 A_a1 S__assertionsDisabled S_HI_BYTE_SHIFT S_LO_BYTE_SHIFT) ?_
    rintro _ _ ⟨p70, rfl, ep70, rp70, rfl⟩
    have hzp70 : i4 = p70 := by rw [← ep70]; exact (own_u16 i4 (by have := r_i4; omega)).symm
    subst hzp70
    refine r_static (argsL := [.int i4]) (rest := []) (W := 0) H 64 d_j52_11_61 (tw117 hw) (tw118 hw) (tw119 hw) (tw120 hw) (lenOf pd_19 rfl) (rm_isHighSurrogate_50 hw Ts i4 h0 f Zf Z0 r_i4) ?_
    rintro _ _ ⟨p72, rfl, ep72, rp72, rfl⟩
    refine r_ifeq H 44 67 d_j52_11_64 (fun c74 => ?_) (fun c74 => ?_)
    ·
     refine r_iload H 46 d_j52_11_44 ?_
     refine r_iloadN H 47 d_j52_11_46 ?_
     refine r_iconst H 48 1 d_j52_11_47 ?_
     refine r_isub H 49 3 d_j52_11_48 ?_
     refine r_icmpgeT H 88 d_j52_11_49 (by decide) (by decide) (by decide) ?_
     refine r_iload H 90 d_j52_11_88 ?_
     subst ep60 ep66 ep72
     exact r_ireturn H d_j52_11_90 (⟨_, rfl, rfl, (by unfold fn_codePointCount_49; rw [if_neg (by decide), if_neg (by decide), if_neg (by decide), if_neg (by decide), if_pos c62, if_pos c68, if_pos c74]), (by decide)⟩)
    ·
     refine r_aloadN H 68 d_j52_11_67 ?_
     refine r_iload H 70 d_j52_11_68 ?_
     refine r_static (argsL := [.ref a1, .int 3]) (rest := []) (W := 0) H 73 d_j52_11_70 (tw58 hw) (tw59 hw) (tw36 hw) (tw60 hw) (lenOf pd_8 rfl) (rm_getChar_15 hw Ts a1 (cL8 i2) (cH8 i2) (cL8 i3) (cH8 i3) (cL8 i4) (cH8 i4) (cL8 i5) (cH8 i5) c1 h0 f Zf Z0 A_a1 S__assertionsDisabled S_HI_BYTE_SHIFT S_LO_BYTE_SHIFT) ?_
     rintro _ _ ⟨p77, rfl, ep77, rp77, rfl⟩
     have hzp77 : i5 = p77 := by rw [← ep77]; exact (own_u16 i5 (by have := r_i5; omega)).symm
     subst hzp77
     refine r_static (argsL := [.int i5]) (rest := []) (W := 0) H 76 d_j52_11_73 (tw126 hw) (tw127 hw) (tw119 hw) (tw128 hw) (lenOf pd_19 rfl) (rm_isLowSurrogate_51 hw Ts i5 h0 f Zf Z0 r_i5) ?_
     rintro _ _ ⟨p79, rfl, ep79, rp79, rfl⟩
     refine r_ifeq H 44 79 d_j52_11_76 (fun c81 => ?_) (fun c81 => ?_)
     ·
      refine r_iload H 46 d_j52_11_44 ?_
      refine r_iloadN H 47 d_j52_11_46 ?_
      refine r_iconst H 48 1 d_j52_11_47 ?_
      refine r_isub H 49 3 d_j52_11_48 ?_
      refine r_icmpgeT H 88 d_j52_11_49 (by decide) (by decide) (by decide) ?_
      refine r_iload H 90 d_j52_11_88 ?_
      subst ep60 ep66 ep72 ep79
      exact r_ireturn H d_j52_11_90 (⟨_, rfl, rfl, (by unfold fn_codePointCount_49; rw [if_neg (by decide), if_neg (by decide), if_neg (by decide), if_neg (by decide), if_pos c62, if_pos c68, if_neg c74, if_pos c81]), (by decide)⟩)
     ·
      refine r_iinc H 82 #[vR a1, vI 0, vI 4, vI 0, vI 3, vI 3] 3 d_j52_11_79 ?_
      refine r_iinc H 85 #[vR a1, vI 0, vI 4, vI 0, vI 3, vI 4] 4 d_j52_11_82 ?_
      refine r_goto H 44 d_j52_11_85 ?_
      refine r_iload H 46 d_j52_11_44 ?_
      refine r_iloadN H 47 d_j52_11_46 ?_
      refine r_iconst H 48 1 d_j52_11_47 ?_
      refine r_isub H 49 3 d_j52_11_48 ?_
      refine r_icmpgeT H 88 d_j52_11_49 (by decide) (by decide) (by decide) ?_
      refine r_iload H 90 d_j52_11_88 ?_
      subst ep60 ep66 ep72 ep79
      exact r_ireturn H d_j52_11_90 (⟨_, rfl, rfl, (by unfold fn_codePointCount_49; rw [if_neg (by decide), if_neg (by decide), if_neg (by decide), if_neg (by decide), if_pos c62, if_pos c68, if_neg c74, if_neg c81]), (by decide)⟩)
   ·
    refine r_aloadN H 68 d_j52_11_67 ?_
    refine r_iload H 70 d_j52_11_68 ?_
    refine r_static (argsL := [.ref a1, .int 2]) (rest := []) (W := 0) H 73 d_j52_11_70 (tw58 hw) (tw59 hw) (tw36 hw) (tw60 hw) (lenOf pd_8 rfl) (rm_getChar_16 hw Ts a1 (cL8 i2) (cH8 i2) (cL8 i3) (cH8 i3) (cL8 i4) (cH8 i4) (cL8 i5) (cH8 i5) c1 h0 f Zf Z0 A_a1 S__assertionsDisabled S_HI_BYTE_SHIFT S_LO_BYTE_SHIFT) ?_
    rintro _ _ ⟨p85, rfl, ep85, rp85, rfl⟩
    have hzp85 : i4 = p85 := by rw [← ep85]; exact (own_u16 i4 (by have := r_i4; omega)).symm
    subst hzp85
    refine r_static (argsL := [.int i4]) (rest := []) (W := 0) H 76 d_j52_11_73 (tw126 hw) (tw127 hw) (tw119 hw) (tw128 hw) (lenOf pd_19 rfl) (rm_isLowSurrogate_51 hw Ts i4 h0 f Zf Z0 r_i4) ?_
    rintro _ _ ⟨p87, rfl, ep87, rp87, rfl⟩
    refine r_ifeq H 44 79 d_j52_11_76 (fun c89 => ?_) (fun c89 => ?_)
    ·
     refine r_iload H 46 d_j52_11_44 ?_
     refine r_iloadN H 47 d_j52_11_46 ?_
     refine r_iconst H 48 1 d_j52_11_47 ?_
     refine r_isub H 49 3 d_j52_11_48 ?_
     refine r_icmpgeF H 52 d_j52_11_49 rfl (by decide) ?_
     refine r_aloadN H 53 d_j52_11_52 ?_
     refine r_iload H 55 d_j52_11_53 ?_
     refine r_iinc H 58 #[vR a1, vI 0, vI 4, vI 0, vI 4, vI 3] 3 d_j52_11_55 ?_
     refine r_static (argsL := [.ref a1, .int 2]) (rest := []) (W := 0) H 61 d_j52_11_58 (tw58 hw) (tw59 hw) (tw36 hw) (tw60 hw) (lenOf pd_8 rfl) (rm_getChar_16 hw Ts a1 (cL8 i2) (cH8 i2) (cL8 i3) (cH8 i3) (cL8 i4) (cH8 i4) (cL8 i5) (cH8 i5) c1 h0 f Zf Z0 A_a1 S__assertionsDisabled S_HI_BYTE_SHIFT S_LO_BYTE_SHIFT) ?_
     rintro _ _ ⟨p91, rfl, ep91, rp91, rfl⟩
     have hzp91 : i4 = p91 := by rw [← ep91]; exact (own_u16 i4 (by have := r_i4; omega)).symm
     subst hzp91
     refine r_static (argsL := [.int i4]) (rest := []) (W := 0) H 64 d_j52_11_61 (tw117 hw) (tw118 hw) (tw119 hw) (tw120 hw) (lenOf pd_19 rfl) (rm_isHighSurrogate_50 hw Ts i4 h0 f Zf Z0 r_i4) ?_
     rintro _ _ ⟨p93, rfl, ep93, rp93, rfl⟩
     refine r_ifeq H 44 67 d_j52_11_64 (fun c95 => ?_) (fun c95 => ?_)
     ·
      refine r_iload H 46 d_j52_11_44 ?_
      refine r_iloadN H 47 d_j52_11_46 ?_
      refine r_iconst H 48 1 d_j52_11_47 ?_
      refine r_isub H 49 3 d_j52_11_48 ?_
      refine r_icmpgeT H 88 d_j52_11_49 (by decide) (by decide) (by decide) ?_
      refine r_iload H 90 d_j52_11_88 ?_
      subst ep60 ep66 ep87 ep93
      exact r_ireturn H d_j52_11_90 (⟨_, rfl, rfl, (by unfold fn_codePointCount_49; rw [if_neg (by decide), if_neg (by decide), if_neg (by decide), if_neg (by decide), if_pos c62, if_neg c68, if_pos c89, if_pos c95]), (by decide)⟩)
     ·
      refine r_aloadN H 68 d_j52_11_67 ?_
      refine r_iload H 70 d_j52_11_68 ?_
      refine r_static (argsL := [.ref a1, .int 3]) (rest := []) (W := 0) H 73 d_j52_11_70 (tw58 hw) (tw59 hw) (tw36 hw) (tw60 hw) (lenOf pd_8 rfl) (rm_getChar_15 hw Ts a1 (cL8 i2) (cH8 i2) (cL8 i3) (cH8 i3) (cL8 i4) (cH8 i4) (cL8 i5) (cH8 i5) c1 h0 f Zf Z0 A_a1 S__assertionsDisabled S_HI_BYTE_SHIFT S_LO_BYTE_SHIFT) ?_
      rintro _ _ ⟨p98, rfl, ep98, rp98, rfl⟩
      have hzp98 : i5 = p98 := by rw [← ep98]; exact (own_u16 i5 (by have := r_i5; omega)).symm
      subst hzp98
      refine r_static (argsL := [.int i5]) (rest := []) (W := 0) H 76 d_j52_11_73 (tw126 hw) (tw127 hw) (tw119 hw) (tw128 hw) (lenOf pd_19 rfl) (rm_isLowSurrogate_51 hw Ts i5 h0 f Zf Z0 r_i5) ?_
      rintro _ _ ⟨p100, rfl, ep100, rp100, rfl⟩
      refine r_ifeq H 44 79 d_j52_11_76 (fun c102 => ?_) (fun c102 => ?_)
      ·
       refine r_iload H 46 d_j52_11_44 ?_
       refine r_iloadN H 47 d_j52_11_46 ?_
       refine r_iconst H 48 1 d_j52_11_47 ?_
       refine r_isub H 49 3 d_j52_11_48 ?_
       refine r_icmpgeT H 88 d_j52_11_49 (by decide) (by decide) (by decide) ?_
       refine r_iload H 90 d_j52_11_88 ?_
       subst ep60 ep66 ep87 ep93 ep100
       exact r_ireturn H d_j52_11_90 (⟨_, rfl, rfl, (by unfold fn_codePointCount_49; rw [if_neg (by decide), if_neg (by decide), if_neg (by decide), if_neg (by decide), if_pos c62, if_neg c68, if_pos c89, if_neg c95, if_pos c102]), (by decide)⟩)
      ·
       refine r_iinc H 82 #[vR a1, vI 0, vI 4, vI 0, vI 3, vI 3] 3 d_j52_11_79 ?_
       refine r_iinc H 85 #[vR a1, vI 0, vI 4, vI 0, vI 3, vI 4] 4 d_j52_11_82 ?_
       refine r_goto H 44 d_j52_11_85 ?_
       refine r_iload H 46 d_j52_11_44 ?_
       refine r_iloadN H 47 d_j52_11_46 ?_
       refine r_iconst H 48 1 d_j52_11_47 ?_
       refine r_isub H 49 3 d_j52_11_48 ?_
       refine r_icmpgeT H 88 d_j52_11_49 (by decide) (by decide) (by decide) ?_
       refine r_iload H 90 d_j52_11_88 ?_
       subst ep60 ep66 ep87 ep93 ep100
       exact r_ireturn H d_j52_11_90 (⟨_, rfl, rfl, (by unfold fn_codePointCount_49; rw [if_neg (by decide), if_neg (by decide), if_neg (by decide), if_neg (by decide), if_pos c62, if_neg c68, if_pos c89, if_neg c95, if_neg c102]), (by decide)⟩)
    ·
     refine r_iinc H 82 #[vR a1, vI 0, vI 4, vI 0, vI 3, vI 2] 3 d_j52_11_79 ?_
     refine r_iinc H 85 #[vR a1, vI 0, vI 4, vI 0, vI 3, vI 3] 3 d_j52_11_82 ?_
     refine r_goto H 44 d_j52_11_85 ?_
     refine r_iload H 46 d_j52_11_44 ?_
     refine r_iloadN H 47 d_j52_11_46 ?_
     refine r_iconst H 48 1 d_j52_11_47 ?_
     refine r_isub H 49 3 d_j52_11_48 ?_
     refine r_icmpgeT H 88 d_j52_11_49 (by decide) (by decide) (by decide) ?_
     refine r_iload H 90 d_j52_11_88 ?_
     subst ep60 ep66 ep87
     exact r_ireturn H d_j52_11_90 (⟨_, rfl, rfl, (by unfold fn_codePointCount_49; rw [if_neg (by decide), if_neg (by decide), if_neg (by decide), if_neg (by decide), if_pos c62, if_neg c68, if_neg c89]), (by decide)⟩)
  ·
   refine r_aloadN H 68 d_j52_11_67 ?_
   refine r_iload H 70 d_j52_11_68 ?_
   refine r_static (argsL := [.ref a1, .int 1]) (rest := []) (W := 0) H 73 d_j52_11_70 (tw58 hw) (tw59 hw) (tw36 hw) (tw60 hw) (lenOf pd_8 rfl) (rm_getChar_17 hw Ts a1 (cL8 i2) (cH8 i2) (cL8 i3) (cH8 i3) (cL8 i4) (cH8 i4) (cL8 i5) (cH8 i5) c1 h0 f Zf Z0 A_a1 S__assertionsDisabled S_HI_BYTE_SHIFT S_LO_BYTE_SHIFT) ?_
   rintro _ _ ⟨p107, rfl, ep107, rp107, rfl⟩
   have hzp107 : i3 = p107 := by rw [← ep107]; exact (own_u16 i3 (by have := r_i3; omega)).symm
   subst hzp107
   refine r_static (argsL := [.int i3]) (rest := []) (W := 0) H 76 d_j52_11_73 (tw126 hw) (tw127 hw) (tw119 hw) (tw128 hw) (lenOf pd_19 rfl) (rm_isLowSurrogate_51 hw Ts i3 h0 f Zf Z0 r_i3) ?_
   rintro _ _ ⟨p109, rfl, ep109, rp109, rfl⟩
   refine r_ifeq H 44 79 d_j52_11_76 (fun c111 => ?_) (fun c111 => ?_)
   ·
    refine r_iload H 46 d_j52_11_44 ?_
    refine r_iloadN H 47 d_j52_11_46 ?_
    refine r_iconst H 48 1 d_j52_11_47 ?_
    refine r_isub H 49 3 d_j52_11_48 ?_
    refine r_icmpgeF H 52 d_j52_11_49 rfl (by decide) ?_
    refine r_aloadN H 53 d_j52_11_52 ?_
    refine r_iload H 55 d_j52_11_53 ?_
    refine r_iinc H 58 #[vR a1, vI 0, vI 4, vI 0, vI 4, vI 2] 2 d_j52_11_55 ?_
    refine r_static (argsL := [.ref a1, .int 1]) (rest := []) (W := 0) H 61 d_j52_11_58 (tw58 hw) (tw59 hw) (tw36 hw) (tw60 hw) (lenOf pd_8 rfl) (rm_getChar_17 hw Ts a1 (cL8 i2) (cH8 i2) (cL8 i3) (cH8 i3) (cL8 i4) (cH8 i4) (cL8 i5) (cH8 i5) c1 h0 f Zf Z0 A_a1 S__assertionsDisabled S_HI_BYTE_SHIFT S_LO_BYTE_SHIFT) ?_
    rintro _ _ ⟨p113, rfl, ep113, rp113, rfl⟩
    have hzp113 : i3 = p113 := by rw [← ep113]; exact (own_u16 i3 (by have := r_i3; omega)).symm
    subst hzp113
    refine r_static (argsL := [.int i3]) (rest := []) (W := 0) H 64 d_j52_11_61 (tw117 hw) (tw118 hw) (tw119 hw) (tw120 hw) (lenOf pd_19 rfl) (rm_isHighSurrogate_50 hw Ts i3 h0 f Zf Z0 r_i3) ?_
    rintro _ _ ⟨p115, rfl, ep115, rp115, rfl⟩
    refine r_ifeq H 44 67 d_j52_11_64 (fun c117 => ?_) (fun c117 => ?_)
    ·
     refine r_iload H 46 d_j52_11_44 ?_
     refine r_iloadN H 47 d_j52_11_46 ?_
     refine r_iconst H 48 1 d_j52_11_47 ?_
     refine r_isub H 49 3 d_j52_11_48 ?_
     refine r_icmpgeF H 52 d_j52_11_49 rfl (by decide) ?_
     refine r_aloadN H 53 d_j52_11_52 ?_
     refine r_iload H 55 d_j52_11_53 ?_
     refine r_iinc H 58 #[vR a1, vI 0, vI 4, vI 0, vI 4, vI 3] 3 d_j52_11_55 ?_
     refine r_static (argsL := [.ref a1, .int 2]) (rest := []) (W := 0) H 61 d_j52_11_58 (tw58 hw) (tw59 hw) (tw36 hw) (tw60 hw) (lenOf pd_8 rfl) (rm_getChar_16 hw Ts a1 (cL8 i2) (cH8 i2) (cL8 i3) (cH8 i3) (cL8 i4) (cH8 i4) (cL8 i5) (cH8 i5) c1 h0 f Zf Z0 A_a1 S__assertionsDisabled S_HI_BYTE_SHIFT S_LO_BYTE_SHIFT) ?_
     rintro _ _ ⟨p119, rfl, ep119, rp119, rfl⟩
     have hzp119 : i4 = p119 := by rw [← ep119]; exact (own_u16 i4 (by have := r_i4; omega)).symm
     subst hzp119
     refine r_static (argsL := [.int i4]) (rest := []) (W := 0) H 64 d_j52_11_61 (tw117 hw) (tw118 hw) (tw119 hw) (tw120 hw) (lenOf pd_19 rfl) (rm_isHighSurrogate_50 hw Ts i4 h0 f Zf Z0 r_i4) ?_
     rintro _ _ ⟨p121, rfl, ep121, rp121, rfl⟩
     refine r_ifeq H 44 67 d_j52_11_64 (fun c123 => ?_) (fun c123 => ?_)
     ·
      refine r_iload H 46 d_j52_11_44 ?_
      refine r_iloadN H 47 d_j52_11_46 ?_
      refine r_iconst H 48 1 d_j52_11_47 ?_
      refine r_isub H 49 3 d_j52_11_48 ?_
      refine r_icmpgeT H 88 d_j52_11_49 (by decide) (by decide) (by decide) ?_
      refine r_iload H 90 d_j52_11_88 ?_
      subst ep60 ep109 ep115 ep121
      exact r_ireturn H d_j52_11_90 (⟨_, rfl, rfl, (by unfold fn_codePointCount_49; rw [if_neg (by decide), if_neg (by decide), if_neg (by decide), if_neg (by decide), if_neg c62, if_pos c111, if_pos c117, if_pos c123]), (by decide)⟩)
     ·
      refine r_aloadN H 68 d_j52_11_67 ?_
      refine r_iload H 70 d_j52_11_68 ?_
      refine r_static (argsL := [.ref a1, .int 3]) (rest := []) (W := 0) H 73 d_j52_11_70 (tw58 hw) (tw59 hw) (tw36 hw) (tw60 hw) (lenOf pd_8 rfl) (rm_getChar_15 hw Ts a1 (cL8 i2) (cH8 i2) (cL8 i3) (cH8 i3) (cL8 i4) (cH8 i4) (cL8 i5) (cH8 i5) c1 h0 f Zf Z0 A_a1 S__assertionsDisabled S_HI_BYTE_SHIFT S_LO_BYTE_SHIFT) ?_
      rintro _ _ ⟨p126, rfl, ep126, rp126, rfl⟩
      have hzp126 : i5 = p126 := by rw [← ep126]; exact (own_u16 i5 (by have := r_i5; omega)).symm
      subst hzp126
      refine r_static (argsL := [.int i5]) (rest := []) (W := 0) H 76 d_j52_11_73 (tw126 hw) (tw127 hw) (tw119 hw) (tw128 hw) (lenOf pd_19 rfl) (rm_isLowSurrogate_51 hw Ts i5 h0 f Zf Z0 r_i5) ?_
      rintro _ _ ⟨p128, rfl, ep128, rp128, rfl⟩
      refine r_ifeq H 44 79 d_j52_11_76 (fun c130 => ?_) (fun c130 => ?_)
      ·
       refine r_iload H 46 d_j52_11_44 ?_
       refine r_iloadN H 47 d_j52_11_46 ?_
       refine r_iconst H 48 1 d_j52_11_47 ?_
       refine r_isub H 49 3 d_j52_11_48 ?_
       refine r_icmpgeT H 88 d_j52_11_49 (by decide) (by decide) (by decide) ?_
       refine r_iload H 90 d_j52_11_88 ?_
       subst ep60 ep109 ep115 ep121 ep128
       exact r_ireturn H d_j52_11_90 (⟨_, rfl, rfl, (by unfold fn_codePointCount_49; rw [if_neg (by decide), if_neg (by decide), if_neg (by decide), if_neg (by decide), if_neg c62, if_pos c111, if_pos c117, if_neg c123, if_pos c130]), (by decide)⟩)
      ·
       refine r_iinc H 82 #[vR a1, vI 0, vI 4, vI 0, vI 3, vI 3] 3 d_j52_11_79 ?_
       refine r_iinc H 85 #[vR a1, vI 0, vI 4, vI 0, vI 3, vI 4] 4 d_j52_11_82 ?_
       refine r_goto H 44 d_j52_11_85 ?_
       refine r_iload H 46 d_j52_11_44 ?_
       refine r_iloadN H 47 d_j52_11_46 ?_
       refine r_iconst H 48 1 d_j52_11_47 ?_
       refine r_isub H 49 3 d_j52_11_48 ?_
       refine r_icmpgeT H 88 d_j52_11_49 (by decide) (by decide) (by decide) ?_
       refine r_iload H 90 d_j52_11_88 ?_
       subst ep60 ep109 ep115 ep121 ep128
       exact r_ireturn H d_j52_11_90 (⟨_, rfl, rfl, (by unfold fn_codePointCount_49; rw [if_neg (by decide), if_neg (by decide), if_neg (by decide), if_neg (by decide), if_neg c62, if_pos c111, if_pos c117, if_neg c123, if_neg c130]), (by decide)⟩)
    ·
     refine r_aloadN H 68 d_j52_11_67 ?_
     refine r_iload H 70 d_j52_11_68 ?_
     refine r_static (argsL := [.ref a1, .int 2]) (rest := []) (W := 0) H 73 d_j52_11_70 (tw58 hw) (tw59 hw) (tw36 hw) (tw60 hw) (lenOf pd_8 rfl) (rm_getChar_16 hw Ts a1 (cL8 i2) (cH8 i2) (cL8 i3) (cH8 i3) (cL8 i4) (cH8 i4) (cL8 i5) (cH8 i5) c1 h0 f Zf Z0 A_a1 S__assertionsDisabled S_HI_BYTE_SHIFT S_LO_BYTE_SHIFT) ?_
     rintro _ _ ⟨p134, rfl, ep134, rp134, rfl⟩
     have hzp134 : i4 = p134 := by rw [← ep134]; exact (own_u16 i4 (by have := r_i4; omega)).symm
     subst hzp134
     refine r_static (argsL := [.int i4]) (rest := []) (W := 0) H 76 d_j52_11_73 (tw126 hw) (tw127 hw) (tw119 hw) (tw128 hw) (lenOf pd_19 rfl) (rm_isLowSurrogate_51 hw Ts i4 h0 f Zf Z0 r_i4) ?_
     rintro _ _ ⟨p136, rfl, ep136, rp136, rfl⟩
     refine r_ifeq H 44 79 d_j52_11_76 (fun c138 => ?_) (fun c138 => ?_)
     ·
      refine r_iload H 46 d_j52_11_44 ?_
      refine r_iloadN H 47 d_j52_11_46 ?_
      refine r_iconst H 48 1 d_j52_11_47 ?_
      refine r_isub H 49 3 d_j52_11_48 ?_
      refine r_icmpgeF H 52 d_j52_11_49 rfl (by decide) ?_
      refine r_aloadN H 53 d_j52_11_52 ?_
      refine r_iload H 55 d_j52_11_53 ?_
      refine r_iinc H 58 #[vR a1, vI 0, vI 4, vI 0, vI 4, vI 3] 3 d_j52_11_55 ?_
      refine r_static (argsL := [.ref a1, .int 2]) (rest := []) (W := 0) H 61 d_j52_11_58 (tw58 hw) (tw59 hw) (tw36 hw) (tw60 hw) (lenOf pd_8 rfl) (rm_getChar_16 hw Ts a1 (cL8 i2) (cH8 i2) (cL8 i3) (cH8 i3) (cL8 i4) (cH8 i4) (cL8 i5) (cH8 i5) c1 h0 f Zf Z0 A_a1 S__assertionsDisabled S_HI_BYTE_SHIFT S_LO_BYTE_SHIFT) ?_
      rintro _ _ ⟨p140, rfl, ep140, rp140, rfl⟩
      have hzp140 : i4 = p140 := by rw [← ep140]; exact (own_u16 i4 (by have := r_i4; omega)).symm
      subst hzp140
      refine r_static (argsL := [.int i4]) (rest := []) (W := 0) H 64 d_j52_11_61 (tw117 hw) (tw118 hw) (tw119 hw) (tw120 hw) (lenOf pd_19 rfl) (rm_isHighSurrogate_50 hw Ts i4 h0 f Zf Z0 r_i4) ?_
      rintro _ _ ⟨p142, rfl, ep142, rp142, rfl⟩
      refine r_ifeq H 44 67 d_j52_11_64 (fun c144 => ?_) (fun c144 => ?_)
      ·
       refine r_iload H 46 d_j52_11_44 ?_
       refine r_iloadN H 47 d_j52_11_46 ?_
       refine r_iconst H 48 1 d_j52_11_47 ?_
       refine r_isub H 49 3 d_j52_11_48 ?_
       refine r_icmpgeT H 88 d_j52_11_49 (by decide) (by decide) (by decide) ?_
       refine r_iload H 90 d_j52_11_88 ?_
       subst ep60 ep109 ep115 ep136 ep142
       exact r_ireturn H d_j52_11_90 (⟨_, rfl, rfl, (by unfold fn_codePointCount_49; rw [if_neg (by decide), if_neg (by decide), if_neg (by decide), if_neg (by decide), if_neg c62, if_pos c111, if_neg c117, if_pos c138, if_pos c144]), (by decide)⟩)
      ·
       refine r_aloadN H 68 d_j52_11_67 ?_
       refine r_iload H 70 d_j52_11_68 ?_
       refine r_static (argsL := [.ref a1, .int 3]) (rest := []) (W := 0) H 73 d_j52_11_70 (tw58 hw) (tw59 hw) (tw36 hw) (tw60 hw) (lenOf pd_8 rfl) (rm_getChar_15 hw Ts a1 (cL8 i2) (cH8 i2) (cL8 i3) (cH8 i3) (cL8 i4) (cH8 i4) (cL8 i5) (cH8 i5) c1 h0 f Zf Z0 A_a1 S__assertionsDisabled S_HI_BYTE_SHIFT S_LO_BYTE_SHIFT) ?_
       rintro _ _ ⟨p147, rfl, ep147, rp147, rfl⟩
       have hzp147 : i5 = p147 := by rw [← ep147]; exact (own_u16 i5 (by have := r_i5; omega)).symm
       subst hzp147
       refine r_static (argsL := [.int i5]) (rest := []) (W := 0) H 76 d_j52_11_73 (tw126 hw) (tw127 hw) (tw119 hw) (tw128 hw) (lenOf pd_19 rfl) (rm_isLowSurrogate_51 hw Ts i5 h0 f Zf Z0 r_i5) ?_
       rintro _ _ ⟨p149, rfl, ep149, rp149, rfl⟩
       refine r_ifeq H 44 79 d_j52_11_76 (fun c151 => ?_) (fun c151 => ?_)
       ·
        refine r_iload H 46 d_j52_11_44 ?_
        refine r_iloadN H 47 d_j52_11_46 ?_
        refine r_iconst H 48 1 d_j52_11_47 ?_
        refine r_isub H 49 3 d_j52_11_48 ?_
        refine r_icmpgeT H 88 d_j52_11_49 (by decide) (by decide) (by decide) ?_
        refine r_iload H 90 d_j52_11_88 ?_
        subst ep60 ep109 ep115 ep136 ep142 ep149
        exact r_ireturn H d_j52_11_90 (⟨_, rfl, rfl, (by unfold fn_codePointCount_49; rw [if_neg (by decide), if_neg (by decide), if_neg (by decide), if_neg (by decide), if_neg c62, if_pos c111, if_neg c117, if_pos c138, if_neg c144, if_pos c151]), (by decide)⟩)
       ·
        refine r_iinc H 82 #[vR a1, vI 0, vI 4, vI 0, vI 3, vI 3] 3 d_j52_11_79 ?_
        refine r_iinc H 85 #[vR a1, vI 0, vI 4, vI 0, vI 3, vI 4] 4 d_j52_11_82 ?_
        refine r_goto H 44 d_j52_11_85 ?_
        refine r_iload H 46 d_j52_11_44 ?_
        refine r_iloadN H 47 d_j52_11_46 ?_
        refine r_iconst H 48 1 d_j52_11_47 ?_
        refine r_isub H 49 3 d_j52_11_48 ?_
        refine r_icmpgeT H 88 d_j52_11_49 (by decide) (by decide) (by decide) ?_
        refine r_iload H 90 d_j52_11_88 ?_
        subst ep60 ep109 ep115 ep136 ep142 ep149
        exact r_ireturn H d_j52_11_90 (⟨_, rfl, rfl, (by unfold fn_codePointCount_49; rw [if_neg (by decide), if_neg (by decide), if_neg (by decide), if_neg (by decide), if_neg c62, if_pos c111, if_neg c117, if_pos c138, if_neg c144, if_neg c151]), (by decide)⟩)
     ·
      refine r_iinc H 82 #[vR a1, vI 0, vI 4, vI 0, vI 3, vI 2] 3 d_j52_11_79 ?_
      refine r_iinc H 85 #[vR a1, vI 0, vI 4, vI 0, vI 3, vI 3] 3 d_j52_11_82 ?_
      refine r_goto H 44 d_j52_11_85 ?_
      refine r_iload H 46 d_j52_11_44 ?_
      refine r_iloadN H 47 d_j52_11_46 ?_
      refine r_iconst H 48 1 d_j52_11_47 ?_
      refine r_isub H 49 3 d_j52_11_48 ?_
      refine r_icmpgeT H 88 d_j52_11_49 (by decide) (by decide) (by decide) ?_
      refine r_iload H 90 d_j52_11_88 ?_
      subst ep60 ep109 ep115 ep136
      exact r_ireturn H d_j52_11_90 (⟨_, rfl, rfl, (by unfold fn_codePointCount_49; rw [if_neg (by decide), if_neg (by decide), if_neg (by decide), if_neg (by decide), if_neg c62, if_pos c111, if_neg c117, if_neg c138]), (by decide)⟩)
   ·
    refine r_iinc H 82 #[vR a1, vI 0, vI 4, vI 0, vI 3, vI 1] 3 d_j52_11_79 ?_
    refine r_iinc H 85 #[vR a1, vI 0, vI 4, vI 0, vI 3, vI 2] 2 d_j52_11_82 ?_
    refine r_goto H 44 d_j52_11_85 ?_
    refine r_iload H 46 d_j52_11_44 ?_
    refine r_iloadN H 47 d_j52_11_46 ?_
    refine r_iconst H 48 1 d_j52_11_47 ?_
    refine r_isub H 49 3 d_j52_11_48 ?_
    refine r_icmpgeF H 52 d_j52_11_49 rfl (by decide) ?_
    refine r_aloadN H 53 d_j52_11_52 ?_
    refine r_iload H 55 d_j52_11_53 ?_
    refine r_iinc H 58 #[vR a1, vI 0, vI 4, vI 0, vI 3, vI 3] 3 d_j52_11_55 ?_
    refine r_static (argsL := [.ref a1, .int 2]) (rest := []) (W := 0) H 61 d_j52_11_58 (tw58 hw) (tw59 hw) (tw36 hw) (tw60 hw) (lenOf pd_8 rfl) (rm_getChar_16 hw Ts a1 (cL8 i2) (cH8 i2) (cL8 i3) (cH8 i3) (cL8 i4) (cH8 i4) (cL8 i5) (cH8 i5) c1 h0 f Zf Z0 A_a1 S__assertionsDisabled S_HI_BYTE_SHIFT S_LO_BYTE_SHIFT) ?_
    rintro _ _ ⟨p156, rfl, ep156, rp156, rfl⟩
    have hzp156 : i4 = p156 := by rw [← ep156]; exact (own_u16 i4 (by have := r_i4; omega)).symm
    subst hzp156
    refine r_static (argsL := [.int i4]) (rest := []) (W := 0) H 64 d_j52_11_61 (tw117 hw) (tw118 hw) (tw119 hw) (tw120 hw) (lenOf pd_19 rfl) (rm_isHighSurrogate_50 hw Ts i4 h0 f Zf Z0 r_i4) ?_
    rintro _ _ ⟨p158, rfl, ep158, rp158, rfl⟩
    refine r_ifeq H 44 67 d_j52_11_64 (fun c160 => ?_) (fun c160 => ?_)
    ·
     refine r_iload H 46 d_j52_11_44 ?_
     refine r_iloadN H 47 d_j52_11_46 ?_
     refine r_iconst H 48 1 d_j52_11_47 ?_
     refine r_isub H 49 3 d_j52_11_48 ?_
     refine r_icmpgeT H 88 d_j52_11_49 (by decide) (by decide) (by decide) ?_
     refine r_iload H 90 d_j52_11_88 ?_
     subst ep60 ep109 ep158
     exact r_ireturn H d_j52_11_90 (⟨_, rfl, rfl, (by unfold fn_codePointCount_49; rw [if_neg (by decide), if_neg (by decide), if_neg (by decide), if_neg (by decide), if_neg c62, if_neg c111, if_pos c160]), (by decide)⟩)
    ·
     refine r_aloadN H 68 d_j52_11_67 ?_
     refine r_iload H 70 d_j52_11_68 ?_
     refine r_static (argsL := [.ref a1, .int 3]) (rest := []) (W := 0) H 73 d_j52_11_70 (tw58 hw) (tw59 hw) (tw36 hw) (tw60 hw) (lenOf pd_8 rfl) (rm_getChar_15 hw Ts a1 (cL8 i2) (cH8 i2) (cL8 i3) (cH8 i3) (cL8 i4) (cH8 i4) (cL8 i5) (cH8 i5) c1 h0 f Zf Z0 A_a1 S__assertionsDisabled S_HI_BYTE_SHIFT S_LO_BYTE_SHIFT) ?_
     rintro _ _ ⟨p163, rfl, ep163, rp163, rfl⟩
     have hzp163 : i5 = p163 := by rw [← ep163]; exact (own_u16 i5 (by have := r_i5; omega)).symm
     subst hzp163
     refine r_static (argsL := [.int i5]) (rest := []) (W := 0) H 76 d_j52_11_73 (tw126 hw) (tw127 hw) (tw119 hw) (tw128 hw) (lenOf pd_19 rfl) (rm_isLowSurrogate_51 hw Ts i5 h0 f Zf Z0 r_i5) ?_
     rintro _ _ ⟨p165, rfl, ep165, rp165, rfl⟩
     refine r_ifeq H 44 79 d_j52_11_76 (fun c167 => ?_) (fun c167 => ?_)
     ·
      refine r_iload H 46 d_j52_11_44 ?_
      refine r_iloadN H 47 d_j52_11_46 ?_
      refine r_iconst H 48 1 d_j52_11_47 ?_
      refine r_isub H 49 3 d_j52_11_48 ?_
      refine r_icmpgeT H 88 d_j52_11_49 (by decide) (by decide) (by decide) ?_
      refine r_iload H 90 d_j52_11_88 ?_
      subst ep60 ep109 ep158 ep165
      exact r_ireturn H d_j52_11_90 (⟨_, rfl, rfl, (by unfold fn_codePointCount_49; rw [if_neg (by decide), if_neg (by decide), if_neg (by decide), if_neg (by decide), if_neg c62, if_neg c111, if_neg c160, if_pos c167]), (by decide)⟩)
     ·
      refine r_iinc H 82 #[vR a1, vI 0, vI 4, vI 0, vI 2, vI 3] 2 d_j52_11_79 ?_
      refine r_iinc H 85 #[vR a1, vI 0, vI 4, vI 0, vI 2, vI 4] 4 d_j52_11_82 ?_
      refine r_goto H 44 d_j52_11_85 ?_
      refine r_iload H 46 d_j52_11_44 ?_
      refine r_iloadN H 47 d_j52_11_46 ?_
      refine r_iconst H 48 1 d_j52_11_47 ?_
      refine r_isub H 49 3 d_j52_11_48 ?_
      refine r_icmpgeT H 88 d_j52_11_49 (by decide) (by decide) (by decide) ?_
      refine r_iload H 90 d_j52_11_88 ?_
      subst ep60 ep109 ep158 ep165
      exact r_ireturn H d_j52_11_90 (⟨_, rfl, rfl, (by unfold fn_codePointCount_49; rw [if_neg (by decide), if_neg (by decide), if_neg (by decide), if_neg (by decide), if_neg c62, if_neg c111, if_neg c160, if_neg c167]), (by decide)⟩)
def Q_codePointCount_48 (Z : State) (i1 : Int32) (i2 : Int32) (i3 : Int32) (i4 : Int32) (i5 : Int32) (h0 : Heap) (v : Option Value) (h : Heap) : Prop := ∃ (z : Int32), v = some (.int z) ∧ (fn_codePointCount_49 i1 i2 i3 i4 i5) = z ∧ (0 ≤ z.toInt ∧ z.toInt ≤ 4) ∧ h0 = h
def R_codePointCount_48 : Room := { frames := 2, cells := 0, slots := 0, locals := 30 }
theorem rm_codePointCount_48 {w : Bool} {Z : State} {a0 : Array Value} (hw : HW a0 Z) (Ts : List String) (a1 : Addr) (i1 : Int32) (i2 : Int32) (i3 : Int32) (i4 : Int32) (i5 : Int32) (c1 : ClassId) (h0 : Heap) (f : Nat) (Zf : Z.heap.size ≤ f) (Z0 : f ≤ h0.size) (A_a1 : Ar Z h0 a1 c1 .byte [.int (cL8 i2), .int (cH8 i2), .int (cL8 i3), .int (cH8 i3), .int (cL8 i4), .int (cH8 i4), .int (cL8 i5), .int (cH8 i5)]) (r_i1 : 0 ≤ i1.toInt ∧ i1.toInt ≤ 4) (r_i2 : 0 ≤ i2.toInt ∧ i2.toInt ≤ 65535) (r_i3 : 0 ≤ i3.toInt ∧ i3.toInt ≤ 65535) (r_i4 : 0 ≤ i4.toInt ∧ i4.toInt ≤ 65535) (r_i5 : 0 ≤ i5.toInt ∧ i5.toInt ≤ 65535) (S__assertionsDisabled : G_S__assertionsDisabled Z) (S_HI_BYTE_SHIFT : G_S_HI_BYTE_SHIFT Z) (S_LO_BYTE_SHIFT : G_S_LO_BYTE_SHIFT Z) :
  Con w [] Z mn25 jdk_52_method_12_code 3 (some .int) R_codePointCount_48 Ts Ts f #[.ref a1, .int 0, .int i1] h0 (Q_codePointCount_48 Z i1 i2 i3 i4 i5 h0) := by
 refine con_of f #[vR a1, vI 0, vI i1] (plainFor_of_name pn_1) (fun m => rfl) Zf ?_
 intro C H hX0
 refine r_aloadN H 1 d_j52_12_0 ?_
 refine r_iloadN H 2 d_j52_12_1 ?_
 refine r_iloadN H 3 d_j52_12_2 ?_
 refine r_iconst H 4 0 d_j52_12_3 ?_
 refine r_static (argsL := [.ref a1, .int 0, .int i1, .int 0]) (rest := []) (W := 0) H 7 d_j52_12_4 (tw114 hw) (tw115 hw) (tw36 hw) (tw116 hw) (lenOf pd_20 rfl) (rm_codePointCount_49 hw Ts a1 i1 i2 i3 i4 i5 c1 h0 f Zf Z0 A_a1 r_i1 r_i2 r_i3 r_i4 r_i5 S__assertionsDisabled S_HI_BYTE_SHIFT S_LO_BYTE_SHIFT) ?_
 rintro _ _ ⟨p1, rfl, rfl, ep1, rp1⟩
 subst ep1
 exact r_ireturn H d_j52_12_7 (⟨_, rfl, rfl, (by have := rp1; omega), rfl⟩)
def Q_codePointCount_44 (Z : State) (i1 : Int32) (i2 : Int32) (i3 : Int32) (i4 : Int32) (i5 : Int32) (h0 : Heap) (v : Option Value) (h : Heap) : Prop := ∃ (z : Int32), v = some (.int z) ∧ (fn_codePointCount_49 i1 i2 i3 i4 i5) = z ∧ (0 ≤ z.toInt ∧ z.toInt ≤ 4) ∧ h0 = h
def R_codePointCount_44 : Room := { frames := 3, cells := 0, slots := 0, locals := 44 }
theorem rm_codePointCount_44 {w : Bool} {Z : State} {a0 : Array Value} (hw : HW a0 Z) (Ts : List String) (a1 : Addr) (a2 : Addr) (i1 : Int32) (i2 : Int32) (i3 : Int32) (i4 : Int32) (i5 : Int32) (c1 : ClassId) (cs : Int32) (h0 : Heap) (f : Nat) (Zf : Z.heap.size ≤ f) (Z0 : f ≤ h0.size) (E_a1 : Exa Z h0 a1 "java/lang/String") (F_value_a1 : Fld Z h0 a1 "java/lang/String" "value" "[B" (.ref a2)) (A_a2 : Ar Z h0 a2 c1 .byte [.int (cL8 i2), .int (cH8 i2), .int (cL8 i3), .int (cH8 i3), .int (cL8 i4), .int (cH8 i4), .int (cL8 i5), .int (cH8 i5)]) (F_coder_a1 : Fld Z h0 a1 "java/lang/String" "coder" "B" (.int 1)) (r_i1 : 0 ≤ i1.toInt ∧ i1.toInt ≤ 4) (r_i2 : 0 ≤ i2.toInt ∧ i2.toInt ≤ 65535) (r_i3 : 0 ≤ i3.toInt ∧ i3.toInt ≤ 65535) (r_i4 : 0 ≤ i4.toInt ∧ i4.toInt ≤ 65535) (r_i5 : 0 ≤ i5.toInt ∧ i5.toInt ≤ 65535) (S_cs : G_S_cs Z cs) (S__assertionsDisabled : G_S__assertionsDisabled Z) (S_HI_BYTE_SHIFT : G_S_HI_BYTE_SHIFT Z) (S_LO_BYTE_SHIFT : G_S_LO_BYTE_SHIFT Z) (hcs : ¬ cs = 0) :
  Con w [] Z mn19 jdk_42_method_59_code 3 (some .int) R_codePointCount_44 Ts Ts f #[.ref a1, .int 0, .int i1] h0 (Q_codePointCount_44 Z i1 i2 i3 i4 i5 h0) := by
 refine con_of f #[vR a1, vI 0, vI i1] (plainFor_of_name pn_2) (fun m => rfl) Zf ?_
 intro C H hX0
 refine r_iloadN H 1 d_j42_59_0 ?_
 refine r_iloadN H 2 d_j42_59_1 ?_
 refine r_aloadN H 3 d_j42_59_2 ?_
 refine r_virtual (z := mn15) (a := a1) (argsL := []) (rest := [.int i1, .int 0]) (W := 2) H 6 d_j42_59_3 (tw88 hw) (tw89 hw) (nf_sel (tw91 hw)) (tw91 hw) (tw90 hw) (tw22 hw) (tw92 hw) E_a1 (lenOf pd_14 rfl) (rm_length_45 hw Ts a1 a2 (cL8 i2) (cH8 i2) (cL8 i3) (cH8 i3) (cL8 i4) (cH8 i4) (cL8 i5) (cH8 i5) c1 cs h0 f Zf Z0 F_value_a1 A_a2 E_a1 F_coder_a1 S_cs hcs) ?_
 rintro _ _ ⟨rfl, rfl⟩
 refine r_static (argsL := [.int 0, .int i1, .int 4]) (rest := []) (W := 0) H 9 d_j42_59_6 (tw98 hw) (tw99 hw) (tw100 hw) (tw101 hw) (lenOf pd_16 rfl) (rm_checkFromToIndex_26 hw Ts i1 h0 f Zf Z0 r_i1) ?_
 rintro _ _ ⟨rfl, rfl⟩
 refine r_pop H 10 d_j42_59_9 ?_
 refine r_aloadN H 11 d_j42_59_10 ?_
 refine r_virtual (z := mn18) (a := a1) (argsL := []) (rest := []) (W := 0) H 14 d_j42_59_11 (tw106 hw) (tw107 hw) (nf_sel (tw109 hw)) (tw109 hw) (tw108 hw) (tw22 hw) (tw110 hw) E_a1 (lenOf pd_17 rfl) (rm_isLatin1_47 hw Ts a1 cs h0 f Zf Z0 F_coder_a1 S_cs hcs) ?_
 rintro _ _ ⟨rfl, rfl⟩
 refine r_ifeqT H 21 d_j42_59_14 (by decide) (by decide) (by decide) ?_
 refine r_aloadN H 22 d_j42_59_21 ?_
 refine r_getf H 25 d_j42_59_22 (tw66 hw) F_value_a1 ?_
 refine r_iloadN H 26 d_j42_59_25 ?_
 refine r_iloadN H 27 d_j42_59_26 ?_
 refine r_static (argsL := [.ref a2, .int 0, .int i1]) (rest := []) (W := 0) H 30 d_j42_59_27 (tw111 hw) (tw112 hw) (tw36 hw) (tw113 hw) (lenOf pd_21 rfl) (rm_codePointCount_48 hw Ts a2 i1 i2 i3 i4 i5 c1 h0 f Zf Z0 A_a2 r_i1 r_i2 r_i3 r_i4 r_i5 S__assertionsDisabled S_HI_BYTE_SHIFT S_LO_BYTE_SHIFT) ?_
 rintro _ _ ⟨p4, rfl, ep4, rp4, rfl⟩
 subst ep4
 exact r_ireturn H d_j42_59_30 (⟨_, rfl, rfl, (by have := rp4; omega), rfl⟩)
def Q_offset_43 (Z : State) (a1 : Addr) (a2 : Addr) (i1 : Int32) (i2 : Int32) (i3 : Int32) (i4 : Int32) (i5 : Int32) (h0 : Heap) (v : Option Value) (h : Heap) : Prop := ∃ (z : Int32), v = some (.int z) ∧ ((0 : Int32) + (fn_codePointCount_49 i1 i2 i3 i4 i5)) = z ∧ (0 ≤ z.toInt ∧ z.toInt ≤ 4) ∧ Keep h0 h [a1] ∧ Exa Z h a1 "com/example/indentree/indentree/reader/CodePoints" ∧ Fld Z h a1 "com/example/indentree/indentree/reader/CodePoints" "index" "I" (.int i1) ∧ Fld Z h a1 "com/example/indentree/indentree/reader/CodePoints" "offset" "I" (.int ((0 : Int32) + (fn_codePointCount_49 i1 i2 i3 i4 i5))) ∧ Fld Z h a1 "com/example/indentree/indentree/reader/CodePoints" "text" "Ljava/lang/String;" (.ref a2)
def R_offset_43 : Room := { frames := 4, cells := 0, slots := 0, locals := 60 }
theorem rm_offset_43 {w : Bool} {Z : State} {a0 : Array Value} (hw : HW a0 Z) (Ts : List String) (a1 : Addr) (a2 : Addr) (a3 : Addr) (i1 : Int32) (i2 : Int32) (i3 : Int32) (i4 : Int32) (i5 : Int32) (c1 : ClassId) (cs : Int32) (h0 : Heap) (f : Nat) (Zf : Z.heap.size ≤ f) (Z0 : f ≤ h0.size) (F_offset_a1 : Fld Z h0 a1 "com/example/indentree/indentree/reader/CodePoints" "offset" "I" (.int 0)) (F_text_a1 : Fld Z h0 a1 "com/example/indentree/indentree/reader/CodePoints" "text" "Ljava/lang/String;" (.ref a2)) (F_index_a1 : Fld Z h0 a1 "com/example/indentree/indentree/reader/CodePoints" "index" "I" (.int 0)) (E_a2 : Exa Z h0 a2 "java/lang/String") (F_value_a2 : Fld Z h0 a2 "java/lang/String" "value" "[B" (.ref a3)) (A_a3 : Ar Z h0 a3 c1 .byte [.int (cL8 i2), .int (cH8 i2), .int (cL8 i3), .int (cH8 i3), .int (cL8 i4), .int (cH8 i4), .int (cL8 i5), .int (cH8 i5)]) (F_coder_a2 : Fld Z h0 a2 "java/lang/String" "coder" "B" (.int 1)) (E_a1 : Exa Z h0 a1 "com/example/indentree/indentree/reader/CodePoints") (g_a1 : f ≤ a1) (r_i1 : 0 ≤ i1.toInt ∧ i1.toInt ≤ 4) (r_i2 : 0 ≤ i2.toInt ∧ i2.toInt ≤ 65535) (r_i3 : 0 ≤ i3.toInt ∧ i3.toInt ≤ 65535) (r_i4 : 0 ≤ i4.toInt ∧ i4.toInt ≤ 65535) (r_i5 : 0 ≤ i5.toInt ∧ i5.toInt ≤ 65535) (S_cs : G_S_cs Z cs) (S__assertionsDisabled : G_S__assertionsDisabled Z) (S_HI_BYTE_SHIFT : G_S_HI_BYTE_SHIFT Z) (S_LO_BYTE_SHIFT : G_S_LO_BYTE_SHIFT Z) (hcs : ¬ cs = 0) :
  Con w [] Z mn20 prog_19_method_2_code 2 (some .int) R_offset_43 Ts Ts f #[.ref a1, .int i1] h0 (Q_offset_43 Z a1 a2 i1 i2 i3 i4 i5 h0) := by
 refine con_of f #[vR a1, vI i1] (plainFor_of_name pn_3) (fun m => rfl) Zf ?_
 intro C H hX0
 refine r_aloadN H 1 d_g19_2_0 ?_
 refine r_dup H 2 d_g19_2_1 ?_
 refine r_getf H 5 d_g19_2_2 (tw79 hw) F_offset_a1 ?_
 refine r_aloadN H 6 d_g19_2_5 ?_
 refine r_getf H 9 d_g19_2_6 (tw72 hw) F_text_a1 ?_
 refine r_aloadN H 10 d_g19_2_9 ?_
 refine r_getf H 13 d_g19_2_10 (tw81 hw) F_index_a1 ?_
 refine r_iloadN H 14 d_g19_2_13 ?_
 refine r_virtual (z := mn19) (a := a2) (argsL := [.int 0, .int i1]) (rest := [.int 0, .ref a1]) (W := 2) H 17 d_g19_2_14 (tw83 hw) (tw84 hw) (nf_sel (tw86 hw)) (tw86 hw) (tw85 hw) (tw22 hw) (tw87 hw) E_a2 (lenOf pd_18 rfl) (rm_codePointCount_44 hw Ts a2 a3 i1 i2 i3 i4 i5 c1 cs h0 f Zf Z0 E_a2 F_value_a2 A_a3 F_coder_a2 r_i1 r_i2 r_i3 r_i4 r_i5 S_cs S__assertionsDisabled S_HI_BYTE_SHIFT S_LO_BYTE_SHIFT hcs) ?_
 rintro _ _ ⟨p1, rfl, ep1, rp1, rfl⟩
 obtain ⟨p3, ep3, rp3⟩ : ∃ p : Int32, ((0 : Int32) + p1) = p ∧ 0 ≤ p.toInt ∧ p.toInt ≤ 4 := ⟨_, rfl, (iadd_rng (lit_rng rfl) rp1 (by decide))⟩
 refine r_iadd H 18 p3 d_g19_2_17 ep3 ?_
 refine r_putf (ty := .int) H 21 d_g19_2_18 (tw79 hw) F_offset_a1 E_a1 (Or.inl (tw80 hw)) (tw18 hw) g_a1 ?_
 intro h4 W4 K4 E4 F4
 refine r_aloadN H 22 d_g19_2_21 ?_
 refine r_iloadN H 23 d_g19_2_22 ?_
 have q5 := (F_index_a1.other W4 (Or.inr (slot_ne (Or.inl (tw82 hw)) (Or.inl (tw80 hw)) (by decide) (t := .int) (t' := .int) (by decide) (by decide))))
 refine r_putf (ty := .int) H 26 d_g19_2_23 (tw81 hw) q5 E4 (Or.inl (tw82 hw)) (tw18 hw) g_a1 ?_
 intro h6 W6 K6 E6 F6
 refine r_aloadN H 27 d_g19_2_26 ?_
 have q7 := (F4.other W6 (Or.inr (slot_ne (Or.inl (tw80 hw)) (Or.inl (tw82 hw)) (by decide) (t := .int) (t' := .int) (by decide) (by decide))))
 refine r_getf H 30 d_g19_2_27 (tw79 hw) q7 ?_
 have k8 : Keep h0 h4 [a1] := Keep.trans (Keep.refl h0 [a1]) K4 (allS (Or.inl (List.mem_of_getElem? (i := 0) rfl)) all0)
 have k9 : Keep h0 h6 [a1] := Keep.trans k8 K6 (allS (Or.inl (List.mem_of_getElem? (i := 0) rfl)) all0)
 have q10 := ((F_text_a1.other W4 (Or.inr (slot_ne (Or.inr (tw73 hw)) (Or.inl (tw80 hw)) (by decide) (t := (.object "java/lang/String")) (t' := .int) (by decide) (by decide)))).other W6 (Or.inr (slot_ne (Or.inr (tw73 hw)) (Or.inl (tw82 hw)) (by decide) (t := (.object "java/lang/String")) (t' := .int) (by decide) (by decide))))
 subst ep1 ep3
 exact r_ireturn H d_g19_2_30 (⟨_, rfl, rfl, (by have := rp3; omega), k9, E6, F6, q7, q10⟩)
def fn_codePointCount_55 (i1 : Int32) (i2 : Int32) (i3 : Int32) (i4 : Int32) (i5 : Int32) (i6 : Int32) : Int32 := (if i2 = (0 : Int32) then (0 : Int32) else (if i2 = (1 : Int32) then (if i1 = (0 : Int32) then (1 : Int32) else (0 : Int32)) else (if i2 = (2 : Int32) then (if i1 = (0 : Int32) then (if (if i3 < (55296 : Int32) then (0 : Int32) else (if i3 < (56320 : Int32) then (1 : Int32) else (0 : Int32))) = (0 : Int32) then (2 : Int32) else (if (if i4 < (56320 : Int32) then (0 : Int32) else (if i4 < (57344 : Int32) then (1 : Int32) else (0 : Int32))) = (0 : Int32) then (2 : Int32) else (1 : Int32))) else (if i1 = (1 : Int32) then (1 : Int32) else (0 : Int32))) else (if i2 = (3 : Int32) then (if i1 = (0 : Int32) then (if (if i3 < (55296 : Int32) then (0 : Int32) else (if i3 < (56320 : Int32) then (1 : Int32) else (0 : Int32))) = (0 : Int32) then (if (if i4 < (55296 : Int32) then (0 : Int32) else (if i4 < (56320 : Int32) then (1 : Int32) else (0 : Int32))) = (0 : Int32) then (3 : Int32) else (if (if i5 < (56320 : Int32) then (0 : Int32) else (if i5 < (57344 : Int32) then (1 : Int32) else (0 : Int32))) = (0 : Int32) then (3 : Int32) else (2 : Int32))) else (if (if i4 < (56320 : Int32) then (0 : Int32) else (if i4 < (57344 : Int32) then (1 : Int32) else (0 : Int32))) = (0 : Int32) then (if (if i4 < (55296 : Int32) then (0 : Int32) else (if i4 < (56320 : Int32) then (1 : Int32) else (0 : Int32))) = (0 : Int32) then (3 : Int32) else (if (if i5 < (56320 : Int32) then (0 : Int32) else (if i5 < (57344 : Int32) then (1 : Int32) else (0 : Int32))) = (0 : Int32) then (3 : Int32) else (2 : Int32))) else (2 : Int32))) else (if i1 = (1 : Int32) then (if (if i4 < (55296 : Int32) then (0 : Int32) else (if i4 < (56320 : Int32) then (1 : Int32) else (0 : Int32))) = (0 : Int32) then (2 : Int32) else (if (if i5 < (56320 : Int32) then (0 : Int32) else (if i5 < (57344 : Int32) then (1 : Int32) else (0 : Int32))) = (0 : Int32) then (2 : Int32) else (1 : Int32))) else (if i1 = (2 : Int32) then (1 : Int32) else (0 : Int32)))) else (if i1 = (0 : Int32) then (if (if i3 < (55296 : Int32) then (0 : Int32) else (if i3 < (56320 : Int32) then (1 : Int32) else (0 : Int32))) = (0 : Int32) then (if (if i4 < (55296 : Int32) then (0 : Int32) else (if i4 < (56320 : Int32) then (1 : Int32) else (0 : Int32))) = (0 : Int32) then (if (if i5 < (55296 : Int32) then (0 : Int32) else (if i5 < (56320 : Int32) then (1 : Int32) else (0 : Int32))) = (0 : Int32) then (4 : Int32) else (if (if i6 < (56320 : Int32) then (0 : Int32) else (if i6 < (57344 : Int32) then (1 : Int32) else (0 : Int32))) = (0 : Int32) then (4 : Int32) else (3 : Int32))) else (if (if i5 < (56320 : Int32) then (0 : Int32) else (if i5 < (57344 : Int32) then (1 : Int32) else (0 : Int32))) = (0 : Int32) then (if (if i5 < (55296 : Int32) then (0 : Int32) else (if i5 < (56320 : Int32) then (1 : Int32) else (0 : Int32))) = (0 : Int32) then (4 : Int32) else (if (if i6 < (56320 : Int32) then (0 : Int32) else (if i6 < (57344 : Int32) then (1 : Int32) else (0 : Int32))) = (0 : Int32) then (4 : Int32) else (3 : Int32))) else (3 : Int32))) else (if (if i4 < (56320 : Int32) then (0 : Int32) else (if i4 < (57344 : Int32) then (1 : Int32) else (0 : Int32))) = (0 : Int32) then (if (if i4 < (55296 : Int32) then (0 : Int32) else (if i4 < (56320 : Int32) then (1 : Int32) else (0 : Int32))) = (0 : Int32) then (if (if i5 < (55296 : Int32) then (0 : Int32) else (if i5 < (56320 : Int32) then (1 : Int32) else (0 : Int32))) = (0 : Int32) then (4 : Int32) else (if (if i6 < (56320 : Int32) then (0 : Int32) else (if i6 < (57344 : Int32) then (1 : Int32) else (0 : Int32))) = (0 : Int32) then (4 : Int32) else (3 : Int32))) else (if (if i5 < (56320 : Int32) then (0 : Int32) else (if i5 < (57344 : Int32) then (1 : Int32) else (0 : Int32))) = (0 : Int32) then (if (if i5 < (55296 : Int32) then (0 : Int32) else (if i5 < (56320 : Int32) then (1 : Int32) else (0 : Int32))) = (0 : Int32) then (4 : Int32) else (if (if i6 < (56320 : Int32) then (0 : Int32) else (if i6 < (57344 : Int32) then (1 : Int32) else (0 : Int32))) = (0 : Int32) then (4 : Int32) else (3 : Int32))) else (3 : Int32))) else (if (if i5 < (55296 : Int32) then (0 : Int32) else (if i5 < (56320 : Int32) then (1 : Int32) else (0 : Int32))) = (0 : Int32) then (3 : Int32) else (if (if i6 < (56320 : Int32) then (0 : Int32) else (if i6 < (57344 : Int32) then (1 : Int32) else (0 : Int32))) = (0 : Int32) then (3 : Int32) else (2 : Int32))))) else (if i1 = (1 : Int32) then (if (if i4 < (55296 : Int32) then (0 : Int32) else (if i4 < (56320 : Int32) then (1 : Int32) else (0 : Int32))) = (0 : Int32) then (if (if i5 < (55296 : Int32) then (0 : Int32) else (if i5 < (56320 : Int32) then (1 : Int32) else (0 : Int32))) = (0 : Int32) then (3 : Int32) else (if (if i6 < (56320 : Int32) then (0 : Int32) else (if i6 < (57344 : Int32) then (1 : Int32) else (0 : Int32))) = (0 : Int32) then (3 : Int32) else (2 : Int32))) else (if (if i5 < (56320 : Int32) then (0 : Int32) else (if i5 < (57344 : Int32) then (1 : Int32) else (0 : Int32))) = (0 : Int32) then (if (if i5 < (55296 : Int32) then (0 : Int32) else (if i5 < (56320 : Int32) then (1 : Int32) else (0 : Int32))) = (0 : Int32) then (3 : Int32) else (if (if i6 < (56320 : Int32) then (0 : Int32) else (if i6 < (57344 : Int32) then (1 : Int32) else (0 : Int32))) = (0 : Int32) then (3 : Int32) else (2 : Int32))) else (2 : Int32))) else (if i1 = (2 : Int32) then (if (if i5 < (55296 : Int32) then (0 : Int32) else (if i5 < (56320 : Int32) then (1 : Int32) else (0 : Int32))) = (0 : Int32) then (2 : Int32) else (if (if i6 < (56320 : Int32) then (0 : Int32) else (if i6 < (57344 : Int32) then (1 : Int32) else (0 : Int32))) = (0 : Int32) then (2 : Int32) else (1 : Int32))) else (if i1 = (3 : Int32) then (1 : Int32) else (0 : Int32)))))))))
def Q_codePointCount_55 (Z : State) (i1 : Int32) (i2 : Int32) (i3 : Int32) (i4 : Int32) (i5 : Int32) (i6 : Int32) (h0 : Heap) (v : Option Value) (h : Heap) : Prop := ∃ z : Int32, v = some (.int z) ∧ h0 = h ∧ (fn_codePointCount_55 i1 i2 i3 i4 i5 i6) = z ∧ (0 ≤ z.toInt ∧ z.toInt ≤ 4)
def R_codePointCount_55 : Room := { frames := 1, cells := 0, slots := 0, locals := 13 }
theorem rm_codePointCount_55 {w : Bool} {Z : State} {a0 : Array Value} (hw : HW a0 Z) (Ts : List String) (a1 : Addr) (i1 : Int32) (i2 : Int32) (i3 : Int32) (i4 : Int32) (i5 : Int32) (i6 : Int32) (c1 : ClassId) (h0 : Heap) (f : Nat) (Zf : Z.heap.size ≤ f) (Z0 : f ≤ h0.size) (l_i1_i2 : i1.toInt ≤ i2.toInt) (A_a1 : Ar Z h0 a1 c1 .byte [.int (cL8 i3), .int (cH8 i3), .int (cL8 i4), .int (cH8 i4), .int (cL8 i5), .int (cH8 i5), .int (cL8 i6), .int (cH8 i6)]) (r_i1 : 0 ≤ i1.toInt ∧ i1.toInt ≤ 4) (r_i2 : 0 ≤ i2.toInt ∧ i2.toInt ≤ 4) (r_i3 : 0 ≤ i3.toInt ∧ i3.toInt ≤ 65535) (r_i4 : 0 ≤ i4.toInt ∧ i4.toInt ≤ 65535) (r_i5 : 0 ≤ i5.toInt ∧ i5.toInt ≤ 65535) (r_i6 : 0 ≤ i6.toInt ∧ i6.toInt ≤ 65535) (S__assertionsDisabled : G_S__assertionsDisabled Z) (S_HI_BYTE_SHIFT : G_S_HI_BYTE_SHIFT Z) (S_LO_BYTE_SHIFT : G_S_LO_BYTE_SHIFT Z) :
  Con w [] Z mn24 jdk_52_method_11_code 6 (some .int) R_codePointCount_55 Ts Ts f #[.ref a1, .int i1, .int i2, .int 0] h0 (Q_codePointCount_55 Z i1 i2 i3 i4 i5 i6 h0) := by
 refine con_of f #[vR a1, vI i1, vI i2, vI 0, .unset, .unset] (plainFor_of_name pn_1) (fun m => rfl) Zf ?_
 intro C H hX0
 refine r_gets H 3 d_j52_11_0 (tw55 hw) S__assertionsDisabled ?_
 refine r_ifneT H 19 d_j52_11_3 (by decide) (by decide) (by decide) ?_
 refine r_iloadN H 20 d_j52_11_19 ?_
 have c1 : i2 = (0 : Int32) ∨ i2 = (1 : Int32) ∨ i2 = (2 : Int32) ∨ i2 = (3 : Int32) ∨ i2 = (4 : Int32) := by
  have := r_i2; simp only [← Int32.toInt_inj]; have : (0 : Int32).toInt = 0 := (by decide); have : (1 : Int32).toInt = 1 := (by decide); have : (2 : Int32).toInt = 2 := (by decide); have : (3 : Int32).toInt = 3 := (by decide); have : (4 : Int32).toInt = 4 := (by decide); omega
 rcases c1 with c1 | c1 | c1 | c1 | c1
 ·
  subst c1
  refine r_iloadN H 21 d_j52_11_20 ?_
  have c2 : i1 = (0 : Int32) := by
   have := r_i1; have := l_i1_i2; have : (0 : Int32).toInt = 0 := (by decide); simp only [← Int32.toInt_inj]; have : (0 : Int32).toInt = 0 := (by decide); omega
  rcases c2 with c2
  ·
   subst c2
   refine r_isub H 22 0 d_j52_11_21 ?_
   refine r_istore H 24 #[vR a1, vI 0, vI 0, vI 0, vI 0, .unset] d_j52_11_22 ?_
   refine r_iloadN H 25 d_j52_11_24 ?_
   refine r_istore H 27 #[vR a1, vI 0, vI 0, vI 0, vI 0, vI 0] d_j52_11_25 ?_
   refine r_iloadN H 28 d_j52_11_27 ?_
   refine r_ifeqT H 44 d_j52_11_28 (by decide) (by decide) (by decide) ?_
   refine r_iload H 46 d_j52_11_44 ?_
   refine r_iloadN H 47 d_j52_11_46 ?_
   refine r_iconst H 48 1 d_j52_11_47 ?_
   refine r_isub H 49 (-1 : Int32) d_j52_11_48 ?_
   refine r_icmpgeT H 88 d_j52_11_49 (by decide) (by decide) (by decide) ?_
   refine r_iload H 90 d_j52_11_88 ?_
   exact r_ireturn H d_j52_11_90 (⟨_, rfl, rfl, (by unfold fn_codePointCount_55; rw [if_pos rfl]), (by decide)⟩)
 ·
  subst c1
  refine r_iloadN H 21 d_j52_11_20 ?_
  have c3 : i1 = (0 : Int32) ∨ i1 = (1 : Int32) := by
   have := r_i1; have := l_i1_i2; have : (1 : Int32).toInt = 1 := (by decide); simp only [← Int32.toInt_inj]; have : (0 : Int32).toInt = 0 := (by decide); have : (1 : Int32).toInt = 1 := (by decide); omega
  rcases c3 with c3 | c3
  ·
   subst c3
   refine r_isub H 22 1 d_j52_11_21 ?_
   refine r_istore H 24 #[vR a1, vI 0, vI 1, vI 0, vI 1, .unset] d_j52_11_22 ?_
   refine r_iloadN H 25 d_j52_11_24 ?_
   refine r_istore H 27 #[vR a1, vI 0, vI 1, vI 0, vI 1, vI 0] d_j52_11_25 ?_
   refine r_iloadN H 28 d_j52_11_27 ?_
   refine r_ifeqT H 44 d_j52_11_28 (by decide) (by decide) (by decide) ?_
   refine r_iload H 46 d_j52_11_44 ?_
   refine r_iloadN H 47 d_j52_11_46 ?_
   refine r_iconst H 48 1 d_j52_11_47 ?_
   refine r_isub H 49 0 d_j52_11_48 ?_
   refine r_icmpgeT H 88 d_j52_11_49 (by decide) (by decide) (by decide) ?_
   refine r_iload H 90 d_j52_11_88 ?_
   exact r_ireturn H d_j52_11_90 (⟨_, rfl, rfl, (by unfold fn_codePointCount_55; rw [if_neg (by decide), if_pos rfl, if_pos rfl]), (by decide)⟩)
  ·
   subst c3
   refine r_isub H 22 0 d_j52_11_21 ?_
   refine r_istore H 24 #[vR a1, vI 1, vI 1, vI 0, vI 0, .unset] d_j52_11_22 ?_
   refine r_iloadN H 25 d_j52_11_24 ?_
   refine r_istore H 27 #[vR a1, vI 1, vI 1, vI 0, vI 0, vI 1] d_j52_11_25 ?_
   refine r_iloadN H 28 d_j52_11_27 ?_
   refine r_ifeqT H 44 d_j52_11_28 (by decide) (by decide) (by decide) ?_
   refine r_iload H 46 d_j52_11_44 ?_
   refine r_iloadN H 47 d_j52_11_46 ?_
   refine r_iconst H 48 1 d_j52_11_47 ?_
   refine r_isub H 49 0 d_j52_11_48 ?_
   refine r_icmpgeT H 88 d_j52_11_49 (by decide) (by decide) (by decide) ?_
   refine r_iload H 90 d_j52_11_88 ?_
   exact r_ireturn H d_j52_11_90 (⟨_, rfl, rfl, (by unfold fn_codePointCount_55; rw [if_neg (by decide), if_pos rfl, if_neg (by decide)]), (by decide)⟩)
 ·
  subst c1
  refine r_iloadN H 21 d_j52_11_20 ?_
  have c4 : i1 = (0 : Int32) ∨ i1 = (1 : Int32) ∨ i1 = (2 : Int32) := by
   have := r_i1; have := l_i1_i2; have : (2 : Int32).toInt = 2 := (by decide); simp only [← Int32.toInt_inj]; have : (0 : Int32).toInt = 0 := (by decide); have : (1 : Int32).toInt = 1 := (by decide); have : (2 : Int32).toInt = 2 := (by decide); omega
  rcases c4 with c4 | c4 | c4
  ·
   subst c4
   refine r_isub H 22 2 d_j52_11_21 ?_
   refine r_istore H 24 #[vR a1, vI 0, vI 2, vI 0, vI 2, .unset] d_j52_11_22 ?_
   refine r_iloadN H 25 d_j52_11_24 ?_
   refine r_istore H 27 #[vR a1, vI 0, vI 2, vI 0, vI 2, vI 0] d_j52_11_25 ?_
   refine r_iloadN H 28 d_j52_11_27 ?_
   refine r_ifeqT H 44 d_j52_11_28 (by decide) (by decide) (by decide) ?_
   refine r_iload H 46 d_j52_11_44 ?_
   refine r_iloadN H 47 d_j52_11_46 ?_
   refine r_iconst H 48 1 d_j52_11_47 ?_
   refine r_isub H 49 1 d_j52_11_48 ?_
   refine r_icmpgeF H 52 d_j52_11_49 rfl (by decide) ?_
   refine r_aloadN H 53 d_j52_11_52 ?_
   refine r_iload H 55 d_j52_11_53 ?_
   refine r_iinc H 58 #[vR a1, vI 0, vI 2, vI 0, vI 2, vI 1] 1 d_j52_11_55 ?_
   refine r_static (argsL := [.ref a1, .int 0]) (rest := []) (W := 0) H 61 d_j52_11_58 (tw58 hw) (tw59 hw) (tw36 hw) (tw60 hw) (lenOf pd_8 rfl) (rm_getChar_18 hw Ts a1 (cL8 i3) (cH8 i3) (cL8 i4) (cH8 i4) (cL8 i5) (cH8 i5) (cL8 i6) (cH8 i6) c1 h0 f Zf Z0 A_a1 S__assertionsDisabled S_HI_BYTE_SHIFT S_LO_BYTE_SHIFT) ?_
   rintro _ _ ⟨p5, rfl, ep5, rp5, rfl⟩
   have hzp5 : i3 = p5 := by rw [← ep5]; exact (own_u16 i3 (by have := r_i3; omega)).symm
   subst hzp5
   refine r_static (argsL := [.int i3]) (rest := []) (W := 0) H 64 d_j52_11_61 (tw117 hw) (tw118 hw) (tw119 hw) (tw120 hw) (lenOf pd_19 rfl) (rm_isHighSurrogate_50 hw Ts i3 h0 f Zf Z0 r_i3) ?_
   rintro _ _ ⟨p7, rfl, ep7, rp7, rfl⟩
   refine r_ifeq H 44 67 d_j52_11_64 (fun c9 => ?_) (fun c9 => ?_)
   ·
    refine r_iload H 46 d_j52_11_44 ?_
    refine r_iloadN H 47 d_j52_11_46 ?_
    refine r_iconst H 48 1 d_j52_11_47 ?_
    refine r_isub H 49 1 d_j52_11_48 ?_
    refine r_icmpgeT H 88 d_j52_11_49 (by decide) (by decide) (by decide) ?_
    refine r_iload H 90 d_j52_11_88 ?_
    subst ep7
    exact r_ireturn H d_j52_11_90 (⟨_, rfl, rfl, (by unfold fn_codePointCount_55; rw [if_neg (by decide), if_neg (by decide), if_pos rfl, if_pos rfl, if_pos c9]), (by decide)⟩)
   ·
    refine r_aloadN H 68 d_j52_11_67 ?_
    refine r_iload H 70 d_j52_11_68 ?_
    refine r_static (argsL := [.ref a1, .int 1]) (rest := []) (W := 0) H 73 d_j52_11_70 (tw58 hw) (tw59 hw) (tw36 hw) (tw60 hw) (lenOf pd_8 rfl) (rm_getChar_17 hw Ts a1 (cL8 i3) (cH8 i3) (cL8 i4) (cH8 i4) (cL8 i5) (cH8 i5) (cL8 i6) (cH8 i6) c1 h0 f Zf Z0 A_a1 S__assertionsDisabled S_HI_BYTE_SHIFT S_LO_BYTE_SHIFT) ?_
    rintro _ _ ⟨p12, rfl, ep12, rp12, rfl⟩
    have hzp12 : i4 = p12 := by rw [← ep12]; exact (own_u16 i4 (by have := r_i4; omega)).symm
    subst hzp12
    refine r_static (argsL := [.int i4]) (rest := []) (W := 0) H 76 d_j52_11_73 (tw126 hw) (tw127 hw) (tw119 hw) (tw128 hw) (lenOf pd_19 rfl) (rm_isLowSurrogate_51 hw Ts i4 h0 f Zf Z0 r_i4) ?_
    rintro _ _ ⟨p14, rfl, ep14, rp14, rfl⟩
    refine r_ifeq H 44 79 d_j52_11_76 (fun c16 => ?_) (fun c16 => ?_)
    ·
     refine r_iload H 46 d_j52_11_44 ?_
     refine r_iloadN H 47 d_j52_11_46 ?_
     refine r_iconst H 48 1 d_j52_11_47 ?_
     refine r_isub H 49 1 d_j52_11_48 ?_
     refine r_icmpgeT H 88 d_j52_11_49 (by decide) (by decide) (by decide) ?_
     refine r_iload H 90 d_j52_11_88 ?_
     subst ep7 ep14
     exact r_ireturn H d_j52_11_90 (⟨_, rfl, rfl, (by unfold fn_codePointCount_55; rw [if_neg (by decide), if_neg (by decide), if_pos rfl, if_pos rfl, if_neg c9, if_pos c16]), (by decide)⟩)
    ·
     refine r_iinc H 82 #[vR a1, vI 0, vI 2, vI 0, vI 1, vI 1] 1 d_j52_11_79 ?_
     refine r_iinc H 85 #[vR a1, vI 0, vI 2, vI 0, vI 1, vI 2] 2 d_j52_11_82 ?_
     refine r_goto H 44 d_j52_11_85 ?_
     refine r_iload H 46 d_j52_11_44 ?_
     refine r_iloadN H 47 d_j52_11_46 ?_
     refine r_iconst H 48 1 d_j52_11_47 ?_
     refine r_isub H 49 1 d_j52_11_48 ?_
     refine r_icmpgeT H 88 d_j52_11_49 (by decide) (by decide) (by decide) ?_
     refine r_iload H 90 d_j52_11_88 ?_
     subst ep7 ep14
     exact r_ireturn H d_j52_11_90 (⟨_, rfl, rfl, (by unfold fn_codePointCount_55; rw [if_neg (by decide), if_neg (by decide), if_pos rfl, if_pos rfl, if_neg c9, if_neg c16]), (by decide)⟩)
  ·
   subst c4
   refine r_isub H 22 1 d_j52_11_21 ?_
   refine r_istore H 24 #[vR a1, vI 1, vI 2, vI 0, vI 1, .unset] d_j52_11_22 ?_
   refine r_iloadN H 25 d_j52_11_24 ?_
   refine r_istore H 27 #[vR a1, vI 1, vI 2, vI 0, vI 1, vI 1] d_j52_11_25 ?_
   refine r_iloadN H 28 d_j52_11_27 ?_
   refine r_ifeqT H 44 d_j52_11_28 (by decide) (by decide) (by decide) ?_
   refine r_iload H 46 d_j52_11_44 ?_
   refine r_iloadN H 47 d_j52_11_46 ?_
   refine r_iconst H 48 1 d_j52_11_47 ?_
   refine r_isub H 49 1 d_j52_11_48 ?_
   refine r_icmpgeT H 88 d_j52_11_49 (by decide) (by decide) (by decide) ?_
   refine r_iload H 90 d_j52_11_88 ?_
   exact r_ireturn H d_j52_11_90 (⟨_, rfl, rfl, (by unfold fn_codePointCount_55; rw [if_neg (by decide), if_neg (by decide), if_pos rfl, if_neg (by decide), if_pos rfl]), (by decide)⟩)
  ·
   subst c4
   refine r_isub H 22 0 d_j52_11_21 ?_
   refine r_istore H 24 #[vR a1, vI 2, vI 2, vI 0, vI 0, .unset] d_j52_11_22 ?_
   refine r_iloadN H 25 d_j52_11_24 ?_
   refine r_istore H 27 #[vR a1, vI 2, vI 2, vI 0, vI 0, vI 2] d_j52_11_25 ?_
   refine r_iloadN H 28 d_j52_11_27 ?_
   refine r_ifeqT H 44 d_j52_11_28 (by decide) (by decide) (by decide) ?_
   refine r_iload H 46 d_j52_11_44 ?_
   refine r_iloadN H 47 d_j52_11_46 ?_
   refine r_iconst H 48 1 d_j52_11_47 ?_
   refine r_isub H 49 1 d_j52_11_48 ?_
   refine r_icmpgeT H 88 d_j52_11_49 (by decide) (by decide) (by decide) ?_
   refine r_iload H 90 d_j52_11_88 ?_
   exact r_ireturn H d_j52_11_90 (⟨_, rfl, rfl, (by unfold fn_codePointCount_55; rw [if_neg (by decide), if_neg (by decide), if_pos rfl, if_neg (by decide), if_neg (by decide)]), (by decide)⟩)
 ·
  subst c1
  refine r_iloadN H 21 d_j52_11_20 ?_
  have c19 : i1 = (0 : Int32) ∨ i1 = (1 : Int32) ∨ i1 = (2 : Int32) ∨ i1 = (3 : Int32) := by
   have := r_i1; have := l_i1_i2; have : (3 : Int32).toInt = 3 := (by decide); simp only [← Int32.toInt_inj]; have : (0 : Int32).toInt = 0 := (by decide); have : (1 : Int32).toInt = 1 := (by decide); have : (2 : Int32).toInt = 2 := (by decide); have : (3 : Int32).toInt = 3 := (by decide); omega
  rcases c19 with c19 | c19 | c19 | c19
  ·
   subst c19
   refine r_isub H 22 3 d_j52_11_21 ?_
   refine r_istore H 24 #[vR a1, vI 0, vI 3, vI 0, vI 3, .unset] d_j52_11_22 ?_
   refine r_iloadN H 25 d_j52_11_24 ?_
   refine r_istore H 27 #[vR a1, vI 0, vI 3, vI 0, vI 3, vI 0] d_j52_11_25 ?_
   refine r_iloadN H 28 d_j52_11_27 ?_
   refine r_ifeqT H 44 d_j52_11_28 (by decide) (by decide) (by decide) ?_
   refine r_iload H 46 d_j52_11_44 ?_
   refine r_iloadN H 47 d_j52_11_46 ?_
   refine r_iconst H 48 1 d_j52_11_47 ?_
   refine r_isub H 49 2 d_j52_11_48 ?_
   refine r_icmpgeF H 52 d_j52_11_49 rfl (by decide) ?_
   refine r_aloadN H 53 d_j52_11_52 ?_
   refine r_iload H 55 d_j52_11_53 ?_
   refine r_iinc H 58 #[vR a1, vI 0, vI 3, vI 0, vI 3, vI 1] 1 d_j52_11_55 ?_
   refine r_static (argsL := [.ref a1, .int 0]) (rest := []) (W := 0) H 61 d_j52_11_58 (tw58 hw) (tw59 hw) (tw36 hw) (tw60 hw) (lenOf pd_8 rfl) (rm_getChar_18 hw Ts a1 (cL8 i3) (cH8 i3) (cL8 i4) (cH8 i4) (cL8 i5) (cH8 i5) (cL8 i6) (cH8 i6) c1 h0 f Zf Z0 A_a1 S__assertionsDisabled S_HI_BYTE_SHIFT S_LO_BYTE_SHIFT) ?_
   rintro _ _ ⟨p20, rfl, ep20, rp20, rfl⟩
   have hzp20 : i3 = p20 := by rw [← ep20]; exact (own_u16 i3 (by have := r_i3; omega)).symm
   subst hzp20
   refine r_static (argsL := [.int i3]) (rest := []) (W := 0) H 64 d_j52_11_61 (tw117 hw) (tw118 hw) (tw119 hw) (tw120 hw) (lenOf pd_19 rfl) (rm_isHighSurrogate_50 hw Ts i3 h0 f Zf Z0 r_i3) ?_
   rintro _ _ ⟨p22, rfl, ep22, rp22, rfl⟩
   refine r_ifeq H 44 67 d_j52_11_64 (fun c24 => ?_) (fun c24 => ?_)
   ·
    refine r_iload H 46 d_j52_11_44 ?_
    refine r_iloadN H 47 d_j52_11_46 ?_
    refine r_iconst H 48 1 d_j52_11_47 ?_
    refine r_isub H 49 2 d_j52_11_48 ?_
    refine r_icmpgeF H 52 d_j52_11_49 rfl (by decide) ?_
    refine r_aloadN H 53 d_j52_11_52 ?_
    refine r_iload H 55 d_j52_11_53 ?_
    refine r_iinc H 58 #[vR a1, vI 0, vI 3, vI 0, vI 3, vI 2] 2 d_j52_11_55 ?_
    refine r_static (argsL := [.ref a1, .int 1]) (rest := []) (W := 0) H 61 d_j52_11_58 (tw58 hw) (tw59 hw) (tw36 hw) (tw60 hw) (lenOf pd_8 rfl) (rm_getChar_17 hw Ts a1 (cL8 i3) (cH8 i3) (cL8 i4) (cH8 i4) (cL8 i5) (cH8 i5) (cL8 i6) (cH8 i6) c1 h0 f Zf Z0 A_a1 S__assertionsDisabled S_HI_BYTE_SHIFT S_LO_BYTE_SHIFT) ?_
    rintro _ _ ⟨p26, rfl, ep26, rp26, rfl⟩
    have hzp26 : i4 = p26 := by rw [← ep26]; exact (own_u16 i4 (by have := r_i4; omega)).symm
    subst hzp26
    refine r_static (argsL := [.int i4]) (rest := []) (W := 0) H 64 d_j52_11_61 (tw117 hw) (tw118 hw) (tw119 hw) (tw120 hw) (lenOf pd_19 rfl) (rm_isHighSurrogate_50 hw Ts i4 h0 f Zf Z0 r_i4) ?_
    rintro _ _ ⟨p28, rfl, ep28, rp28, rfl⟩
    refine r_ifeq H 44 67 d_j52_11_64 (fun c30 => ?_) (fun c30 => ?_)
    ·
     refine r_iload H 46 d_j52_11_44 ?_
     refine r_iloadN H 47 d_j52_11_46 ?_
     refine r_iconst H 48 1 d_j52_11_47 ?_
     refine r_isub H 49 2 d_j52_11_48 ?_
     refine r_icmpgeT H 88 d_j52_11_49 (by decide) (by decide) (by decide) ?_
     refine r_iload H 90 d_j52_11_88 ?_
     subst ep22 ep28
     exact r_ireturn H d_j52_11_90 (⟨_, rfl, rfl, (by unfold fn_codePointCount_55; rw [if_neg (by decide), if_neg (by decide), if_neg (by decide), if_pos rfl, if_pos rfl, if_pos c24, if_pos c30]), (by decide)⟩)
    ·
     refine r_aloadN H 68 d_j52_11_67 ?_
     refine r_iload H 70 d_j52_11_68 ?_
     refine r_static (argsL := [.ref a1, .int 2]) (rest := []) (W := 0) H 73 d_j52_11_70 (tw58 hw) (tw59 hw) (tw36 hw) (tw60 hw) (lenOf pd_8 rfl) (rm_getChar_16 hw Ts a1 (cL8 i3) (cH8 i3) (cL8 i4) (cH8 i4) (cL8 i5) (cH8 i5) (cL8 i6) (cH8 i6) c1 h0 f Zf Z0 A_a1 S__assertionsDisabled S_HI_BYTE_SHIFT S_LO_BYTE_SHIFT) ?_
     rintro _ _ ⟨p33, rfl, ep33, rp33, rfl⟩
     have hzp33 : i5 = p33 := by rw [← ep33]; exact (own_u16 i5 (by have := r_i5; omega)).symm
     subst hzp33
     refine r_static (argsL := [.int i5]) (rest := []) (W := 0) H 76 d_j52_11_73 (tw126 hw) (tw127 hw) (tw119 hw) (tw128 hw) (lenOf pd_19 rfl) (rm_isLowSurrogate_51 hw Ts i5 h0 f Zf Z0 r_i5) ?_
     rintro _ _ ⟨p35, rfl, ep35, rp35, rfl⟩
     refine r_ifeq H 44 79 d_j52_11_76 (fun c37 => ?_) (fun c37 => ?_)
     ·
      refine r_iload H 46 d_j52_11_44 ?_
      refine r_iloadN H 47 d_j52_11_46 ?_
      refine r_iconst H 48 1 d_j52_11_47 ?_
      refine r_isub H 49 2 d_j52_11_48 ?_
      refine r_icmpgeT H 88 d_j52_11_49 (by decide) (by decide) (by decide) ?_
      refine r_iload H 90 d_j52_11_88 ?_
      subst ep22 ep28 ep35
      exact r_ireturn H d_j52_11_90 (⟨_, rfl, rfl, (by unfold fn_codePointCount_55; rw [if_neg (by decide), if_neg (by decide), if_neg (by decide), if_pos rfl, if_pos rfl, if_pos c24, if_neg c30, if_pos c37]), (by decide)⟩)
     ·
      refine r_iinc H 82 #[vR a1, vI 0, vI 3, vI 0, vI 2, vI 2] 2 d_j52_11_79 ?_
      refine r_iinc H 85 #[vR a1, vI 0, vI 3, vI 0, vI 2, vI 3] 3 d_j52_11_82 ?_
      refine r_goto H 44 d_j52_11_85 ?_
      refine r_iload H 46 d_j52_11_44 ?_
      refine r_iloadN H 47 d_j52_11_46 ?_
      refine r_iconst H 48 1 d_j52_11_47 ?_
      refine r_isub H 49 2 d_j52_11_48 ?_
      refine r_icmpgeT H 88 d_j52_11_49 (by decide) (by decide) (by decide) ?_
      refine r_iload H 90 d_j52_11_88 ?_
      subst ep22 ep28 ep35
      exact r_ireturn H d_j52_11_90 (⟨_, rfl, rfl, (by unfold fn_codePointCount_55; rw [if_neg (by decide), if_neg (by decide), if_neg (by decide), if_pos rfl, if_pos rfl, if_pos c24, if_neg c30, if_neg c37]), (by decide)⟩)
   ·
    refine r_aloadN H 68 d_j52_11_67 ?_
    refine r_iload H 70 d_j52_11_68 ?_
    refine r_static (argsL := [.ref a1, .int 1]) (rest := []) (W := 0) H 73 d_j52_11_70 (tw58 hw) (tw59 hw) (tw36 hw) (tw60 hw) (lenOf pd_8 rfl) (rm_getChar_17 hw Ts a1 (cL8 i3) (cH8 i3) (cL8 i4) (cH8 i4) (cL8 i5) (cH8 i5) (cL8 i6) (cH8 i6) c1 h0 f Zf Z0 A_a1 S__assertionsDisabled S_HI_BYTE_SHIFT S_LO_BYTE_SHIFT) ?_
    rintro _ _ ⟨p41, rfl, ep41, rp41, rfl⟩
    have hzp41 : i4 = p41 := by rw [← ep41]; exact (own_u16 i4 (by have := r_i4; omega)).symm
    subst hzp41
    refine r_static (argsL := [.int i4]) (rest := []) (W := 0) H 76 d_j52_11_73 (tw126 hw) (tw127 hw) (tw119 hw) (tw128 hw) (lenOf pd_19 rfl) (rm_isLowSurrogate_51 hw Ts i4 h0 f Zf Z0 r_i4) ?_
    rintro _ _ ⟨p43, rfl, ep43, rp43, rfl⟩
    refine r_ifeq H 44 79 d_j52_11_76 (fun c45 => ?_) (fun c45 => ?_)
    ·
     refine r_iload H 46 d_j52_11_44 ?_
     refine r_iloadN H 47 d_j52_11_46 ?_
     refine r_iconst H 48 1 d_j52_11_47 ?_
     refine r_isub H 49 2 d_j52_11_48 ?_
     refine r_icmpgeF H 52 d_j52_11_49 rfl (by decide) ?_
     refine r_aloadN H 53 d_j52_11_52 ?_
     refine r_iload H 55 d_j52_11_53 ?_
     refine r_iinc H 58 #[vR a1, vI 0, vI 3, vI 0, vI 3, vI 2] 2 d_j52_11_55 ?_
     refine r_static (argsL := [.ref a1, .int 1]) (rest := []) (W := 0) H 61 d_j52_11_58 (tw58 hw) (tw59 hw) (tw36 hw) (tw60 hw) (lenOf pd_8 rfl) (rm_getChar_17 hw Ts a1 (cL8 i3) (cH8 i3) (cL8 i4) (cH8 i4) (cL8 i5) (cH8 i5) (cL8 i6) (cH8 i6) c1 h0 f Zf Z0 A_a1 S__assertionsDisabled S_HI_BYTE_SHIFT S_LO_BYTE_SHIFT) ?_
     rintro _ _ ⟨p47, rfl, ep47, rp47, rfl⟩
     have hzp47 : i4 = p47 := by rw [← ep47]; exact (own_u16 i4 (by have := r_i4; omega)).symm
     subst hzp47
     refine r_static (argsL := [.int i4]) (rest := []) (W := 0) H 64 d_j52_11_61 (tw117 hw) (tw118 hw) (tw119 hw) (tw120 hw) (lenOf pd_19 rfl) (rm_isHighSurrogate_50 hw Ts i4 h0 f Zf Z0 r_i4) ?_
     rintro _ _ ⟨p49, rfl, ep49, rp49, rfl⟩
     refine r_ifeq H 44 67 d_j52_11_64 (fun c51 => ?_) (fun c51 => ?_)
     ·
      refine r_iload H 46 d_j52_11_44 ?_
      refine r_iloadN H 47 d_j52_11_46 ?_
      refine r_iconst H 48 1 d_j52_11_47 ?_
      refine r_isub H 49 2 d_j52_11_48 ?_
      refine r_icmpgeT H 88 d_j52_11_49 (by decide) (by decide) (by decide) ?_
      refine r_iload H 90 d_j52_11_88 ?_
      subst ep22 ep43 ep49
      exact r_ireturn H d_j52_11_90 (⟨_, rfl, rfl, (by unfold fn_codePointCount_55; rw [if_neg (by decide), if_neg (by decide), if_neg (by decide), if_pos rfl, if_pos rfl, if_neg c24, if_pos c45, if_pos c51]), (by decide)⟩)
     ·
      refine r_aloadN H 68 d_j52_11_67 ?_
      refine r_iload H 70 d_j52_11_68 ?_
      refine r_static (argsL := [.ref a1, .int 2]) (rest := []) (W := 0) H 73 d_j52_11_70 (tw58 hw) (tw59 hw) (tw36 hw) (tw60 hw) (lenOf pd_8 rfl) (rm_getChar_16 hw Ts a1 (cL8 i3) (cH8 i3) (cL8 i4) (cH8 i4) (cL8 i5) (cH8 i5) (cL8 i6) (cH8 i6) c1 h0 f Zf Z0 A_a1 S__assertionsDisabled S_HI_BYTE_SHIFT S_LO_BYTE_SHIFT) ?_
      rintro _ _ ⟨p54, rfl, ep54, rp54, rfl⟩
      have hzp54 : i5 = p54 := by rw [← ep54]; exact (own_u16 i5 (by have := r_i5; omega)).symm
      subst hzp54
      refine r_static (argsL := [.int i5]) (rest := []) (W := 0) H 76 d_j52_11_73 (tw126 hw) (tw127 hw) (tw119 hw) (tw128 hw) (lenOf pd_19 rfl) (rm_isLowSurrogate_51 hw Ts i5 h0 f Zf Z0 r_i5) ?_
      rintro _ _ ⟨p56, rfl, ep56, rp56, rfl⟩
      refine r_ifeq H 44 79 d_j52_11_76 (fun c58 => ?_) (fun c58 => ?_)
      ·
       refine r_iload H 46 d_j52_11_44 ?_
       refine r_iloadN H 47 d_j52_11_46 ?_
       refine r_iconst H 48 1 d_j52_11_47 ?_
       refine r_isub H 49 2 d_j52_11_48 ?_
       refine r_icmpgeT H 88 d_j52_11_49 (by decide) (by decide) (by decide) ?_
       refine r_iload H 90 d_j52_11_88 ?_
       subst ep22 ep43 ep49 ep56
       exact r_ireturn H d_j52_11_90 (⟨_, rfl, rfl, (by unfold fn_codePointCount_55; rw [if_neg (by decide), if_neg (by decide), if_neg (by decide), if_pos rfl, if_pos rfl, if_neg c24, if_pos c45, if_neg c51, if_pos c58]), (by decide)⟩)
      ·
       refine r_iinc H 82 #[vR a1, vI 0, vI 3, vI 0, vI 2, vI 2] 2 d_j52_11_79 ?_
       refine r_iinc H 85 #[vR a1, vI 0, vI 3, vI 0, vI 2, vI 3] 3 d_j52_11_82 ?_
       refine r_goto H 44 d_j52_11_85 ?_
       refine r_iload H 46 d_j52_11_44 ?_
       refine r_iloadN H 47 d_j52_11_46 ?_
       refine r_iconst H 48 1 d_j52_11_47 ?_
       refine r_isub H 49 2 d_j52_11_48 ?_
       refine r_icmpgeT H 88 d_j52_11_49 (by decide) (by decide) (by decide) ?_
       refine r_iload H 90 d_j52_11_88 ?_
       subst ep22 ep43 ep49 ep56
       exact r_ireturn H d_j52_11_90 (⟨_, rfl, rfl, (by unfold fn_codePointCount_55; rw [if_neg (by decide), if_neg (by decide), if_neg (by decide), if_pos rfl, if_pos rfl, if_neg c24, if_pos c45, if_neg c51, if_neg c58]), (by decide)⟩)
    ·
     refine r_iinc H 82 #[vR a1, vI 0, vI 3, vI 0, vI 2, vI 1] 2 d_j52_11_79 ?_
     refine r_iinc H 85 #[vR a1, vI 0, vI 3, vI 0, vI 2, vI 2] 2 d_j52_11_82 ?_
     refine r_goto H 44 d_j52_11_85 ?_
     refine r_iload H 46 d_j52_11_44 ?_
     refine r_iloadN H 47 d_j52_11_46 ?_
     refine r_iconst H 48 1 d_j52_11_47 ?_
     refine r_isub H 49 2 d_j52_11_48 ?_
     refine r_icmpgeT H 88 d_j52_11_49 (by decide) (by decide) (by decide) ?_
     refine r_iload H 90 d_j52_11_88 ?_
     subst ep22 ep43
     exact r_ireturn H d_j52_11_90 (⟨_, rfl, rfl, (by unfold fn_codePointCount_55; rw [if_neg (by decide), if_neg (by decide), if_neg (by decide), if_pos rfl, if_pos rfl, if_neg c24, if_neg c45]), (by decide)⟩)
  ·
   subst c19
   refine r_isub H 22 2 d_j52_11_21 ?_
   refine r_istore H 24 #[vR a1, vI 1, vI 3, vI 0, vI 2, .unset] d_j52_11_22 ?_
   refine r_iloadN H 25 d_j52_11_24 ?_
   refine r_istore H 27 #[vR a1, vI 1, vI 3, vI 0, vI 2, vI 1] d_j52_11_25 ?_
   refine r_iloadN H 28 d_j52_11_27 ?_
   refine r_ifeqT H 44 d_j52_11_28 (by decide) (by decide) (by decide) ?_
   refine r_iload H 46 d_j52_11_44 ?_
   refine r_iloadN H 47 d_j52_11_46 ?_
   refine r_iconst H 48 1 d_j52_11_47 ?_
   refine r_isub H 49 2 d_j52_11_48 ?_
   refine r_icmpgeF H 52 d_j52_11_49 rfl (by decide) ?_
   refine r_aloadN H 53 d_j52_11_52 ?_
   refine r_iload H 55 d_j52_11_53 ?_
   refine r_iinc H 58 #[vR a1, vI 1, vI 3, vI 0, vI 2, vI 2] 2 d_j52_11_55 ?_
   refine r_static (argsL := [.ref a1, .int 1]) (rest := []) (W := 0) H 61 d_j52_11_58 (tw58 hw) (tw59 hw) (tw36 hw) (tw60 hw) (lenOf pd_8 rfl) (rm_getChar_17 hw Ts a1 (cL8 i3) (cH8 i3) (cL8 i4) (cH8 i4) (cL8 i5) (cH8 i5) (cL8 i6) (cH8 i6) c1 h0 f Zf Z0 A_a1 S__assertionsDisabled S_HI_BYTE_SHIFT S_LO_BYTE_SHIFT) ?_
   rintro _ _ ⟨p62, rfl, ep62, rp62, rfl⟩
   have hzp62 : i4 = p62 := by rw [← ep62]; exact (own_u16 i4 (by have := r_i4; omega)).symm
   subst hzp62
   refine r_static (argsL := [.int i4]) (rest := []) (W := 0) H 64 d_j52_11_61 (tw117 hw) (tw118 hw) (tw119 hw) (tw120 hw) (lenOf pd_19 rfl) (rm_isHighSurrogate_50 hw Ts i4 h0 f Zf Z0 r_i4) ?_
   rintro _ _ ⟨p64, rfl, ep64, rp64, rfl⟩
   refine r_ifeq H 44 67 d_j52_11_64 (fun c66 => ?_) (fun c66 => ?_)
   ·
    refine r_iload H 46 d_j52_11_44 ?_
    refine r_iloadN H 47 d_j52_11_46 ?_
    refine r_iconst H 48 1 d_j52_11_47 ?_
    refine r_isub H 49 2 d_j52_11_48 ?_
    refine r_icmpgeT H 88 d_j52_11_49 (by decide) (by decide) (by decide) ?_
    refine r_iload H 90 d_j52_11_88 ?_
    subst ep64
    exact r_ireturn H d_j52_11_90 (⟨_, rfl, rfl, (by unfold fn_codePointCount_55; rw [if_neg (by decide), if_neg (by decide), if_neg (by decide), if_pos rfl, if_neg (by decide), if_pos rfl, if_pos c66]), (by decide)⟩)
   ·
    refine r_aloadN H 68 d_j52_11_67 ?_
    refine r_iload H 70 d_j52_11_68 ?_
    refine r_static (argsL := [.ref a1, .int 2]) (rest := []) (W := 0) H 73 d_j52_11_70 (tw58 hw) (tw59 hw) (tw36 hw) (tw60 hw) (lenOf pd_8 rfl) (rm_getChar_16 hw Ts a1 (cL8 i3) (cH8 i3) (cL8 i4) (cH8 i4) (cL8 i5) (cH8 i5) (cL8 i6) (cH8 i6) c1 h0 f Zf Z0 A_a1 S__assertionsDisabled S_HI_BYTE_SHIFT S_LO_BYTE_SHIFT) ?_
    rintro _ _ ⟨p69, rfl, ep69, rp69, rfl⟩
    have hzp69 : i5 = p69 := by rw [← ep69]; exact (own_u16 i5 (by have := r_i5; omega)).symm
    subst hzp69
    refine r_static (argsL := [.int i5]) (rest := []) (W := 0) H 76 d_j52_11_73 (tw126 hw) (tw127 hw) (tw119 hw) (tw128 hw) (lenOf pd_19 rfl) (rm_isLowSurrogate_51 hw Ts i5 h0 f Zf Z0 r_i5) ?_
    rintro _ _ ⟨p71, rfl, ep71, rp71, rfl⟩
    refine r_ifeq H 44 79 d_j52_11_76 (fun c73 => ?_) (fun c73 => ?_)
    ·
     refine r_iload H 46 d_j52_11_44 ?_
     refine r_iloadN H 47 d_j52_11_46 ?_
     refine r_iconst H 48 1 d_j52_11_47 ?_
     refine r_isub H 49 2 d_j52_11_48 ?_
     refine r_icmpgeT H 88 d_j52_11_49 (by decide) (by decide) (by decide) ?_
     refine r_iload H 90 d_j52_11_88 ?_
     subst ep64 ep71
     exact r_ireturn H d_j52_11_90 (⟨_, rfl, rfl, (by unfold fn_codePointCount_55; rw [if_neg (by decide), if_neg (by decide), if_neg (by decide), if_pos rfl, if_neg (by decide), if_pos rfl, if_neg c66, if_pos c73]), (by decide)⟩)
    ·
     refine r_iinc H 82 #[vR a1, vI 1, vI 3, vI 0, vI 1, vI 2] 1 d_j52_11_79 ?_
     refine r_iinc H 85 #[vR a1, vI 1, vI 3, vI 0, vI 1, vI 3] 3 d_j52_11_82 ?_
     refine r_goto H 44 d_j52_11_85 ?_
     refine r_iload H 46 d_j52_11_44 ?_
     refine r_iloadN H 47 d_j52_11_46 ?_
     refine r_iconst H 48 1 d_j52_11_47 ?_
     refine r_isub H 49 2 d_j52_11_48 ?_
     refine r_icmpgeT H 88 d_j52_11_49 (by decide) (by decide) (by decide) ?_
     refine r_iload H 90 d_j52_11_88 ?_
     subst ep64 ep71
     exact r_ireturn H d_j52_11_90 (⟨_, rfl, rfl, (by unfold fn_codePointCount_55; rw [if_neg (by decide), if_neg (by decide), if_neg (by decide), if_pos rfl, if_neg (by decide), if_pos rfl, if_neg c66, if_neg c73]), (by decide)⟩)
  ·
   subst c19
   refine r_isub H 22 1 d_j52_11_21 ?_
   refine r_istore H 24 #[vR a1, vI 2, vI 3, vI 0, vI 1, .unset] d_j52_11_22 ?_
   refine r_iloadN H 25 d_j52_11_24 ?_
   refine r_istore H 27 #[vR a1, vI 2, vI 3, vI 0, vI 1, vI 2] d_j52_11_25 ?_
   refine r_iloadN H 28 d_j52_11_27 ?_
   refine r_ifeqT H 44 d_j52_11_28 (by decide) (by decide) (by decide) ?_
   refine r_iload H 46 d_j52_11_44 ?_
   refine r_iloadN H 47 d_j52_11_46 ?_
   refine r_iconst H 48 1 d_j52_11_47 ?_
   refine r_isub H 49 2 d_j52_11_48 ?_
   refine r_icmpgeT H 88 d_j52_11_49 (by decide) (by decide) (by decide) ?_
   refine r_iload H 90 d_j52_11_88 ?_
   exact r_ireturn H d_j52_11_90 (⟨_, rfl, rfl, (by unfold fn_codePointCount_55; rw [if_neg (by decide), if_neg (by decide), if_neg (by decide), if_pos rfl, if_neg (by decide), if_neg (by decide), if_pos rfl]), (by decide)⟩)
  ·
   subst c19
   refine r_isub H 22 0 d_j52_11_21 ?_
   refine r_istore H 24 #[vR a1, vI 3, vI 3, vI 0, vI 0, .unset] d_j52_11_22 ?_
   refine r_iloadN H 25 d_j52_11_24 ?_
   refine r_istore H 27 #[vR a1, vI 3, vI 3, vI 0, vI 0, vI 3] d_j52_11_25 ?_
   refine r_iloadN H 28 d_j52_11_27 ?_
   refine r_ifeqT H 44 d_j52_11_28 (by decide) (by decide) (by decide) ?_
   refine r_iload H 46 d_j52_11_44 ?_
   refine r_iloadN H 47 d_j52_11_46 ?_
   refine r_iconst H 48 1 d_j52_11_47 ?_
   refine r_isub H 49 2 d_j52_11_48 ?_
   refine r_icmpgeT H 88 d_j52_11_49 (by decide) (by decide) (by decide) ?_
   refine r_iload H 90 d_j52_11_88 ?_
   exact r_ireturn H d_j52_11_90 (⟨_, rfl, rfl, (by unfold fn_codePointCount_55; rw [if_neg (by decide), if_neg (by decide), if_neg (by decide), if_pos rfl, if_neg (by decide), if_neg (by decide), if_neg (by decide)]), (by decide)⟩)
 ·
  subst c1
  refine r_iloadN H 21 d_j52_11_20 ?_
  have c76 : i1 = (0 : Int32) ∨ i1 = (1 : Int32) ∨ i1 = (2 : Int32) ∨ i1 = (3 : Int32) ∨ i1 = (4 : Int32) := by
   have := r_i1; have := l_i1_i2; have : (4 : Int32).toInt = 4 := (by decide); simp only [← Int32.toInt_inj]; have : (0 : Int32).toInt = 0 := (by decide); have : (1 : Int32).toInt = 1 := (by decide); have : (2 : Int32).toInt = 2 := (by decide); have : (3 : Int32).toInt = 3 := (by decide); have : (4 : Int32).toInt = 4 := (by decide); omega
  rcases c76 with c76 | c76 | c76 | c76 | c76
  ·
   subst c76
   refine r_isub H 22 4 d_j52_11_21 ?_
   refine r_istore H 24 #[vR a1, vI 0, vI 4, vI 0, vI 4, .unset] d_j52_11_22 ?_
   refine r_iloadN H 25 d_j52_11_24 ?_
   refine r_istore H 27 #[vR a1, vI 0, vI 4, vI 0, vI 4, vI 0] d_j52_11_25 ?_
   refine r_iloadN H 28 d_j52_11_27 ?_
   refine r_ifeqT H 44 d_j52_11_28 (by decide) (by decide) (by decide) ?_
   refine r_iload H 46 d_j52_11_44 ?_
   refine r_iloadN H 47 d_j52_11_46 ?_
   refine r_iconst H 48 1 d_j52_11_47 ?_
   refine r_isub H 49 3 d_j52_11_48 ?_
   refine r_icmpgeF H 52 d_j52_11_49 rfl (by decide) ?_
   refine r_aloadN H 53 d_j52_11_52 ?_
   refine r_iload H 55 d_j52_11_53 ?_
   refine r_iinc H 58 #[vR a1, vI 0, vI 4, vI 0, vI 4, vI 1] 1 d_j52_11_55 ?_
   refine r_static (argsL := [.ref a1, .int 0]) (rest := []) (W := 0) H 61 d_j52_11_58 (tw58 hw) (tw59 hw) (tw36 hw) (tw60 hw) (lenOf pd_8 rfl) (rm_getChar_18 hw Ts a1 (cL8 i3) (cH8 i3) (cL8 i4) (cH8 i4) (cL8 i5) (cH8 i5) (cL8 i6) (cH8 i6) c1 h0 f Zf Z0 A_a1 S__assertionsDisabled S_HI_BYTE_SHIFT S_LO_BYTE_SHIFT) ?_
   rintro _ _ ⟨p77, rfl, ep77, rp77, rfl⟩
   have hzp77 : i3 = p77 := by rw [← ep77]; exact (own_u16 i3 (by have := r_i3; omega)).symm
   subst hzp77
   refine r_static (argsL := [.int i3]) (rest := []) (W := 0) H 64 d_j52_11_61 (tw117 hw) (tw118 hw) (tw119 hw) (tw120 hw) (lenOf pd_19 rfl) (rm_isHighSurrogate_50 hw Ts i3 h0 f Zf Z0 r_i3) ?_
   rintro _ _ ⟨p79, rfl, ep79, rp79, rfl⟩
   refine r_ifeq H 44 67 d_j52_11_64 (fun c81 => ?_) (fun c81 => ?_)
   ·
    refine r_iload H 46 d_j52_11_44 ?_
    refine r_iloadN H 47 d_j52_11_46 ?_
    refine r_iconst H 48 1 d_j52_11_47 ?_
    refine r_isub H 49 3 d_j52_11_48 ?_
    refine r_icmpgeF H 52 d_j52_11_49 rfl (by decide) ?_
    refine r_aloadN H 53 d_j52_11_52 ?_
    refine r_iload H 55 d_j52_11_53 ?_
    refine r_iinc H 58 #[vR a1, vI 0, vI 4, vI 0, vI 4, vI 2] 2 d_j52_11_55 ?_
    refine r_static (argsL := [.ref a1, .int 1]) (rest := []) (W := 0) H 61 d_j52_11_58 (tw58 hw) (tw59 hw) (tw36 hw) (tw60 hw) (lenOf pd_8 rfl) (rm_getChar_17 hw Ts a1 (cL8 i3) (cH8 i3) (cL8 i4) (cH8 i4) (cL8 i5) (cH8 i5) (cL8 i6) (cH8 i6) c1 h0 f Zf Z0 A_a1 S__assertionsDisabled S_HI_BYTE_SHIFT S_LO_BYTE_SHIFT) ?_
    rintro _ _ ⟨p83, rfl, ep83, rp83, rfl⟩
    have hzp83 : i4 = p83 := by rw [← ep83]; exact (own_u16 i4 (by have := r_i4; omega)).symm
    subst hzp83
    refine r_static (argsL := [.int i4]) (rest := []) (W := 0) H 64 d_j52_11_61 (tw117 hw) (tw118 hw) (tw119 hw) (tw120 hw) (lenOf pd_19 rfl) (rm_isHighSurrogate_50 hw Ts i4 h0 f Zf Z0 r_i4) ?_
    rintro _ _ ⟨p85, rfl, ep85, rp85, rfl⟩
    refine r_ifeq H 44 67 d_j52_11_64 (fun c87 => ?_) (fun c87 => ?_)
    ·
     refine r_iload H 46 d_j52_11_44 ?_
     refine r_iloadN H 47 d_j52_11_46 ?_
     refine r_iconst H 48 1 d_j52_11_47 ?_
     refine r_isub H 49 3 d_j52_11_48 ?_
     refine r_icmpgeF H 52 d_j52_11_49 rfl (by decide) ?_
     refine r_aloadN H 53 d_j52_11_52 ?_
     refine r_iload H 55 d_j52_11_53 ?_
     refine r_iinc H 58 #[vR a1, vI 0, vI 4, vI 0, vI 4, vI 3] 3 d_j52_11_55 ?_
     refine r_static (argsL := [.ref a1, .int 2]) (rest := []) (W := 0) H 61 d_j52_11_58 (tw58 hw) (tw59 hw) (tw36 hw) (tw60 hw) (lenOf pd_8 rfl) (rm_getChar_16 hw Ts a1 (cL8 i3) (cH8 i3) (cL8 i4) (cH8 i4) (cL8 i5) (cH8 i5) (cL8 i6) (cH8 i6) c1 h0 f Zf Z0 A_a1 S__assertionsDisabled S_HI_BYTE_SHIFT S_LO_BYTE_SHIFT) ?_
     rintro _ _ ⟨p89, rfl, ep89, rp89, rfl⟩
     have hzp89 : i5 = p89 := by rw [← ep89]; exact (own_u16 i5 (by have := r_i5; omega)).symm
     subst hzp89
     refine r_static (argsL := [.int i5]) (rest := []) (W := 0) H 64 d_j52_11_61 (tw117 hw) (tw118 hw) (tw119 hw) (tw120 hw) (lenOf pd_19 rfl) (rm_isHighSurrogate_50 hw Ts i5 h0 f Zf Z0 r_i5) ?_
     rintro _ _ ⟨p91, rfl, ep91, rp91, rfl⟩
     refine r_ifeq H 44 67 d_j52_11_64 (fun c93 => ?_) (fun c93 => ?_)
     ·
      refine r_iload H 46 d_j52_11_44 ?_
      refine r_iloadN H 47 d_j52_11_46 ?_
      refine r_iconst H 48 1 d_j52_11_47 ?_
      refine r_isub H 49 3 d_j52_11_48 ?_
      refine r_icmpgeT H 88 d_j52_11_49 (by decide) (by decide) (by decide) ?_
      refine r_iload H 90 d_j52_11_88 ?_
      subst ep79 ep85 ep91
      exact r_ireturn H d_j52_11_90 (⟨_, rfl, rfl, (by unfold fn_codePointCount_55; rw [if_neg (by decide), if_neg (by decide), if_neg (by decide), if_neg (by decide), if_pos rfl, if_pos c81, if_pos c87, if_pos c93]), (by decide)⟩)
     ·
      refine r_aloadN H 68 d_j52_11_67 ?_
      refine r_iload H 70 d_j52_11_68 ?_
      refine r_static (argsL := [.ref a1, .int 3]) (rest := []) (W := 0) H 73 d_j52_11_70 (tw58 hw) (tw59 hw) (tw36 hw) (tw60 hw) (lenOf pd_8 rfl) (rm_getChar_15 hw Ts a1 (cL8 i3) (cH8 i3) (cL8 i4) (cH8 i4) (cL8 i5) (cH8 i5) (cL8 i6) (cH8 i6) c1 h0 f Zf Z0 A_a1 S__assertionsDisabled S_HI_BYTE_SHIFT S_LO_BYTE_SHIFT) ?_
      rintro _ _ ⟨p96, rfl, ep96, rp96, rfl⟩
      have hzp96 : i6 = p96 := by rw [← ep96]; exact (own_u16 i6 (by have := r_i6; omega)).symm
      subst hzp96
      refine r_static (argsL := [.int i6]) (rest := []) (W := 0) H 76 d_j52_11_73 (tw126 hw) (tw127 hw) (tw119 hw) (tw128 hw) (lenOf pd_19 rfl) (rm_isLowSurrogate_51 hw Ts i6 h0 f Zf Z0 r_i6) ?_
      rintro _ _ ⟨p98, rfl, ep98, rp98, rfl⟩
      refine r_ifeq H 44 79 d_j52_11_76 (fun c100 => ?_) (fun c100 => ?_)
      ·
       refine r_iload H 46 d_j52_11_44 ?_
       refine r_iloadN H 47 d_j52_11_46 ?_
       refine r_iconst H 48 1 d_j52_11_47 ?_
       refine r_isub H 49 3 d_j52_11_48 ?_
       refine r_icmpgeT H 88 d_j52_11_49 (by decide) (by decide) (by decide) ?_
       refine r_iload H 90 d_j52_11_88 ?_
       subst ep79 ep85 ep91 ep98
       exact r_ireturn H d_j52_11_90 (⟨_, rfl, rfl, (by unfold fn_codePointCount_55; rw [if_neg (by decide), if_neg (by decide), if_neg (by decide), if_neg (by decide), if_pos rfl, if_pos c81, if_pos c87, if_neg c93, if_pos c100]), (by decide)⟩)
      ·
       refine r_iinc H 82 #[vR a1, vI 0, vI 4, vI 0, vI 3, vI 3] 3 d_j52_11_79 ?_
       refine r_iinc H 85 #[vR a1, vI 0, vI 4, vI 0, vI 3, vI 4] 4 d_j52_11_82 ?_
       refine r_goto H 44 d_j52_11_85 ?_
       refine r_iload H 46 d_j52_11_44 ?_
       refine r_iloadN H 47 d_j52_11_46 ?_
       refine r_iconst H 48 1 d_j52_11_47 ?_
       refine r_isub H 49 3 d_j52_11_48 ?_
       refine r_icmpgeT H 88 d_j52_11_49 (by decide) (by decide) (by decide) ?_
       refine r_iload H 90 d_j52_11_88 ?_
       subst ep79 ep85 ep91 ep98
       exact r_ireturn H d_j52_11_90 (⟨_, rfl, rfl, (by unfold fn_codePointCount_55; rw [if_neg (by decide), if_neg (by decide), if_neg (by decide), if_neg (by decide), if_pos rfl, if_pos c81, if_pos c87, if_neg c93, if_neg c100]), (by decide)⟩)
    ·
     refine r_aloadN H 68 d_j52_11_67 ?_
     refine r_iload H 70 d_j52_11_68 ?_
     refine r_static (argsL := [.ref a1, .int 2]) (rest := []) (W := 0) H 73 d_j52_11_70 (tw58 hw) (tw59 hw) (tw36 hw) (tw60 hw) (lenOf pd_8 rfl) (rm_getChar_16 hw Ts a1 (cL8 i3) (cH8 i3) (cL8 i4) (cH8 i4) (cL8 i5) (cH8 i5) (cL8 i6) (cH8 i6) c1 h0 f Zf Z0 A_a1 S__assertionsDisabled S_HI_BYTE_SHIFT S_LO_BYTE_SHIFT) ?_
     rintro _ _ ⟨p104, rfl, ep104, rp104, rfl⟩
     have hzp104 : i5 = p104 := by rw [← ep104]; exact (own_u16 i5 (by have := r_i5; omega)).symm
     subst hzp104
     refine r_static (argsL := [.int i5]) (rest := []) (W := 0) H 76 d_j52_11_73 (tw126 hw) (tw127 hw) (tw119 hw) (tw128 hw) (lenOf pd_19 rfl) (rm_isLowSurrogate_51 hw Ts i5 h0 f Zf Z0 r_i5) ?_
     rintro _ _ ⟨p106, rfl, ep106, rp106, rfl⟩
     refine r_ifeq H 44 79 d_j52_11_76 (fun c108 => ?_) (fun c108 => ?_)
     ·
      refine r_iload H 46 d_j52_11_44 ?_
      refine r_iloadN H 47 d_j52_11_46 ?_
      refine r_iconst H 48 1 d_j52_11_47 ?_
      refine r_isub H 49 3 d_j52_11_48 ?_
      refine r_icmpgeF H 52 d_j52_11_49 rfl (by decide) ?_
      refine r_aloadN H 53 d_j52_11_52 ?_
      refine r_iload H 55 d_j52_11_53 ?_
      refine r_iinc H 58 #[vR a1, vI 0, vI 4, vI 0, vI 4, vI 3] 3 d_j52_11_55 ?_
      refine r_static (argsL := [.ref a1, .int 2]) (rest := []) (W := 0) H 61 d_j52_11_58 (tw58 hw) (tw59 hw) (tw36 hw) (tw60 hw) (lenOf pd_8 rfl) (rm_getChar_16 hw Ts a1 (cL8 i3) (cH8 i3) (cL8 i4) (cH8 i4) (cL8 i5) (cH8 i5) (cL8 i6) (cH8 i6) c1 h0 f Zf Z0 A_a1 S__assertionsDisabled S_HI_BYTE_SHIFT S_LO_BYTE_SHIFT) ?_
      rintro _ _ ⟨p110, rfl, ep110, rp110, rfl⟩
      have hzp110 : i5 = p110 := by rw [← ep110]; exact (own_u16 i5 (by have := r_i5; omega)).symm
      subst hzp110
      refine r_static (argsL := [.int i5]) (rest := []) (W := 0) H 64 d_j52_11_61 (tw117 hw) (tw118 hw) (tw119 hw) (tw120 hw) (lenOf pd_19 rfl) (rm_isHighSurrogate_50 hw Ts i5 h0 f Zf Z0 r_i5) ?_
      rintro _ _ ⟨p112, rfl, ep112, rp112, rfl⟩
      refine r_ifeq H 44 67 d_j52_11_64 (fun c114 => ?_) (fun c114 => ?_)
      ·
       refine r_iload H 46 d_j52_11_44 ?_
       refine r_iloadN H 47 d_j52_11_46 ?_
       refine r_iconst H 48 1 d_j52_11_47 ?_
       refine r_isub H 49 3 d_j52_11_48 ?_
       refine r_icmpgeT H 88 d_j52_11_49 (by decide) (by decide) (by decide) ?_
       refine r_iload H 90 d_j52_11_88 ?_
       subst ep79 ep85 ep106 ep112
       exact r_ireturn H d_j52_11_90 (⟨_, rfl, rfl, (by unfold fn_codePointCount_55; rw [if_neg (by decide), if_neg (by decide), if_neg (by decide), if_neg (by decide), if_pos rfl, if_pos c81, if_neg c87, if_pos c108, if_pos c114]), (by decide)⟩)
      ·
       refine r_aloadN H 68 d_j52_11_67 ?_
       refine r_iload H 70 d_j52_11_68 ?_
       refine r_static (argsL := [.ref a1, .int 3]) (rest := []) (W := 0) H 73 d_j52_11_70 (tw58 hw) (tw59 hw) (tw36 hw) (tw60 hw) (lenOf pd_8 rfl) (rm_getChar_15 hw Ts a1 (cL8 i3) (cH8 i3) (cL8 i4) (cH8 i4) (cL8 i5) (cH8 i5) (cL8 i6) (cH8 i6) c1 h0 f Zf Z0 A_a1 S__assertionsDisabled S_HI_BYTE_SHIFT S_LO_BYTE_SHIFT) ?_
       rintro _ _ ⟨p117, rfl, ep117, rp117, rfl⟩
       have hzp117 : i6 = p117 := by rw [← ep117]; exact (own_u16 i6 (by have := r_i6; omega)).symm
       subst hzp117
       refine r_static (argsL := [.int i6]) (rest := []) (W := 0) H 76 d_j52_11_73 (tw126 hw) (tw127 hw) (tw119 hw) (tw128 hw) (lenOf pd_19 rfl) (rm_isLowSurrogate_51 hw Ts i6 h0 f Zf Z0 r_i6) ?_
       rintro _ _ ⟨p119, rfl, ep119, rp119, rfl⟩
       refine r_ifeq H 44 79 d_j52_11_76 (fun c121 => ?_) (fun c121 => ?_)
       ·
        refine r_iload H 46 d_j52_11_44 ?_
        refine r_iloadN H 47 d_j52_11_46 ?_
        refine r_iconst H 48 1 d_j52_11_47 ?_
        refine r_isub H 49 3 d_j52_11_48 ?_
        refine r_icmpgeT H 88 d_j52_11_49 (by decide) (by decide) (by decide) ?_
        refine r_iload H 90 d_j52_11_88 ?_
        subst ep79 ep85 ep106 ep112 ep119
        exact r_ireturn H d_j52_11_90 (⟨_, rfl, rfl, (by unfold fn_codePointCount_55; rw [if_neg (by decide), if_neg (by decide), if_neg (by decide), if_neg (by decide), if_pos rfl, if_pos c81, if_neg c87, if_pos c108, if_neg c114, if_pos c121]), (by decide)⟩)
       ·
        refine r_iinc H 82 #[vR a1, vI 0, vI 4, vI 0, vI 3, vI 3] 3 d_j52_11_79 ?_
        refine r_iinc H 85 #[vR a1, vI 0, vI 4, vI 0, vI 3, vI 4] 4 d_j52_11_82 ?_
        refine r_goto H 44 d_j52_11_85 ?_
        refine r_iload H 46 d_j52_11_44 ?_
        refine r_iloadN H 47 d_j52_11_46 ?_
        refine r_iconst H 48 1 d_j52_11_47 ?_
        refine r_isub H 49 3 d_j52_11_48 ?_
        refine r_icmpgeT H 88 d_j52_11_49 (by decide) (by decide) (by decide) ?_
        refine r_iload H 90 d_j52_11_88 ?_
        subst ep79 ep85 ep106 ep112 ep119
        exact r_ireturn H d_j52_11_90 (⟨_, rfl, rfl, (by unfold fn_codePointCount_55; rw [if_neg (by decide), if_neg (by decide), if_neg (by decide), if_neg (by decide), if_pos rfl, if_pos c81, if_neg c87, if_pos c108, if_neg c114, if_neg c121]), (by decide)⟩)
     ·
      refine r_iinc H 82 #[vR a1, vI 0, vI 4, vI 0, vI 3, vI 2] 3 d_j52_11_79 ?_
      refine r_iinc H 85 #[vR a1, vI 0, vI 4, vI 0, vI 3, vI 3] 3 d_j52_11_82 ?_
      refine r_goto H 44 d_j52_11_85 ?_
      refine r_iload H 46 d_j52_11_44 ?_
      refine r_iloadN H 47 d_j52_11_46 ?_
      refine r_iconst H 48 1 d_j52_11_47 ?_
      refine r_isub H 49 3 d_j52_11_48 ?_
      refine r_icmpgeT H 88 d_j52_11_49 (by decide) (by decide) (by decide) ?_
      refine r_iload H 90 d_j52_11_88 ?_
      subst ep79 ep85 ep106
      exact r_ireturn H d_j52_11_90 (⟨_, rfl, rfl, (by unfold fn_codePointCount_55; rw [if_neg (by decide), if_neg (by decide), if_neg (by decide), if_neg (by decide), if_pos rfl, if_pos c81, if_neg c87, if_neg c108]), (by decide)⟩)
   ·
    refine r_aloadN H 68 d_j52_11_67 ?_
    refine r_iload H 70 d_j52_11_68 ?_
    refine r_static (argsL := [.ref a1, .int 1]) (rest := []) (W := 0) H 73 d_j52_11_70 (tw58 hw) (tw59 hw) (tw36 hw) (tw60 hw) (lenOf pd_8 rfl) (rm_getChar_17 hw Ts a1 (cL8 i3) (cH8 i3) (cL8 i4) (cH8 i4) (cL8 i5) (cH8 i5) (cL8 i6) (cH8 i6) c1 h0 f Zf Z0 A_a1 S__assertionsDisabled S_HI_BYTE_SHIFT S_LO_BYTE_SHIFT) ?_
    rintro _ _ ⟨p126, rfl, ep126, rp126, rfl⟩
    have hzp126 : i4 = p126 := by rw [← ep126]; exact (own_u16 i4 (by have := r_i4; omega)).symm
    subst hzp126
    refine r_static (argsL := [.int i4]) (rest := []) (W := 0) H 76 d_j52_11_73 (tw126 hw) (tw127 hw) (tw119 hw) (tw128 hw) (lenOf pd_19 rfl) (rm_isLowSurrogate_51 hw Ts i4 h0 f Zf Z0 r_i4) ?_
    rintro _ _ ⟨p128, rfl, ep128, rp128, rfl⟩
    refine r_ifeq H 44 79 d_j52_11_76 (fun c130 => ?_) (fun c130 => ?_)
    ·
     refine r_iload H 46 d_j52_11_44 ?_
     refine r_iloadN H 47 d_j52_11_46 ?_
     refine r_iconst H 48 1 d_j52_11_47 ?_
     refine r_isub H 49 3 d_j52_11_48 ?_
     refine r_icmpgeF H 52 d_j52_11_49 rfl (by decide) ?_
     refine r_aloadN H 53 d_j52_11_52 ?_
     refine r_iload H 55 d_j52_11_53 ?_
     refine r_iinc H 58 #[vR a1, vI 0, vI 4, vI 0, vI 4, vI 2] 2 d_j52_11_55 ?_
     refine r_static (argsL := [.ref a1, .int 1]) (rest := []) (W := 0) H 61 d_j52_11_58 (tw58 hw) (tw59 hw) (tw36 hw) (tw60 hw) (lenOf pd_8 rfl) (rm_getChar_17 hw Ts a1 (cL8 i3) (cH8 i3) (cL8 i4) (cH8 i4) (cL8 i5) (cH8 i5) (cL8 i6) (cH8 i6) c1 h0 f Zf Z0 A_a1 S__assertionsDisabled S_HI_BYTE_SHIFT S_LO_BYTE_SHIFT) ?_
     rintro _ _ ⟨p132, rfl, ep132, rp132, rfl⟩
     have hzp132 : i4 = p132 := by rw [← ep132]; exact (own_u16 i4 (by have := r_i4; omega)).symm
     subst hzp132
     refine r_static (argsL := [.int i4]) (rest := []) (W := 0) H 64 d_j52_11_61 (tw117 hw) (tw118 hw) (tw119 hw) (tw120 hw) (lenOf pd_19 rfl) (rm_isHighSurrogate_50 hw Ts i4 h0 f Zf Z0 r_i4) ?_
     rintro _ _ ⟨p134, rfl, ep134, rp134, rfl⟩
     refine r_ifeq H 44 67 d_j52_11_64 (fun c136 => ?_) (fun c136 => ?_)
     ·
      refine r_iload H 46 d_j52_11_44 ?_
      refine r_iloadN H 47 d_j52_11_46 ?_
      refine r_iconst H 48 1 d_j52_11_47 ?_
      refine r_isub H 49 3 d_j52_11_48 ?_
      refine r_icmpgeF H 52 d_j52_11_49 rfl (by decide) ?_
      refine r_aloadN H 53 d_j52_11_52 ?_
      refine r_iload H 55 d_j52_11_53 ?_
      refine r_iinc H 58 #[vR a1, vI 0, vI 4, vI 0, vI 4, vI 3] 3 d_j52_11_55 ?_
      refine r_static (argsL := [.ref a1, .int 2]) (rest := []) (W := 0) H 61 d_j52_11_58 (tw58 hw) (tw59 hw) (tw36 hw) (tw60 hw) (lenOf pd_8 rfl) (rm_getChar_16 hw Ts a1 (cL8 i3) (cH8 i3) (cL8 i4) (cH8 i4) (cL8 i5) (cH8 i5) (cL8 i6) (cH8 i6) c1 h0 f Zf Z0 A_a1 S__assertionsDisabled S_HI_BYTE_SHIFT S_LO_BYTE_SHIFT) ?_
      rintro _ _ ⟨p138, rfl, ep138, rp138, rfl⟩
      have hzp138 : i5 = p138 := by rw [← ep138]; exact (own_u16 i5 (by have := r_i5; omega)).symm
      subst hzp138
      refine r_static (argsL := [.int i5]) (rest := []) (W := 0) H 64 d_j52_11_61 (tw117 hw) (tw118 hw) (tw119 hw) (tw120 hw) (lenOf pd_19 rfl) (rm_isHighSurrogate_50 hw Ts i5 h0 f Zf Z0 r_i5) ?_
      rintro _ _ ⟨p140, rfl, ep140, rp140, rfl⟩
      refine r_ifeq H 44 67 d_j52_11_64 (fun c142 => ?_) (fun c142 => ?_)
      ·
       refine r_iload H 46 d_j52_11_44 ?_
       refine r_iloadN H 47 d_j52_11_46 ?_
       refine r_iconst H 48 1 d_j52_11_47 ?_
       refine r_isub H 49 3 d_j52_11_48 ?_
       refine r_icmpgeT H 88 d_j52_11_49 (by decide) (by decide) (by decide) ?_
       refine r_iload H 90 d_j52_11_88 ?_
       subst ep79 ep128 ep134 ep140
       exact r_ireturn H d_j52_11_90 (⟨_, rfl, rfl, (by unfold fn_codePointCount_55; rw [if_neg (by decide), if_neg (by decide), if_neg (by decide), if_neg (by decide), if_pos rfl, if_neg c81, if_pos c130, if_pos c136, if_pos c142]), (by decide)⟩)
      ·
       refine r_aloadN H 68 d_j52_11_67 ?_
       refine r_iload H 70 d_j52_11_68 ?_
       refine r_static (argsL := [.ref a1, .int 3]) (rest := []) (W := 0) H 73 d_j52_11_70 (tw58 hw) (tw59 hw) (tw36 hw) (tw60 hw) (lenOf pd_8 rfl) (rm_getChar_15 hw Ts a1 (cL8 i3) (cH8 i3) (cL8 i4) (cH8 i4) (cL8 i5) (cH8 i5) (cL8 i6) (cH8 i6) c1 h0 f Zf Z0 A_a1 S__assertionsDisabled S_HI_BYTE_SHIFT S_LO_BYTE_SHIFT) ?_
       rintro _ _ ⟨p145, rfl, ep145, rp145, rfl⟩
       have hzp145 : i6 = p145 := by rw [← ep145]; exact (own_u16 i6 (by have := r_i6; omega)).symm
       subst hzp145
       refine r_static (argsL := [.int i6]) (rest := []) (W := 0) H 76 d_j52_11_73 (tw126 hw) (tw127 hw) (tw119 hw) (tw128 hw) (lenOf pd_19 rfl) (rm_isLowSurrogate_51 hw Ts i6 h0 f Zf Z0 r_i6) ?_
       rintro _ _ ⟨p147, rfl, ep147, rp147, rfl⟩
       refine r_ifeq H 44 79 d_j52_11_76 (fun c149 => ?_) (fun c149 => ?_)
       ·
        refine r_iload H 46 d_j52_11_44 ?_
        refine r_iloadN H 47 d_j52_11_46 ?_
        refine r_iconst H 48 1 d_j52_11_47 ?_
        refine r_isub H 49 3 d_j52_11_48 ?_
        refine r_icmpgeT H 88 d_j52_11_49 (by decide) (by decide) (by decide) ?_
        refine r_iload H 90 d_j52_11_88 ?_
        subst ep79 ep128 ep134 ep140 ep147
        exact r_ireturn H d_j52_11_90 (⟨_, rfl, rfl, (by unfold fn_codePointCount_55; rw [if_neg (by decide), if_neg (by decide), if_neg (by decide), if_neg (by decide), if_pos rfl, if_neg c81, if_pos c130, if_pos c136, if_neg c142, if_pos c149]), (by decide)⟩)
       ·
        refine r_iinc H 82 #[vR a1, vI 0, vI 4, vI 0, vI 3, vI 3] 3 d_j52_11_79 ?_
        refine r_iinc H 85 #[vR a1, vI 0, vI 4, vI 0, vI 3, vI 4] 4 d_j52_11_82 ?_
        refine r_goto H 44 d_j52_11_85 ?_
        refine r_iload H 46 d_j52_11_44 ?_
        refine r_iloadN H 47 d_j52_11_46 ?_
        refine r_iconst H 48 1 d_j52_11_47 ?_
        refine r_isub H 49 3 d_j52_11_48 ?_
        refine r_icmpgeT H 88 d_j52_11_49 (by decide) (by decide) (by decide) ?_
        refine r_iload H 90 d_j52_11_88 ?_
        subst ep79 ep128 ep134 ep140 ep147
        exact r_ireturn H d_j52_11_90 (⟨_, rfl, rfl, (by unfold fn_codePointCount_55; rw [if_neg (by decide), if_neg (by decide), if_neg (by decide), if_neg (by decide), if_pos rfl, if_neg c81, if_pos c130, if_pos c136, if_neg c142, if_neg c149]), (by decide)⟩)
     ·
      refine r_aloadN H 68 d_j52_11_67 ?_
      refine r_iload H 70 d_j52_11_68 ?_
      refine r_static (argsL := [.ref a1, .int 2]) (rest := []) (W := 0) H 73 d_j52_11_70 (tw58 hw) (tw59 hw) (tw36 hw) (tw60 hw) (lenOf pd_8 rfl) (rm_getChar_16 hw Ts a1 (cL8 i3) (cH8 i3) (cL8 i4) (cH8 i4) (cL8 i5) (cH8 i5) (cL8 i6) (cH8 i6) c1 h0 f Zf Z0 A_a1 S__assertionsDisabled S_HI_BYTE_SHIFT S_LO_BYTE_SHIFT) ?_
      rintro _ _ ⟨p153, rfl, ep153, rp153, rfl⟩
      have hzp153 : i5 = p153 := by rw [← ep153]; exact (own_u16 i5 (by have := r_i5; omega)).symm
      subst hzp153
      refine r_static (argsL := [.int i5]) (rest := []) (W := 0) H 76 d_j52_11_73 (tw126 hw) (tw127 hw) (tw119 hw) (tw128 hw) (lenOf pd_19 rfl) (rm_isLowSurrogate_51 hw Ts i5 h0 f Zf Z0 r_i5) ?_
      rintro _ _ ⟨p155, rfl, ep155, rp155, rfl⟩
      refine r_ifeq H 44 79 d_j52_11_76 (fun c157 => ?_) (fun c157 => ?_)
      ·
       refine r_iload H 46 d_j52_11_44 ?_
       refine r_iloadN H 47 d_j52_11_46 ?_
       refine r_iconst H 48 1 d_j52_11_47 ?_
       refine r_isub H 49 3 d_j52_11_48 ?_
       refine r_icmpgeF H 52 d_j52_11_49 rfl (by decide) ?_
       refine r_aloadN H 53 d_j52_11_52 ?_
       refine r_iload H 55 d_j52_11_53 ?_
       refine r_iinc H 58 #[vR a1, vI 0, vI 4, vI 0, vI 4, vI 3] 3 d_j52_11_55 ?_
       refine r_static (argsL := [.ref a1, .int 2]) (rest := []) (W := 0) H 61 d_j52_11_58 (tw58 hw) (tw59 hw) (tw36 hw) (tw60 hw) (lenOf pd_8 rfl) (rm_getChar_16 hw Ts a1 (cL8 i3) (cH8 i3) (cL8 i4) (cH8 i4) (cL8 i5) (cH8 i5) (cL8 i6) (cH8 i6) c1 h0 f Zf Z0 A_a1 S__assertionsDisabled S_HI_BYTE_SHIFT S_LO_BYTE_SHIFT) ?_
       rintro _ _ ⟨p159, rfl, ep159, rp159, rfl⟩
       have hzp159 : i5 = p159 := by rw [← ep159]; exact (own_u16 i5 (by have := r_i5; omega)).symm
       subst hzp159
       refine r_static (argsL := [.int i5]) (rest := []) (W := 0) H 64 d_j52_11_61 (tw117 hw) (tw118 hw) (tw119 hw) (tw120 hw) (lenOf pd_19 rfl) (rm_isHighSurrogate_50 hw Ts i5 h0 f Zf Z0 r_i5) ?_
       rintro _ _ ⟨p161, rfl, ep161, rp161, rfl⟩
       refine r_ifeq H 44 67 d_j52_11_64 (fun c163 => ?_) (fun c163 => ?_)
       ·
        refine r_iload H 46 d_j52_11_44 ?_
        refine r_iloadN H 47 d_j52_11_46 ?_
        refine r_iconst H 48 1 d_j52_11_47 ?_
        refine r_isub H 49 3 d_j52_11_48 ?_
        refine r_icmpgeT H 88 d_j52_11_49 (by decide) (by decide) (by decide) ?_
        refine r_iload H 90 d_j52_11_88 ?_
        subst ep79 ep128 ep134 ep155 ep161
        exact r_ireturn H d_j52_11_90 (⟨_, rfl, rfl, (by unfold fn_codePointCount_55; rw [if_neg (by decide), if_neg (by decide), if_neg (by decide), if_neg (by decide), if_pos rfl, if_neg c81, if_pos c130, if_neg c136, if_pos c157, if_pos c163]), (by decide)⟩)
       ·
        refine r_aloadN H 68 d_j52_11_67 ?_
        refine r_iload H 70 d_j52_11_68 ?_
        refine r_static (argsL := [.ref a1, .int 3]) (rest := []) (W := 0) H 73 d_j52_11_70 (tw58 hw) (tw59 hw) (tw36 hw) (tw60 hw) (lenOf pd_8 rfl) (rm_getChar_15 hw Ts a1 (cL8 i3) (cH8 i3) (cL8 i4) (cH8 i4) (cL8 i5) (cH8 i5) (cL8 i6) (cH8 i6) c1 h0 f Zf Z0 A_a1 S__assertionsDisabled S_HI_BYTE_SHIFT S_LO_BYTE_SHIFT) ?_
        rintro _ _ ⟨p166, rfl, ep166, rp166, rfl⟩
        have hzp166 : i6 = p166 := by rw [← ep166]; exact (own_u16 i6 (by have := r_i6; omega)).symm
        subst hzp166
        refine r_static (argsL := [.int i6]) (rest := []) (W := 0) H 76 d_j52_11_73 (tw126 hw) (tw127 hw) (tw119 hw) (tw128 hw) (lenOf pd_19 rfl) (rm_isLowSurrogate_51 hw Ts i6 h0 f Zf Z0 r_i6) ?_
        rintro _ _ ⟨p168, rfl, ep168, rp168, rfl⟩
        refine r_ifeq H 44 79 d_j52_11_76 (fun c170 => ?_) (fun c170 => ?_)
        ·
         refine r_iload H 46 d_j52_11_44 ?_
         refine r_iloadN H 47 d_j52_11_46 ?_
         refine r_iconst H 48 1 d_j52_11_47 ?_
         refine r_isub H 49 3 d_j52_11_48 ?_
         refine r_icmpgeT H 88 d_j52_11_49 (by decide) (by decide) (by decide) ?_
         refine r_iload H 90 d_j52_11_88 ?_
         subst ep79 ep128 ep134 ep155 ep161 ep168
         exact r_ireturn H d_j52_11_90 (⟨_, rfl, rfl, (by unfold fn_codePointCount_55; rw [if_neg (by decide), if_neg (by decide), if_neg (by decide), if_neg (by decide), if_pos rfl, if_neg c81, if_pos c130, if_neg c136, if_pos c157, if_neg c163, if_pos c170]), (by decide)⟩)
        ·
         refine r_iinc H 82 #[vR a1, vI 0, vI 4, vI 0, vI 3, vI 3] 3 d_j52_11_79 ?_
         refine r_iinc H 85 #[vR a1, vI 0, vI 4, vI 0, vI 3, vI 4] 4 d_j52_11_82 ?_
         refine r_goto H 44 d_j52_11_85 ?_
         refine r_iload H 46 d_j52_11_44 ?_
         refine r_iloadN H 47 d_j52_11_46 ?_
         refine r_iconst H 48 1 d_j52_11_47 ?_
         refine r_isub H 49 3 d_j52_11_48 ?_
         refine r_icmpgeT H 88 d_j52_11_49 (by decide) (by decide) (by decide) ?_
         refine r_iload H 90 d_j52_11_88 ?_
         subst ep79 ep128 ep134 ep155 ep161 ep168
         exact r_ireturn H d_j52_11_90 (⟨_, rfl, rfl, (by unfold fn_codePointCount_55; rw [if_neg (by decide), if_neg (by decide), if_neg (by decide), if_neg (by decide), if_pos rfl, if_neg c81, if_pos c130, if_neg c136, if_pos c157, if_neg c163, if_neg c170]), (by decide)⟩)
      ·
       refine r_iinc H 82 #[vR a1, vI 0, vI 4, vI 0, vI 3, vI 2] 3 d_j52_11_79 ?_
       refine r_iinc H 85 #[vR a1, vI 0, vI 4, vI 0, vI 3, vI 3] 3 d_j52_11_82 ?_
       refine r_goto H 44 d_j52_11_85 ?_
       refine r_iload H 46 d_j52_11_44 ?_
       refine r_iloadN H 47 d_j52_11_46 ?_
       refine r_iconst H 48 1 d_j52_11_47 ?_
       refine r_isub H 49 3 d_j52_11_48 ?_
       refine r_icmpgeT H 88 d_j52_11_49 (by decide) (by decide) (by decide) ?_
       refine r_iload H 90 d_j52_11_88 ?_
       subst ep79 ep128 ep134 ep155
       exact r_ireturn H d_j52_11_90 (⟨_, rfl, rfl, (by unfold fn_codePointCount_55; rw [if_neg (by decide), if_neg (by decide), if_neg (by decide), if_neg (by decide), if_pos rfl, if_neg c81, if_pos c130, if_neg c136, if_neg c157]), (by decide)⟩)
    ·
     refine r_iinc H 82 #[vR a1, vI 0, vI 4, vI 0, vI 3, vI 1] 3 d_j52_11_79 ?_
     refine r_iinc H 85 #[vR a1, vI 0, vI 4, vI 0, vI 3, vI 2] 2 d_j52_11_82 ?_
     refine r_goto H 44 d_j52_11_85 ?_
     refine r_iload H 46 d_j52_11_44 ?_
     refine r_iloadN H 47 d_j52_11_46 ?_
     refine r_iconst H 48 1 d_j52_11_47 ?_
     refine r_isub H 49 3 d_j52_11_48 ?_
     refine r_icmpgeF H 52 d_j52_11_49 rfl (by decide) ?_
     refine r_aloadN H 53 d_j52_11_52 ?_
     refine r_iload H 55 d_j52_11_53 ?_
     refine r_iinc H 58 #[vR a1, vI 0, vI 4, vI 0, vI 3, vI 3] 3 d_j52_11_55 ?_
     refine r_static (argsL := [.ref a1, .int 2]) (rest := []) (W := 0) H 61 d_j52_11_58 (tw58 hw) (tw59 hw) (tw36 hw) (tw60 hw) (lenOf pd_8 rfl) (rm_getChar_16 hw Ts a1 (cL8 i3) (cH8 i3) (cL8 i4) (cH8 i4) (cL8 i5) (cH8 i5) (cL8 i6) (cH8 i6) c1 h0 f Zf Z0 A_a1 S__assertionsDisabled S_HI_BYTE_SHIFT S_LO_BYTE_SHIFT) ?_
     rintro _ _ ⟨p175, rfl, ep175, rp175, rfl⟩
     have hzp175 : i5 = p175 := by rw [← ep175]; exact (own_u16 i5 (by have := r_i5; omega)).symm
     subst hzp175
     refine r_static (argsL := [.int i5]) (rest := []) (W := 0) H 64 d_j52_11_61 (tw117 hw) (tw118 hw) (tw119 hw) (tw120 hw) (lenOf pd_19 rfl) (rm_isHighSurrogate_50 hw Ts i5 h0 f Zf Z0 r_i5) ?_
     rintro _ _ ⟨p177, rfl, ep177, rp177, rfl⟩
     refine r_ifeq H 44 67 d_j52_11_64 (fun c179 => ?_) (fun c179 => ?_)
     ·
      refine r_iload H 46 d_j52_11_44 ?_
      refine r_iloadN H 47 d_j52_11_46 ?_
      refine r_iconst H 48 1 d_j52_11_47 ?_
      refine r_isub H 49 3 d_j52_11_48 ?_
      refine r_icmpgeT H 88 d_j52_11_49 (by decide) (by decide) (by decide) ?_
      refine r_iload H 90 d_j52_11_88 ?_
      subst ep79 ep128 ep177
      exact r_ireturn H d_j52_11_90 (⟨_, rfl, rfl, (by unfold fn_codePointCount_55; rw [if_neg (by decide), if_neg (by decide), if_neg (by decide), if_neg (by decide), if_pos rfl, if_neg c81, if_neg c130, if_pos c179]), (by decide)⟩)
     ·
      refine r_aloadN H 68 d_j52_11_67 ?_
      refine r_iload H 70 d_j52_11_68 ?_
      refine r_static (argsL := [.ref a1, .int 3]) (rest := []) (W := 0) H 73 d_j52_11_70 (tw58 hw) (tw59 hw) (tw36 hw) (tw60 hw) (lenOf pd_8 rfl) (rm_getChar_15 hw Ts a1 (cL8 i3) (cH8 i3) (cL8 i4) (cH8 i4) (cL8 i5) (cH8 i5) (cL8 i6) (cH8 i6) c1 h0 f Zf Z0 A_a1 S__assertionsDisabled S_HI_BYTE_SHIFT S_LO_BYTE_SHIFT) ?_
      rintro _ _ ⟨p182, rfl, ep182, rp182, rfl⟩
      have hzp182 : i6 = p182 := by rw [← ep182]; exact (own_u16 i6 (by have := r_i6; omega)).symm
      subst hzp182
      refine r_static (argsL := [.int i6]) (rest := []) (W := 0) H 76 d_j52_11_73 (tw126 hw) (tw127 hw) (tw119 hw) (tw128 hw) (lenOf pd_19 rfl) (rm_isLowSurrogate_51 hw Ts i6 h0 f Zf Z0 r_i6) ?_
      rintro _ _ ⟨p184, rfl, ep184, rp184, rfl⟩
      refine r_ifeq H 44 79 d_j52_11_76 (fun c186 => ?_) (fun c186 => ?_)
      ·
       refine r_iload H 46 d_j52_11_44 ?_
       refine r_iloadN H 47 d_j52_11_46 ?_
       refine r_iconst H 48 1 d_j52_11_47 ?_
       refine r_isub H 49 3 d_j52_11_48 ?_
       refine r_icmpgeT H 88 d_j52_11_49 (by decide) (by decide) (by decide) ?_
       refine r_iload H 90 d_j52_11_88 ?_
       subst ep79 ep128 ep177 ep184
       exact r_ireturn H d_j52_11_90 (⟨_, rfl, rfl, (by unfold fn_codePointCount_55; rw [if_neg (by decide), if_neg (by decide), if_neg (by decide), if_neg (by decide), if_pos rfl, if_neg c81, if_neg c130, if_neg c179, if_pos c186]), (by decide)⟩)
      ·
       refine r_iinc H 82 #[vR a1, vI 0, vI 4, vI 0, vI 2, vI 3] 2 d_j52_11_79 ?_
       refine r_iinc H 85 #[vR a1, vI 0, vI 4, vI 0, vI 2, vI 4] 4 d_j52_11_82 ?_
       refine r_goto H 44 d_j52_11_85 ?_
       refine r_iload H 46 d_j52_11_44 ?_
       refine r_iloadN H 47 d_j52_11_46 ?_
       refine r_iconst H 48 1 d_j52_11_47 ?_
       refine r_isub H 49 3 d_j52_11_48 ?_
       refine r_icmpgeT H 88 d_j52_11_49 (by decide) (by decide) (by decide) ?_
       refine r_iload H 90 d_j52_11_88 ?_
       subst ep79 ep128 ep177 ep184
       exact r_ireturn H d_j52_11_90 (⟨_, rfl, rfl, (by unfold fn_codePointCount_55; rw [if_neg (by decide), if_neg (by decide), if_neg (by decide), if_neg (by decide), if_pos rfl, if_neg c81, if_neg c130, if_neg c179, if_neg c186]), (by decide)⟩)
  ·
   subst c76
   refine r_isub H 22 3 d_j52_11_21 ?_
   refine r_istore H 24 #[vR a1, vI 1, vI 4, vI 0, vI 3, .unset] d_j52_11_22 ?_
   refine r_iloadN H 25 d_j52_11_24 ?_
   refine r_istore H 27 #[vR a1, vI 1, vI 4, vI 0, vI 3, vI 1] d_j52_11_25 ?_
   refine r_iloadN H 28 d_j52_11_27 ?_
   refine r_ifeqT H 44 d_j52_11_28 (by decide) (by decide) (by decide) ?_
   refine r_iload H 46 d_j52_11_44 ?_
   refine r_iloadN H 47 d_j52_11_46 ?_
   refine r_iconst H 48 1 d_j52_11_47 ?_
   refine r_isub H 49 3 d_j52_11_48 ?_
   refine r_icmpgeF H 52 d_j52_11_49 rfl (by decide) ?_
   refine r_aloadN H 53 d_j52_11_52 ?_
   refine r_iload H 55 d_j52_11_53 ?_
   refine r_iinc H 58 #[vR a1, vI 1, vI 4, vI 0, vI 3, vI 2] 2 d_j52_11_55 ?_
   refine r_static (argsL := [.ref a1, .int 1]) (rest := []) (W := 0) H 61 d_j52_11_58 (tw58 hw) (tw59 hw) (tw36 hw) (tw60 hw) (lenOf pd_8 rfl) (rm_getChar_17 hw Ts a1 (cL8 i3) (cH8 i3) (cL8 i4) (cH8 i4) (cL8 i5) (cH8 i5) (cL8 i6) (cH8 i6) c1 h0 f Zf Z0 A_a1 S__assertionsDisabled S_HI_BYTE_SHIFT S_LO_BYTE_SHIFT) ?_
   rintro _ _ ⟨p189, rfl, ep189, rp189, rfl⟩
   have hzp189 : i4 = p189 := by rw [← ep189]; exact (own_u16 i4 (by have := r_i4; omega)).symm
   subst hzp189
   refine r_static (argsL := [.int i4]) (rest := []) (W := 0) H 64 d_j52_11_61 (tw117 hw) (tw118 hw) (tw119 hw) (tw120 hw) (lenOf pd_19 rfl) (rm_isHighSurrogate_50 hw Ts i4 h0 f Zf Z0 r_i4) ?_
   rintro _ _ ⟨p191, rfl, ep191, rp191, rfl⟩
   refine r_ifeq H 44 67 d_j52_11_64 (fun c193 => ?_) (fun c193 => ?_)
   ·
    refine r_iload H 46 d_j52_11_44 ?_
    refine r_iloadN H 47 d_j52_11_46 ?_
    refine r_iconst H 48 1 d_j52_11_47 ?_
    refine r_isub H 49 3 d_j52_11_48 ?_
    refine r_icmpgeF H 52 d_j52_11_49 rfl (by decide) ?_
    refine r_aloadN H 53 d_j52_11_52 ?_
    refine r_iload H 55 d_j52_11_53 ?_
    refine r_iinc H 58 #[vR a1, vI 1, vI 4, vI 0, vI 3, vI 3] 3 d_j52_11_55 ?_
    refine r_static (argsL := [.ref a1, .int 2]) (rest := []) (W := 0) H 61 d_j52_11_58 (tw58 hw) (tw59 hw) (tw36 hw) (tw60 hw) (lenOf pd_8 rfl) (rm_getChar_16 hw Ts a1 (cL8 i3) (cH8 i3) (cL8 i4) (cH8 i4) (cL8 i5) (cH8 i5) (cL8 i6) (cH8 i6) c1 h0 f Zf Z0 A_a1 S__assertionsDisabled S_HI_BYTE_SHIFT S_LO_BYTE_SHIFT) ?_
    rintro _ _ ⟨p195, rfl, ep195, rp195, rfl⟩
    have hzp195 : i5 = p195 := by rw [← ep195]; exact (own_u16 i5 (by have := r_i5; omega)).symm
    subst hzp195
    refine r_static (argsL := [.int i5]) (rest := []) (W := 0) H 64 d_j52_11_61 (tw117 hw) (tw118 hw) (tw119 hw) (tw120 hw) (lenOf pd_19 rfl) (rm_isHighSurrogate_50 hw Ts i5 h0 f Zf Z0 r_i5) ?_
    rintro _ _ ⟨p197, rfl, ep197, rp197, rfl⟩
    refine r_ifeq H 44 67 d_j52_11_64 (fun c199 => ?_) (fun c199 => ?_)
    ·
     refine r_iload H 46 d_j52_11_44 ?_
     refine r_iloadN H 47 d_j52_11_46 ?_
     refine r_iconst H 48 1 d_j52_11_47 ?_
     refine r_isub H 49 3 d_j52_11_48 ?_
     refine r_icmpgeT H 88 d_j52_11_49 (by decide) (by decide) (by decide) ?_
     refine r_iload H 90 d_j52_11_88 ?_
     subst ep191 ep197
     exact r_ireturn H d_j52_11_90 (⟨_, rfl, rfl, (by unfold fn_codePointCount_55; rw [if_neg (by decide), if_neg (by decide), if_neg (by decide), if_neg (by decide), if_neg (by decide), if_pos rfl, if_pos c193, if_pos c199]), (by decide)⟩)
    ·
     refine r_aloadN H 68 d_j52_11_67 ?_
     refine r_iload H 70 d_j52_11_68 ?_
     refine r_static (argsL := [.ref a1, .int 3]) (rest := []) (W := 0) H 73 d_j52_11_70 (tw58 hw) (tw59 hw) (tw36 hw) (tw60 hw) (lenOf pd_8 rfl) (rm_getChar_15 hw Ts a1 (cL8 i3) (cH8 i3) (cL8 i4) (cH8 i4) (cL8 i5) (cH8 i5) (cL8 i6) (cH8 i6) c1 h0 f Zf Z0 A_a1 S__assertionsDisabled S_HI_BYTE_SHIFT S_LO_BYTE_SHIFT) ?_
     rintro _ _ ⟨p202, rfl, ep202, rp202, rfl⟩
     have hzp202 : i6 = p202 := by rw [← ep202]; exact (own_u16 i6 (by have := r_i6; omega)).symm
     subst hzp202
     refine r_static (argsL := [.int i6]) (rest := []) (W := 0) H 76 d_j52_11_73 (tw126 hw) (tw127 hw) (tw119 hw) (tw128 hw) (lenOf pd_19 rfl) (rm_isLowSurrogate_51 hw Ts i6 h0 f Zf Z0 r_i6) ?_
     rintro _ _ ⟨p204, rfl, ep204, rp204, rfl⟩
     refine r_ifeq H 44 79 d_j52_11_76 (fun c206 => ?_) (fun c206 => ?_)
     ·
      refine r_iload H 46 d_j52_11_44 ?_
      refine r_iloadN H 47 d_j52_11_46 ?_
      refine r_iconst H 48 1 d_j52_11_47 ?_
      refine r_isub H 49 3 d_j52_11_48 ?_
      refine r_icmpgeT H 88 d_j52_11_49 (by decide) (by decide) (by decide) ?_
      refine r_iload H 90 d_j52_11_88 ?_
      subst ep191 ep197 ep204
      exact r_ireturn H d_j52_11_90 (⟨_, rfl, rfl, (by unfold fn_codePointCount_55; rw [if_neg (by decide), if_neg (by decide), if_neg (by decide), if_neg (by decide), if_neg (by decide), if_pos rfl, if_pos c193, if_neg c199, if_pos c206]), (by decide)⟩)
     ·
      refine r_iinc H 82 #[vR a1, vI 1, vI 4, vI 0, vI 2, vI 3] 2 d_j52_11_79 ?_
      refine r_iinc H 85 #[vR a1, vI 1, vI 4, vI 0, vI 2, vI 4] 4 d_j52_11_82 ?_
      refine r_goto H 44 d_j52_11_85 ?_
      refine r_iload H 46 d_j52_11_44 ?_
      refine r_iloadN H 47 d_j52_11_46 ?_
      refine r_iconst H 48 1 d_j52_11_47 ?_
      refine r_isub H 49 3 d_j52_11_48 ?_
      refine r_icmpgeT H 88 d_j52_11_49 (by decide) (by decide) (by decide) ?_
      refine r_iload H 90 d_j52_11_88 ?_
      subst ep191 ep197 ep204
      exact r_ireturn H d_j52_11_90 (⟨_, rfl, rfl, (by unfold fn_codePointCount_55; rw [if_neg (by decide), if_neg (by decide), if_neg (by decide), if_neg (by decide), if_neg (by decide), if_pos rfl, if_pos c193, if_neg c199, if_neg c206]), (by decide)⟩)
   ·
    refine r_aloadN H 68 d_j52_11_67 ?_
    refine r_iload H 70 d_j52_11_68 ?_
    refine r_static (argsL := [.ref a1, .int 2]) (rest := []) (W := 0) H 73 d_j52_11_70 (tw58 hw) (tw59 hw) (tw36 hw) (tw60 hw) (lenOf pd_8 rfl) (rm_getChar_16 hw Ts a1 (cL8 i3) (cH8 i3) (cL8 i4) (cH8 i4) (cL8 i5) (cH8 i5) (cL8 i6) (cH8 i6) c1 h0 f Zf Z0 A_a1 S__assertionsDisabled S_HI_BYTE_SHIFT S_LO_BYTE_SHIFT) ?_
    rintro _ _ ⟨p210, rfl, ep210, rp210, rfl⟩
    have hzp210 : i5 = p210 := by rw [← ep210]; exact (own_u16 i5 (by have := r_i5; omega)).symm
    subst hzp210
    refine r_static (argsL := [.int i5]) (rest := []) (W := 0) H 76 d_j52_11_73 (tw126 hw) (tw127 hw) (tw119 hw) (tw128 hw) (lenOf pd_19 rfl) (rm_isLowSurrogate_51 hw Ts i5 h0 f Zf Z0 r_i5) ?_
    rintro _ _ ⟨p212, rfl, ep212, rp212, rfl⟩
    refine r_ifeq H 44 79 d_j52_11_76 (fun c214 => ?_) (fun c214 => ?_)
    ·
     refine r_iload H 46 d_j52_11_44 ?_
     refine r_iloadN H 47 d_j52_11_46 ?_
     refine r_iconst H 48 1 d_j52_11_47 ?_
     refine r_isub H 49 3 d_j52_11_48 ?_
     refine r_icmpgeF H 52 d_j52_11_49 rfl (by decide) ?_
     refine r_aloadN H 53 d_j52_11_52 ?_
     refine r_iload H 55 d_j52_11_53 ?_
     refine r_iinc H 58 #[vR a1, vI 1, vI 4, vI 0, vI 3, vI 3] 3 d_j52_11_55 ?_
     refine r_static (argsL := [.ref a1, .int 2]) (rest := []) (W := 0) H 61 d_j52_11_58 (tw58 hw) (tw59 hw) (tw36 hw) (tw60 hw) (lenOf pd_8 rfl) (rm_getChar_16 hw Ts a1 (cL8 i3) (cH8 i3) (cL8 i4) (cH8 i4) (cL8 i5) (cH8 i5) (cL8 i6) (cH8 i6) c1 h0 f Zf Z0 A_a1 S__assertionsDisabled S_HI_BYTE_SHIFT S_LO_BYTE_SHIFT) ?_
     rintro _ _ ⟨p216, rfl, ep216, rp216, rfl⟩
     have hzp216 : i5 = p216 := by rw [← ep216]; exact (own_u16 i5 (by have := r_i5; omega)).symm
     subst hzp216
     refine r_static (argsL := [.int i5]) (rest := []) (W := 0) H 64 d_j52_11_61 (tw117 hw) (tw118 hw) (tw119 hw) (tw120 hw) (lenOf pd_19 rfl) (rm_isHighSurrogate_50 hw Ts i5 h0 f Zf Z0 r_i5) ?_
     rintro _ _ ⟨p218, rfl, ep218, rp218, rfl⟩
     refine r_ifeq H 44 67 d_j52_11_64 (fun c220 => ?_) (fun c220 => ?_)
     ·
      refine r_iload H 46 d_j52_11_44 ?_
      refine r_iloadN H 47 d_j52_11_46 ?_
      refine r_iconst H 48 1 d_j52_11_47 ?_
      refine r_isub H 49 3 d_j52_11_48 ?_
      refine r_icmpgeT H 88 d_j52_11_49 (by decide) (by decide) (by decide) ?_
      refine r_iload H 90 d_j52_11_88 ?_
      subst ep191 ep212 ep218
      exact r_ireturn H d_j52_11_90 (⟨_, rfl, rfl, (by unfold fn_codePointCount_55; rw [if_neg (by decide), if_neg (by decide), if_neg (by decide), if_neg (by decide), if_neg (by decide), if_pos rfl, if_neg c193, if_pos c214, if_pos c220]), (by decide)⟩)
     ·
      refine r_aloadN H 68 d_j52_11_67 ?_
      refine r_iload H 70 d_j52_11_68 ?_
      refine r_static (argsL := [.ref a1, .int 3]) (rest := []) (W := 0) H 73 d_j52_11_70 (tw58 hw) (tw59 hw) (tw36 hw) (tw60 hw) (lenOf pd_8 rfl) (rm_getChar_15 hw Ts a1 (cL8 i3) (cH8 i3) (cL8 i4) (cH8 i4) (cL8 i5) (cH8 i5) (cL8 i6) (cH8 i6) c1 h0 f Zf Z0 A_a1 S__assertionsDisabled S_HI_BYTE_SHIFT S_LO_BYTE_SHIFT) ?_
      rintro _ _ ⟨p223, rfl, ep223, rp223, rfl⟩
      have hzp223 : i6 = p223 := by rw [← ep223]; exact (own_u16 i6 (by have := r_i6; omega)).symm
      subst hzp223
      refine r_static (argsL := [.int i6]) (rest := []) (W := 0) H 76 d_j52_11_73 (tw126 hw) (tw127 hw) (tw119 hw) (tw128 hw) (lenOf pd_19 rfl) (rm_isLowSurrogate_51 hw Ts i6 h0 f Zf Z0 r_i6) ?_
      rintro _ _ ⟨p225, rfl, ep225, rp225, rfl⟩
      refine r_ifeq H 44 79 d_j52_11_76 (fun c227 => ?_) (fun c227 => ?_)
      ·
       refine r_iload H 46 d_j52_11_44 ?_
       refine r_iloadN H 47 d_j52_11_46 ?_
       refine r_iconst H 48 1 d_j52_11_47 ?_
       refine r_isub H 49 3 d_j52_11_48 ?_
       refine r_icmpgeT H 88 d_j52_11_49 (by decide) (by decide) (by decide) ?_
       refine r_iload H 90 d_j52_11_88 ?_
       subst ep191 ep212 ep218 ep225
       exact r_ireturn H d_j52_11_90 (⟨_, rfl, rfl, (by unfold fn_codePointCount_55; rw [if_neg (by decide), if_neg (by decide), if_neg (by decide), if_neg (by decide), if_neg (by decide), if_pos rfl, if_neg c193, if_pos c214, if_neg c220, if_pos c227]), (by decide)⟩)
      ·
       refine r_iinc H 82 #[vR a1, vI 1, vI 4, vI 0, vI 2, vI 3] 2 d_j52_11_79 ?_
       refine r_iinc H 85 #[vR a1, vI 1, vI 4, vI 0, vI 2, vI 4] 4 d_j52_11_82 ?_
       refine r_goto H 44 d_j52_11_85 ?_
       refine r_iload H 46 d_j52_11_44 ?_
       refine r_iloadN H 47 d_j52_11_46 ?_
       refine r_iconst H 48 1 d_j52_11_47 ?_
       refine r_isub H 49 3 d_j52_11_48 ?_
       refine r_icmpgeT H 88 d_j52_11_49 (by decide) (by decide) (by decide) ?_
       refine r_iload H 90 d_j52_11_88 ?_
       subst ep191 ep212 ep218 ep225
       exact r_ireturn H d_j52_11_90 (⟨_, rfl, rfl, (by unfold fn_codePointCount_55; rw [if_neg (by decide), if_neg (by decide), if_neg (by decide), if_neg (by decide), if_neg (by decide), if_pos rfl, if_neg c193, if_pos c214, if_neg c220, if_neg c227]), (by decide)⟩)
    ·
     refine r_iinc H 82 #[vR a1, vI 1, vI 4, vI 0, vI 2, vI 2] 2 d_j52_11_79 ?_
     refine r_iinc H 85 #[vR a1, vI 1, vI 4, vI 0, vI 2, vI 3] 3 d_j52_11_82 ?_
     refine r_goto H 44 d_j52_11_85 ?_
     refine r_iload H 46 d_j52_11_44 ?_
     refine r_iloadN H 47 d_j52_11_46 ?_
     refine r_iconst H 48 1 d_j52_11_47 ?_
     refine r_isub H 49 3 d_j52_11_48 ?_
     refine r_icmpgeT H 88 d_j52_11_49 (by decide) (by decide) (by decide) ?_
     refine r_iload H 90 d_j52_11_88 ?_
     subst ep191 ep212
     exact r_ireturn H d_j52_11_90 (⟨_, rfl, rfl, (by unfold fn_codePointCount_55; rw [if_neg (by decide), if_neg (by decide), if_neg (by decide), if_neg (by decide), if_neg (by decide), if_pos rfl, if_neg c193, if_neg c214]), (by decide)⟩)
  ·
   subst c76
   refine r_isub H 22 2 d_j52_11_21 ?_
   refine r_istore H 24 #[vR a1, vI 2, vI 4, vI 0, vI 2, .unset] d_j52_11_22 ?_
   refine r_iloadN H 25 d_j52_11_24 ?_
   refine r_istore H 27 #[vR a1, vI 2, vI 4, vI 0, vI 2, vI 2] d_j52_11_25 ?_
   refine r_iloadN H 28 d_j52_11_27 ?_
   refine r_ifeqT H 44 d_j52_11_28 (by decide) (by decide) (by decide) ?_
   refine r_iload H 46 d_j52_11_44 ?_
   refine r_iloadN H 47 d_j52_11_46 ?_
   refine r_iconst H 48 1 d_j52_11_47 ?_
   refine r_isub H 49 3 d_j52_11_48 ?_
   refine r_icmpgeF H 52 d_j52_11_49 rfl (by decide) ?_
   refine r_aloadN H 53 d_j52_11_52 ?_
   refine r_iload H 55 d_j52_11_53 ?_
   refine r_iinc H 58 #[vR a1, vI 2, vI 4, vI 0, vI 2, vI 3] 3 d_j52_11_55 ?_
   refine r_static (argsL := [.ref a1, .int 2]) (rest := []) (W := 0) H 61 d_j52_11_58 (tw58 hw) (tw59 hw) (tw36 hw) (tw60 hw) (lenOf pd_8 rfl) (rm_getChar_16 hw Ts a1 (cL8 i3) (cH8 i3) (cL8 i4) (cH8 i4) (cL8 i5) (cH8 i5) (cL8 i6) (cH8 i6) c1 h0 f Zf Z0 A_a1 S__assertionsDisabled S_HI_BYTE_SHIFT S_LO_BYTE_SHIFT) ?_
   rintro _ _ ⟨p231, rfl, ep231, rp231, rfl⟩
   have hzp231 : i5 = p231 := by rw [← ep231]; exact (own_u16 i5 (by have := r_i5; omega)).symm
   subst hzp231
   refine r_static (argsL := [.int i5]) (rest := []) (W := 0) H 64 d_j52_11_61 (tw117 hw) (tw118 hw) (tw119 hw) (tw120 hw) (lenOf pd_19 rfl) (rm_isHighSurrogate_50 hw Ts i5 h0 f Zf Z0 r_i5) ?_
   rintro _ _ ⟨p233, rfl, ep233, rp233, rfl⟩
   refine r_ifeq H 44 67 d_j52_11_64 (fun c235 => ?_) (fun c235 => ?_)
   ·
    refine r_iload H 46 d_j52_11_44 ?_
    refine r_iloadN H 47 d_j52_11_46 ?_
    refine r_iconst H 48 1 d_j52_11_47 ?_
    refine r_isub H 49 3 d_j52_11_48 ?_
    refine r_icmpgeT H 88 d_j52_11_49 (by decide) (by decide) (by decide) ?_
    refine r_iload H 90 d_j52_11_88 ?_
    subst ep233
    exact r_ireturn H d_j52_11_90 (⟨_, rfl, rfl, (by unfold fn_codePointCount_55; rw [if_neg (by decide), if_neg (by decide), if_neg (by decide), if_neg (by decide), if_neg (by decide), if_neg (by decide), if_pos rfl, if_pos c235]), (by decide)⟩)
   ·
    refine r_aloadN H 68 d_j52_11_67 ?_
    refine r_iload H 70 d_j52_11_68 ?_
    refine r_static (argsL := [.ref a1, .int 3]) (rest := []) (W := 0) H 73 d_j52_11_70 (tw58 hw) (tw59 hw) (tw36 hw) (tw60 hw) (lenOf pd_8 rfl) (rm_getChar_15 hw Ts a1 (cL8 i3) (cH8 i3) (cL8 i4) (cH8 i4) (cL8 i5) (cH8 i5) (cL8 i6) (cH8 i6) c1 h0 f Zf Z0 A_a1 S__assertionsDisabled S_HI_BYTE_SHIFT S_LO_BYTE_SHIFT) ?_
    rintro _ _ ⟨p238, rfl, ep238, rp238, rfl⟩
    have hzp238 : i6 = p238 := by rw [← ep238]; exact (own_u16 i6 (by have := r_i6; omega)).symm
    subst hzp238
    refine r_static (argsL := [.int i6]) (rest := []) (W := 0) H 76 d_j52_11_73 (tw126 hw) (tw127 hw) (tw119 hw) (tw128 hw) (lenOf pd_19 rfl) (rm_isLowSurrogate_51 hw Ts i6 h0 f Zf Z0 r_i6) ?_
    rintro _ _ ⟨p240, rfl, ep240, rp240, rfl⟩
    refine r_ifeq H 44 79 d_j52_11_76 (fun c242 => ?_) (fun c242 => ?_)
    ·
     refine r_iload H 46 d_j52_11_44 ?_
     refine r_iloadN H 47 d_j52_11_46 ?_
     refine r_iconst H 48 1 d_j52_11_47 ?_
     refine r_isub H 49 3 d_j52_11_48 ?_
     refine r_icmpgeT H 88 d_j52_11_49 (by decide) (by decide) (by decide) ?_
     refine r_iload H 90 d_j52_11_88 ?_
     subst ep233 ep240
     exact r_ireturn H d_j52_11_90 (⟨_, rfl, rfl, (by unfold fn_codePointCount_55; rw [if_neg (by decide), if_neg (by decide), if_neg (by decide), if_neg (by decide), if_neg (by decide), if_neg (by decide), if_pos rfl, if_neg c235, if_pos c242]), (by decide)⟩)
    ·
     refine r_iinc H 82 #[vR a1, vI 2, vI 4, vI 0, vI 1, vI 3] 1 d_j52_11_79 ?_
     refine r_iinc H 85 #[vR a1, vI 2, vI 4, vI 0, vI 1, vI 4] 4 d_j52_11_82 ?_
     refine r_goto H 44 d_j52_11_85 ?_
     refine r_iload H 46 d_j52_11_44 ?_
     refine r_iloadN H 47 d_j52_11_46 ?_
     refine r_iconst H 48 1 d_j52_11_47 ?_
     refine r_isub H 49 3 d_j52_11_48 ?_
     refine r_icmpgeT H 88 d_j52_11_49 (by decide) (by decide) (by decide) ?_
     refine r_iload H 90 d_j52_11_88 ?_
     subst ep233 ep240
     exact r_ireturn H d_j52_11_90 (⟨_, rfl, rfl, (by unfold fn_codePointCount_55; rw [if_neg (by decide), if_neg (by decide), if_neg (by decide), if_neg (by decide), if_neg (by decide), if_neg (by decide), if_pos rfl, if_neg c235, if_neg c242]), (by decide)⟩)
  ·
   subst c76
   refine r_isub H 22 1 d_j52_11_21 ?_
   refine r_istore H 24 #[vR a1, vI 3, vI 4, vI 0, vI 1, .unset] d_j52_11_22 ?_
   refine r_iloadN H 25 d_j52_11_24 ?_
   refine r_istore H 27 #[vR a1, vI 3, vI 4, vI 0, vI 1, vI 3] d_j52_11_25 ?_
   refine r_iloadN H 28 d_j52_11_27 ?_
   refine r_ifeqT H 44 d_j52_11_28 (by decide) (by decide) (by decide) ?_
   refine r_iload H 46 d_j52_11_44 ?_
   refine r_iloadN H 47 d_j52_11_46 ?_
   refine r_iconst H 48 1 d_j52_11_47 ?_
   refine r_isub H 49 3 d_j52_11_48 ?_
   refine r_icmpgeT H 88 d_j52_11_49 (by decide) (by decide) (by decide) ?_
   refine r_iload H 90 d_j52_11_88 ?_
   exact r_ireturn H d_j52_11_90 (⟨_, rfl, rfl, (by unfold fn_codePointCount_55; rw [if_neg (by decide), if_neg (by decide), if_neg (by decide), if_neg (by decide), if_neg (by decide), if_neg (by decide), if_neg (by decide), if_pos rfl]), (by decide)⟩)
  ·
   subst c76
   refine r_isub H 22 0 d_j52_11_21 ?_
   refine r_istore H 24 #[vR a1, vI 4, vI 4, vI 0, vI 0, .unset] d_j52_11_22 ?_
   refine r_iloadN H 25 d_j52_11_24 ?_
   refine r_istore H 27 #[vR a1, vI 4, vI 4, vI 0, vI 0, vI 4] d_j52_11_25 ?_
   refine r_iloadN H 28 d_j52_11_27 ?_
   refine r_ifeqT H 44 d_j52_11_28 (by decide) (by decide) (by decide) ?_
   refine r_iload H 46 d_j52_11_44 ?_
   refine r_iloadN H 47 d_j52_11_46 ?_
   refine r_iconst H 48 1 d_j52_11_47 ?_
   refine r_isub H 49 3 d_j52_11_48 ?_
   refine r_icmpgeT H 88 d_j52_11_49 (by decide) (by decide) (by decide) ?_
   refine r_iload H 90 d_j52_11_88 ?_
   exact r_ireturn H d_j52_11_90 (⟨_, rfl, rfl, (by unfold fn_codePointCount_55; rw [if_neg (by decide), if_neg (by decide), if_neg (by decide), if_neg (by decide), if_neg (by decide), if_neg (by decide), if_neg (by decide), if_neg (by decide)]), (by decide)⟩)
def Q_codePointCount_54 (Z : State) (i1 : Int32) (i2 : Int32) (i3 : Int32) (i4 : Int32) (i5 : Int32) (i6 : Int32) (h0 : Heap) (v : Option Value) (h : Heap) : Prop := ∃ (z : Int32), v = some (.int z) ∧ (fn_codePointCount_55 i1 i2 i3 i4 i5 i6) = z ∧ (0 ≤ z.toInt ∧ z.toInt ≤ 4) ∧ h0 = h
def R_codePointCount_54 : Room := { frames := 2, cells := 0, slots := 0, locals := 30 }
theorem rm_codePointCount_54 {w : Bool} {Z : State} {a0 : Array Value} (hw : HW a0 Z) (Ts : List String) (a1 : Addr) (i1 : Int32) (i2 : Int32) (i3 : Int32) (i4 : Int32) (i5 : Int32) (i6 : Int32) (c1 : ClassId) (h0 : Heap) (f : Nat) (Zf : Z.heap.size ≤ f) (Z0 : f ≤ h0.size) (l_i1_i2 : i1.toInt ≤ i2.toInt) (A_a1 : Ar Z h0 a1 c1 .byte [.int (cL8 i3), .int (cH8 i3), .int (cL8 i4), .int (cH8 i4), .int (cL8 i5), .int (cH8 i5), .int (cL8 i6), .int (cH8 i6)]) (r_i1 : 0 ≤ i1.toInt ∧ i1.toInt ≤ 4) (r_i2 : 0 ≤ i2.toInt ∧ i2.toInt ≤ 4) (r_i3 : 0 ≤ i3.toInt ∧ i3.toInt ≤ 65535) (r_i4 : 0 ≤ i4.toInt ∧ i4.toInt ≤ 65535) (r_i5 : 0 ≤ i5.toInt ∧ i5.toInt ≤ 65535) (r_i6 : 0 ≤ i6.toInt ∧ i6.toInt ≤ 65535) (S__assertionsDisabled : G_S__assertionsDisabled Z) (S_HI_BYTE_SHIFT : G_S_HI_BYTE_SHIFT Z) (S_LO_BYTE_SHIFT : G_S_LO_BYTE_SHIFT Z) :
  Con w [] Z mn25 jdk_52_method_12_code 3 (some .int) R_codePointCount_54 Ts Ts f #[.ref a1, .int i1, .int i2] h0 (Q_codePointCount_54 Z i1 i2 i3 i4 i5 i6 h0) := by
 refine con_of f #[vR a1, vI i1, vI i2] (plainFor_of_name pn_1) (fun m => rfl) Zf ?_
 intro C H hX0
 refine r_aloadN H 1 d_j52_12_0 ?_
 refine r_iloadN H 2 d_j52_12_1 ?_
 refine r_iloadN H 3 d_j52_12_2 ?_
 refine r_iconst H 4 0 d_j52_12_3 ?_
 refine r_static (argsL := [.ref a1, .int i1, .int i2, .int 0]) (rest := []) (W := 0) H 7 d_j52_12_4 (tw114 hw) (tw115 hw) (tw36 hw) (tw116 hw) (lenOf pd_20 rfl) (rm_codePointCount_55 hw Ts a1 i1 i2 i3 i4 i5 i6 c1 h0 f Zf Z0 l_i1_i2 A_a1 r_i1 r_i2 r_i3 r_i4 r_i5 r_i6 S__assertionsDisabled S_HI_BYTE_SHIFT S_LO_BYTE_SHIFT) ?_
 rintro _ _ ⟨p1, rfl, rfl, ep1, rp1⟩
 subst ep1
 exact r_ireturn H d_j52_12_7 (⟨_, rfl, rfl, (by have := rp1; omega), rfl⟩)
def Q_codePointCount_53 (Z : State) (i1 : Int32) (i2 : Int32) (i3 : Int32) (i4 : Int32) (i5 : Int32) (i6 : Int32) (h0 : Heap) (v : Option Value) (h : Heap) : Prop := ∃ (z : Int32), v = some (.int z) ∧ (fn_codePointCount_55 i1 i2 i3 i4 i5 i6) = z ∧ (0 ≤ z.toInt ∧ z.toInt ≤ 4) ∧ h0 = h
def R_codePointCount_53 : Room := { frames := 3, cells := 0, slots := 0, locals := 44 }
theorem rm_codePointCount_53 {w : Bool} {Z : State} {a0 : Array Value} (hw : HW a0 Z) (Ts : List String) (a1 : Addr) (a2 : Addr) (i1 : Int32) (i2 : Int32) (i3 : Int32) (i4 : Int32) (i5 : Int32) (i6 : Int32) (c1 : ClassId) (cs : Int32) (h0 : Heap) (f : Nat) (Zf : Z.heap.size ≤ f) (Z0 : f ≤ h0.size) (E_a1 : Exa Z h0 a1 "java/lang/String") (F_value_a1 : Fld Z h0 a1 "java/lang/String" "value" "[B" (.ref a2)) (A_a2 : Ar Z h0 a2 c1 .byte [.int (cL8 i3), .int (cH8 i3), .int (cL8 i4), .int (cH8 i4), .int (cL8 i5), .int (cH8 i5), .int (cL8 i6), .int (cH8 i6)]) (F_coder_a1 : Fld Z h0 a1 "java/lang/String" "coder" "B" (.int 1)) (l_i1_i2 : i1.toInt ≤ i2.toInt) (r_i1 : 0 ≤ i1.toInt ∧ i1.toInt ≤ 4) (r_i2 : 0 ≤ i2.toInt ∧ i2.toInt ≤ 4) (r_i3 : 0 ≤ i3.toInt ∧ i3.toInt ≤ 65535) (r_i4 : 0 ≤ i4.toInt ∧ i4.toInt ≤ 65535) (r_i5 : 0 ≤ i5.toInt ∧ i5.toInt ≤ 65535) (r_i6 : 0 ≤ i6.toInt ∧ i6.toInt ≤ 65535) (S_cs : G_S_cs Z cs) (S__assertionsDisabled : G_S__assertionsDisabled Z) (S_HI_BYTE_SHIFT : G_S_HI_BYTE_SHIFT Z) (S_LO_BYTE_SHIFT : G_S_LO_BYTE_SHIFT Z) (hcs : ¬ cs = 0) :
  Con w [] Z mn19 jdk_42_method_59_code 3 (some .int) R_codePointCount_53 Ts Ts f #[.ref a1, .int i1, .int i2] h0 (Q_codePointCount_53 Z i1 i2 i3 i4 i5 i6 h0) := by
 refine con_of f #[vR a1, vI i1, vI i2] (plainFor_of_name pn_2) (fun m => rfl) Zf ?_
 intro C H hX0
 refine r_iloadN H 1 d_j42_59_0 ?_
 refine r_iloadN H 2 d_j42_59_1 ?_
 refine r_aloadN H 3 d_j42_59_2 ?_
 refine r_virtual (z := mn15) (a := a1) (argsL := []) (rest := [.int i2, .int i1]) (W := 2) H 6 d_j42_59_3 (tw88 hw) (tw89 hw) (nf_sel (tw91 hw)) (tw91 hw) (tw90 hw) (tw22 hw) (tw92 hw) E_a1 (lenOf pd_14 rfl) (rm_length_45 hw Ts a1 a2 (cL8 i3) (cH8 i3) (cL8 i4) (cH8 i4) (cL8 i5) (cH8 i5) (cL8 i6) (cH8 i6) c1 cs h0 f Zf Z0 F_value_a1 A_a2 E_a1 F_coder_a1 S_cs hcs) ?_
 rintro _ _ ⟨rfl, rfl⟩
 refine r_static (argsL := [.int i1, .int i2, .int 4]) (rest := []) (W := 0) H 9 d_j42_59_6 (tw98 hw) (tw99 hw) (tw100 hw) (tw101 hw) (lenOf pd_16 rfl) (rm_checkFromToIndex_31 hw Ts i1 i2 h0 f Zf Z0 l_i1_i2 r_i1 r_i2) ?_
 rintro _ _ ⟨rfl, rfl⟩
 refine r_pop H 10 d_j42_59_9 ?_
 refine r_aloadN H 11 d_j42_59_10 ?_
 refine r_virtual (z := mn18) (a := a1) (argsL := []) (rest := []) (W := 0) H 14 d_j42_59_11 (tw106 hw) (tw107 hw) (nf_sel (tw109 hw)) (tw109 hw) (tw108 hw) (tw22 hw) (tw110 hw) E_a1 (lenOf pd_17 rfl) (rm_isLatin1_47 hw Ts a1 cs h0 f Zf Z0 F_coder_a1 S_cs hcs) ?_
 rintro _ _ ⟨rfl, rfl⟩
 refine r_ifeqT H 21 d_j42_59_14 (by decide) (by decide) (by decide) ?_
 refine r_aloadN H 22 d_j42_59_21 ?_
 refine r_getf H 25 d_j42_59_22 (tw66 hw) F_value_a1 ?_
 refine r_iloadN H 26 d_j42_59_25 ?_
 refine r_iloadN H 27 d_j42_59_26 ?_
 refine r_static (argsL := [.ref a2, .int i1, .int i2]) (rest := []) (W := 0) H 30 d_j42_59_27 (tw111 hw) (tw112 hw) (tw36 hw) (tw113 hw) (lenOf pd_21 rfl) (rm_codePointCount_54 hw Ts a2 i1 i2 i3 i4 i5 i6 c1 h0 f Zf Z0 l_i1_i2 A_a2 r_i1 r_i2 r_i3 r_i4 r_i5 r_i6 S__assertionsDisabled S_HI_BYTE_SHIFT S_LO_BYTE_SHIFT) ?_
 rintro _ _ ⟨p4, rfl, ep4, rp4, rfl⟩
 subst ep4
 exact r_ireturn H d_j42_59_30 (⟨_, rfl, rfl, (by have := rp4; omega), rfl⟩)
def Q_offset_52 (Z : State) (a1 : Addr) (a2 : Addr) (i1 : Int32) (i2 : Int32) (i3 : Int32) (i4 : Int32) (i5 : Int32) (i6 : Int32) (i7 : Int32) (h0 : Heap) (v : Option Value) (h : Heap) : Prop := ∃ (z : Int32), v = some (.int z) ∧ (i3 + (fn_codePointCount_55 i2 i1 i4 i5 i6 i7)) = z ∧ Keep h0 h [a1] ∧ Exa Z h a1 "com/example/indentree/indentree/reader/CodePoints" ∧ Fld Z h a1 "com/example/indentree/indentree/reader/CodePoints" "index" "I" (.int i1) ∧ Fld Z h a1 "com/example/indentree/indentree/reader/CodePoints" "offset" "I" (.int (i3 + (fn_codePointCount_55 i2 i1 i4 i5 i6 i7))) ∧ Fld Z h a1 "com/example/indentree/indentree/reader/CodePoints" "text" "Ljava/lang/String;" (.ref a2)
def R_offset_52 : Room := { frames := 4, cells := 0, slots := 0, locals := 60 }
theorem rm_offset_52 {w : Bool} {Z : State} {a0 : Array Value} (hw : HW a0 Z) (Ts : List String) (a1 : Addr) (a2 : Addr) (a3 : Addr) (i1 : Int32) (i2 : Int32) (i3 : Int32) (i4 : Int32) (i5 : Int32) (i6 : Int32) (i7 : Int32) (c1 : ClassId) (cs : Int32) (h0 : Heap) (f : Nat) (Zf : Z.heap.size ≤ f) (Z0 : f ≤ h0.size) (F_offset_a1 : Fld Z h0 a1 "com/example/indentree/indentree/reader/CodePoints" "offset" "I" (.int i3)) (F_text_a1 : Fld Z h0 a1 "com/example/indentree/indentree/reader/CodePoints" "text" "Ljava/lang/String;" (.ref a2)) (F_index_a1 : Fld Z h0 a1 "com/example/indentree/indentree/reader/CodePoints" "index" "I" (.int i2)) (E_a2 : Exa Z h0 a2 "java/lang/String") (F_value_a2 : Fld Z h0 a2 "java/lang/String" "value" "[B" (.ref a3)) (A_a3 : Ar Z h0 a3 c1 .byte [.int (cL8 i4), .int (cH8 i4), .int (cL8 i5), .int (cH8 i5), .int (cL8 i6), .int (cH8 i6), .int (cL8 i7), .int (cH8 i7)]) (F_coder_a2 : Fld Z h0 a2 "java/lang/String" "coder" "B" (.int 1)) (l_i2_i1 : i2.toInt ≤ i1.toInt) (E_a1 : Exa Z h0 a1 "com/example/indentree/indentree/reader/CodePoints") (g_a1 : f ≤ a1) (r_i1 : 0 ≤ i1.toInt ∧ i1.toInt ≤ 4) (r_i2 : 0 ≤ i2.toInt ∧ i2.toInt ≤ 4) (r_i4 : 0 ≤ i4.toInt ∧ i4.toInt ≤ 65535) (r_i5 : 0 ≤ i5.toInt ∧ i5.toInt ≤ 65535) (r_i6 : 0 ≤ i6.toInt ∧ i6.toInt ≤ 65535) (r_i7 : 0 ≤ i7.toInt ∧ i7.toInt ≤ 65535) (S_cs : G_S_cs Z cs) (S__assertionsDisabled : G_S__assertionsDisabled Z) (S_HI_BYTE_SHIFT : G_S_HI_BYTE_SHIFT Z) (S_LO_BYTE_SHIFT : G_S_LO_BYTE_SHIFT Z) (hcs : ¬ cs = 0) :
  Con w [] Z mn20 prog_19_method_2_code 2 (some .int) R_offset_52 Ts Ts f #[.ref a1, .int i1] h0 (Q_offset_52 Z a1 a2 i1 i2 i3 i4 i5 i6 i7 h0) := by
 refine con_of f #[vR a1, vI i1] (plainFor_of_name pn_3) (fun m => rfl) Zf ?_
 intro C H hX0
 refine r_aloadN H 1 d_g19_2_0 ?_
 refine r_dup H 2 d_g19_2_1 ?_
 refine r_getf H 5 d_g19_2_2 (tw79 hw) F_offset_a1 ?_
 refine r_aloadN H 6 d_g19_2_5 ?_
 refine r_getf H 9 d_g19_2_6 (tw72 hw) F_text_a1 ?_
 refine r_aloadN H 10 d_g19_2_9 ?_
 refine r_getf H 13 d_g19_2_10 (tw81 hw) F_index_a1 ?_
 refine r_iloadN H 14 d_g19_2_13 ?_
 refine r_virtual (z := mn19) (a := a2) (argsL := [.int i2, .int i1]) (rest := [.int i3, .ref a1]) (W := 2) H 17 d_g19_2_14 (tw83 hw) (tw84 hw) (nf_sel (tw86 hw)) (tw86 hw) (tw85 hw) (tw22 hw) (tw87 hw) E_a2 (lenOf pd_18 rfl) (rm_codePointCount_53 hw Ts a2 a3 i2 i1 i4 i5 i6 i7 c1 cs h0 f Zf Z0 E_a2 F_value_a2 A_a3 F_coder_a2 l_i2_i1 r_i2 r_i1 r_i4 r_i5 r_i6 r_i7 S_cs S__assertionsDisabled S_HI_BYTE_SHIFT S_LO_BYTE_SHIFT hcs) ?_
 rintro _ _ ⟨p1, rfl, ep1, rp1, rfl⟩
 refine r_iadd H 18 (i3 + p1) d_g19_2_17 rfl ?_
 refine r_putf (ty := .int) H 21 d_g19_2_18 (tw79 hw) F_offset_a1 E_a1 (Or.inl (tw80 hw)) (tw18 hw) g_a1 ?_
 intro h3 W3 K3 E3 F3
 refine r_aloadN H 22 d_g19_2_21 ?_
 refine r_iloadN H 23 d_g19_2_22 ?_
 have q4 := (F_index_a1.other W3 (Or.inr (slot_ne (Or.inl (tw82 hw)) (Or.inl (tw80 hw)) (by decide) (t := .int) (t' := .int) (by decide) (by decide))))
 refine r_putf (ty := .int) H 26 d_g19_2_23 (tw81 hw) q4 E3 (Or.inl (tw82 hw)) (tw18 hw) g_a1 ?_
 intro h5 W5 K5 E5 F5
 refine r_aloadN H 27 d_g19_2_26 ?_
 have q6 := (F3.other W5 (Or.inr (slot_ne (Or.inl (tw80 hw)) (Or.inl (tw82 hw)) (by decide) (t := .int) (t' := .int) (by decide) (by decide))))
 refine r_getf H 30 d_g19_2_27 (tw79 hw) q6 ?_
 have k7 : Keep h0 h3 [a1] := Keep.trans (Keep.refl h0 [a1]) K3 (allS (Or.inl (List.mem_of_getElem? (i := 0) rfl)) all0)
 have k8 : Keep h0 h5 [a1] := Keep.trans k7 K5 (allS (Or.inl (List.mem_of_getElem? (i := 0) rfl)) all0)
 have q9 := ((F_text_a1.other W3 (Or.inr (slot_ne (Or.inr (tw73 hw)) (Or.inl (tw80 hw)) (by decide) (t := (.object "java/lang/String")) (t' := .int) (by decide) (by decide)))).other W5 (Or.inr (slot_ne (Or.inr (tw73 hw)) (Or.inl (tw82 hw)) (by decide) (t := (.object "java/lang/String")) (t' := .int) (by decide) (by decide))))
 subst ep1
 exact r_ireturn H d_g19_2_30 (⟨_, rfl, rfl, k8, E5, F5, q6, q9⟩)
def Q_codePointCount_59 (Z : State) (h0 : Heap) (v : Option Value) (h : Heap) : Prop := v = some (.int 0) ∧ h0 = h
def R_codePointCount_59 : Room := { frames := 0, cells := 0, slots := 0, locals := 0 }
theorem rm_codePointCount_59 {w : Bool} {Z : State} {a0 : Array Value} (hw : HW a0 Z) (Ts : List String) (a1 : Addr) (i1 : Int32) (h0 : Heap) (f : Nat) (Zf : Z.heap.size ≤ f) (Z0 : f ≤ h0.size) (r_i1 : 0 ≤ i1.toInt ∧ i1.toInt ≤ 4) (S__assertionsDisabled : G_S__assertionsDisabled Z) :
  Con w [] Z mn24 jdk_52_method_11_code 6 (some .int) R_codePointCount_59 Ts Ts f #[.ref a1, .int i1, .int i1, .int 0] h0 (Q_codePointCount_59 Z h0) := by
 refine con_of f #[vR a1, vI i1, vI i1, vI 0, .unset, .unset] (plainFor_of_name pn_1) (fun m => rfl) Zf ?_
 intro C H hX0
 refine r_gets H 3 d_j52_11_0 (tw55 hw) S__assertionsDisabled ?_
 refine r_ifneT H 19 d_j52_11_3 (by decide) (by decide) (by decide) ?_
 refine r_iloadN H 20 d_j52_11_19 ?_
 have c1 : i1 = (0 : Int32) ∨ i1 = (1 : Int32) ∨ i1 = (2 : Int32) ∨ i1 = (3 : Int32) ∨ i1 = (4 : Int32) := by
  have := r_i1; simp only [← Int32.toInt_inj]; have : (0 : Int32).toInt = 0 := (by decide); have : (1 : Int32).toInt = 1 := (by decide); have : (2 : Int32).toInt = 2 := (by decide); have : (3 : Int32).toInt = 3 := (by decide); have : (4 : Int32).toInt = 4 := (by decide); omega
 rcases c1 with c1 | c1 | c1 | c1 | c1
 ·
  subst c1
  refine r_iloadN H 21 d_j52_11_20 ?_
  refine r_isub H 22 0 d_j52_11_21 ?_
  refine r_istore H 24 #[vR a1, vI 0, vI 0, vI 0, vI 0, .unset] d_j52_11_22 ?_
  refine r_iloadN H 25 d_j52_11_24 ?_
  refine r_istore H 27 #[vR a1, vI 0, vI 0, vI 0, vI 0, vI 0] d_j52_11_25 ?_
  refine r_iloadN H 28 d_j52_11_27 ?_
  refine r_ifeqT H 44 d_j52_11_28 (by decide) (by decide) (by decide) ?_
  refine r_iload H 46 d_j52_11_44 ?_
  refine r_iloadN H 47 d_j52_11_46 ?_
  refine r_iconst H 48 1 d_j52_11_47 ?_
  refine r_isub H 49 (-1 : Int32) d_j52_11_48 ?_
  refine r_icmpgeT H 88 d_j52_11_49 (by decide) (by decide) (by decide) ?_
  refine r_iload H 90 d_j52_11_88 ?_
  exact r_ireturn H d_j52_11_90 (⟨rfl, rfl⟩)
 ·
  subst c1
  refine r_iloadN H 21 d_j52_11_20 ?_
  refine r_isub H 22 0 d_j52_11_21 ?_
  refine r_istore H 24 #[vR a1, vI 1, vI 1, vI 0, vI 0, .unset] d_j52_11_22 ?_
  refine r_iloadN H 25 d_j52_11_24 ?_
  refine r_istore H 27 #[vR a1, vI 1, vI 1, vI 0, vI 0, vI 1] d_j52_11_25 ?_
  refine r_iloadN H 28 d_j52_11_27 ?_
  refine r_ifeqT H 44 d_j52_11_28 (by decide) (by decide) (by decide) ?_
  refine r_iload H 46 d_j52_11_44 ?_
  refine r_iloadN H 47 d_j52_11_46 ?_
  refine r_iconst H 48 1 d_j52_11_47 ?_
  refine r_isub H 49 0 d_j52_11_48 ?_
  refine r_icmpgeT H 88 d_j52_11_49 (by decide) (by decide) (by decide) ?_
  refine r_iload H 90 d_j52_11_88 ?_
  exact r_ireturn H d_j52_11_90 (⟨rfl, rfl⟩)
 ·
  subst c1
  refine r_iloadN H 21 d_j52_11_20 ?_
  refine r_isub H 22 0 d_j52_11_21 ?_
  refine r_istore H 24 #[vR a1, vI 2, vI 2, vI 0, vI 0, .unset] d_j52_11_22 ?_
  refine r_iloadN H 25 d_j52_11_24 ?_
  refine r_istore H 27 #[vR a1, vI 2, vI 2, vI 0, vI 0, vI 2] d_j52_11_25 ?_
  refine r_iloadN H 28 d_j52_11_27 ?_
  refine r_ifeqT H 44 d_j52_11_28 (by decide) (by decide) (by decide) ?_
  refine r_iload H 46 d_j52_11_44 ?_
  refine r_iloadN H 47 d_j52_11_46 ?_
  refine r_iconst H 48 1 d_j52_11_47 ?_
  refine r_isub H 49 1 d_j52_11_48 ?_
  refine r_icmpgeT H 88 d_j52_11_49 (by decide) (by decide) (by decide) ?_
  refine r_iload H 90 d_j52_11_88 ?_
  exact r_ireturn H d_j52_11_90 (⟨rfl, rfl⟩)
 ·
  subst c1
  refine r_iloadN H 21 d_j52_11_20 ?_
  refine r_isub H 22 0 d_j52_11_21 ?_
  refine r_istore H 24 #[vR a1, vI 3, vI 3, vI 0, vI 0, .unset] d_j52_11_22 ?_
  refine r_iloadN H 25 d_j52_11_24 ?_
  refine r_istore H 27 #[vR a1, vI 3, vI 3, vI 0, vI 0, vI 3] d_j52_11_25 ?_
  refine r_iloadN H 28 d_j52_11_27 ?_
  refine r_ifeqT H 44 d_j52_11_28 (by decide) (by decide) (by decide) ?_
  refine r_iload H 46 d_j52_11_44 ?_
  refine r_iloadN H 47 d_j52_11_46 ?_
  refine r_iconst H 48 1 d_j52_11_47 ?_
  refine r_isub H 49 2 d_j52_11_48 ?_
  refine r_icmpgeT H 88 d_j52_11_49 (by decide) (by decide) (by decide) ?_
  refine r_iload H 90 d_j52_11_88 ?_
  exact r_ireturn H d_j52_11_90 (⟨rfl, rfl⟩)
 ·
  subst c1
  refine r_iloadN H 21 d_j52_11_20 ?_
  refine r_isub H 22 0 d_j52_11_21 ?_
  refine r_istore H 24 #[vR a1, vI 4, vI 4, vI 0, vI 0, .unset] d_j52_11_22 ?_
  refine r_iloadN H 25 d_j52_11_24 ?_
  refine r_istore H 27 #[vR a1, vI 4, vI 4, vI 0, vI 0, vI 4] d_j52_11_25 ?_
  refine r_iloadN H 28 d_j52_11_27 ?_
  refine r_ifeqT H 44 d_j52_11_28 (by decide) (by decide) (by decide) ?_
  refine r_iload H 46 d_j52_11_44 ?_
  refine r_iloadN H 47 d_j52_11_46 ?_
  refine r_iconst H 48 1 d_j52_11_47 ?_
  refine r_isub H 49 3 d_j52_11_48 ?_
  refine r_icmpgeT H 88 d_j52_11_49 (by decide) (by decide) (by decide) ?_
  refine r_iload H 90 d_j52_11_88 ?_
  exact r_ireturn H d_j52_11_90 (⟨rfl, rfl⟩)
def Q_codePointCount_58 (Z : State) (h0 : Heap) (v : Option Value) (h : Heap) : Prop := v = some (.int 0) ∧ h0 = h
def R_codePointCount_58 : Room := { frames := 1, cells := 0, slots := 0, locals := 17 }
theorem rm_codePointCount_58 {w : Bool} {Z : State} {a0 : Array Value} (hw : HW a0 Z) (Ts : List String) (a1 : Addr) (i1 : Int32) (h0 : Heap) (f : Nat) (Zf : Z.heap.size ≤ f) (Z0 : f ≤ h0.size) (r_i1 : 0 ≤ i1.toInt ∧ i1.toInt ≤ 4) (S__assertionsDisabled : G_S__assertionsDisabled Z) :
  Con w [] Z mn25 jdk_52_method_12_code 3 (some .int) R_codePointCount_58 Ts Ts f #[.ref a1, .int i1, .int i1] h0 (Q_codePointCount_58 Z h0) := by
 refine con_of f #[vR a1, vI i1, vI i1] (plainFor_of_name pn_1) (fun m => rfl) Zf ?_
 intro C H hX0
 refine r_aloadN H 1 d_j52_12_0 ?_
 refine r_iloadN H 2 d_j52_12_1 ?_
 refine r_iloadN H 3 d_j52_12_2 ?_
 refine r_iconst H 4 0 d_j52_12_3 ?_
 refine r_static (argsL := [.ref a1, .int i1, .int i1, .int 0]) (rest := []) (W := 0) H 7 d_j52_12_4 (tw114 hw) (tw115 hw) (tw36 hw) (tw116 hw) (lenOf pd_20 rfl) (rm_codePointCount_59 hw Ts a1 i1 h0 f Zf Z0 r_i1 S__assertionsDisabled) ?_
 rintro _ _ ⟨rfl, rfl⟩
 exact r_ireturn H d_j52_12_7 (⟨rfl, rfl⟩)
def Q_codePointCount_57 (Z : State) (h0 : Heap) (v : Option Value) (h : Heap) : Prop := v = some (.int 0) ∧ h0 = h
def R_codePointCount_57 : Room := { frames := 2, cells := 0, slots := 0, locals := 31 }
theorem rm_codePointCount_57 {w : Bool} {Z : State} {a0 : Array Value} (hw : HW a0 Z) (Ts : List String) (a1 : Addr) (a2 : Addr) (i1 : Int32) (i2 : Int32) (i3 : Int32) (i4 : Int32) (i5 : Int32) (c1 : ClassId) (cs : Int32) (h0 : Heap) (f : Nat) (Zf : Z.heap.size ≤ f) (Z0 : f ≤ h0.size) (E_a1 : Exa Z h0 a1 "java/lang/String") (F_value_a1 : Fld Z h0 a1 "java/lang/String" "value" "[B" (.ref a2)) (A_a2 : Ar Z h0 a2 c1 .byte [.int (cL8 i2), .int (cH8 i2), .int (cL8 i3), .int (cH8 i3), .int (cL8 i4), .int (cH8 i4), .int (cL8 i5), .int (cH8 i5)]) (F_coder_a1 : Fld Z h0 a1 "java/lang/String" "coder" "B" (.int 1)) (r_i1 : 0 ≤ i1.toInt ∧ i1.toInt ≤ 4) (S_cs : G_S_cs Z cs) (S__assertionsDisabled : G_S__assertionsDisabled Z) (hcs : ¬ cs = 0) :
  Con w [] Z mn19 jdk_42_method_59_code 3 (some .int) R_codePointCount_57 Ts Ts f #[.ref a1, .int i1, .int i1] h0 (Q_codePointCount_57 Z h0) := by
 refine con_of f #[vR a1, vI i1, vI i1] (plainFor_of_name pn_2) (fun m => rfl) Zf ?_
 intro C H hX0
 refine r_iloadN H 1 d_j42_59_0 ?_
 refine r_iloadN H 2 d_j42_59_1 ?_
 refine r_aloadN H 3 d_j42_59_2 ?_
 refine r_virtual (z := mn15) (a := a1) (argsL := []) (rest := [.int i1, .int i1]) (W := 2) H 6 d_j42_59_3 (tw88 hw) (tw89 hw) (nf_sel (tw91 hw)) (tw91 hw) (tw90 hw) (tw22 hw) (tw92 hw) E_a1 (lenOf pd_14 rfl) (rm_length_45 hw Ts a1 a2 (cL8 i2) (cH8 i2) (cL8 i3) (cH8 i3) (cL8 i4) (cH8 i4) (cL8 i5) (cH8 i5) c1 cs h0 f Zf Z0 F_value_a1 A_a2 E_a1 F_coder_a1 S_cs hcs) ?_
 rintro _ _ ⟨rfl, rfl⟩
 refine r_static (argsL := [.int i1, .int i1, .int 4]) (rest := []) (W := 0) H 9 d_j42_59_6 (tw98 hw) (tw99 hw) (tw100 hw) (tw101 hw) (lenOf pd_16 rfl) (rm_checkFromToIndex_35 hw Ts i1 h0 f Zf Z0 r_i1) ?_
 rintro _ _ ⟨rfl, rfl⟩
 refine r_pop H 10 d_j42_59_9 ?_
 refine r_aloadN H 11 d_j42_59_10 ?_
 refine r_virtual (z := mn18) (a := a1) (argsL := []) (rest := []) (W := 0) H 14 d_j42_59_11 (tw106 hw) (tw107 hw) (nf_sel (tw109 hw)) (tw109 hw) (tw108 hw) (tw22 hw) (tw110 hw) E_a1 (lenOf pd_17 rfl) (rm_isLatin1_47 hw Ts a1 cs h0 f Zf Z0 F_coder_a1 S_cs hcs) ?_
 rintro _ _ ⟨rfl, rfl⟩
 refine r_ifeqT H 21 d_j42_59_14 (by decide) (by decide) (by decide) ?_
 refine r_aloadN H 22 d_j42_59_21 ?_
 refine r_getf H 25 d_j42_59_22 (tw66 hw) F_value_a1 ?_
 refine r_iloadN H 26 d_j42_59_25 ?_
 refine r_iloadN H 27 d_j42_59_26 ?_
 refine r_static (argsL := [.ref a2, .int i1, .int i1]) (rest := []) (W := 0) H 30 d_j42_59_27 (tw111 hw) (tw112 hw) (tw36 hw) (tw113 hw) (lenOf pd_21 rfl) (rm_codePointCount_58 hw Ts a2 i1 h0 f Zf Z0 r_i1 S__assertionsDisabled) ?_
 rintro _ _ ⟨rfl, rfl⟩
 exact r_ireturn H d_j42_59_30 (⟨rfl, rfl⟩)
def Q_offset_56 (Z : State) (a1 : Addr) (a2 : Addr) (i1 : Int32) (i2 : Int32) (h0 : Heap) (v : Option Value) (h : Heap) : Prop := ∃ (z : Int32), v = some (.int z) ∧ (i2 + (0 : Int32)) = z ∧ Keep h0 h [a1] ∧ Exa Z h a1 "com/example/indentree/indentree/reader/CodePoints" ∧ Fld Z h a1 "com/example/indentree/indentree/reader/CodePoints" "index" "I" (.int i1) ∧ Fld Z h a1 "com/example/indentree/indentree/reader/CodePoints" "offset" "I" (.int (i2 + (0 : Int32))) ∧ Fld Z h a1 "com/example/indentree/indentree/reader/CodePoints" "text" "Ljava/lang/String;" (.ref a2)
def R_offset_56 : Room := { frames := 3, cells := 0, slots := 0, locals := 47 }
theorem rm_offset_56 {w : Bool} {Z : State} {a0 : Array Value} (hw : HW a0 Z) (Ts : List String) (a1 : Addr) (a2 : Addr) (a3 : Addr) (i1 : Int32) (i2 : Int32) (i3 : Int32) (i4 : Int32) (i5 : Int32) (i6 : Int32) (c1 : ClassId) (cs : Int32) (h0 : Heap) (f : Nat) (Zf : Z.heap.size ≤ f) (Z0 : f ≤ h0.size) (F_offset_a1 : Fld Z h0 a1 "com/example/indentree/indentree/reader/CodePoints" "offset" "I" (.int i2)) (F_text_a1 : Fld Z h0 a1 "com/example/indentree/indentree/reader/CodePoints" "text" "Ljava/lang/String;" (.ref a2)) (F_index_a1 : Fld Z h0 a1 "com/example/indentree/indentree/reader/CodePoints" "index" "I" (.int i1)) (E_a2 : Exa Z h0 a2 "java/lang/String") (F_value_a2 : Fld Z h0 a2 "java/lang/String" "value" "[B" (.ref a3)) (A_a3 : Ar Z h0 a3 c1 .byte [.int (cL8 i3), .int (cH8 i3), .int (cL8 i4), .int (cH8 i4), .int (cL8 i5), .int (cH8 i5), .int (cL8 i6), .int (cH8 i6)]) (F_coder_a2 : Fld Z h0 a2 "java/lang/String" "coder" "B" (.int 1)) (E_a1 : Exa Z h0 a1 "com/example/indentree/indentree/reader/CodePoints") (g_a1 : f ≤ a1) (r_i1 : 0 ≤ i1.toInt ∧ i1.toInt ≤ 4) (S_cs : G_S_cs Z cs) (S__assertionsDisabled : G_S__assertionsDisabled Z) (hcs : ¬ cs = 0) :
  Con w [] Z mn20 prog_19_method_2_code 2 (some .int) R_offset_56 Ts Ts f #[.ref a1, .int i1] h0 (Q_offset_56 Z a1 a2 i1 i2 h0) := by
 refine con_of f #[vR a1, vI i1] (plainFor_of_name pn_3) (fun m => rfl) Zf ?_
 intro C H hX0
 refine r_aloadN H 1 d_g19_2_0 ?_
 refine r_dup H 2 d_g19_2_1 ?_
 refine r_getf H 5 d_g19_2_2 (tw79 hw) F_offset_a1 ?_
 refine r_aloadN H 6 d_g19_2_5 ?_
 refine r_getf H 9 d_g19_2_6 (tw72 hw) F_text_a1 ?_
 refine r_aloadN H 10 d_g19_2_9 ?_
 refine r_getf H 13 d_g19_2_10 (tw81 hw) F_index_a1 ?_
 refine r_iloadN H 14 d_g19_2_13 ?_
 refine r_virtual (z := mn19) (a := a2) (argsL := [.int i1, .int i1]) (rest := [.int i2, .ref a1]) (W := 2) H 17 d_g19_2_14 (tw83 hw) (tw84 hw) (nf_sel (tw86 hw)) (tw86 hw) (tw85 hw) (tw22 hw) (tw87 hw) E_a2 (lenOf pd_18 rfl) (rm_codePointCount_57 hw Ts a2 a3 i1 i3 i4 i5 i6 c1 cs h0 f Zf Z0 E_a2 F_value_a2 A_a3 F_coder_a2 r_i1 S_cs S__assertionsDisabled hcs) ?_
 rintro _ _ ⟨rfl, rfl⟩
 refine r_iadd H 18 (i2 + (0 : Int32)) d_g19_2_17 rfl ?_
 refine r_putf (ty := .int) H 21 d_g19_2_18 (tw79 hw) F_offset_a1 E_a1 (Or.inl (tw80 hw)) (tw18 hw) g_a1 ?_
 intro h2 W2 K2 E2 F2
 refine r_aloadN H 22 d_g19_2_21 ?_
 refine r_iloadN H 23 d_g19_2_22 ?_
 have q3 := (F_index_a1.other W2 (Or.inr (slot_ne (Or.inl (tw82 hw)) (Or.inl (tw80 hw)) (by decide) (t := .int) (t' := .int) (by decide) (by decide))))
 refine r_putf (ty := .int) H 26 d_g19_2_23 (tw81 hw) q3 E2 (Or.inl (tw82 hw)) (tw18 hw) g_a1 ?_
 intro h4 W4 K4 E4 F4
 refine r_aloadN H 27 d_g19_2_26 ?_
 have q5 := (F2.other W4 (Or.inr (slot_ne (Or.inl (tw80 hw)) (Or.inl (tw82 hw)) (by decide) (t := .int) (t' := .int) (by decide) (by decide))))
 refine r_getf H 30 d_g19_2_27 (tw79 hw) q5 ?_
 have k6 : Keep h0 h2 [a1] := Keep.trans (Keep.refl h0 [a1]) K2 (allS (Or.inl (List.mem_of_getElem? (i := 0) rfl)) all0)
 have k7 : Keep h0 h4 [a1] := Keep.trans k6 K4 (allS (Or.inl (List.mem_of_getElem? (i := 0) rfl)) all0)
 have q8 := ((F_text_a1.other W2 (Or.inr (slot_ne (Or.inr (tw73 hw)) (Or.inl (tw80 hw)) (by decide) (t := (.object "java/lang/String")) (t' := .int) (by decide) (by decide)))).other W4 (Or.inr (slot_ne (Or.inr (tw73 hw)) (Or.inl (tw82 hw)) (by decide) (t := (.object "java/lang/String")) (t' := .int) (by decide) (by decide))))
 exact r_ireturn H d_g19_2_30 (⟨_, rfl, rfl, k7, E4, F4, q5, q8⟩)
def fn_codePointCount_63 (i1 : Int32) (i2 : Int32) (i3 : Int32) (i4 : Int32) (i5 : Int32) : Int32 := (if i1 = (0 : Int32) then (if (if i2 < (55296 : Int32) then (0 : Int32) else (if i2 < (56320 : Int32) then (1 : Int32) else (0 : Int32))) = (0 : Int32) then (if (if i3 < (55296 : Int32) then (0 : Int32) else (if i3 < (56320 : Int32) then (1 : Int32) else (0 : Int32))) = (0 : Int32) then (if (if i4 < (55296 : Int32) then (0 : Int32) else (if i4 < (56320 : Int32) then (1 : Int32) else (0 : Int32))) = (0 : Int32) then (4 : Int32) else (if (if i5 < (56320 : Int32) then (0 : Int32) else (if i5 < (57344 : Int32) then (1 : Int32) else (0 : Int32))) = (0 : Int32) then (4 : Int32) else (3 : Int32))) else (if (if i4 < (56320 : Int32) then (0 : Int32) else (if i4 < (57344 : Int32) then (1 : Int32) else (0 : Int32))) = (0 : Int32) then (if (if i4 < (55296 : Int32) then (0 : Int32) else (if i4 < (56320 : Int32) then (1 : Int32) else (0 : Int32))) = (0 : Int32) then (4 : Int32) else (if (if i5 < (56320 : Int32) then (0 : Int32) else (if i5 < (57344 : Int32) then (1 : Int32) else (0 : Int32))) = (0 : Int32) then (4 : Int32) else (3 : Int32))) else (3 : Int32))) else (if (if i3 < (56320 : Int32) then (0 : Int32) else (if i3 < (57344 : Int32) then (1 : Int32) else (0 : Int32))) = (0 : Int32) then (if (if i3 < (55296 : Int32) then (0 : Int32) else (if i3 < (56320 : Int32) then (1 : Int32) else (0 : Int32))) = (0 : Int32) then (if (if i4 < (55296 : Int32) then (0 : Int32) else (if i4 < (56320 : Int32) then (1 : Int32) else (0 : Int32))) = (0 : Int32) then (4 : Int32) else (if (if i5 < (56320 : Int32) then (0 : Int32) else (if i5 < (57344 : Int32) then (1 : Int32) else (0 : Int32))) = (0 : Int32) then (4 : Int32) else (3 : Int32))) else (if (if i4 < (56320 : Int32) then (0 : Int32) else (if i4 < (57344 : Int32) then (1 : Int32) else (0 : Int32))) = (0 : Int32) then (if (if i4 < (55296 : Int32) then (0 : Int32) else (if i4 < (56320 : Int32) then (1 : Int32) else (0 : Int32))) = (0 : Int32) then (4 : Int32) else (if (if i5 < (56320 : Int32) then (0 : Int32) else (if i5 < (57344 : Int32) then (1 : Int32) else (0 : Int32))) = (0 : Int32) then (4 : Int32) else (3 : Int32))) else (3 : Int32))) else (if (if i4 < (55296 : Int32) then (0 : Int32) else (if i4 < (56320 : Int32) then (1 : Int32) else (0 : Int32))) = (0 : Int32) then (3 : Int32) else (if (if i5 < (56320 : Int32) then (0 : Int32) else (if i5 < (57344 : Int32) then (1 : Int32) else (0 : Int32))) = (0 : Int32) then (3 : Int32) else (2 : Int32))))) else (if i1 = (1 : Int32) then (if (if i3 < (55296 : Int32) then (0 : Int32) else (if i3 < (56320 : Int32) then (1 : Int32) else (0 : Int32))) = (0 : Int32) then (if (if i4 < (55296 : Int32) then (0 : Int32) else (if i4 < (56320 : Int32) then (1 : Int32) else (0 : Int32))) = (0 : Int32) then (3 : Int32) else (if (if i5 < (56320 : Int32) then (0 : Int32) else (if i5 < (57344 : Int32) then (1 : Int32) else (0 : Int32))) = (0 : Int32) then (3 : Int32) else (2 : Int32))) else (if (if i4 < (56320 : Int32) then (0 : Int32) else (if i4 < (57344 : Int32) then (1 : Int32) else (0 : Int32))) = (0 : Int32) then (if (if i4 < (55296 : Int32) then (0 : Int32) else (if i4 < (56320 : Int32) then (1 : Int32) else (0 : Int32))) = (0 : Int32) then (3 : Int32) else (if (if i5 < (56320 : Int32) then (0 : Int32) else (if i5 < (57344 : Int32) then (1 : Int32) else (0 : Int32))) = (0 : Int32) then (3 : Int32) else (2 : Int32))) else (2 : Int32))) else (if i1 = (2 : Int32) then (if (if i4 < (55296 : Int32) then (0 : Int32) else (if i4 < (56320 : Int32) then (1 : Int32) else (0 : Int32))) = (0 : Int32) then (2 : Int32) else (if (if i5 < (56320 : Int32) then (0 : Int32) else (if i5 < (57344 : Int32) then (1 : Int32) else (0 : Int32))) = (0 : Int32) then (2 : Int32) else (1 : Int32))) else (if i1 = (3 : Int32) then (1 : Int32) else (0 : Int32)))))
def Q_codePointCount_63 (Z : State) (i1 : Int32) (i2 : Int32) (i3 : Int32) (i4 : Int32) (i5 : Int32) (h0 : Heap) (v : Option Value) (h : Heap) : Prop := ∃ z : Int32, v = some (.int z) ∧ h0 = h ∧ (fn_codePointCount_63 i1 i2 i3 i4 i5) = z ∧ (0 ≤ z.toInt ∧ z.toInt ≤ 4)
def R_codePointCount_63 : Room := { frames := 1, cells := 0, slots := 0, locals := 13 }
theorem rm_codePointCount_63 {w : Bool} {Z : State} {a0 : Array Value} (hw : HW a0 Z) (Ts : List String) (a1 : Addr) (i1 : Int32) (i2 : Int32) (i3 : Int32) (i4 : Int32) (i5 : Int32) (c1 : ClassId) (h0 : Heap) (f : Nat) (Zf : Z.heap.size ≤ f) (Z0 : f ≤ h0.size) (A_a1 : Ar Z h0 a1 c1 .byte [.int (cL8 i2), .int (cH8 i2), .int (cL8 i3), .int (cH8 i3), .int (cL8 i4), .int (cH8 i4), .int (cL8 i5), .int (cH8 i5)]) (r_i1 : 0 ≤ i1.toInt ∧ i1.toInt ≤ 4) (r_i2 : 0 ≤ i2.toInt ∧ i2.toInt ≤ 65535) (r_i3 : 0 ≤ i3.toInt ∧ i3.toInt ≤ 65535) (r_i4 : 0 ≤ i4.toInt ∧ i4.toInt ≤ 65535) (r_i5 : 0 ≤ i5.toInt ∧ i5.toInt ≤ 65535) (S__assertionsDisabled : G_S__assertionsDisabled Z) (S_HI_BYTE_SHIFT : G_S_HI_BYTE_SHIFT Z) (S_LO_BYTE_SHIFT : G_S_LO_BYTE_SHIFT Z) :
  Con w [] Z mn24 jdk_52_method_11_code 6 (some .int) R_codePointCount_63 Ts Ts f #[.ref a1, .int i1, .int 4, .int 0] h0 (Q_codePointCount_63 Z i1 i2 i3 i4 i5 h0) := by
 refine con_of f #[vR a1, vI i1, vI 4, vI 0, .unset, .unset] (plainFor_of_name pn_1) (fun m => rfl) Zf ?_
 intro C H hX0
 refine r_gets H 3 d_j52_11_0 (tw55 hw) S__assertionsDisabled ?_
 refine r_ifneT H 19 d_j52_11_3 (by decide) (by decide) (by decide) ?_
 refine r_iloadN H 20 d_j52_11_19 ?_
 refine r_iloadN H 21 d_j52_11_20 ?_
 have c1 : i1 = (0 : Int32) ∨ i1 = (1 : Int32) ∨ i1 = (2 : Int32) ∨ i1 = (3 : Int32) ∨ i1 = (4 : Int32) := by
  have := r_i1; simp only [← Int32.toInt_inj]; have : (0 : Int32).toInt = 0 := (by decide); have : (1 : Int32).toInt = 1 := (by decide); have : (2 : Int32).toInt = 2 := (by decide); have : (3 : Int32).toInt = 3 := (by decide); have : (4 : Int32).toInt = 4 := (by decide); omega
 rcases c1 with c1 | c1 | c1 | c1 | c1
 ·
  subst c1
  refine r_isub H 22 4 d_j52_11_21 ?_
  refine r_istore H 24 #[vR a1, vI 0, vI 4, vI 0, vI 4, .unset] d_j52_11_22 ?_
  refine r_iloadN H 25 d_j52_11_24 ?_
  refine r_istore H 27 #[vR a1, vI 0, vI 4, vI 0, vI 4, vI 0] d_j52_11_25 ?_
  refine r_iloadN H 28 d_j52_11_27 ?_
  refine r_ifeqT H 44 d_j52_11_28 (by decide) (by decide) (by decide) ?_
  refine r_iload H 46 d_j52_11_44 ?_
  refine r_iloadN H 47 d_j52_11_46 ?_
  refine r_iconst H 48 1 d_j52_11_47 ?_
  refine r_isub H 49 3 d_j52_11_48 ?_
  refine r_icmpgeF H 52 d_j52_11_49 rfl (by decide) ?_
  refine r_aloadN H 53 d_j52_11_52 ?_
  refine r_iload H 55 d_j52_11_53 ?_
  refine r_iinc H 58 #[vR a1, vI 0, vI 4, vI 0, vI 4, vI 1] 1 d_j52_11_55 ?_
  refine r_static (argsL := [.ref a1, .int 0]) (rest := []) (W := 0) H 61 d_j52_11_58 (tw58 hw) (tw59 hw) (tw36 hw) (tw60 hw) (lenOf pd_8 rfl) (rm_getChar_18 hw Ts a1 (cL8 i2) (cH8 i2) (cL8 i3) (cH8 i3) (cL8 i4) (cH8 i4) (cL8 i5) (cH8 i5) c1 h0 f Zf Z0 A_a1 S__assertionsDisabled S_HI_BYTE_SHIFT S_LO_BYTE_SHIFT) ?_
  rintro _ _ ⟨p2, rfl, ep2, rp2, rfl⟩
  have hzp2 : i2 = p2 := by rw [← ep2]; exact (own_u16 i2 (by have := r_i2; omega)).symm
  subst hzp2
  refine r_static (argsL := [.int i2]) (rest := []) (W := 0) H 64 d_j52_11_61 (tw117 hw) (tw118 hw) (tw119 hw) (tw120 hw) (lenOf pd_19 rfl) (rm_isHighSurrogate_50 hw Ts i2 h0 f Zf Z0 r_i2) ?_
  rintro _ _ ⟨p4, rfl, ep4, rp4, rfl⟩
  refine r_ifeq H 44 67 d_j52_11_64 (fun c6 => ?_) (fun c6 => ?_)
  ·
   refine r_iload H 46 d_j52_11_44 ?_
   refine r_iloadN H 47 d_j52_11_46 ?_
   refine r_iconst H 48 1 d_j52_11_47 ?_
   refine r_isub H 49 3 d_j52_11_48 ?_
   refine r_icmpgeF H 52 d_j52_11_49 rfl (by decide) ?_
   refine r_aloadN H 53 d_j52_11_52 ?_
   refine r_iload H 55 d_j52_11_53 ?_
   refine r_iinc H 58 #[vR a1, vI 0, vI 4, vI 0, vI 4, vI 2] 2 d_j52_11_55 ?_
   refine r_static (argsL := [.ref a1, .int 1]) (rest := []) (W := 0) H 61 d_j52_11_58 (tw58 hw) (tw59 hw) (tw36 hw) (tw60 hw) (lenOf pd_8 rfl) (rm_getChar_17 hw Ts a1 (cL8 i2) (cH8 i2) (cL8 i3) (cH8 i3) (cL8 i4) (cH8 i4) (cL8 i5) (cH8 i5) c1 h0 f Zf Z0 A_a1 S__assertionsDisabled S_HI_BYTE_SHIFT S_LO_BYTE_SHIFT) ?_
   rintro _ _ ⟨p8, rfl, ep8, rp8, rfl⟩
   have hzp8 : i3 = p8 := by rw [← ep8]; exact (own_u16 i3 (by have := r_i3; omega)).symm
   subst hzp8
   refine r_static (argsL := [.int i3]) (rest := []) (W := 0) H 64 d_j52_11_61 (tw117 hw) (tw118 hw) (tw119 hw) (tw120 hw) (lenOf pd_19 rfl) (rm_isHighSurrogate_50 hw Ts i3 h0 f Zf Z0 r_i3) ?_
   rintro _ _ ⟨p10, rfl, ep10, rp10, rfl⟩
   refine r_ifeq H 44 67 d_j52_11_64 (fun c12 => ?_) (fun c12 => ?_)
   ·
    refine r_iload H 46 d_j52_11_44 ?_
    refine r_iloadN H 47 d_j52_11_46 ?_
    refine r_iconst H 48 1 d_j52_11_47 ?_
    refine r_isub H 49 3 d_j52_11_48 ?_
    refine r_icmpgeF H 52 d_j52_11_49 rfl (by decide) ?_
    refine r_aloadN H 53 d_j52_11_52 ?_
    refine r_iload H 55 d_j52_11_53 ?_
    refine r_iinc H 58 #[vR a1, vI 0, vI 4, vI 0, vI 4, vI 3] 3 d_j52_11_55 ?_
    refine r_static (argsL := [.ref a1, .int 2]) (rest := []) (W := 0) H 61 d_j52_11_58 (tw58 hw) (tw59 hw) (tw36 hw) (tw60 hw) (lenOf pd_8 rfl) (rm_getChar_16 hw Ts a1 (cL8 i2) (cH8 i2) (cL8 i3) (cH8 i3) (cL8 i4) (cH8 i4) (cL8 i5) (cH8 i5) c1 h0 f Zf Z0 A_a1 S__assertionsDisabled S_HI_BYTE_SHIFT S_LO_BYTE_SHIFT) ?_
    rintro _ _ ⟨p14, rfl, ep14, rp14, rfl⟩
    have hzp14 : i4 = p14 := by rw [← ep14]; exact (own_u16 i4 (by have := r_i4; omega)).symm
    subst hzp14
    refine r_static (argsL := [.int i4]) (rest := []) (W := 0) H 64 d_j52_11_61 (tw117 hw) (tw118 hw) (tw119 hw) (tw120 hw) (lenOf pd_19 rfl) (rm_isHighSurrogate_50 hw Ts i4 h0 f Zf Z0 r_i4) ?_
    rintro _ _ ⟨p16, rfl, ep16, rp16, rfl⟩
    refine r_ifeq H 44 67 d_j52_11_64 (fun c18 => ?_) (fun c18 => ?_)
    ·
     refine r_iload H 46 d_j52_11_44 ?_
     refine r_iloadN H 47 d_j52_11_46 ?_
     refine r_iconst H 48 1 d_j52_11_47 ?_
     refine r_isub H 49 3 d_j52_11_48 ?_
     refine r_icmpgeT H 88 d_j52_11_49 (by decide) (by decide) (by decide) ?_
     refine r_iload H 90 d_j52_11_88 ?_
     subst ep4 ep10 ep16
     exact r_ireturn H d_j52_11_90 (⟨_, rfl, rfl, (by unfold fn_codePointCount_63; rw [if_pos rfl, if_pos c6, if_pos c12, if_pos c18]), (by decide)⟩)
    ·
     refine r_aloadN H 68 d_j52_11_67 ?_
     refine r_iload H 70 d_j52_11_68 ?_
     refine r_static (argsL := [.ref a1, .int 3]) (rest := []) (W := 0) H 73 d_j52_11_70 (tw58 hw) (tw59 hw) (tw36 hw) (tw60 hw) (lenOf pd_8 rfl) (rm_getChar_15 hw Ts a1 (cL8 i2) (cH8 i2) (cL8 i3) (cH8 i3) (cL8 i4) (cH8 i4) (cL8 i5) (cH8 i5) c1 h0 f Zf Z0 A_a1 S__assertionsDisabled S_HI_BYTE_SHIFT S_LO_BYTE_SHIFT) ?_
     rintro _ _ ⟨p21, rfl, ep21, rp21, rfl⟩
     have hzp21 : i5 = p21 := by rw [← ep21]; exact (own_u16 i5 (by have := r_i5; omega)).symm
     subst hzp21
     refine r_static (argsL := [.int i5]) (rest := []) (W := 0) H 76 d_j52_11_73 (tw126 hw) (tw127 hw) (tw119 hw) (tw128 hw) (lenOf pd_19 rfl) (rm_isLowSurrogate_51 hw Ts i5 h0 f Zf Z0 r_i5) ?_
     rintro _ _ ⟨p23, rfl, ep23, rp23, rfl⟩
     refine r_ifeq H 44 79 d_j52_11_76 (fun c25 => ?_) (fun c25 => ?_)
     ·
      refine r_iload H 46 d_j52_11_44 ?_
      refine r_iloadN H 47 d_j52_11_46 ?_
      refine r_iconst H 48 1 d_j52_11_47 ?_
      refine r_isub H 49 3 d_j52_11_48 ?_
      refine r_icmpgeT H 88 d_j52_11_49 (by decide) (by decide) (by decide) ?_
      refine r_iload H 90 d_j52_11_88 ?_
      subst ep4 ep10 ep16 ep23
      exact r_ireturn H d_j52_11_90 (⟨_, rfl, rfl, (by unfold fn_codePointCount_63; rw [if_pos rfl, if_pos c6, if_pos c12, if_neg c18, if_pos c25]), (by decide)⟩)
     ·
      refine r_iinc H 82 #[vR a1, vI 0, vI 4, vI 0, vI 3, vI 3] 3 d_j52_11_79 ?_
      refine r_iinc H 85 #[vR a1, vI 0, vI 4, vI 0, vI 3, vI 4] 4 d_j52_11_82 ?_
      refine r_goto H 44 d_j52_11_85 ?_
      refine r_iload H 46 d_j52_11_44 ?_
      refine r_iloadN H 47 d_j52_11_46 ?_
      refine r_iconst H 48 1 d_j52_11_47 ?_
      refine r_isub H 49 3 d_j52_11_48 ?_
      refine r_icmpgeT H 88 d_j52_11_49 (by decide) (by decide) (by decide) ?_
      refine r_iload H 90 d_j52_11_88 ?_
      subst ep4 ep10 ep16 ep23
      exact r_ireturn H d_j52_11_90 (⟨_, rfl, rfl, (by unfold fn_codePointCount_63; rw [if_pos rfl, if_pos c6, if_pos c12, if_neg c18, if_neg c25]), (by decide)⟩)
   ·
    refine r_aloadN H 68 d_j52_11_67 ?_
    refine r_iload H 70 d_j52_11_68 ?_
    refine r_static (argsL := [.ref a1, .int 2]) (rest := []) (W := 0) H 73 d_j52_11_70 (tw58 hw) (tw59 hw) (tw36 hw) (tw60 hw) (lenOf pd_8 rfl) (rm_getChar_16 hw Ts a1 (cL8 i2) (cH8 i2) (cL8 i3) (cH8 i3) (cL8 i4) (cH8 i4) (cL8 i5) (cH8 i5) c1 h0 f Zf Z0 A_a1 S__assertionsDisabled S_HI_BYTE_SHIFT S_LO_BYTE_SHIFT) ?_
    rintro _ _ ⟨p29, rfl, ep29, rp29, rfl⟩
    have hzp29 : i4 = p29 := by rw [← ep29]; exact (own_u16 i4 (by have := r_i4; omega)).symm
    subst hzp29
    refine r_static (argsL := [.int i4]) (rest := []) (W := 0) H 76 d_j52_11_73 (tw126 hw) (tw127 hw) (tw119 hw) (tw128 hw) (lenOf pd_19 rfl) (rm_isLowSurrogate_51 hw Ts i4 h0 f Zf Z0 r_i4) ?_
    rintro _ _ ⟨p31, rfl, ep31, rp31, rfl⟩
    refine r_ifeq H 44 79 d_j52_11_76 (fun c33 => ?_) (fun c33 => ?_)
    ·
     refine r_iload H 46 d_j52_11_44 ?_
     refine r_iloadN H 47 d_j52_11_46 ?_
     refine r_iconst H 48 1 d_j52_11_47 ?_
     refine r_isub H 49 3 d_j52_11_48 ?_
     refine r_icmpgeF H 52 d_j52_11_49 rfl (by decide) ?_
     refine r_aloadN H 53 d_j52_11_52 ?_
     refine r_iload H 55 d_j52_11_53 ?_
     refine r_iinc H 58 #[vR a1, vI 0, vI 4, vI 0, vI 4, vI 3] 3 d_j52_11_55 ?_
     refine r_static (argsL := [.ref a1, .int 2]) (rest := []) (W := 0) H 61 d_j52_11_58 (tw58 hw) (tw59 hw) (tw36 hw) (tw60 hw) (lenOf pd_8 rfl) (rm_getChar_16 hw Ts a1 (cL8 i2) (cH8 i2) (cL8 i3) (cH8 i3) (cL8 i4) (cH8 i4) (cL8 i5) (cH8 i5) c1 h0 f Zf Z0 A_a1 S__assertionsDisabled S_HI_BYTE_SHIFT S_LO_BYTE_SHIFT) ?_
     rintro _ _ ⟨p35, rfl, ep35, rp35, rfl⟩
     have hzp35 : i4 = p35 := by rw [← ep35]; exact (own_u16 i4 (by have := r_i4; omega)).symm
     subst hzp35
     refine r_static (argsL := [.int i4]) (rest := []) (W := 0) H 64 d_j52_11_61 (tw117 hw) (tw118 hw) (tw119 hw) (tw120 hw) (lenOf pd_19 rfl) (rm_isHighSurrogate_50 hw Ts i4 h0 f Zf Z0 r_i4) ?_
     rintro _ _ ⟨p37, rfl, ep37, rp37, rfl⟩
     refine r_ifeq H 44 67 d_j52_11_64 (fun c39 => ?_) (fun c39 => ?_)
     ·
      refine r_iload H 46 d_j52_11_44 ?_
      refine r_iloadN H 47 d_j52_11_46 ?_
      refine r_iconst H 48 1 d_j52_11_47 ?_
      refine r_isub H 49 3 d_j52_11_48 ?_
      refine r_icmpgeT H 88 d_j52_11_49 (by decide) (by decide) (by decide) ?_
      refine r_iload H 90 d_j52_11_88 ?_
      subst ep4 ep10 ep31 ep37
      exact r_ireturn H d_j52_11_90 (⟨_, rfl, rfl, (by unfold fn_codePointCount_63; rw [if_pos rfl, if_pos c6, if_neg c12, if_pos c33, if_pos c39]), (by decide)⟩)
     ·
      refine r_aloadN H 68 d_j52_11_67 ?_
      refine r_iload H 70 d_j52_11_68 ?_
      refine r_static (argsL := [.ref a1, .int 3]) (rest := []) (W := 0) H 73 d_j52_11_70 (tw58 hw) (tw59 hw) (tw36 hw) (tw60 hw) (lenOf pd_8 rfl) (rm_getChar_15 hw Ts a1 (cL8 i2) (cH8 i2) (cL8 i3) (cH8 i3) (cL8 i4) (cH8 i4) (cL8 i5) (cH8 i5) c1 h0 f Zf Z0 A_a1 S__assertionsDisabled S_HI_BYTE_SHIFT S_LO_BYTE_SHIFT) ?_
      rintro _ _ ⟨p42, rfl, ep42, rp42, rfl⟩
      have hzp42 : i5 = p42 := by rw [← ep42]; exact (own_u16 i5 (by have := r_i5; omega)).symm
      subst hzp42
      refine r_static (argsL := [.int i5]) (rest := []) (W := 0) H 76 d_j52_11_73 (tw126 hw) (tw127 hw) (tw119 hw) (tw128 hw) (lenOf pd_19 rfl) (rm_isLowSurrogate_51 hw Ts i5 h0 f Zf Z0 r_i5) ?_
      rintro _ _ ⟨p44, rfl, ep44, rp44, rfl⟩
      refine r_ifeq H 44 79 d_j52_11_76 (fun c46 => ?_) (fun c46 => ?_)
      ·
       refine r_iload H 46 d_j52_11_44 ?_
       refine r_iloadN H 47 d_j52_11_46 ?_
       refine r_iconst H 48 1 d_j52_11_47 ?_
       refine r_isub H 49 3 d_j52_11_48 ?_
       refine r_icmpgeT H 88 d_j52_11_49 (by decide) (by decide) (by decide) ?_
       refine r_iload H 90 d_j52_11_88 ?_
       subst ep4 ep10 ep31 ep37 ep44
       exact r_ireturn H d_j52_11_90 (⟨_, rfl, rfl, (by unfold fn_codePointCount_63; rw [if_pos rfl, if_pos c6, if_neg c12, if_pos c33, if_neg c39, if_pos c46]), (by decide)⟩)
      ·
       refine r_iinc H 82 #[vR a1, vI 0, vI 4, vI 0, vI 3, vI 3] 3 d_j52_11_79 ?_
       refine r_iinc H 85 #[vR a1, vI 0, vI 4, vI 0, vI 3, vI 4] 4 d_j52_11_82 ?_
       refine r_goto H 44 d_j52_11_85 ?_
       refine r_iload H 46 d_j52_11_44 ?_
       refine r_iloadN H 47 d_j52_11_46 ?_
       refine r_iconst H 48 1 d_j52_11_47 ?_
       refine r_isub H 49 3 d_j52_11_48 ?_
       refine r_icmpgeT H 88 d_j52_11_49 (by decide) (by decide) (by decide) ?_
       refine r_iload H 90 d_j52_11_88 ?_
       subst ep4 ep10 ep31 ep37 ep44
       exact r_ireturn H d_j52_11_90 (⟨_, rfl, rfl, (by unfold fn_codePointCount_63; rw [if_pos rfl, if_pos c6, if_neg c12, if_pos c33, if_neg c39, if_neg c46]), (by decide)⟩)
    ·
     refine r_iinc H 82 #[vR a1, vI 0, vI 4, vI 0, vI 3, vI 2] 3 d_j52_11_79 ?_
     refine r_iinc H 85 #[vR a1, vI 0, vI 4, vI 0, vI 3, vI 3] 3 d_j52_11_82 ?_
     refine r_goto H 44 d_j52_11_85 ?_
     refine r_iload H 46 d_j52_11_44 ?_
     refine r_iloadN H 47 d_j52_11_46 ?_
     refine r_iconst H 48 1 d_j52_11_47 ?_
     refine r_isub H 49 3 d_j52_11_48 ?_
     refine r_icmpgeT H 88 d_j52_11_49 (by decide) (by decide) (by decide) ?_
     refine r_iload H 90 d_j52_11_88 ?_
     subst ep4 ep10 ep31
     exact r_ireturn H d_j52_11_90 (⟨_, rfl, rfl, (by unfold fn_codePointCount_63; rw [if_pos rfl, if_pos c6, if_neg c12, if_neg c33]), (by decide)⟩)
  ·
   refine r_aloadN H 68 d_j52_11_67 ?_
   refine r_iload H 70 d_j52_11_68 ?_
   refine r_static (argsL := [.ref a1, .int 1]) (rest := []) (W := 0) H 73 d_j52_11_70 (tw58 hw) (tw59 hw) (tw36 hw) (tw60 hw) (lenOf pd_8 rfl) (rm_getChar_17 hw Ts a1 (cL8 i2) (cH8 i2) (cL8 i3) (cH8 i3) (cL8 i4) (cH8 i4) (cL8 i5) (cH8 i5) c1 h0 f Zf Z0 A_a1 S__assertionsDisabled S_HI_BYTE_SHIFT S_LO_BYTE_SHIFT) ?_
   rintro _ _ ⟨p51, rfl, ep51, rp51, rfl⟩
   have hzp51 : i3 = p51 := by rw [← ep51]; exact (own_u16 i3 (by have := r_i3; omega)).symm
   subst hzp51
   refine r_static (argsL := [.int i3]) (rest := []) (W := 0) H 76 d_j52_11_73 (tw126 hw) (tw127 hw) (tw119 hw) (tw128 hw) (lenOf pd_19 rfl) (rm_isLowSurrogate_51 hw Ts i3 h0 f Zf Z0 r_i3) ?_
   rintro _ _ ⟨p53, rfl, ep53, rp53, rfl⟩
   refine r_ifeq H 44 79 d_j52_11_76 (fun c55 => ?_) (fun c55 => ?_)
   ·
    refine r_iload H 46 d_j52_11_44 ?_
    refine r_iloadN H 47 d_j52_11_46 ?_
    refine r_iconst H 48 1 d_j52_11_47 ?_
    refine r_isub H 49 3 d_j52_11_48 ?_
    refine r_icmpgeF H 52 d_j52_11_49 rfl (by decide) ?_
    refine r_aloadN H 53 d_j52_11_52 ?_
    refine r_iload H 55 d_j52_11_53 ?_
    refine r_iinc H 58 #[vR a1, vI 0, vI 4, vI 0, vI 4, vI 2] 2 d_j52_11_55 ?_
    refine r_static (argsL := [.ref a1, .int 1]) (rest := []) (W := 0) H 61 d_j52_11_58 (tw58 hw) (tw59 hw) (tw36 hw) (tw60 hw) (lenOf pd_8 rfl) (rm_getChar_17 hw Ts a1 (cL8 i2) (cH8 i2) (cL8 i3) (cH8 i3) (cL8 i4) (cH8 i4) (cL8 i5) (cH8 i5) c1 h0 f Zf Z0 A_a1 S__assertionsDisabled S_HI_BYTE_SHIFT S_LO_BYTE_SHIFT) ?_
    rintro _ _ ⟨p57, rfl, ep57, rp57, rfl⟩
    have hzp57 : i3 = p57 := by rw [← ep57]; exact (own_u16 i3 (by have := r_i3; omega)).symm
    subst hzp57
    refine r_static (argsL := [.int i3]) (rest := []) (W := 0) H 64 d_j52_11_61 (tw117 hw) (tw118 hw) (tw119 hw) (tw120 hw) (lenOf pd_19 rfl) (rm_isHighSurrogate_50 hw Ts i3 h0 f Zf Z0 r_i3) ?_
    rintro _ _ ⟨p59, rfl, ep59, rp59, rfl⟩
    refine r_ifeq H 44 67 d_j52_11_64 (fun c61 => ?_) (fun c61 => ?_)
    ·
     refine r_iload H 46 d_j52_11_44 ?_
     refine r_iloadN H 47 d_j52_11_46 ?_
     refine r_iconst H 48 1 d_j52_11_47 ?_
     refine r_isub H 49 3 d_j52_11_48 ?_
     refine r_icmpgeF H 52 d_j52_11_49 rfl (by decide) ?_
     refine r_aloadN H 53 d_j52_11_52 ?_
     refine r_iload H 55 d_j52_11_53 ?_
     refine r_iinc H 58 #[vR a1, vI 0, vI 4, vI 0, vI 4, vI 3] 3 d_j52_11_55 ?_
     refine r_static (argsL := [.ref a1, .int 2]) (rest := []) (W := 0) H 61 d_j52_11_58 (tw58 hw) (tw59 hw) (tw36 hw) (tw60 hw) (lenOf pd_8 rfl) (rm_getChar_16 hw Ts a1 (cL8 i2) (cH8 i2) (cL8 i3) (cH8 i3) (cL8 i4) (cH8 i4) (cL8 i5) (cH8 i5) c1 h0 f Zf Z0 A_a1 S__assertionsDisabled S_HI_BYTE_SHIFT S_LO_BYTE_SHIFT) ?_
     rintro _ _ ⟨p63, rfl, ep63, rp63, rfl⟩
     have hzp63 : i4 = p63 := by rw [← ep63]; exact (own_u16 i4 (by have := r_i4; omega)).symm
     subst hzp63
     refine r_static (argsL := [.int i4]) (rest := []) (W := 0) H 64 d_j52_11_61 (tw117 hw) (tw118 hw) (tw119 hw) (tw120 hw) (lenOf pd_19 rfl) (rm_isHighSurrogate_50 hw Ts i4 h0 f Zf Z0 r_i4) ?_
     rintro _ _ ⟨p65, rfl, ep65, rp65, rfl⟩
     refine r_ifeq H 44 67 d_j52_11_64 (fun c67 => ?_) (fun c67 => ?_)
     ·
      refine r_iload H 46 d_j52_11_44 ?_
      refine r_iloadN H 47 d_j52_11_46 ?_
      refine r_iconst H 48 1 d_j52_11_47 ?_
      refine r_isub H 49 3 d_j52_11_48 ?_
      refine r_icmpgeT H 88 d_j52_11_49 (by decide) (by decide) (by decide) ?_
      refine r_iload H 90 d_j52_11_88 ?_
      subst ep4 ep53 ep59 ep65
      exact r_ireturn H d_j52_11_90 (⟨_, rfl, rfl, (by unfold fn_codePointCount_63; rw [if_pos rfl, if_neg c6, if_pos c55, if_pos c61, if_pos c67]), (by decide)⟩)
     ·
      refine r_aloadN H 68 d_j52_11_67 ?_
      refine r_iload H 70 d_j52_11_68 ?_
      refine r_static (argsL := [.ref a1, .int 3]) (rest := []) (W := 0) H 73 d_j52_11_70 (tw58 hw) (tw59 hw) (tw36 hw) (tw60 hw) (lenOf pd_8 rfl) (rm_getChar_15 hw Ts a1 (cL8 i2) (cH8 i2) (cL8 i3) (cH8 i3) (cL8 i4) (cH8 i4) (cL8 i5) (cH8 i5) c1 h0 f Zf Z0 A_a1 S__assertionsDisabled S_HI_BYTE_SHIFT S_LO_BYTE_SHIFT) ?_
      rintro _ _ ⟨p70, rfl, ep70, rp70, rfl⟩
      have hzp70 : i5 = p70 := by rw [← ep70]; exact (own_u16 i5 (by have := r_i5; omega)).symm
      subst hzp70
      refine r_static (argsL := [.int i5]) (rest := []) (W := 0) H 76 d_j52_11_73 (tw126 hw) (tw127 hw) (tw119 hw) (tw128 hw) (lenOf pd_19 rfl) (rm_isLowSurrogate_51 hw Ts i5 h0 f Zf Z0 r_i5) ?_
      rintro _ _ ⟨p72, rfl, ep72, rp72, rfl⟩
      refine r_ifeq H 44 79 d_j52_11_76 (fun c74 => ?_) (fun c74 => ?_)
      ·
       refine r_iload H 46 d_j52_11_44 ?_
       refine r_iloadN H 47 d_j52_11_46 ?_
       refine r_iconst H 48 1 d_j52_11_47 ?_
       refine r_isub H 49 3 d_j52_11_48 ?_
       refine r_icmpgeT H 88 d_j52_11_49 (by decide) (by decide) (by decide) ?_
       refine r_iload H 90 d_j52_11_88 ?_
       subst ep4 ep53 ep59 ep65 ep72
       exact r_ireturn H d_j52_11_90 (⟨_, rfl, rfl, (by unfold fn_codePointCount_63; rw [if_pos rfl, if_neg c6, if_pos c55, if_pos c61, if_neg c67, if_pos c74]), (by decide)⟩)
      ·
       refine r_iinc H 82 #[vR a1, vI 0, vI 4, vI 0, vI 3, vI 3] 3 d_j52_11_79 ?_
       refine r_iinc H 85 #[vR a1, vI 0, vI 4, vI 0, vI 3, vI 4] 4 d_j52_11_82 ?_
       refine r_goto H 44 d_j52_11_85 ?_
       refine r_iload H 46 d_j52_11_44 ?_
       refine r_iloadN H 47 d_j52_11_46 ?_
       refine r_iconst H 48 1 d_j52_11_47 ?_
       refine r_isub H 49 3 d_j52_11_48 ?_
       refine r_icmpgeT H 88 d_j52_11_49 (by decide) (by decide) (by decide) ?_
       refine r_iload H 90 d_j52_11_88 ?_
       subst ep4 ep53 ep59 ep65 ep72
       exact r_ireturn H d_j52_11_90 (⟨_, rfl, rfl, (by unfold fn_codePointCount_63; rw [if_pos rfl, if_neg c6, if_pos c55, if_pos c61, if_neg c67, if_neg c74]), (by decide)⟩)
    ·
     refine r_aloadN H 68 d_j52_11_67 ?_
     refine r_iload H 70 d_j52_11_68 ?_
     refine r_static (argsL := [.ref a1, .int 2]) (rest := []) (W := 0) H 73 d_j52_11_70 (tw58 hw) (tw59 hw) (tw36 hw) (tw60 hw) (lenOf pd_8 rfl) (rm_getChar_16 hw Ts a1 (cL8 i2) (cH8 i2) (cL8 i3) (cH8 i3) (cL8 i4) (cH8 i4) (cL8 i5) (cH8 i5) c1 h0 f Zf Z0 A_a1 S__assertionsDisabled S_HI_BYTE_SHIFT S_LO_BYTE_SHIFT) ?_
     rintro _ _ ⟨p78, rfl, ep78, rp78, rfl⟩
     have hzp78 : i4 = p78 := by rw [← ep78]; exact (own_u16 i4 (by have := r_i4; omega)).symm
     subst hzp78
     refine r_static (argsL := [.int i4]) (rest := []) (W := 0) H 76 d_j52_11_73 (tw126 hw) (tw127 hw) (tw119 hw) (tw128 hw) (lenOf pd_19 rfl) (rm_isLowSurrogate_51 hw Ts i4 h0 f Zf Z0 r_i4) ?_
     rintro _ _ ⟨p80, rfl, ep80, rp80, rfl⟩
     refine r_ifeq H 44 79 d_j52_11_76 (fun c82 => ?_) (fun c82 => ?_)
     ·
      refine r_iload H 46 d_j52_11_44 ?_
      refine r_iloadN H 47 d_j52_11_46 ?_
      refine r_iconst H 48 1 d_j52_11_47 ?_
      refine r_isub H 49 3 d_j52_11_48 ?_
      refine r_icmpgeF H 52 d_j52_11_49 rfl (by decide) ?_
      refine r_aloadN H 53 d_j52_11_52 ?_
      refine r_iload H 55 d_j52_11_53 ?_
      refine r_iinc H 58 #[vR a1, vI 0, vI 4, vI 0, vI 4, vI 3] 3 d_j52_11_55 ?_
      refine r_static (argsL := [.ref a1, .int 2]) (rest := []) (W := 0) H 61 d_j52_11_58 (tw58 hw) (tw59 hw) (tw36 hw) (tw60 hw) (lenOf pd_8 rfl) (rm_getChar_16 hw Ts a1 (cL8 i2) (cH8 i2) (cL8 i3) (cH8 i3) (cL8 i4) (cH8 i4) (cL8 i5) (cH8 i5) c1 h0 f Zf Z0 A_a1 S__assertionsDisabled S_HI_BYTE_SHIFT S_LO_BYTE_SHIFT) ?_
      rintro _ _ ⟨p84, rfl, ep84, rp84, rfl⟩
      have hzp84 : i4 = p84 := by rw [← ep84]; exact (own_u16 i4 (by have := r_i4; omega)).symm
      subst hzp84
      refine r_static (argsL := [.int i4]) (rest := []) (W := 0) H 64 d_j52_11_61 (tw117 hw) (tw118 hw) (tw119 hw) (tw120 hw) (lenOf pd_19 rfl) (rm_isHighSurrogate_50 hw Ts i4 h0 f Zf Z0 r_i4) ?_
      rintro _ _ ⟨p86, rfl, ep86, rp86, rfl⟩
      refine r_ifeq H 44 67 d_j52_11_64 (fun c88 => ?_) (fun c88 => ?_)
      ·
       refine r_iload H 46 d_j52_11_44 ?_
       refine r_iloadN H 47 d_j52_11_46 ?_
       refine r_iconst H 48 1 d_j52_11_47 ?_
       refine r_isub H 49 3 d_j52_11_48 ?_
       refine r_icmpgeT H 88 d_j52_11_49 (by decide) (by decide) (by decide) ?_
       refine r_iload H 90 d_j52_11_88 ?_
       subst ep4 ep53 ep59 ep80 ep86
       exact r_ireturn H d_j52_11_90 (⟨_, rfl, rfl, (by unfold fn_codePointCount_63; rw [if_pos rfl, if_neg c6, if_pos c55, if_neg c61, if_pos c82, if_pos c88]), (by decide)⟩)
      ·
       refine r_aloadN H 68 d_j52_11_67 ?_
       refine r_iload H 70 d_j52_11_68 ?_
       refine r_static (argsL := [.ref a1, .int 3]) (rest := []) (W := 0) H 73 d_j52_11_70 (tw58 hw) (tw59 hw) (tw36 hw) (tw60 hw) (lenOf pd_8 rfl) (rm_getChar_15 hw Ts a1 (cL8 i2) (cH8 i2) (cL8 i3) (cH8 i3) (cL8 i4) (cH8 i4) (cL8 i5) (cH8 i5) c1 h0 f Zf Z0 A_a1 S__assertionsDisabled S_HI_BYTE_SHIFT S_LO_BYTE_SHIFT) ?_
       rintro _ _ ⟨p91, rfl, ep91, rp91, rfl⟩
       have hzp91 : i5 = p91 := by rw [← ep91]; exact (own_u16 i5 (by have := r_i5; omega)).symm
       subst hzp91
       refine r_static (argsL := [.int i5]) (rest := []) (W := 0) H 76 d_j52_11_73 (tw126 hw) (tw127 hw) (tw119 hw) (tw128 hw) (lenOf pd_19 rfl) (rm_isLowSurrogate_51 hw Ts i5 h0 f Zf Z0 r_i5) ?_
       rintro _ _ ⟨p93, rfl, ep93, rp93, rfl⟩
       refine r_ifeq H 44 79 d_j52_11_76 (fun c95 => ?_) (fun c95 => ?_)
       ·
        refine r_iload H 46 d_j52_11_44 ?_
        refine r_iloadN H 47 d_j52_11_46 ?_
        refine r_iconst H 48 1 d_j52_11_47 ?_
        refine r_isub H 49 3 d_j52_11_48 ?_
        refine r_icmpgeT H 88 d_j52_11_49 (by decide) (by decide) (by decide) ?_
        refine r_iload H 90 d_j52_11_88 ?_
        subst ep4 ep53 ep59 ep80 ep86 ep93
        exact r_ireturn H d_j52_11_90 (⟨_, rfl, rfl, (by unfold fn_codePointCount_63; rw [if_pos rfl, if_neg c6, if_pos c55, if_neg c61, if_pos c82, if_neg c88, if_pos c95]), (by decide)⟩)
       ·
        refine r_iinc H 82 #[vR a1, vI 0, vI 4, vI 0, vI 3, vI 3] 3 d_j52_11_79 ?_
        refine r_iinc H 85 #[vR a1, vI 0, vI 4, vI 0, vI 3, vI 4] 4 d_j52_11_82 ?_
        refine r_goto H 44 d_j52_11_85 ?_
        refine r_iload H 46 d_j52_11_44 ?_
        refine r_iloadN H 47 d_j52_11_46 ?_
        refine r_iconst H 48 1 d_j52_11_47 ?_
        refine r_isub H 49 3 d_j52_11_48 ?_
        refine r_icmpgeT H 88 d_j52_11_49 (by decide) (by decide) (by decide) ?_
        refine r_iload H 90 d_j52_11_88 ?_
        subst ep4 ep53 ep59 ep80 ep86 ep93
        exact r_ireturn H d_j52_11_90 (⟨_, rfl, rfl, (by unfold fn_codePointCount_63; rw [if_pos rfl, if_neg c6, if_pos c55, if_neg c61, if_pos c82, if_neg c88, if_neg c95]), (by decide)⟩)
     ·
      refine r_iinc H 82 #[vR a1, vI 0, vI 4, vI 0, vI 3, vI 2] 3 d_j52_11_79 ?_
      refine r_iinc H 85 #[vR a1, vI 0, vI 4, vI 0, vI 3, vI 3] 3 d_j52_11_82 ?_
      refine r_goto H 44 d_j52_11_85 ?_
      refine r_iload H 46 d_j52_11_44 ?_
      refine r_iloadN H 47 d_j52_11_46 ?_
      refine r_iconst H 48 1 d_j52_11_47 ?_
      refine r_isub H 49 3 d_j52_11_48 ?_
      refine r_icmpgeT H 88 d_j52_11_49 (by decide) (by decide) (by decide) ?_
      refine r_iload H 90 d_j52_11_88 ?_
      subst ep4 ep53 ep59 ep80
      exact r_ireturn H d_j52_11_90 (⟨_, rfl, rfl, (by unfold fn_codePointCount_63; rw [if_pos rfl, if_neg c6, if_pos c55, if_neg c61, if_neg c82]), (by decide)⟩)
   ·
    refine r_iinc H 82 #[vR a1, vI 0, vI 4, vI 0, vI 3, vI 1] 3 d_j52_11_79 ?_
    refine r_iinc H 85 #[vR a1, vI 0, vI 4, vI 0, vI 3, vI 2] 2 d_j52_11_82 ?_
    refine r_goto H 44 d_j52_11_85 ?_
    refine r_iload H 46 d_j52_11_44 ?_
    refine r_iloadN H 47 d_j52_11_46 ?_
    refine r_iconst H 48 1 d_j52_11_47 ?_
    refine r_isub H 49 3 d_j52_11_48 ?_
    refine r_icmpgeF H 52 d_j52_11_49 rfl (by decide) ?_
    refine r_aloadN H 53 d_j52_11_52 ?_
    refine r_iload H 55 d_j52_11_53 ?_
    refine r_iinc H 58 #[vR a1, vI 0, vI 4, vI 0, vI 3, vI 3] 3 d_j52_11_55 ?_
    refine r_static (argsL := [.ref a1, .int 2]) (rest := []) (W := 0) H 61 d_j52_11_58 (tw58 hw) (tw59 hw) (tw36 hw) (tw60 hw) (lenOf pd_8 rfl) (rm_getChar_16 hw Ts a1 (cL8 i2) (cH8 i2) (cL8 i3) (cH8 i3) (cL8 i4) (cH8 i4) (cL8 i5) (cH8 i5) c1 h0 f Zf Z0 A_a1 S__assertionsDisabled S_HI_BYTE_SHIFT S_LO_BYTE_SHIFT) ?_
    rintro _ _ ⟨p100, rfl, ep100, rp100, rfl⟩
    have hzp100 : i4 = p100 := by rw [← ep100]; exact (own_u16 i4 (by have := r_i4; omega)).symm
    subst hzp100
    refine r_static (argsL := [.int i4]) (rest := []) (W := 0) H 64 d_j52_11_61 (tw117 hw) (tw118 hw) (tw119 hw) (tw120 hw) (lenOf pd_19 rfl) (rm_isHighSurrogate_50 hw Ts i4 h0 f Zf Z0 r_i4) ?_
    rintro _ _ ⟨p102, rfl, ep102, rp102, rfl⟩
    refine r_ifeq H 44 67 d_j52_11_64 (fun c104 => ?_) (fun c104 => ?_)
    ·
     refine r_iload H 46 d_j52_11_44 ?_
     refine r_iloadN H 47 d_j52_11_46 ?_
     refine r_iconst H 48 1 d_j52_11_47 ?_
     refine r_isub H 49 3 d_j52_11_48 ?_
     refine r_icmpgeT H 88 d_j52_11_49 (by decide) (by decide) (by decide) ?_
     refine r_iload H 90 d_j52_11_88 ?_
     subst ep4 ep53 ep102
     exact r_ireturn H d_j52_11_90 (⟨_, rfl, rfl, (by unfold fn_codePointCount_63; rw [if_pos rfl, if_neg c6, if_neg c55, if_pos c104]), (by decide)⟩)
    ·
     refine r_aloadN H 68 d_j52_11_67 ?_
     refine r_iload H 70 d_j52_11_68 ?_
     refine r_static (argsL := [.ref a1, .int 3]) (rest := []) (W := 0) H 73 d_j52_11_70 (tw58 hw) (tw59 hw) (tw36 hw) (tw60 hw) (lenOf pd_8 rfl) (rm_getChar_15 hw Ts a1 (cL8 i2) (cH8 i2) (cL8 i3) (cH8 i3) (cL8 i4) (cH8 i4) (cL8 i5) (cH8 i5) c1 h0 f Zf Z0 A_a1 S__assertionsDisabled S_HI_BYTE_SHIFT S_LO_BYTE_SHIFT) ?_
     rintro _ _ ⟨p107, rfl, ep107, rp107, rfl⟩
     have hzp107 : i5 = p107 := by rw [← ep107]; exact (own_u16 i5 (by have := r_i5; omega)).symm
     subst hzp107
     refine r_static (argsL := [.int i5]) (rest := []) (W := 0) H 76 d_j52_11_73 (tw126 hw) (tw127 hw) (tw119 hw) (tw128 hw) (lenOf pd_19 rfl) (rm_isLowSurrogate_51 hw Ts i5 h0 f Zf Z0 r_i5) ?_
     rintro _ _ ⟨p109, rfl, ep109, rp109, rfl⟩
     refine r_ifeq H 44 79 d_j52_11_76 (fun c111 => ?_) (fun c111 => ?_)
     ·
      refine r_iload H 46 d_j52_11_44 ?_
      refine r_iloadN H 47 d_j52_11_46 ?_
      refine r_iconst H 48 1 d_j52_11_47 ?_
      refine r_isub H 49 3 d_j52_11_48 ?_
      refine r_icmpgeT H 88 d_j52_11_49 (by decide) (by decide) (by decide) ?_
      refine r_iload H 90 d_j52_11_88 ?_
      subst ep4 ep53 ep102 ep109
      exact r_ireturn H d_j52_11_90 (⟨_, rfl, rfl, (by unfold fn_codePointCount_63; rw [if_pos rfl, if_neg c6, if_neg c55, if_neg c104, if_pos c111]), (by decide)⟩)
     ·
      refine r_iinc H 82 #[vR a1, vI 0, vI 4, vI 0, vI 2, vI 3] 2 d_j52_11_79 ?_
      refine r_iinc H 85 #[vR a1, vI 0, vI 4, vI 0, vI 2, vI 4] 4 d_j52_11_82 ?_
      refine r_goto H 44 d_j52_11_85 ?_
      refine r_iload H 46 d_j52_11_44 ?_
      refine r_iloadN H 47 d_j52_11_46 ?_
      refine r_iconst H 48 1 d_j52_11_47 ?_
      refine r_isub H 49 3 d_j52_11_48 ?_
      refine r_icmpgeT H 88 d_j52_11_49 (by decide) (by decide) (by decide) ?_
      refine r_iload H 90 d_j52_11_88 ?_
      subst ep4 ep53 ep102 ep109
      exact r_ireturn H d_j52_11_90 (⟨_, rfl, rfl, (by unfold fn_codePointCount_63; rw [if_pos rfl, if_neg c6, if_neg c55, if_neg c104, if_neg c111]), (by decide)⟩)
 ·
  subst c1
  refine r_isub H 22 3 d_j52_11_21 ?_
  refine r_istore H 24 #[vR a1, vI 1, vI 4, vI 0, vI 3, .unset] d_j52_11_22 ?_
  refine r_iloadN H 25 d_j52_11_24 ?_
  refine r_istore H 27 #[vR a1, vI 1, vI 4, vI 0, vI 3, vI 1] d_j52_11_25 ?_
  refine r_iloadN H 28 d_j52_11_27 ?_
  refine r_ifeqT H 44 d_j52_11_28 (by decide) (by decide) (by decide) ?_
  refine r_iload H 46 d_j52_11_44 ?_
  refine r_iloadN H 47 d_j52_11_46 ?_
  refine r_iconst H 48 1 d_j52_11_47 ?_
  refine r_isub H 49 3 d_j52_11_48 ?_
  refine r_icmpgeF H 52 d_j52_11_49 rfl (by decide) ?_
  refine r_aloadN H 53 d_j52_11_52 ?_
  refine r_iload H 55 d_j52_11_53 ?_
  refine r_iinc H 58 #[vR a1, vI 1, vI 4, vI 0, vI 3, vI 2] 2 d_j52_11_55 ?_
  refine r_static (argsL := [.ref a1, .int 1]) (rest := []) (W := 0) H 61 d_j52_11_58 (tw58 hw) (tw59 hw) (tw36 hw) (tw60 hw) (lenOf pd_8 rfl) (rm_getChar_17 hw Ts a1 (cL8 i2) (cH8 i2) (cL8 i3) (cH8 i3) (cL8 i4) (cH8 i4) (cL8 i5) (cH8 i5) c1 h0 f Zf Z0 A_a1 S__assertionsDisabled S_HI_BYTE_SHIFT S_LO_BYTE_SHIFT) ?_
  rintro _ _ ⟨p114, rfl, ep114, rp114, rfl⟩
  have hzp114 : i3 = p114 := by rw [← ep114]; exact (own_u16 i3 (by have := r_i3; omega)).symm
  subst hzp114
  refine r_static (argsL := [.int i3]) (rest := []) (W := 0) H 64 d_j52_11_61 (tw117 hw) (tw118 hw) (tw119 hw) (tw120 hw) (lenOf pd_19 rfl) (rm_isHighSurrogate_50 hw Ts i3 h0 f Zf Z0 r_i3) ?_
  rintro _ _ ⟨p116, rfl, ep116, rp116, rfl⟩
  refine r_ifeq H 44 67 d_j52_11_64 (fun c118 => ?_) (fun c118 => ?_)
  ·
   refine r_iload H 46 d_j52_11_44 ?_
   refine r_iloadN H 47 d_j52_11_46 ?_
   refine r_iconst H 48 1 d_j52_11_47 ?_
   refine r_isub H 49 3 d_j52_11_48 ?_
   refine r_icmpgeF H 52 d_j52_11_49 rfl (by decide) ?_
   refine r_aloadN H 53 d_j52_11_52 ?_
   refine r_iload H 55 d_j52_11_53 ?_
   refine r_iinc H 58 #[vR a1, vI 1, vI 4, vI 0, vI 3, vI 3] 3 d_j52_11_55 ?_
   refine r_static (argsL := [.ref a1, .int 2]) (rest := []) (W := 0) H 61 d_j52_11_58 (tw58 hw) (tw59 hw) (tw36 hw) (tw60 hw) (lenOf pd_8 rfl) (rm_getChar_16 hw Ts a1 (cL8 i2) (cH8 i2) (cL8 i3) (cH8 i3) (cL8 i4) (cH8 i4) (cL8 i5) (cH8 i5) c1 h0 f Zf Z0 A_a1 S__assertionsDisabled S_HI_BYTE_SHIFT S_LO_BYTE_SHIFT) ?_
   rintro _ _ ⟨p120, rfl, ep120, rp120, rfl⟩
   have hzp120 : i4 = p120 := by rw [← ep120]; exact (own_u16 i4 (by have := r_i4; omega)).symm
   subst hzp120
   refine r_static (argsL := [.int i4]) (rest := []) (W := 0) H 64 d_j52_11_61 (tw117 hw) (tw118 hw) (tw119 hw) (tw120 hw) (lenOf pd_19 rfl) (rm_isHighSurrogate_50 hw Ts i4 h0 f Zf Z0 r_i4) ?_
   rintro _ _ ⟨p122, rfl, ep122, rp122, rfl⟩
   refine r_ifeq H 44 67 d_j52_11_64 (fun c124 => ?_) (fun c124 => ?_)
   ·
    refine r_iload H 46 d_j52_11_44 ?_
    refine r_iloadN H 47 d_j52_11_46 ?_
    refine r_iconst H 48 1 d_j52_11_47 ?_
    refine r_isub H 49 3 d_j52_11_48 ?_
    refine r_icmpgeT H 88 d_j52_11_49 (by decide) (by decide) (by decide) ?_
    refine r_iload H 90 d_j52_11_88 ?_
    subst ep116 ep122
    exact r_ireturn H d_j52_11_90 (⟨_, rfl, rfl, (by unfold fn_codePointCount_63; rw [if_neg (by decide), if_pos rfl, if_pos c118, if_pos c124]), (by decide)⟩)
   ·
    refine r_aloadN H 68 d_j52_11_67 ?_
    refine r_iload H 70 d_j52_11_68 ?_
    refine r_static (argsL := [.ref a1, .int 3]) (rest := []) (W := 0) H 73 d_j52_11_70 (tw58 hw) (tw59 hw) (tw36 hw) (tw60 hw) (lenOf pd_8 rfl) (rm_getChar_15 hw Ts a1 (cL8 i2) (cH8 i2) (cL8 i3) (cH8 i3) (cL8 i4) (cH8 i4) (cL8 i5) (cH8 i5) c1 h0 f Zf Z0 A_a1 S__assertionsDisabled S_HI_BYTE_SHIFT S_LO_BYTE_SHIFT) ?_
    rintro _ _ ⟨p127, rfl, ep127, rp127, rfl⟩
    have hzp127 : i5 = p127 := by rw [← ep127]; exact (own_u16 i5 (by have := r_i5; omega)).symm
    subst hzp127
    refine r_static (argsL := [.int i5]) (rest := []) (W := 0) H 76 d_j52_11_73 (tw126 hw) (tw127 hw) (tw119 hw) (tw128 hw) (lenOf pd_19 rfl) (rm_isLowSurrogate_51 hw Ts i5 h0 f Zf Z0 r_i5) ?_
    rintro _ _ ⟨p129, rfl, ep129, rp129, rfl⟩
    refine r_ifeq H 44 79 d_j52_11_76 (fun c131 => ?_) (fun c131 => ?_)
    ·
     refine r_iload H 46 d_j52_11_44 ?_
     refine r_iloadN H 47 d_j52_11_46 ?_
     refine r_iconst H 48 1 d_j52_11_47 ?_
     refine r_isub H 49 3 d_j52_11_48 ?_
     refine r_icmpgeT H 88 d_j52_11_49 (by decide) (by decide) (by decide) ?_
     refine r_iload H 90 d_j52_11_88 ?_
     subst ep116 ep122 ep129
     exact r_ireturn H d_j52_11_90 (⟨_, rfl, rfl, (by unfold fn_codePointCount_63; rw [if_neg (by decide), if_pos rfl, if_pos c118, if_neg c124, if_pos c131]), (by decide)⟩)
    ·
     refine r_iinc H 82 #[vR a1, vI 1, vI 4, vI 0, vI 2, vI 3] 2 d_j52_11_79 ?_
     refine r_iinc H 85 #[vR a1, vI 1, vI 4, vI 0, vI 2, vI 4] 4 d_j52_11_82 ?_
     refine r_goto H 44 d_j52_11_85 ?_
     refine r_iload H 46 d_j52_11_44 ?_
     refine r_iloadN H 47 d_j52_11_46 ?_
     refine r_iconst H 48 1 d_j52_11_47 ?_
     refine r_isub H 49 3 d_j52_11_48 ?_
     refine r_icmpgeT H 88 d_j52_11_49 (by decide) (by decide) (by decide) ?_
     refine r_iload H 90 d_j52_11_88 ?_
     subst ep116 ep122 ep129
     exact r_ireturn H d_j52_11_90 (⟨_, rfl, rfl, (by unfold fn_codePointCount_63; rw [if_neg (by decide), if_pos rfl, if_pos c118, if_neg c124, if_neg c131]), (by decide)⟩)
  ·
   refine r_aloadN H 68 d_j52_11_67 ?_
   refine r_iload H 70 d_j52_11_68 ?_
   refine r_static (argsL := [.ref a1, .int 2]) (rest := []) (W := 0) H 73 d_j52_11_70 (tw58 hw) (tw59 hw) (tw36 hw) (tw60 hw) (lenOf pd_8 rfl) (rm_getChar_16 hw Ts a1 (cL8 i2) (cH8 i2) (cL8 i3) (cH8 i3) (cL8 i4) (cH8 i4) (cL8 i5) (cH8 i5) c1 h0 f Zf Z0 A_a1 S__assertionsDisabled S_HI_BYTE_SHIFT S_LO_BYTE_SHIFT) ?_
   rintro _ _ ⟨p135, rfl, ep135, rp135, rfl⟩
   have hzp135 : i4 = p135 := by rw [← ep135]; exact (own_u16 i4 (by have := r_i4; omega)).symm
   subst hzp135
   refine r_static (argsL := [.int i4]) (rest := []) (W := 0) H 76 d_j52_11_73 (tw126 hw) (tw127 hw) (tw119 hw) (tw128 hw) (lenOf pd_19 rfl) (rm_isLowSurrogate_51 hw Ts i4 h0 f Zf Z0 r_i4) ?_
   rintro _ _ ⟨p137, rfl, ep137, rp137, rfl⟩
   refine r_ifeq H 44 79 d_j52_11_76 (fun c139 => ?_) (fun c139 => ?_)
   ·
    refine r_iload H 46 d_j52_11_44 ?_
    refine r_iloadN H 47 d_j52_11_46 ?_
    refine r_iconst H 48 1 d_j52_11_47 ?_
    refine r_isub H 49 3 d_j52_11_48 ?_
    refine r_icmpgeF H 52 d_j52_11_49 rfl (by decide) ?_
    refine r_aloadN H 53 d_j52_11_52 ?_
    refine r_iload H 55 d_j52_11_53 ?_
    refine r_iinc H 58 #[vR a1, vI 1, vI 4, vI 0, vI 3, vI 3] 3 d_j52_11_55 ?_
    refine r_static (argsL := [.ref a1, .int 2]) (rest := []) (W := 0) H 61 d_j52_11_58 (tw58 hw) (tw59 hw) (tw36 hw) (tw60 hw) (lenOf pd_8 rfl) (rm_getChar_16 hw Ts a1 (cL8 i2) (cH8 i2) (cL8 i3) (cH8 i3) (cL8 i4) (cH8 i4) (cL8 i5) (cH8 i5) c1 h0 f Zf Z0 A_a1 S__assertionsDisabled S_HI_BYTE_SHIFT S_LO_BYTE_SHIFT) ?_
    rintro _ _ ⟨p141, rfl, ep141, rp141, rfl⟩
    have hzp141 : i4 = p141 := by rw [← ep141]; exact (own_u16 i4 (by have := r_i4; omega)).symm
    subst hzp141
    refine r_static (argsL := [.int i4]) (rest := []) (W := 0) H 64 d_j52_11_61 (tw117 hw) (tw118 hw) (tw119 hw) (tw120 hw) (lenOf pd_19 rfl) (rm_isHighSurrogate_50 hw Ts i4 h0 f Zf Z0 r_i4) ?_
    rintro _ _ ⟨p143, rfl, ep143, rp143, rfl⟩
    refine r_ifeq H 44 67 d_j52_11_64 (fun c145 => ?_) (fun c145 => ?_)
    ·
     refine r_iload H 46 d_j52_11_44 ?_
     refine r_iloadN H 47 d_j52_11_46 ?_
     refine r_iconst H 48 1 d_j52_11_47 ?_
     refine r_isub H 49 3 d_j52_11_48 ?_
     refine r_icmpgeT H 88 d_j52_11_49 (by decide) (by decide) (by decide) ?_
     refine r_iload H 90 d_j52_11_88 ?_
     subst ep116 ep137 ep143
     exact r_ireturn H d_j52_11_90 (⟨_, rfl, rfl, (by unfold fn_codePointCount_63; rw [if_neg (by decide), if_pos rfl, if_neg c118, if_pos c139, if_pos c145]), (by decide)⟩)
    ·
     refine r_aloadN H 68 d_j52_11_67 ?_
     refine r_iload H 70 d_j52_11_68 ?_
     refine r_static (argsL := [.ref a1, .int 3]) (rest := []) (W := 0) H 73 d_j52_11_70 (tw58 hw) (tw59 hw) (tw36 hw) (tw60 hw) (lenOf pd_8 rfl) (rm_getChar_15 hw Ts a1 (cL8 i2) (cH8 i2) (cL8 i3) (cH8 i3) (cL8 i4) (cH8 i4) (cL8 i5) (cH8 i5) c1 h0 f Zf Z0 A_a1 S__assertionsDisabled S_HI_BYTE_SHIFT S_LO_BYTE_SHIFT) ?_
     rintro _ _ ⟨p148, rfl, ep148, rp148, rfl⟩
     have hzp148 : i5 = p148 := by rw [← ep148]; exact (own_u16 i5 (by have := r_i5; omega)).symm
     subst hzp148
     refine r_static (argsL := [.int i5]) (rest := []) (W := 0) H 76 d_j52_11_73 (tw126 hw) (tw127 hw) (tw119 hw) (tw128 hw) (lenOf pd_19 rfl) (rm_isLowSurrogate_51 hw Ts i5 h0 f Zf Z0 r_i5) ?_
     rintro _ _ ⟨p150, rfl, ep150, rp150, rfl⟩
     refine r_ifeq H 44 79 d_j52_11_76 (fun c152 => ?_) (fun c152 => ?_)
     ·
      refine r_iload H 46 d_j52_11_44 ?_
      refine r_iloadN H 47 d_j52_11_46 ?_
      refine r_iconst H 48 1 d_j52_11_47 ?_
      refine r_isub H 49 3 d_j52_11_48 ?_
      refine r_icmpgeT H 88 d_j52_11_49 (by decide) (by decide) (by decide) ?_
      refine r_iload H 90 d_j52_11_88 ?_
      subst ep116 ep137 ep143 ep150
      exact r_ireturn H d_j52_11_90 (⟨_, rfl, rfl, (by unfold fn_codePointCount_63; rw [if_neg (by decide), if_pos rfl, if_neg c118, if_pos c139, if_neg c145, if_pos c152]), (by decide)⟩)
     ·
      refine r_iinc H 82 #[vR a1, vI 1, vI 4, vI 0, vI 2, vI 3] 2 d_j52_11_79 ?_
      refine r_iinc H 85 #[vR a1, vI 1, vI 4, vI 0, vI 2, vI 4] 4 d_j52_11_82 ?_
      refine r_goto H 44 d_j52_11_85 ?_
      refine r_iload H 46 d_j52_11_44 ?_
      refine r_iloadN H 47 d_j52_11_46 ?_
      refine r_iconst H 48 1 d_j52_11_47 ?_
      refine r_isub H 49 3 d_j52_11_48 ?_
      refine r_icmpgeT H 88 d_j52_11_49 (by decide) (by decide) (by decide) ?_
      refine r_iload H 90 d_j52_11_88 ?_
      subst ep116 ep137 ep143 ep150
      exact r_ireturn H d_j52_11_90 (⟨_, rfl, rfl, (by unfold fn_codePointCount_63; rw [if_neg (by decide), if_pos rfl, if_neg c118, if_pos c139, if_neg c145, if_neg c152]), (by decide)⟩)
   ·
    refine r_iinc H 82 #[vR a1, vI 1, vI 4, vI 0, vI 2, vI 2] 2 d_j52_11_79 ?_
    refine r_iinc H 85 #[vR a1, vI 1, vI 4, vI 0, vI 2, vI 3] 3 d_j52_11_82 ?_
    refine r_goto H 44 d_j52_11_85 ?_
    refine r_iload H 46 d_j52_11_44 ?_
    refine r_iloadN H 47 d_j52_11_46 ?_
    refine r_iconst H 48 1 d_j52_11_47 ?_
    refine r_isub H 49 3 d_j52_11_48 ?_
    refine r_icmpgeT H 88 d_j52_11_49 (by decide) (by decide) (by decide) ?_
    refine r_iload H 90 d_j52_11_88 ?_
    subst ep116 ep137
    exact r_ireturn H d_j52_11_90 (⟨_, rfl, rfl, (by unfold fn_codePointCount_63; rw [if_neg (by decide), if_pos rfl, if_neg c118, if_neg c139]), (by decide)⟩)
 ·
  subst c1
  refine r_isub H 22 2 d_j52_11_21 ?_
  refine r_istore H 24 #[vR a1, vI 2, vI 4, vI 0, vI 2, .unset] d_j52_11_22 ?_
  refine r_iloadN H 25 d_j52_11_24 ?_
  refine r_istore H 27 #[vR a1, vI 2, vI 4, vI 0, vI 2, vI 2] d_j52_11_25 ?_
  refine r_iloadN H 28 d_j52_11_27 ?_
  refine r_ifeqT H 44 d_j52_11_28 (by decide) (by decide) (by decide) ?_
  refine r_iload H 46 d_j52_11_44 ?_
  refine r_iloadN H 47 d_j52_11_46 ?_
  refine r_iconst H 48 1 d_j52_11_47 ?_
  refine r_isub H 49 3 d_j52_11_48 ?_
  refine r_icmpgeF H 52 d_j52_11_49 rfl (by decide) ?_
  refine r_aloadN H 53 d_j52_11_52 ?_
  refine r_iload H 55 d_j52_11_53 ?_
  refine r_iinc H 58 #[vR a1, vI 2, vI 4, vI 0, vI 2, vI 3] 3 d_j52_11_55 ?_
  refine r_static (argsL := [.ref a1, .int 2]) (rest := []) (W := 0) H 61 d_j52_11_58 (tw58 hw) (tw59 hw) (tw36 hw) (tw60 hw) (lenOf pd_8 rfl) (rm_getChar_16 hw Ts a1 (cL8 i2) (cH8 i2) (cL8 i3) (cH8 i3) (cL8 i4) (cH8 i4) (cL8 i5) (cH8 i5) c1 h0 f Zf Z0 A_a1 S__assertionsDisabled S_HI_BYTE_SHIFT S_LO_BYTE_SHIFT) ?_
  rintro _ _ ⟨p156, rfl, ep156, rp156, rfl⟩
  have hzp156 : i4 = p156 := by rw [← ep156]; exact (own_u16 i4 (by have := r_i4; omega)).symm
  subst hzp156
  refine r_static (argsL := [.int i4]) (rest := []) (W := 0) H 64 d_j52_11_61 (tw117 hw) (tw118 hw) (tw119 hw) (tw120 hw) (lenOf pd_19 rfl) (rm_isHighSurrogate_50 hw Ts i4 h0 f Zf Z0 r_i4) ?_
  rintro _ _ ⟨p158, rfl, ep158, rp158, rfl⟩
  refine r_ifeq H 44 67 d_j52_11_64 (fun c160 => ?_) (fun c160 => ?_)
  ·
   refine r_iload H 46 d_j52_11_44 ?_
   refine r_iloadN H 47 d_j52_11_46 ?_
   refine r_iconst H 48 1 d_j52_11_47 ?_
   refine r_isub H 49 3 d_j52_11_48 ?_
   refine r_icmpgeT H 88 d_j52_11_49 (by decide) (by decide) (by decide) ?_
   refine r_iload H 90 d_j52_11_88 ?_
   subst ep158
   exact r_ireturn H d_j52_11_90 (⟨_, rfl, rfl, (by unfold fn_codePointCount_63; rw [if_neg (by decide), if_neg (by decide), if_pos rfl, if_pos c160]), (by decide)⟩)
  ·
   refine r_aloadN H 68 d_j52_11_67 ?_
   refine r_iload H 70 d_j52_11_68 ?_
   refine r_static (argsL := [.ref a1, .int 3]) (rest := []) (W := 0) H 73 d_j52_11_70 (tw58 hw) (tw59 hw) (tw36 hw) (tw60 hw) (lenOf pd_8 rfl) (rm_getChar_15 hw Ts a1 (cL8 i2) (cH8 i2) (cL8 i3) (cH8 i3) (cL8 i4) (cH8 i4) (cL8 i5) (cH8 i5) c1 h0 f Zf Z0 A_a1 S__assertionsDisabled S_HI_BYTE_SHIFT S_LO_BYTE_SHIFT) ?_
   rintro _ _ ⟨p163, rfl, ep163, rp163, rfl⟩
   have hzp163 : i5 = p163 := by rw [← ep163]; exact (own_u16 i5 (by have := r_i5; omega)).symm
   subst hzp163
   refine r_static (argsL := [.int i5]) (rest := []) (W := 0) H 76 d_j52_11_73 (tw126 hw) (tw127 hw) (tw119 hw) (tw128 hw) (lenOf pd_19 rfl) (rm_isLowSurrogate_51 hw Ts i5 h0 f Zf Z0 r_i5) ?_
   rintro _ _ ⟨p165, rfl, ep165, rp165, rfl⟩
   refine r_ifeq H 44 79 d_j52_11_76 (fun c167 => ?_) (fun c167 => ?_)
   ·
    refine r_iload H 46 d_j52_11_44 ?_
    refine r_iloadN H 47 d_j52_11_46 ?_
    refine r_iconst H 48 1 d_j52_11_47 ?_
    refine r_isub H 49 3 d_j52_11_48 ?_
    refine r_icmpgeT H 88 d_j52_11_49 (by decide) (by decide) (by decide) ?_
    refine r_iload H 90 d_j52_11_88 ?_
    subst ep158 ep165
    exact r_ireturn H d_j52_11_90 (⟨_, rfl, rfl, (by unfold fn_codePointCount_63; rw [if_neg (by decide), if_neg (by decide), if_pos rfl, if_neg c160, if_pos c167]), (by decide)⟩)
   ·
    refine r_iinc H 82 #[vR a1, vI 2, vI 4, vI 0, vI 1, vI 3] 1 d_j52_11_79 ?_
    refine r_iinc H 85 #[vR a1, vI 2, vI 4, vI 0, vI 1, vI 4] 4 d_j52_11_82 ?_
    refine r_goto H 44 d_j52_11_85 ?_
    refine r_iload H 46 d_j52_11_44 ?_
    refine r_iloadN H 47 d_j52_11_46 ?_
    refine r_iconst H 48 1 d_j52_11_47 ?_
    refine r_isub H 49 3 d_j52_11_48 ?_
    refine r_icmpgeT H 88 d_j52_11_49 (by decide) (by decide) (by decide) ?_
    refine r_iload H 90 d_j52_11_88 ?_
    subst ep158 ep165
    exact r_ireturn H d_j52_11_90 (⟨_, rfl, rfl, (by unfold fn_codePointCount_63; rw [if_neg (by decide), if_neg (by decide), if_pos rfl, if_neg c160, if_neg c167]), (by decide)⟩)
 ·
  subst c1
  refine r_isub H 22 1 d_j52_11_21 ?_
  refine r_istore H 24 #[vR a1, vI 3, vI 4, vI 0, vI 1, .unset] d_j52_11_22 ?_
  refine r_iloadN H 25 d_j52_11_24 ?_
  refine r_istore H 27 #[vR a1, vI 3, vI 4, vI 0, vI 1, vI 3] d_j52_11_25 ?_
  refine r_iloadN H 28 d_j52_11_27 ?_
  refine r_ifeqT H 44 d_j52_11_28 (by decide) (by decide) (by decide) ?_
  refine r_iload H 46 d_j52_11_44 ?_
  refine r_iloadN H 47 d_j52_11_46 ?_
  refine r_iconst H 48 1 d_j52_11_47 ?_
  refine r_isub H 49 3 d_j52_11_48 ?_
  refine r_icmpgeT H 88 d_j52_11_49 (by decide) (by decide) (by decide) ?_
  refine r_iload H 90 d_j52_11_88 ?_
  exact r_ireturn H d_j52_11_90 (⟨_, rfl, rfl, (by unfold fn_codePointCount_63; rw [if_neg (by decide), if_neg (by decide), if_neg (by decide), if_pos rfl]), (by decide)⟩)
 ·
  subst c1
  refine r_isub H 22 0 d_j52_11_21 ?_
  refine r_istore H 24 #[vR a1, vI 4, vI 4, vI 0, vI 0, .unset] d_j52_11_22 ?_
  refine r_iloadN H 25 d_j52_11_24 ?_
  refine r_istore H 27 #[vR a1, vI 4, vI 4, vI 0, vI 0, vI 4] d_j52_11_25 ?_
  refine r_iloadN H 28 d_j52_11_27 ?_
  refine r_ifeqT H 44 d_j52_11_28 (by decide) (by decide) (by decide) ?_
  refine r_iload H 46 d_j52_11_44 ?_
  refine r_iloadN H 47 d_j52_11_46 ?_
  refine r_iconst H 48 1 d_j52_11_47 ?_
  refine r_isub H 49 3 d_j52_11_48 ?_
  refine r_icmpgeT H 88 d_j52_11_49 (by decide) (by decide) (by decide) ?_
  refine r_iload H 90 d_j52_11_88 ?_
  exact r_ireturn H d_j52_11_90 (⟨_, rfl, rfl, (by unfold fn_codePointCount_63; rw [if_neg (by decide), if_neg (by decide), if_neg (by decide), if_neg (by decide)]), (by decide)⟩)
def Q_codePointCount_62 (Z : State) (i1 : Int32) (i2 : Int32) (i3 : Int32) (i4 : Int32) (i5 : Int32) (h0 : Heap) (v : Option Value) (h : Heap) : Prop := ∃ (z : Int32), v = some (.int z) ∧ (fn_codePointCount_63 i1 i2 i3 i4 i5) = z ∧ (0 ≤ z.toInt ∧ z.toInt ≤ 4) ∧ h0 = h
def R_codePointCount_62 : Room := { frames := 2, cells := 0, slots := 0, locals := 30 }
theorem rm_codePointCount_62 {w : Bool} {Z : State} {a0 : Array Value} (hw : HW a0 Z) (Ts : List String) (a1 : Addr) (i1 : Int32) (i2 : Int32) (i3 : Int32) (i4 : Int32) (i5 : Int32) (c1 : ClassId) (h0 : Heap) (f : Nat) (Zf : Z.heap.size ≤ f) (Z0 : f ≤ h0.size) (A_a1 : Ar Z h0 a1 c1 .byte [.int (cL8 i2), .int (cH8 i2), .int (cL8 i3), .int (cH8 i3), .int (cL8 i4), .int (cH8 i4), .int (cL8 i5), .int (cH8 i5)]) (r_i1 : 0 ≤ i1.toInt ∧ i1.toInt ≤ 4) (r_i2 : 0 ≤ i2.toInt ∧ i2.toInt ≤ 65535) (r_i3 : 0 ≤ i3.toInt ∧ i3.toInt ≤ 65535) (r_i4 : 0 ≤ i4.toInt ∧ i4.toInt ≤ 65535) (r_i5 : 0 ≤ i5.toInt ∧ i5.toInt ≤ 65535) (S__assertionsDisabled : G_S__assertionsDisabled Z) (S_HI_BYTE_SHIFT : G_S_HI_BYTE_SHIFT Z) (S_LO_BYTE_SHIFT : G_S_LO_BYTE_SHIFT Z) :
  Con w [] Z mn25 jdk_52_method_12_code 3 (some .int) R_codePointCount_62 Ts Ts f #[.ref a1, .int i1, .int 4] h0 (Q_codePointCount_62 Z i1 i2 i3 i4 i5 h0) := by
 refine con_of f #[vR a1, vI i1, vI 4] (plainFor_of_name pn_1) (fun m => rfl) Zf ?_
 intro C H hX0
 refine r_aloadN H 1 d_j52_12_0 ?_
 refine r_iloadN H 2 d_j52_12_1 ?_
 refine r_iloadN H 3 d_j52_12_2 ?_
 refine r_iconst H 4 0 d_j52_12_3 ?_
 refine r_static (argsL := [.ref a1, .int i1, .int 4, .int 0]) (rest := []) (W := 0) H 7 d_j52_12_4 (tw114 hw) (tw115 hw) (tw36 hw) (tw116 hw) (lenOf pd_20 rfl) (rm_codePointCount_63 hw Ts a1 i1 i2 i3 i4 i5 c1 h0 f Zf Z0 A_a1 r_i1 r_i2 r_i3 r_i4 r_i5 S__assertionsDisabled S_HI_BYTE_SHIFT S_LO_BYTE_SHIFT) ?_
 rintro _ _ ⟨p1, rfl, rfl, ep1, rp1⟩
 subst ep1
 exact r_ireturn H d_j52_12_7 (⟨_, rfl, rfl, (by have := rp1; omega), rfl⟩)
def Q_codePointCount_61 (Z : State) (i1 : Int32) (i2 : Int32) (i3 : Int32) (i4 : Int32) (i5 : Int32) (h0 : Heap) (v : Option Value) (h : Heap) : Prop := ∃ (z : Int32), v = some (.int z) ∧ (fn_codePointCount_63 i1 i2 i3 i4 i5) = z ∧ (0 ≤ z.toInt ∧ z.toInt ≤ 4) ∧ h0 = h
def R_codePointCount_61 : Room := { frames := 3, cells := 0, slots := 0, locals := 44 }
theorem rm_codePointCount_61 {w : Bool} {Z : State} {a0 : Array Value} (hw : HW a0 Z) (Ts : List String) (a1 : Addr) (a2 : Addr) (i1 : Int32) (i2 : Int32) (i3 : Int32) (i4 : Int32) (i5 : Int32) (c1 : ClassId) (cs : Int32) (h0 : Heap) (f : Nat) (Zf : Z.heap.size ≤ f) (Z0 : f ≤ h0.size) (E_a1 : Exa Z h0 a1 "java/lang/String") (F_value_a1 : Fld Z h0 a1 "java/lang/String" "value" "[B" (.ref a2)) (A_a2 : Ar Z h0 a2 c1 .byte [.int (cL8 i2), .int (cH8 i2), .int (cL8 i3), .int (cH8 i3), .int (cL8 i4), .int (cH8 i4), .int (cL8 i5), .int (cH8 i5)]) (F_coder_a1 : Fld Z h0 a1 "java/lang/String" "coder" "B" (.int 1)) (r_i1 : 0 ≤ i1.toInt ∧ i1.toInt ≤ 4) (r_i2 : 0 ≤ i2.toInt ∧ i2.toInt ≤ 65535) (r_i3 : 0 ≤ i3.toInt ∧ i3.toInt ≤ 65535) (r_i4 : 0 ≤ i4.toInt ∧ i4.toInt ≤ 65535) (r_i5 : 0 ≤ i5.toInt ∧ i5.toInt ≤ 65535) (S_cs : G_S_cs Z cs) (S__assertionsDisabled : G_S__assertionsDisabled Z) (S_HI_BYTE_SHIFT : G_S_HI_BYTE_SHIFT Z) (S_LO_BYTE_SHIFT : G_S_LO_BYTE_SHIFT Z) (hcs : ¬ cs = 0) :
  Con w [] Z mn19 jdk_42_method_59_code 3 (some .int) R_codePointCount_61 Ts Ts f #[.ref a1, .int i1, .int 4] h0 (Q_codePointCount_61 Z i1 i2 i3 i4 i5 h0) := by
 refine con_of f #[vR a1, vI i1, vI 4] (plainFor_of_name pn_2) (fun m => rfl) Zf ?_
 intro C H hX0
 refine r_iloadN H 1 d_j42_59_0 ?_
 refine r_iloadN H 2 d_j42_59_1 ?_
 refine r_aloadN H 3 d_j42_59_2 ?_
 refine r_virtual (z := mn15) (a := a1) (argsL := []) (rest := [.int 4, .int i1]) (W := 2) H 6 d_j42_59_3 (tw88 hw) (tw89 hw) (nf_sel (tw91 hw)) (tw91 hw) (tw90 hw) (tw22 hw) (tw92 hw) E_a1 (lenOf pd_14 rfl) (rm_length_45 hw Ts a1 a2 (cL8 i2) (cH8 i2) (cL8 i3) (cH8 i3) (cL8 i4) (cH8 i4) (cL8 i5) (cH8 i5) c1 cs h0 f Zf Z0 F_value_a1 A_a2 E_a1 F_coder_a1 S_cs hcs) ?_
 rintro _ _ ⟨rfl, rfl⟩
 refine r_static (argsL := [.int i1, .int 4, .int 4]) (rest := []) (W := 0) H 9 d_j42_59_6 (tw98 hw) (tw99 hw) (tw100 hw) (tw101 hw) (lenOf pd_16 rfl) (rm_checkFromToIndex_39 hw Ts i1 h0 f Zf Z0 r_i1) ?_
 rintro _ _ ⟨rfl, rfl⟩
 refine r_pop H 10 d_j42_59_9 ?_
 refine r_aloadN H 11 d_j42_59_10 ?_
 refine r_virtual (z := mn18) (a := a1) (argsL := []) (rest := []) (W := 0) H 14 d_j42_59_11 (tw106 hw) (tw107 hw) (nf_sel (tw109 hw)) (tw109 hw) (tw108 hw) (tw22 hw) (tw110 hw) E_a1 (lenOf pd_17 rfl) (rm_isLatin1_47 hw Ts a1 cs h0 f Zf Z0 F_coder_a1 S_cs hcs) ?_
 rintro _ _ ⟨rfl, rfl⟩
 refine r_ifeqT H 21 d_j42_59_14 (by decide) (by decide) (by decide) ?_
 refine r_aloadN H 22 d_j42_59_21 ?_
 refine r_getf H 25 d_j42_59_22 (tw66 hw) F_value_a1 ?_
 refine r_iloadN H 26 d_j42_59_25 ?_
 refine r_iloadN H 27 d_j42_59_26 ?_
 refine r_static (argsL := [.ref a2, .int i1, .int 4]) (rest := []) (W := 0) H 30 d_j42_59_27 (tw111 hw) (tw112 hw) (tw36 hw) (tw113 hw) (lenOf pd_21 rfl) (rm_codePointCount_62 hw Ts a2 i1 i2 i3 i4 i5 c1 h0 f Zf Z0 A_a2 r_i1 r_i2 r_i3 r_i4 r_i5 S__assertionsDisabled S_HI_BYTE_SHIFT S_LO_BYTE_SHIFT) ?_
 rintro _ _ ⟨p4, rfl, ep4, rp4, rfl⟩
 subst ep4
 exact r_ireturn H d_j42_59_30 (⟨_, rfl, rfl, (by have := rp4; omega), rfl⟩)
def Q_offset_60 (Z : State) (a1 : Addr) (a2 : Addr) (i1 : Int32) (i2 : Int32) (i3 : Int32) (i4 : Int32) (i5 : Int32) (i6 : Int32) (h0 : Heap) (v : Option Value) (h : Heap) : Prop := ∃ (z : Int32), v = some (.int z) ∧ (i2 + (fn_codePointCount_63 i1 i3 i4 i5 i6)) = z ∧ Keep h0 h [a1] ∧ Exa Z h a1 "com/example/indentree/indentree/reader/CodePoints" ∧ Fld Z h a1 "com/example/indentree/indentree/reader/CodePoints" "index" "I" (.int 4) ∧ Fld Z h a1 "com/example/indentree/indentree/reader/CodePoints" "offset" "I" (.int (i2 + (fn_codePointCount_63 i1 i3 i4 i5 i6))) ∧ Fld Z h a1 "com/example/indentree/indentree/reader/CodePoints" "text" "Ljava/lang/String;" (.ref a2)
def R_offset_60 : Room := { frames := 4, cells := 0, slots := 0, locals := 60 }
theorem rm_offset_60 {w : Bool} {Z : State} {a0 : Array Value} (hw : HW a0 Z) (Ts : List String) (a1 : Addr) (a2 : Addr) (a3 : Addr) (i1 : Int32) (i2 : Int32) (i3 : Int32) (i4 : Int32) (i5 : Int32) (i6 : Int32) (c1 : ClassId) (cs : Int32) (h0 : Heap) (f : Nat) (Zf : Z.heap.size ≤ f) (Z0 : f ≤ h0.size) (F_offset_a1 : Fld Z h0 a1 "com/example/indentree/indentree/reader/CodePoints" "offset" "I" (.int i2)) (F_text_a1 : Fld Z h0 a1 "com/example/indentree/indentree/reader/CodePoints" "text" "Ljava/lang/String;" (.ref a2)) (F_index_a1 : Fld Z h0 a1 "com/example/indentree/indentree/reader/CodePoints" "index" "I" (.int i1)) (E_a2 : Exa Z h0 a2 "java/lang/String") (F_value_a2 : Fld Z h0 a2 "java/lang/String" "value" "[B" (.ref a3)) (A_a3 : Ar Z h0 a3 c1 .byte [.int (cL8 i3), .int (cH8 i3), .int (cL8 i4), .int (cH8 i4), .int (cL8 i5), .int (cH8 i5), .int (cL8 i6), .int (cH8 i6)]) (F_coder_a2 : Fld Z h0 a2 "java/lang/String" "coder" "B" (.int 1)) (E_a1 : Exa Z h0 a1 "com/example/indentree/indentree/reader/CodePoints") (g_a1 : f ≤ a1) (r_i1 : 0 ≤ i1.toInt ∧ i1.toInt ≤ 4) (r_i3 : 0 ≤ i3.toInt ∧ i3.toInt ≤ 65535) (r_i4 : 0 ≤ i4.toInt ∧ i4.toInt ≤ 65535) (r_i5 : 0 ≤ i5.toInt ∧ i5.toInt ≤ 65535) (r_i6 : 0 ≤ i6.toInt ∧ i6.toInt ≤ 65535) (S_cs : G_S_cs Z cs) (S__assertionsDisabled : G_S__assertionsDisabled Z) (S_HI_BYTE_SHIFT : G_S_HI_BYTE_SHIFT Z) (S_LO_BYTE_SHIFT : G_S_LO_BYTE_SHIFT Z) (hcs : ¬ cs = 0) :
  Con w [] Z mn20 prog_19_method_2_code 2 (some .int) R_offset_60 Ts Ts f #[.ref a1, .int 4] h0 (Q_offset_60 Z a1 a2 i1 i2 i3 i4 i5 i6 h0) := by
 refine con_of f #[vR a1, vI 4] (plainFor_of_name pn_3) (fun m => rfl) Zf ?_
 intro C H hX0
 refine r_aloadN H 1 d_g19_2_0 ?_
 refine r_dup H 2 d_g19_2_1 ?_
 refine r_getf H 5 d_g19_2_2 (tw79 hw) F_offset_a1 ?_
 refine r_aloadN H 6 d_g19_2_5 ?_
 refine r_getf H 9 d_g19_2_6 (tw72 hw) F_text_a1 ?_
 refine r_aloadN H 10 d_g19_2_9 ?_
 refine r_getf H 13 d_g19_2_10 (tw81 hw) F_index_a1 ?_
 refine r_iloadN H 14 d_g19_2_13 ?_
 refine r_virtual (z := mn19) (a := a2) (argsL := [.int i1, .int 4]) (rest := [.int i2, .ref a1]) (W := 2) H 17 d_g19_2_14 (tw83 hw) (tw84 hw) (nf_sel (tw86 hw)) (tw86 hw) (tw85 hw) (tw22 hw) (tw87 hw) E_a2 (lenOf pd_18 rfl) (rm_codePointCount_61 hw Ts a2 a3 i1 i3 i4 i5 i6 c1 cs h0 f Zf Z0 E_a2 F_value_a2 A_a3 F_coder_a2 r_i1 r_i3 r_i4 r_i5 r_i6 S_cs S__assertionsDisabled S_HI_BYTE_SHIFT S_LO_BYTE_SHIFT hcs) ?_
 rintro _ _ ⟨p1, rfl, ep1, rp1, rfl⟩
 refine r_iadd H 18 (i2 + p1) d_g19_2_17 rfl ?_
 refine r_putf (ty := .int) H 21 d_g19_2_18 (tw79 hw) F_offset_a1 E_a1 (Or.inl (tw80 hw)) (tw18 hw) g_a1 ?_
 intro h3 W3 K3 E3 F3
 refine r_aloadN H 22 d_g19_2_21 ?_
 refine r_iloadN H 23 d_g19_2_22 ?_
 have q4 := (F_index_a1.other W3 (Or.inr (slot_ne (Or.inl (tw82 hw)) (Or.inl (tw80 hw)) (by decide) (t := .int) (t' := .int) (by decide) (by decide))))
 refine r_putf (ty := .int) H 26 d_g19_2_23 (tw81 hw) q4 E3 (Or.inl (tw82 hw)) (tw18 hw) g_a1 ?_
 intro h5 W5 K5 E5 F5
 refine r_aloadN H 27 d_g19_2_26 ?_
 have q6 := (F3.other W5 (Or.inr (slot_ne (Or.inl (tw80 hw)) (Or.inl (tw82 hw)) (by decide) (t := .int) (t' := .int) (by decide) (by decide))))
 refine r_getf H 30 d_g19_2_27 (tw79 hw) q6 ?_
 have k7 : Keep h0 h3 [a1] := Keep.trans (Keep.refl h0 [a1]) K3 (allS (Or.inl (List.mem_of_getElem? (i := 0) rfl)) all0)
 have k8 : Keep h0 h5 [a1] := Keep.trans k7 K5 (allS (Or.inl (List.mem_of_getElem? (i := 0) rfl)) all0)
 have q9 := ((F_text_a1.other W3 (Or.inr (slot_ne (Or.inr (tw73 hw)) (Or.inl (tw80 hw)) (by decide) (t := (.object "java/lang/String")) (t' := .int) (by decide) (by decide)))).other W5 (Or.inr (slot_ne (Or.inr (tw73 hw)) (Or.inl (tw82 hw)) (by decide) (t := (.object "java/lang/String")) (t' := .int) (by decide) (by decide))))
 subst ep1
 exact r_ireturn H d_g19_2_30 (⟨_, rfl, rfl, k8, E5, F5, q6, q9⟩)
theorem own_cases (a : Int32) (h : 0 ≤ a.toInt ∧ a.toInt ≤ 4) : a = 0 ∨ a = 1 ∨ a = 2 ∨ a = 3 ∨ a = 4 := by
  simp only [← Int32.toInt_inj]
  have : (0 : Int32).toInt = 0 := (by decide); have : (1 : Int32).toInt = 1 := (by decide); have : (2 : Int32).toInt = 2 := (by decide); have : (3 : Int32).toInt = 3 := (by decide); have : (4 : Int32).toInt = 4 := (by decide)
  omega
theorem own_b (a q d : Int32) (ed : (5 : Int32) - a = d) (ra : 0 ≤ a.toInt ∧ a.toInt ≤ 4) (rq : 0 ≤ q.toInt ∧ q.toInt ≤ 16777215) : (0 ≤ (a + (q % d)).toInt ∧ (a + (q % d)).toInt ≤ 4) ∧ a.toInt ≤ (a + (q % d)).toInt := by
  subst ed
  rcases own_cases a ra with h | h | h | h | h <;> subst h
  · have e : (5 : Int32) - 0 = 5 := by decide
    rw [e]; have h := (c_irem q (5 : Int32) 5 (by decide)).1 (by omega); have h1 := c_iadd (0 : Int32) (q % (5 : Int32)); have h2 := rng32 ((0 : Int32) + q % (5 : Int32)); have : (0 : Int32).toInt = 0 := (by decide); omega
  · have e : (5 : Int32) - 1 = 4 := by decide
    rw [e]; have h := (c_irem q (4 : Int32) 4 (by decide)).1 (by omega); have h1 := c_iadd (1 : Int32) (q % (4 : Int32)); have h2 := rng32 ((1 : Int32) + q % (4 : Int32)); have : (1 : Int32).toInt = 1 := (by decide); omega
  · have e : (5 : Int32) - 2 = 3 := by decide
    rw [e]; have h := (c_irem q (3 : Int32) 3 (by decide)).1 (by omega); have h1 := c_iadd (2 : Int32) (q % (3 : Int32)); have h2 := rng32 ((2 : Int32) + q % (3 : Int32)); have : (2 : Int32).toInt = 2 := (by decide); omega
  · have e : (5 : Int32) - 3 = 2 := by decide
    rw [e]; have h := (c_irem q (2 : Int32) 2 (by decide)).1 (by omega); have h1 := c_iadd (3 : Int32) (q % (2 : Int32)); have h2 := rng32 ((3 : Int32) + q % (2 : Int32)); have : (3 : Int32).toInt = 3 := (by decide); omega
  · have e : (5 : Int32) - 4 = 1 := by decide
    rw [e]; have h := (c_irem q (1 : Int32) 1 (by decide)).1 (by omega); have h1 := c_iadd (4 : Int32) (q % (1 : Int32)); have h2 := rng32 ((4 : Int32) + q % (1 : Int32)); have : (4 : Int32).toInt = 4 := (by decide); omega
theorem own_mono {a b f1 f2 f3 u v : Int32} (eu : fn_snap_3 a f1 f2 f3 = u) (ev : fn_snap_3 b f1 f2 f3 = v) (l : a.toInt ≤ b.toInt) (ra : 0 ≤ a.toInt ∧ a.toInt ≤ 4) (rb : 0 ≤ b.toInt ∧ b.toInt ≤ 4) : u.toInt ≤ v.toInt := by
  subst eu ev; unfold fn_snap_3
  rcases own_cases a ra with h | h | h | h | h <;> subst h <;> rcases own_cases b rb with h | h | h | h | h <;> subst h <;> first | (exfalso; revert l; decide) | (by_cases h1 : f1 = 0 <;> by_cases h2 : f2 = 0 <;> by_cases h3 : f3 = 0 <;> simp only [h1, h2, h3, if_true, if_false] <;> decide)
theorem own_hilo (c : Int32) : ((if c < (55296 : Int32) then (0 : Int32) else (if c < (56320 : Int32) then (1 : Int32) else (0 : Int32))) = 0 ∧ (if c < (56320 : Int32) then (0 : Int32) else (if c < (57344 : Int32) then (1 : Int32) else (0 : Int32))) = 0) ∨ ((if c < (55296 : Int32) then (0 : Int32) else (if c < (56320 : Int32) then (1 : Int32) else (0 : Int32))) = 0 ∧ (if c < (56320 : Int32) then (0 : Int32) else (if c < (57344 : Int32) then (1 : Int32) else (0 : Int32))) = 1) ∨ ((if c < (55296 : Int32) then (0 : Int32) else (if c < (56320 : Int32) then (1 : Int32) else (0 : Int32))) = 1 ∧ (if c < (56320 : Int32) then (0 : Int32) else (if c < (57344 : Int32) then (1 : Int32) else (0 : Int32))) = 0) := by
  by_cases h1 : c < 55296 <;> by_cases h2 : c < 56320 <;> by_cases h3 : c < 57344 <;> simp [h1, h2, h3]
  all_goals (simp only [Int32.lt_iff_toInt_lt] at h1 h2 h3; have : (55296 : Int32).toInt = 55296 := (by decide); have : (56320 : Int32).toInt = 56320 := (by decide); have : (57344 : Int32).toInt = 57344 := (by decide); omega)
theorem own_pair (a b : Int32) : (if a < (55296 : Int32) then (0 : Int32) else (if (56319 : Int32) < a then (0 : Int32) else (if b < (56320 : Int32) then (0 : Int32) else (if (57343 : Int32) < b then (0 : Int32) else (1 : Int32))))) = (if (if a < (55296 : Int32) then (0 : Int32) else (if a < (56320 : Int32) then (1 : Int32) else (0 : Int32))) = 0 then (0 : Int32) else (if (if b < (56320 : Int32) then (0 : Int32) else (if b < (57344 : Int32) then (1 : Int32) else (0 : Int32))) = 0 then (0 : Int32) else (1 : Int32))) := by
  have x1 : ((56319 : Int32) < a) = ¬ (a < 56320) := by
    simp only [Int32.lt_iff_toInt_lt]; have : (56319 : Int32).toInt = 56319 := (by decide); have : (56320 : Int32).toInt = 56320 := (by decide); apply propext; omega
  have x2 : ((57343 : Int32) < b) = ¬ (b < 57344) := by
    simp only [Int32.lt_iff_toInt_lt]; have : (57343 : Int32).toInt = 57343 := (by decide); have : (57344 : Int32).toInt = 57344 := (by decide); apply propext; omega
  simp only [x1, x2]
  by_cases h1 : a < 55296 <;> by_cases h2 : a < 56320 <;> by_cases h3 : b < 56320 <;> by_cases h4 : b < 57344 <;> simp [h1, h2, h3, h4]
theorem own_fin1 {c0 c1 c2 c3 f1 f2 f3 a b u v q1 q2 q3 q4 t : Int32} (e1 : (if c0 < (55296 : Int32) then (0 : Int32) else (if (56319 : Int32) < c0 then (0 : Int32) else (if c1 < (56320 : Int32) then (0 : Int32) else (if (57343 : Int32) < c1 then (0 : Int32) else (1 : Int32))))) = f1) (e2 : (if c1 < (55296 : Int32) then (0 : Int32) else (if (56319 : Int32) < c1 then (0 : Int32) else (if c2 < (56320 : Int32) then (0 : Int32) else (if (57343 : Int32) < c2 then (0 : Int32) else (1 : Int32))))) = f2) (e3 : (if c2 < (55296 : Int32) then (0 : Int32) else (if (56319 : Int32) < c2 then (0 : Int32) else (if c3 < (56320 : Int32) then (0 : Int32) else (if (57343 : Int32) < c3 then (0 : Int32) else (1 : Int32))))) = f3) (eu : fn_snap_3 a f1 f2 f3 = u) (ev : fn_snap_3 b f1 f2 f3 = v) (l : a.toInt ≤ b.toInt) (ra : 0 ≤ a.toInt ∧ a.toInt ≤ 4) (rb : 0 ≤ b.toInt ∧ b.toInt ≤ 4) (h0 : ¬ (255 : Int32) < c0) (h1 : ¬ (255 : Int32) < c1) (h2 : ¬ (255 : Int32) < c2) (g1 : ((0 : Int32) + (u - (0 : Int32))) = q1) (g2 : (((0 : Int32) + (u - (0 : Int32))) + (v - u)) = q2) (g3 : ((((0 : Int32) + (u - (0 : Int32))) + (v - u)) + (v - v)) = q3) (g4 : (((((0 : Int32) + (u - (0 : Int32))) + (v - u)) + (v - v)) + ((4 : Int32) - v)) = q4) (gt : fn_pre_41 u f1 f2 f3 = t) : (if q1 = t then (if q2 = (fn_pre_41 v f1 f2 f3) then (if q3 = (fn_pre_41 v f1 f2 f3) then (if q4 = (fn_pre_42 f1 f2 f3) then (1 : Int32) else (0 : Int32)) else (0 : Int32)) else (0 : Int32)) else (0 : Int32)) = 1 := by
  have lt : ∀ c : Int32, ¬ (255 : Int32) < c → c < 55296 := by
    intro c h; simp only [Int32.lt_iff_toInt_lt] at *; have : (255 : Int32).toInt = 255 := (by decide); have : (55296 : Int32).toInt = 55296 := (by decide); omega
  rw [if_pos (lt _ h0)] at e1; rw [if_pos (lt _ h1)] at e2; rw [if_pos (lt _ h2)] at e3
  subst e1 e2 e3 eu ev g1 g2 g3 g4 gt
  rcases own_cases a ra with h | h | h | h | h <;> subst h <;> rcases own_cases b rb with h | h | h | h | h <;> subst h <;> first | decide | (exfalso; revert l; decide)
theorem own_fin2 {c0 c1 c2 c3 f1 f2 f3 a b u v q1 q2 q3 q4 t : Int32} (e1 : (if c0 < (55296 : Int32) then (0 : Int32) else (if (56319 : Int32) < c0 then (0 : Int32) else (if c1 < (56320 : Int32) then (0 : Int32) else (if (57343 : Int32) < c1 then (0 : Int32) else (1 : Int32))))) = f1) (e2 : (if c1 < (55296 : Int32) then (0 : Int32) else (if (56319 : Int32) < c1 then (0 : Int32) else (if c2 < (56320 : Int32) then (0 : Int32) else (if (57343 : Int32) < c2 then (0 : Int32) else (1 : Int32))))) = f2) (e3 : (if c2 < (55296 : Int32) then (0 : Int32) else (if (56319 : Int32) < c2 then (0 : Int32) else (if c3 < (56320 : Int32) then (0 : Int32) else (if (57343 : Int32) < c3 then (0 : Int32) else (1 : Int32))))) = f3) (eu : fn_snap_3 a f1 f2 f3 = u) (ev : fn_snap_3 b f1 f2 f3 = v) (l : a.toInt ≤ b.toInt) (ra : 0 ≤ a.toInt ∧ a.toInt ≤ 4) (rb : 0 ≤ b.toInt ∧ b.toInt ≤ 4) (g1 : ((0 : Int32) + (fn_codePointCount_49 u c0 c1 c2 c3)) = q1) (g2 : (((0 : Int32) + (fn_codePointCount_49 u c0 c1 c2 c3)) + (fn_codePointCount_55 u v c0 c1 c2 c3)) = q2) (g3 : ((((0 : Int32) + (fn_codePointCount_49 u c0 c1 c2 c3)) + (fn_codePointCount_55 u v c0 c1 c2 c3)) + (0 : Int32)) = q3) (g4 : (((((0 : Int32) + (fn_codePointCount_49 u c0 c1 c2 c3)) + (fn_codePointCount_55 u v c0 c1 c2 c3)) + (0 : Int32)) + (fn_codePointCount_63 v c0 c1 c2 c3)) = q4) (gt : fn_pre_41 u f1 f2 f3 = t) : (if q1 = t then (if q2 = (fn_pre_41 v f1 f2 f3) then (if q3 = (fn_pre_41 v f1 f2 f3) then (if q4 = (fn_pre_42 f1 f2 f3) then (1 : Int32) else (0 : Int32)) else (0 : Int32)) else (0 : Int32)) else (0 : Int32)) = 1 := by
  rw [own_pair] at e1 e2 e3
  unfold fn_codePointCount_49 fn_codePointCount_55 fn_codePointCount_63 at *
  have k0 := own_hilo c0
  have k1 := own_hilo c1
  have k2 := own_hilo c2
  have k3 := own_hilo c3
  generalize (if c0 < (55296 : Int32) then (0 : Int32) else (if c0 < (56320 : Int32) then (1 : Int32) else (0 : Int32))) = h0 at *
  generalize (if c0 < (56320 : Int32) then (0 : Int32) else (if c0 < (57344 : Int32) then (1 : Int32) else (0 : Int32))) = l0 at *
  generalize (if c1 < (55296 : Int32) then (0 : Int32) else (if c1 < (56320 : Int32) then (1 : Int32) else (0 : Int32))) = h1 at *
  generalize (if c1 < (56320 : Int32) then (0 : Int32) else (if c1 < (57344 : Int32) then (1 : Int32) else (0 : Int32))) = l1 at *
  generalize (if c2 < (55296 : Int32) then (0 : Int32) else (if c2 < (56320 : Int32) then (1 : Int32) else (0 : Int32))) = h2 at *
  generalize (if c2 < (56320 : Int32) then (0 : Int32) else (if c2 < (57344 : Int32) then (1 : Int32) else (0 : Int32))) = l2 at *
  generalize (if c3 < (55296 : Int32) then (0 : Int32) else (if c3 < (56320 : Int32) then (1 : Int32) else (0 : Int32))) = h3 at *
  generalize (if c3 < (56320 : Int32) then (0 : Int32) else (if c3 < (57344 : Int32) then (1 : Int32) else (0 : Int32))) = l3 at *
  have k0' : h0 = 0 ∨ h0 = 1 := by rcases k0 with k | k | k <;> simp [k]
  have k3' : l3 = 0 ∨ l3 = 1 := by rcases k3 with k | k | k <;> simp [k]
  clear k0 k3
  rcases own_cases a ra with h | h | h | h | h <;> subst h <;> rcases own_cases b rb with h | h | h | h | h <;> subst h <;> try (exfalso; revert l; decide)
  all_goals
    clear l ra rb
    rcases k0' with k | k <;> subst k <;> rcases k3' with k | k <;> subst k <;> rcases k1 with ⟨k, k'⟩ | ⟨k, k'⟩ | ⟨k, k'⟩ <;> subst k k' <;> rcases k2 with ⟨k, k'⟩ | ⟨k, k'⟩ | ⟨k, k'⟩ <;> subst k k' <;> subst e1 e2 e3 <;> subst eu ev <;> subst g1 g2 g3 g4 gt <;> decide

set_option maxRecDepth 65536 in
set_option maxHeartbeats 40000000 in
theorem rm_law {Z : State} {a0 : Array Value} (hw : ∀ d ∈ tables_1, d.before a0 Z = true) (Ts : List String) (hTs : Ts = []) (x0 : Int32) (x1 : Int32) (x2 : Int32) (x3 : Int32) (x4 : Int32) (cs : Int32) (h0 : Heap) (f : Nat) (Zf : Z.heap.size ≤ f) (Z0 : f ≤ h0.size) (S_cs : Sta Z Z.heap "java/lang/String" "COMPACT_STRINGS" "Z" (.int cs)) (S__assertionsDisabled : Sta Z Z.heap "java/lang/StringUTF16" "$assertionsDisabled" "Z" (.int 1)) (S_HI_BYTE_SHIFT : Sta Z Z.heap "java/lang/StringUTF16" "HI_BYTE_SHIFT" "I" (.int 0)) (S_LO_BYTE_SHIFT : Sta Z Z.heap "java/lang/StringUTF16" "LO_BYTE_SHIFT" "I" (.int 8)) (hcs : ¬ cs = 0) :
  Con false tables_1 Z x code maxLocals ret room_1 Ts Ts f #[.int x0, .int x1, .int x2, .int x3, .int x4] h0 (fun v _ => v = some (.int 1)) := by
 refine con_of f #[vI x0, vI x1, vI x2, vI x3, vI x4, .unset, .unset, .unset, .unset, .unset, .unset, .unset, .unset, .unset, .unset, .unset] (plainFor_of_name pn_0) (fun m => by first | rfl | (simp [entryFrame, mkF, argsToLocals, Value.category, maxLocals]; done)) Zf ?_
 intro C H hX0
 refine r_iconst H 1 4 at_0 ?_
 refine r_newP H 3 "[C" 4 at_1 (tw0 hw) ?_
 intro h1 b1 kc1 g1 l1 K1 E1 A1
 change Ar Z h1 b1 kc1 .char [.int 0, .int 0, .int 0, .int 0] at A1
 refine r_dup H 4 at_3 ?_
 refine r_iconst H 5 0 at_4 ?_
 refine r_iloadN H 6 at_5 ?_
 refine r_static (argsL := [.int x0]) (rest := [.int 0, .ref b1, .ref b1]) (W := 3) H 9 at_6 (tw1 hw) (tw2 hw) (tw3 hw) (tw4 hw) (lenOf pd_0 rfl) (rm_mk_1 hw Ts x0 h1 f Zf (nlt Z0 K1.1)) ?_
 rintro _ _ ⟨p2, rfl, rfl, ep2, rp2⟩
 refine r_castore H 10 p2 at_9 A1 (nlt Z0 (Nat.le_of_eq g1.symm)) (nar_char_id (by have := rp2; omega)) ?_
 intro h4 K4 A4
 change Ar Z h4 b1 kc1 .char [.int p2, .int 0, .int 0, .int 0] at A4
 refine r_dup H 11 at_10 ?_
 refine r_iconst H 12 1 at_11 ?_
 refine r_iloadN H 13 at_12 ?_
 have z5 := Nat.le_trans K1.1 K4.1
 refine r_static (argsL := [.int x1]) (rest := [.int 1, .ref b1, .ref b1]) (W := 3) H 16 at_13 (tw1 hw) (tw2 hw) (tw3 hw) (tw4 hw) (lenOf pd_0 rfl) (rm_mk_1 hw Ts x1 h4 f Zf (nlt Z0 z5)) ?_
 rintro _ _ ⟨p6, rfl, rfl, ep6, rp6⟩
 refine r_castore H 17 p6 at_16 A4 (nlt Z0 (Nat.le_of_eq g1.symm)) (nar_char_id (by have := rp6; omega)) ?_
 intro h8 K8 A8
 have q9 := (E1.keep K4)
 change Ar Z h8 b1 kc1 .char [.int p2, .int p6, .int 0, .int 0] at A8
 refine r_dup H 18 at_17 ?_
 refine r_iconst H 19 2 at_18 ?_
 refine r_iloadN H 20 at_19 ?_
 have z10 := Nat.le_trans z5 K8.1
 refine r_static (argsL := [.int x2]) (rest := [.int 2, .ref b1, .ref b1]) (W := 3) H 23 at_20 (tw1 hw) (tw2 hw) (tw3 hw) (tw4 hw) (lenOf pd_0 rfl) (rm_mk_1 hw Ts x2 h8 f Zf (nlt Z0 z10)) ?_
 rintro _ _ ⟨p11, rfl, rfl, ep11, rp11⟩
 refine r_castore H 24 p11 at_23 A8 (nlt Z0 (Nat.le_of_eq g1.symm)) (nar_char_id (by have := rp11; omega)) ?_
 intro h13 K13 A13
 have q14 := (q9.keep K8)
 change Ar Z h13 b1 kc1 .char [.int p2, .int p6, .int p11, .int 0] at A13
 refine r_dup H 25 at_24 ?_
 refine r_iconst H 26 3 at_25 ?_
 refine r_iloadN H 27 at_26 ?_
 have z15 := Nat.le_trans z10 K13.1
 refine r_static (argsL := [.int x3]) (rest := [.int 3, .ref b1, .ref b1]) (W := 3) H 30 at_27 (tw1 hw) (tw2 hw) (tw3 hw) (tw4 hw) (lenOf pd_0 rfl) (rm_mk_1 hw Ts x3 h13 f Zf (nlt Z0 z15)) ?_
 rintro _ _ ⟨p16, rfl, rfl, ep16, rp16⟩
 refine r_castore H 31 p16 at_30 A13 (nlt Z0 (Nat.le_of_eq g1.symm)) (nar_char_id (by have := rp16; omega)) ?_
 intro h18 K18 A18
 have q19 := (q14.keep K13)
 change Ar Z h18 b1 kc1 .char [.int p2, .int p6, .int p11, .int p16] at A18
 refine r_astore H 33 #[vI x0, vI x1, vI x2, vI x3, vI x4, vR b1, .unset, .unset, .unset, .unset, .unset, .unset, .unset, .unset, .unset, .unset] at_31 ?_
 refine r_iconst H 34 5 at_33 ?_
 refine r_newP H 36 "[Z" 5 at_34 (tw8 hw) ?_
 intro h20 b20 kc20 g20 l20 K20 E20 A20
 change Ar Z h20 b20 kc20 .boolean [.int 0, .int 0, .int 0, .int 0, .int 0] at A20
 refine r_astore H 38 #[vI x0, vI x1, vI x2, vI x3, vI x4, vR b1, vR b20, .unset, .unset, .unset, .unset, .unset, .unset, .unset, .unset, .unset] at_36 ?_
 refine r_aload H 40 at_38 ?_
 refine r_iconst H 41 1 at_40 ?_
 refine r_aload H 43 at_41 ?_
 refine r_iconst H 44 0 at_43 ?_
 have q21 := (A18.keep K20 nin0)
 refine r_caload H 45 p2 at_44 q21 ?_
 refine r_aload H 47 at_45 ?_
 refine r_iconst H 48 1 at_47 ?_
 refine r_caload H 49 p6 at_48 q21 ?_
 have z22 := Nat.le_trans z15 K18.1
 have z23 := Nat.le_trans z22 K20.1
 refine r_static (argsL := [.int p2, .int p6]) (rest := [.int 1, .ref b20]) (W := 2) H 52 at_49 (tw9 hw) (tw10 hw) (tw3 hw) (tw11 hw) (lenOf pd_1 rfl) (rm_pair_2 hw Ts p2 p6 h20 f Zf (nlt Z0 z23) rp2 rp6) ?_
 rintro _ _ ⟨p24, rfl, ep24, rp24, rfl⟩
 refine r_zastore H 53 p24 at_52 A20 (nlt (nlt Z0 z22) (Nat.le_of_eq g20.symm)) (nar_bool_id (by have := rp24; omega)) ?_
 intro h26 K26 A26
 change Ar Z h26 b20 kc20 .boolean [.int 0, .int p24, .int 0, .int 0, .int 0] at A26
 refine r_aload H 55 at_53 ?_
 refine r_iconst H 56 2 at_55 ?_
 refine r_aload H 58 at_56 ?_
 refine r_iconst H 59 1 at_58 ?_
 have z27 := Nat.le_trans K4.1 K8.1
 have z28 := Nat.le_trans z27 K13.1
 have z29 := Nat.le_trans z28 K18.1
 have q30 := (q21.keep K26 (ninS (Nat.ne_of_lt (Nat.lt_of_lt_of_le E1.lt (nlt z29 (Nat.le_of_eq g20.symm)))) nin0))
 refine r_caload H 60 p6 at_59 q30 ?_
 refine r_aload H 62 at_60 ?_
 refine r_iconst H 63 2 at_62 ?_
 refine r_caload H 64 p11 at_63 q30 ?_
 have z31 := Nat.le_trans z23 K26.1
 refine r_static (argsL := [.int p6, .int p11]) (rest := [.int 2, .ref b20]) (W := 2) H 67 at_64 (tw9 hw) (tw10 hw) (tw3 hw) (tw11 hw) (lenOf pd_1 rfl) (rm_pair_2 hw Ts p6 p11 h26 f Zf (nlt Z0 z31) rp6 rp11) ?_
 rintro _ _ ⟨p32, rfl, ep32, rp32, rfl⟩
 refine r_zastore H 68 p32 at_67 A26 (nlt (nlt Z0 z22) (Nat.le_of_eq g20.symm)) (nar_bool_id (by have := rp32; omega)) ?_
 intro h34 K34 A34
 change Ar Z h34 b20 kc20 .boolean [.int 0, .int p24, .int p32, .int 0, .int 0] at A34
 refine r_aload H 70 at_68 ?_
 refine r_iconst H 71 3 at_70 ?_
 refine r_aload H 73 at_71 ?_
 refine r_iconst H 74 2 at_73 ?_
 have q36 := (q30.keep K34 (ninS (Nat.ne_of_lt (Nat.lt_of_lt_of_le E1.lt (nlt z29 (Nat.le_of_eq g20.symm)))) nin0))
 refine r_caload H 75 p11 at_74 q36 ?_
 refine r_aload H 77 at_75 ?_
 refine r_iconst H 78 3 at_77 ?_
 refine r_caload H 79 p16 at_78 q36 ?_
 have z37 := Nat.le_trans z31 K34.1
 refine r_static (argsL := [.int p11, .int p16]) (rest := [.int 3, .ref b20]) (W := 2) H 82 at_79 (tw9 hw) (tw10 hw) (tw3 hw) (tw11 hw) (lenOf pd_1 rfl) (rm_pair_2 hw Ts p11 p16 h34 f Zf (nlt Z0 z37) rp11 rp16) ?_
 rintro _ _ ⟨p38, rfl, ep38, rp38, rfl⟩
 refine r_zastore H 83 p38 at_82 A34 (nlt (nlt Z0 z22) (Nat.le_of_eq g20.symm)) (nar_bool_id (by have := rp38; omega)) ?_
 intro h40 K40 A40
 change Ar Z h40 b20 kc20 .boolean [.int 0, .int p24, .int p32, .int p38, .int 0] at A40
 refine r_iload H 85 at_83 ?_
 refine r_ldcI H 87 at_85 (tw13 hw) ?_
 obtain ⟨p42, ep42, rp42⟩ : ∃ p : Int32, (x4 &&& (2147483647 : Int32)) = p ∧ 0 ≤ p.toInt ∧ p.toInt ≤ 2147483647 := ⟨_, rfl, (by have h := c_and x4 (2147483647 : Int32) (by decide); have : (2147483647 : Int32).toInt = 2147483647 := (by decide); omega)⟩
 refine r_iand H 88 p42 at_87 ep42 ?_
 refine r_iconst H 89 5 at_88 ?_
 obtain ⟨p43, ep43, rp43⟩ : ∃ p : Int32, (p42 % (5 : Int32)) = p ∧ 0 ≤ p.toInt ∧ p.toInt ≤ 4 := ⟨_, rfl, (by have := rp42; have h := (c_irem p42 (5 : Int32) 5 (by decide)).1 (by omega); omega)⟩
 refine r_irem H 90 p43 at_89 (by decide) ep43 ?_
 refine r_istore H 92 #[vI x0, vI x1, vI x2, vI x3, vI x4, vR b1, vR b20, vI p43, .unset, .unset, .unset, .unset, .unset, .unset, .unset, .unset] at_90 ?_
 refine r_iload H 94 at_92 ?_
 refine r_iload H 96 at_94 ?_
 refine r_bipush H 98 8 at_96 ?_
 obtain ⟨p44, ep44, rp44⟩ : ∃ p : Int32, (ush32 x4 (8 : Int32)) = p ∧ 0 ≤ p.toInt ∧ p.toInt ≤ 16777215 := ⟨_, rfl, (by have h1 := ushr_eq x4 (8 : Int32) 8 (by decide) (by decide); have h2 := rng32 x4; omega)⟩
 refine r_iushr H 99 p44 at_98 ep44 ?_
 refine r_iconst H 100 5 at_99 ?_
 refine r_iload H 102 at_100 ?_
 obtain ⟨p45, ep45, rp45⟩ : ∃ p : Int32, ((5 : Int32) - p43) = p ∧ 1 ≤ p.toInt ∧ p.toInt ≤ 5 := ⟨_, rfl, (isub_rng (lit_rng rfl) rp43 (by decide))⟩
 refine r_isub (hz := ep45) H 103 p45 at_102 ?_
 refine r_irem H 104 (p44 % p45) at_103 (by have := rp45; simp only [ne_eq, ← Int32.toInt_inj]; have : (0 : Int32).toInt = 0 := (by decide); omega) rfl ?_
 refine r_iadd H 105 (p43 + (p44 % p45)) at_104 rfl ?_
 obtain ⟨p46, ep46, rp46, lp46⟩ : ∃ p : Int32, (p43 + (p44 % p45)) = p ∧ (0 ≤ p.toInt ∧ p.toInt ≤ 4) ∧ p43.toInt ≤ p.toInt := ⟨_, rfl, own_b p43 p44 p45 ep45 rp43 rp44⟩
 rw [ep46]
 refine r_istore H 107 #[vI x0, vI x1, vI x2, vI x3, vI x4, vR b1, vR b20, vI p43, vI p46, .unset, .unset, .unset, .unset, .unset, .unset, .unset] at_105 ?_
 refine r_iload H 109 at_107 ?_
 refine r_aload H 111 at_109 ?_
 have z47 := Nat.le_trans z37 K40.1
 refine r_static (argsL := [.int p43, .ref b20]) (rest := []) (W := 0) H 114 at_111 (tw14 hw) (tw15 hw) (tw3 hw) (tw16 hw) (lenOf pd_2 rfl) (rm_snap_3 hw Ts b20 p43 p24 p32 p38 kc20 h40 f Zf (nlt Z0 z47) A40 rp43 rp24 rp32 rp38) ?_
 rintro _ _ ⟨p48, rfl, rfl, ep48, rp48⟩
 refine r_istore H 116 #[vI x0, vI x1, vI x2, vI x3, vI x4, vR b1, vR b20, vI p43, vI p46, vI p48, .unset, .unset, .unset, .unset, .unset, .unset] at_114 ?_
 refine r_iload H 118 at_116 ?_
 refine r_aload H 120 at_118 ?_
 refine r_static (argsL := [.int p46, .ref b20]) (rest := []) (W := 0) H 123 at_120 (tw14 hw) (tw15 hw) (tw3 hw) (tw16 hw) (lenOf pd_2 rfl) (rm_snap_3 hw Ts b20 p46 p24 p32 p38 kc20 h40 f Zf (nlt Z0 z47) A40 rp46 rp24 rp32 rp38) ?_
 rintro _ _ ⟨p50, rfl, rfl, ep50, rp50⟩
 refine r_istore H 125 #[vI x0, vI x1, vI x2, vI x3, vI x4, vR b1, vR b20, vI p43, vI p46, vI p48, vI p50, .unset, .unset, .unset, .unset, .unset] at_123 ?_
 refine r_new H 128 at_125 (tw17 hw) (tw18 hw) (tw19 hw) ?_
 intro h52 b52 g52 l52 K52 E52 D52
 refine r_dup H 129 at_128 ?_
 refine r_new H 132 at_129 (tw20 hw) (tw21 hw) (tw22 hw) ?_
 intro h53 b53 g53 l53 K53 E53 D53
 refine r_dup H 133 at_132 ?_
 refine r_aload H 135 at_133 ?_
 have z54 := Nat.le_trans z47 K52.1
 have q55 := (((q36.keep K40 (ninS (Nat.ne_of_lt (Nat.lt_of_lt_of_le E1.lt (nlt z29 (Nat.le_of_eq g20.symm)))) nin0)).keep K52 nin0).keep K53 nin0)
 have q56 := (((((((q19.keep K18).keep K20).keep K26).keep K34).keep K40).keep K52).keep K53)
 have z57 := Nat.le_trans z54 K53.1
 refine r_special (a := b53) (argsL := [.ref b1]) (rest := [.ref b53, .ref b52, .ref b52]) (W := 3) H 138 at_135 (tw23 hw) (tw24 hw) (tw22 hw) (tw25 hw) (lenOf pd_11 rfl) (rm_init_4 hw Ts b53 b1 p2 p6 p11 p16 kc1 cs h53 f Zf (nlt Z0 z57) q55 (nlt (nlt Z0 z54) (Nat.le_of_eq g53.symm)) q56 E53 (show Fld Z h53 b53 "java/lang/String" "coder" "B" (.int 0) from D53 (Or.inr (tw65 hw)) (ty := .byte) (by decide)) (show Fld Z h53 b53 "java/lang/String" "value" "[B" .null from D53 (Or.inr (tw67 hw)) (ty := (.array .byte)) (by decide)) rp2 rp6 rp11 rp16 S_cs S__assertionsDisabled S_HI_BYTE_SHIFT S_LO_BYTE_SHIFT hcs) ?_
 rintro _ hh80 (⟨b58, kc59, rfl, c61, c62, c63, c64, K60, g65, q66, q67, q68, q69, q70⟩ | ⟨b71, kc72, rfl, K73, g74, q75, q76, q77, q78, q79⟩)
 ·
  have q85 := ((E52.keep K53).keep K60)
  have q86 := (((show Fld Z h52 b52 "com/example/indentree/indentree/reader/CodePoints" "text" "Ljava/lang/String;" .null from D52 (Or.inr (tw73 hw)) (ty := (.object "java/lang/String")) (by decide)).keep K53 nin0).keep K60 (ninS (Nat.ne_of_lt (Nat.lt_of_lt_of_le E52.lt (nlt nlr (Nat.le_of_eq g53.symm)))) nin0))
  have q87 := (((show Fld Z h52 b52 "com/example/indentree/indentree/reader/CodePoints" "index" "I" (.int 0) from D52 (Or.inl (tw82 hw)) (ty := .int) (by decide)).keep K53 nin0).keep K60 (ninS (Nat.ne_of_lt (Nat.lt_of_lt_of_le E52.lt (nlt nlr (Nat.le_of_eq g53.symm)))) nin0))
  have q88 := (((show Fld Z h52 b52 "com/example/indentree/indentree/reader/CodePoints" "offset" "I" (.int 0) from D52 (Or.inl (tw80 hw)) (ty := .int) (by decide)).keep K53 nin0).keep K60 (ninS (Nat.ne_of_lt (Nat.lt_of_lt_of_le E52.lt (nlt nlr (Nat.le_of_eq g53.symm)))) nin0))
  have z89 := Nat.le_trans z57 K60.1
  refine r_special (a := b52) (argsL := [.ref b53]) (rest := [.ref b52]) (W := 1) H 141 at_138 (tw68 hw) (tw69 hw) (tw19 hw) (tw70 hw) (lenOf pd_12 rfl) (rm_init_21 hw Ts b52 b53 hh80 f Zf (nlt Z0 z89) q85 q86 (nlt (nlt Z0 z47) (Nat.le_of_eq g52.symm)) q87 q88) ?_
  rintro _ hh95 ⟨rfl, K90, q91, q92, q93, q94⟩
  refine r_astore H 143 #[vI x0, vI x1, vI x2, vI x3, vI x4, vR b1, vR b20, vI p43, vI p46, vI p48, vI p50, vR b52, .unset, .unset, .unset, .unset] at_141 ?_
  refine r_aload H 145 at_143 ?_
  refine r_iload H 147 at_145 ?_
  have q96 := (q66.keep K90)
  have q97 := (q68.keep K90 (ninS (Ne.symm (Nat.ne_of_lt (Nat.lt_of_lt_of_le E52.lt (nlt nlr (Nat.le_of_eq g53.symm))))) nin0))
  have q98 := (q69.keep K90 (ninS (Ne.symm (Nat.ne_of_lt (Nat.lt_of_lt_of_le E52.lt (nlt K53.1 g65)))) nin0))
  have q99 := (q67.keep K90 (ninS (Ne.symm (Nat.ne_of_lt (Nat.lt_of_lt_of_le E52.lt (nlt nlr (Nat.le_of_eq g53.symm))))) nin0))
  have z100 := Nat.le_trans z89 K90.1
  refine r_virtual (z := mn20) (a := b52) (argsL := [.int p48]) (rest := []) (W := 0) H 150 at_147 (tw74 hw) (tw75 hw) (nf_sel (tw77 hw)) (tw77 hw) (tw76 hw) (tw19 hw) (tw78 hw) q91 (lenOf pd_4 rfl) (rm_offset_22 hw Ts b52 b53 b58 p48 p2 p6 p11 p16 kc59 cs hh95 f Zf (nlt Z0 z100) q93 q94 q92 q96 q97 q98 q99 q91 (nlt (nlt Z0 z47) (Nat.le_of_eq g52.symm)) rp48 S_cs hcs) ?_
  rintro _ hh107 ⟨p101, rfl, ep101, rp101, K102, q103, q104, q105, q106⟩
  refine r_istore H 152 #[vI x0, vI x1, vI x2, vI x3, vI x4, vR b1, vR b20, vI p43, vI p46, vI p48, vI p50, vR b52, vI p101, .unset, .unset, .unset] at_150 ?_
  refine r_aload H 154 at_152 ?_
  refine r_iload H 156 at_154 ?_
  have q108 := (q96.keep K102)
  have q109 := (q97.keep K102 (ninS (Ne.symm (Nat.ne_of_lt (Nat.lt_of_lt_of_le E52.lt (nlt nlr (Nat.le_of_eq g53.symm))))) nin0))
  have q110 := (q98.keep K102 (ninS (Ne.symm (Nat.ne_of_lt (Nat.lt_of_lt_of_le E52.lt (nlt K53.1 g65)))) nin0))
  have q111 := (q99.keep K102 (ninS (Ne.symm (Nat.ne_of_lt (Nat.lt_of_lt_of_le E52.lt (nlt nlr (Nat.le_of_eq g53.symm))))) nin0))
  have z112 := Nat.le_trans z100 K102.1
  refine r_virtual (z := mn20) (a := b52) (argsL := [.int p50]) (rest := []) (W := 0) H 159 at_156 (tw74 hw) (tw75 hw) (nf_sel (tw77 hw)) (tw77 hw) (tw76 hw) (tw19 hw) (tw78 hw) q103 (lenOf pd_4 rfl) (rm_offset_29 hw Ts b52 b53 b58 p50 p48 ((0 : Int32) + (p48 - (0 : Int32))) p2 p6 p11 p16 kc59 cs hh107 f Zf (nlt Z0 z112) q105 q106 q104 q108 q109 q110 q111 (own_mono ep48 ep50 lp46 rp43 rp46) q103 (nlt (nlt Z0 z47) (Nat.le_of_eq g52.symm)) rp50 rp48 S_cs hcs) ?_
  rintro _ hh119 ⟨p113, rfl, ep113, K114, q115, q116, q117, q118⟩
  refine r_istore H 161 #[vI x0, vI x1, vI x2, vI x3, vI x4, vR b1, vR b20, vI p43, vI p46, vI p48, vI p50, vR b52, vI p101, vI p113, .unset, .unset] at_159 ?_
  refine r_aload H 163 at_161 ?_
  refine r_iload H 165 at_163 ?_
  have q120 := (q108.keep K114)
  have q121 := (q109.keep K114 (ninS (Ne.symm (Nat.ne_of_lt (Nat.lt_of_lt_of_le E52.lt (nlt nlr (Nat.le_of_eq g53.symm))))) nin0))
  have q122 := (q110.keep K114 (ninS (Ne.symm (Nat.ne_of_lt (Nat.lt_of_lt_of_le E52.lt (nlt K53.1 g65)))) nin0))
  have q123 := (q111.keep K114 (ninS (Ne.symm (Nat.ne_of_lt (Nat.lt_of_lt_of_le E52.lt (nlt nlr (Nat.le_of_eq g53.symm))))) nin0))
  have z124 := Nat.le_trans z112 K114.1
  refine r_virtual (z := mn20) (a := b52) (argsL := [.int p50]) (rest := []) (W := 0) H 168 at_165 (tw74 hw) (tw75 hw) (nf_sel (tw77 hw)) (tw77 hw) (tw76 hw) (tw19 hw) (tw78 hw) q115 (lenOf pd_4 rfl) (rm_offset_33 hw Ts b52 b53 b58 p50 (((0 : Int32) + (p48 - (0 : Int32))) + (p50 - p48)) p2 p6 p11 p16 kc59 cs hh119 f Zf (nlt Z0 z124) q117 q118 q116 q120 q121 q122 q123 q115 (nlt (nlt Z0 z47) (Nat.le_of_eq g52.symm)) rp50 S_cs hcs) ?_
  rintro _ hh131 ⟨p125, rfl, ep125, K126, q127, q128, q129, q130⟩
  refine r_istore H 170 #[vI x0, vI x1, vI x2, vI x3, vI x4, vR b1, vR b20, vI p43, vI p46, vI p48, vI p50, vR b52, vI p101, vI p113, vI p125, .unset] at_168 ?_
  refine r_aload H 172 at_170 ?_
  refine r_iconst H 173 4 at_172 ?_
  have q132 := (q120.keep K126)
  have q133 := (q121.keep K126 (ninS (Ne.symm (Nat.ne_of_lt (Nat.lt_of_lt_of_le E52.lt (nlt nlr (Nat.le_of_eq g53.symm))))) nin0))
  have q134 := (q122.keep K126 (ninS (Ne.symm (Nat.ne_of_lt (Nat.lt_of_lt_of_le E52.lt (nlt K53.1 g65)))) nin0))
  have q135 := (q123.keep K126 (ninS (Ne.symm (Nat.ne_of_lt (Nat.lt_of_lt_of_le E52.lt (nlt nlr (Nat.le_of_eq g53.symm))))) nin0))
  have z136 := Nat.le_trans z124 K126.1
  refine r_virtual (z := mn20) (a := b52) (argsL := [.int 4]) (rest := []) (W := 0) H 176 at_173 (tw74 hw) (tw75 hw) (nf_sel (tw77 hw)) (tw77 hw) (tw76 hw) (tw19 hw) (tw78 hw) q127 (lenOf pd_4 rfl) (rm_offset_37 hw Ts b52 b53 b58 p50 ((((0 : Int32) + (p48 - (0 : Int32))) + (p50 - p48)) + (p50 - p50)) p2 p6 p11 p16 kc59 cs hh131 f Zf (nlt Z0 z136) q129 q130 q128 q132 q133 q134 q135 q127 (nlt (nlt Z0 z47) (Nat.le_of_eq g52.symm)) rp50 S_cs hcs) ?_
  rintro _ hh143 ⟨p137, rfl, ep137, K138, q139, q140, q141, q142⟩
  refine r_istore H 178 #[vI x0, vI x1, vI x2, vI x3, vI x4, vR b1, vR b20, vI p43, vI p46, vI p48, vI p50, vR b52, vI p101, vI p113, vI p125, vI p137] at_176 ?_
  refine r_iload H 180 at_178 ?_
  refine r_iload H 182 at_180 ?_
  refine r_aload H 184 at_182 ?_
  have z144 := Nat.le_trans K26.1 K34.1
  have z145 := Nat.le_trans z144 K40.1
  have z146 := Nat.le_trans z145 K52.1
  have q147 := ((((((((A40.keep K52 nin0).keep K53 nin0).keep K60 (ninS (Nat.ne_of_lt (Nat.lt_of_lt_of_le E20.lt (nlt z146 (Nat.le_of_eq g53.symm)))) nin0)).keep K90 (ninS (Nat.ne_of_lt (Nat.lt_of_lt_of_le E20.lt (nlt z145 (Nat.le_of_eq g52.symm)))) nin0)).keep K102 (ninS (Nat.ne_of_lt (Nat.lt_of_lt_of_le E20.lt (nlt z145 (Nat.le_of_eq g52.symm)))) nin0)).keep K114 (ninS (Nat.ne_of_lt (Nat.lt_of_lt_of_le E20.lt (nlt z145 (Nat.le_of_eq g52.symm)))) nin0)).keep K126 (ninS (Nat.ne_of_lt (Nat.lt_of_lt_of_le E20.lt (nlt z145 (Nat.le_of_eq g52.symm)))) nin0)).keep K138 (ninS (Nat.ne_of_lt (Nat.lt_of_lt_of_le E20.lt (nlt z145 (Nat.le_of_eq g52.symm)))) nin0))
  have z148 := Nat.le_trans z136 K138.1
  refine r_static (argsL := [.int p48, .ref b20]) (rest := [.int p101]) (W := 1) H 187 at_184 (tw123 hw) (tw124 hw) (tw3 hw) (tw125 hw) (lenOf pd_2 rfl) (rm_pre_41 hw Ts b20 p48 p24 p32 p38 kc20 hh143 f Zf (nlt Z0 z148) q147 rp48 rp24 rp32 rp38) ?_
  rintro _ _ ⟨p149, rfl, rfl, ep149, rp149⟩
  refine Run.join (P := fun z => (if p101 = p149 then (if p113 = (fn_pre_41 p50 p24 p32 p38) then (if p125 = (fn_pre_41 p50 p24 p32 p38) then (if p137 = (fn_pre_42 p24 p32 p38) then (1 : Int32) else (0 : Int32)) else (0 : Int32)) else (0 : Int32)) else (0 : Int32)) = z ∧ (0 ≤ z.toInt ∧ z.toInt ≤ 1)) (pcB := 230) (LB := fun z => #[vI x0, vI x1, vI x2, vI x3, vI x4, vR b1, vR b20, vI p43, vI p46, vI p48, vI p50, vR b52, vI p101, vI p113, vI p125, vI p137]) (SB := fun z => [.int z]) (fun key => ?_) ?_
  ·
   refine r_icmpne H 229 190 at_187 (fun c151 => ?_) (fun c151 => ?_)
   ·
    refine r_iconst H 230 0 at_229 ?_
    exact key (0 : Int32) ⟨(by rw [if_neg c151]), (by decide)⟩
   ·
    refine r_iload H 192 at_190 ?_
    refine r_iload H 194 at_192 ?_
    refine r_aload H 196 at_194 ?_
    refine r_static (argsL := [.int p50, .ref b20]) (rest := [.int p113]) (W := 1) H 199 at_196 (tw123 hw) (tw124 hw) (tw3 hw) (tw125 hw) (lenOf pd_2 rfl) (rm_pre_41 hw Ts b20 p50 p24 p32 p38 kc20 hh143 f Zf (nlt Z0 z148) q147 rp50 rp24 rp32 rp38) ?_
    rintro _ _ ⟨p153, rfl, rfl, ep153, rp153⟩
    refine Run.join (P := fun z => (if p113 = p153 then (if p125 = p153 then (if p137 = (fn_pre_42 p24 p32 p38) then (1 : Int32) else (0 : Int32)) else (0 : Int32)) else (0 : Int32)) = z ∧ (0 ≤ z.toInt ∧ z.toInt ≤ 1)) (pcB := 230) (LB := fun z => #[vI x0, vI x1, vI x2, vI x3, vI x4, vR b1, vR b20, vI p43, vI p46, vI p48, vI p50, vR b52, vI p101, vI p113, vI p125, vI p137]) (SB := fun z => [.int z]) (fun key => ?_) ?_
    ·
     refine r_icmpne H 229 202 at_199 (fun c155 => ?_) (fun c155 => ?_)
     ·
      refine r_iconst H 230 0 at_229 ?_
      exact key (0 : Int32) ⟨(by rw [if_neg c155]), (by decide)⟩
     ·
      refine r_iload H 204 at_202 ?_
      refine r_iload H 206 at_204 ?_
      refine r_aload H 208 at_206 ?_
      refine r_static (argsL := [.int p50, .ref b20]) (rest := [.int p125]) (W := 1) H 211 at_208 (tw123 hw) (tw124 hw) (tw3 hw) (tw125 hw) (lenOf pd_2 rfl) (rm_pre_41 hw Ts b20 p50 p24 p32 p38 kc20 hh143 f Zf (nlt Z0 z148) q147 rp50 rp24 rp32 rp38) ?_
      rintro _ _ ⟨p156, rfl, rfl, ep156, rp156⟩
      have hzp156 : p153 = p156 := ep153.symm.trans ep156
      subst hzp156
      refine Run.join (P := fun z => (if p125 = p153 then (if p137 = (fn_pre_42 p24 p32 p38) then (1 : Int32) else (0 : Int32)) else (0 : Int32)) = z ∧ (0 ≤ z.toInt ∧ z.toInt ≤ 1)) (pcB := 230) (LB := fun z => #[vI x0, vI x1, vI x2, vI x3, vI x4, vR b1, vR b20, vI p43, vI p46, vI p48, vI p50, vR b52, vI p101, vI p113, vI p125, vI p137]) (SB := fun z => [.int z]) (fun key => ?_) ?_
      ·
       refine r_icmpne H 229 214 at_211 (fun c158 => ?_) (fun c158 => ?_)
       ·
        refine r_iconst H 230 0 at_229 ?_
        exact key (0 : Int32) ⟨(by rw [if_neg c158]), (by decide)⟩
       ·
        refine r_iload H 216 at_214 ?_
        refine r_iconst H 217 4 at_216 ?_
        refine r_aload H 219 at_217 ?_
        refine r_static (argsL := [.int 4, .ref b20]) (rest := [.int p137]) (W := 1) H 222 at_219 (tw123 hw) (tw124 hw) (tw3 hw) (tw125 hw) (lenOf pd_2 rfl) (rm_pre_42 hw Ts b20 p24 p32 p38 kc20 hh143 f Zf (nlt Z0 z148) q147 rp24 rp32 rp38) ?_
        rintro _ _ ⟨p159, rfl, rfl, ep159, rp159⟩
        refine Run.join (P := fun z => (if p137 = p159 then (1 : Int32) else (0 : Int32)) = z ∧ (0 ≤ z.toInt ∧ z.toInt ≤ 1)) (pcB := 230) (LB := fun z => #[vI x0, vI x1, vI x2, vI x3, vI x4, vR b1, vR b20, vI p43, vI p46, vI p48, vI p50, vR b52, vI p101, vI p113, vI p125, vI p137]) (SB := fun z => [.int z]) (fun key => ?_) ?_
        ·
         refine r_icmpne H 229 225 at_222 (fun c161 => ?_) (fun c161 => ?_)
         ·
          refine r_iconst H 230 0 at_229 ?_
          exact key (0 : Int32) ⟨(by rw [if_neg c161]), (by decide)⟩
         ·
          refine r_iconst H 226 1 at_225 ?_
          refine r_goto H 230 at_226 ?_
          exact key (1 : Int32) ⟨(by rw [if_pos c161]), (by decide)⟩
        rintro p162 ⟨ep162, rp162⟩
        exact key p162 ⟨(by subst ep159 ep162; rw [if_pos c158]), (by have := rp162; omega)⟩
      rintro p163 ⟨ep163, rp163⟩
      exact key p163 ⟨(by subst ep163; rw [if_pos c155]), (by have := rp163; omega)⟩
    rintro p164 ⟨ep164, rp164⟩
    exact key p164 ⟨(by subst ep153 ep164; rw [if_pos c151]), (by have := rp164; omega)⟩
  rintro p165 ⟨ep165, rp165⟩
  have hone : p165 = 1 := by rw [← ep165]; exact own_fin1 ep24 ep32 ep38 ep48 ep50 lp46 rp43 rp46 c61 c62 c63 ep101 ep113 ep125 ep137 ep149
  exact r_nreturn (1 : Int32) H at_230 (by rw [hone]; decide) rfl
 ·
  have q166 := ((E52.keep K53).keep K73)
  have q167 := (((show Fld Z h52 b52 "com/example/indentree/indentree/reader/CodePoints" "text" "Ljava/lang/String;" .null from D52 (Or.inr (tw73 hw)) (ty := (.object "java/lang/String")) (by decide)).keep K53 nin0).keep K73 (ninS (Nat.ne_of_lt (Nat.lt_of_lt_of_le E52.lt (nlt nlr (Nat.le_of_eq g53.symm)))) nin0))
  have q168 := (((show Fld Z h52 b52 "com/example/indentree/indentree/reader/CodePoints" "index" "I" (.int 0) from D52 (Or.inl (tw82 hw)) (ty := .int) (by decide)).keep K53 nin0).keep K73 (ninS (Nat.ne_of_lt (Nat.lt_of_lt_of_le E52.lt (nlt nlr (Nat.le_of_eq g53.symm)))) nin0))
  have q169 := (((show Fld Z h52 b52 "com/example/indentree/indentree/reader/CodePoints" "offset" "I" (.int 0) from D52 (Or.inl (tw80 hw)) (ty := .int) (by decide)).keep K53 nin0).keep K73 (ninS (Nat.ne_of_lt (Nat.lt_of_lt_of_le E52.lt (nlt nlr (Nat.le_of_eq g53.symm)))) nin0))
  have z170 := Nat.le_trans z57 K73.1
  refine r_special (a := b52) (argsL := [.ref b53]) (rest := [.ref b52]) (W := 1) H 141 at_138 (tw68 hw) (tw69 hw) (tw19 hw) (tw70 hw) (lenOf pd_12 rfl) (rm_init_21 hw Ts b52 b53 hh80 f Zf (nlt Z0 z170) q166 q167 (nlt (nlt Z0 z47) (Nat.le_of_eq g52.symm)) q168 q169) ?_
  rintro _ hh176 ⟨rfl, K171, q172, q173, q174, q175⟩
  refine r_astore H 143 #[vI x0, vI x1, vI x2, vI x3, vI x4, vR b1, vR b20, vI p43, vI p46, vI p48, vI p50, vR b52, .unset, .unset, .unset, .unset] at_141 ?_
  refine r_aload H 145 at_143 ?_
  refine r_iload H 147 at_145 ?_
  have q177 := (q75.keep K171)
  have q178 := (q77.keep K171 (ninS (Ne.symm (Nat.ne_of_lt (Nat.lt_of_lt_of_le E52.lt (nlt nlr (Nat.le_of_eq g53.symm))))) nin0))
  have q179 := (q78.keep K171 (ninS (Ne.symm (Nat.ne_of_lt (Nat.lt_of_lt_of_le E52.lt (nlt K53.1 g74)))) nin0))
  have q180 := (q76.keep K171 (ninS (Ne.symm (Nat.ne_of_lt (Nat.lt_of_lt_of_le E52.lt (nlt nlr (Nat.le_of_eq g53.symm))))) nin0))
  have z181 := Nat.le_trans z170 K171.1
  refine r_virtual (z := mn20) (a := b52) (argsL := [.int p48]) (rest := []) (W := 0) H 150 at_147 (tw74 hw) (tw75 hw) (nf_sel (tw77 hw)) (tw77 hw) (tw76 hw) (tw19 hw) (tw78 hw) q172 (lenOf pd_4 rfl) (rm_offset_43 hw Ts b52 b53 b71 p48 p2 p6 p11 p16 kc72 cs hh176 f Zf (nlt Z0 z181) q174 q175 q173 q177 q178 q179 q180 q172 (nlt (nlt Z0 z47) (Nat.le_of_eq g52.symm)) rp48 rp2 rp6 rp11 rp16 S_cs S__assertionsDisabled S_HI_BYTE_SHIFT S_LO_BYTE_SHIFT hcs) ?_
  rintro _ hh188 ⟨p182, rfl, ep182, rp182, K183, q184, q185, q186, q187⟩
  refine r_istore H 152 #[vI x0, vI x1, vI x2, vI x3, vI x4, vR b1, vR b20, vI p43, vI p46, vI p48, vI p50, vR b52, vI p182, .unset, .unset, .unset] at_150 ?_
  refine r_aload H 154 at_152 ?_
  refine r_iload H 156 at_154 ?_
  have q189 := (q177.keep K183)
  have q190 := (q178.keep K183 (ninS (Ne.symm (Nat.ne_of_lt (Nat.lt_of_lt_of_le E52.lt (nlt nlr (Nat.le_of_eq g53.symm))))) nin0))
  have q191 := (q179.keep K183 (ninS (Ne.symm (Nat.ne_of_lt (Nat.lt_of_lt_of_le E52.lt (nlt K53.1 g74)))) nin0))
  have q192 := (q180.keep K183 (ninS (Ne.symm (Nat.ne_of_lt (Nat.lt_of_lt_of_le E52.lt (nlt nlr (Nat.le_of_eq g53.symm))))) nin0))
  have z193 := Nat.le_trans z181 K183.1
  refine r_virtual (z := mn20) (a := b52) (argsL := [.int p50]) (rest := []) (W := 0) H 159 at_156 (tw74 hw) (tw75 hw) (nf_sel (tw77 hw)) (tw77 hw) (tw76 hw) (tw19 hw) (tw78 hw) q184 (lenOf pd_4 rfl) (rm_offset_52 hw Ts b52 b53 b71 p50 p48 ((0 : Int32) + (fn_codePointCount_49 p48 p2 p6 p11 p16)) p2 p6 p11 p16 kc72 cs hh188 f Zf (nlt Z0 z193) q186 q187 q185 q189 q190 q191 q192 (own_mono ep48 ep50 lp46 rp43 rp46) q184 (nlt (nlt Z0 z47) (Nat.le_of_eq g52.symm)) rp50 rp48 rp2 rp6 rp11 rp16 S_cs S__assertionsDisabled S_HI_BYTE_SHIFT S_LO_BYTE_SHIFT hcs) ?_
  rintro _ hh200 ⟨p194, rfl, ep194, K195, q196, q197, q198, q199⟩
  refine r_istore H 161 #[vI x0, vI x1, vI x2, vI x3, vI x4, vR b1, vR b20, vI p43, vI p46, vI p48, vI p50, vR b52, vI p182, vI p194, .unset, .unset] at_159 ?_
  refine r_aload H 163 at_161 ?_
  refine r_iload H 165 at_163 ?_
  have q201 := (q189.keep K195)
  have q202 := (q190.keep K195 (ninS (Ne.symm (Nat.ne_of_lt (Nat.lt_of_lt_of_le E52.lt (nlt nlr (Nat.le_of_eq g53.symm))))) nin0))
  have q203 := (q191.keep K195 (ninS (Ne.symm (Nat.ne_of_lt (Nat.lt_of_lt_of_le E52.lt (nlt K53.1 g74)))) nin0))
  have q204 := (q192.keep K195 (ninS (Ne.symm (Nat.ne_of_lt (Nat.lt_of_lt_of_le E52.lt (nlt nlr (Nat.le_of_eq g53.symm))))) nin0))
  have z205 := Nat.le_trans z193 K195.1
  refine r_virtual (z := mn20) (a := b52) (argsL := [.int p50]) (rest := []) (W := 0) H 168 at_165 (tw74 hw) (tw75 hw) (nf_sel (tw77 hw)) (tw77 hw) (tw76 hw) (tw19 hw) (tw78 hw) q196 (lenOf pd_4 rfl) (rm_offset_56 hw Ts b52 b53 b71 p50 (((0 : Int32) + (fn_codePointCount_49 p48 p2 p6 p11 p16)) + (fn_codePointCount_55 p48 p50 p2 p6 p11 p16)) p2 p6 p11 p16 kc72 cs hh200 f Zf (nlt Z0 z205) q198 q199 q197 q201 q202 q203 q204 q196 (nlt (nlt Z0 z47) (Nat.le_of_eq g52.symm)) rp50 S_cs S__assertionsDisabled hcs) ?_
  rintro _ hh212 ⟨p206, rfl, ep206, K207, q208, q209, q210, q211⟩
  refine r_istore H 170 #[vI x0, vI x1, vI x2, vI x3, vI x4, vR b1, vR b20, vI p43, vI p46, vI p48, vI p50, vR b52, vI p182, vI p194, vI p206, .unset] at_168 ?_
  refine r_aload H 172 at_170 ?_
  refine r_iconst H 173 4 at_172 ?_
  have q213 := (q201.keep K207)
  have q214 := (q202.keep K207 (ninS (Ne.symm (Nat.ne_of_lt (Nat.lt_of_lt_of_le E52.lt (nlt nlr (Nat.le_of_eq g53.symm))))) nin0))
  have q215 := (q203.keep K207 (ninS (Ne.symm (Nat.ne_of_lt (Nat.lt_of_lt_of_le E52.lt (nlt K53.1 g74)))) nin0))
  have q216 := (q204.keep K207 (ninS (Ne.symm (Nat.ne_of_lt (Nat.lt_of_lt_of_le E52.lt (nlt nlr (Nat.le_of_eq g53.symm))))) nin0))
  have z217 := Nat.le_trans z205 K207.1
  refine r_virtual (z := mn20) (a := b52) (argsL := [.int 4]) (rest := []) (W := 0) H 176 at_173 (tw74 hw) (tw75 hw) (nf_sel (tw77 hw)) (tw77 hw) (tw76 hw) (tw19 hw) (tw78 hw) q208 (lenOf pd_4 rfl) (rm_offset_60 hw Ts b52 b53 b71 p50 ((((0 : Int32) + (fn_codePointCount_49 p48 p2 p6 p11 p16)) + (fn_codePointCount_55 p48 p50 p2 p6 p11 p16)) + (0 : Int32)) p2 p6 p11 p16 kc72 cs hh212 f Zf (nlt Z0 z217) q210 q211 q209 q213 q214 q215 q216 q208 (nlt (nlt Z0 z47) (Nat.le_of_eq g52.symm)) rp50 rp2 rp6 rp11 rp16 S_cs S__assertionsDisabled S_HI_BYTE_SHIFT S_LO_BYTE_SHIFT hcs) ?_
  rintro _ hh224 ⟨p218, rfl, ep218, K219, q220, q221, q222, q223⟩
  refine r_istore H 178 #[vI x0, vI x1, vI x2, vI x3, vI x4, vR b1, vR b20, vI p43, vI p46, vI p48, vI p50, vR b52, vI p182, vI p194, vI p206, vI p218] at_176 ?_
  refine r_iload H 180 at_178 ?_
  refine r_iload H 182 at_180 ?_
  refine r_aload H 184 at_182 ?_
  have z225 := Nat.le_trans K26.1 K34.1
  have z226 := Nat.le_trans z225 K40.1
  have z227 := Nat.le_trans z226 K52.1
  have q228 := ((((((((A40.keep K52 nin0).keep K53 nin0).keep K73 (ninS (Nat.ne_of_lt (Nat.lt_of_lt_of_le E20.lt (nlt z227 (Nat.le_of_eq g53.symm)))) nin0)).keep K171 (ninS (Nat.ne_of_lt (Nat.lt_of_lt_of_le E20.lt (nlt z226 (Nat.le_of_eq g52.symm)))) nin0)).keep K183 (ninS (Nat.ne_of_lt (Nat.lt_of_lt_of_le E20.lt (nlt z226 (Nat.le_of_eq g52.symm)))) nin0)).keep K195 (ninS (Nat.ne_of_lt (Nat.lt_of_lt_of_le E20.lt (nlt z226 (Nat.le_of_eq g52.symm)))) nin0)).keep K207 (ninS (Nat.ne_of_lt (Nat.lt_of_lt_of_le E20.lt (nlt z226 (Nat.le_of_eq g52.symm)))) nin0)).keep K219 (ninS (Nat.ne_of_lt (Nat.lt_of_lt_of_le E20.lt (nlt z226 (Nat.le_of_eq g52.symm)))) nin0))
  have z229 := Nat.le_trans z217 K219.1
  refine r_static (argsL := [.int p48, .ref b20]) (rest := [.int p182]) (W := 1) H 187 at_184 (tw123 hw) (tw124 hw) (tw3 hw) (tw125 hw) (lenOf pd_2 rfl) (rm_pre_41 hw Ts b20 p48 p24 p32 p38 kc20 hh224 f Zf (nlt Z0 z229) q228 rp48 rp24 rp32 rp38) ?_
  rintro _ _ ⟨p230, rfl, rfl, ep230, rp230⟩
  refine Run.join (P := fun z => (if p182 = p230 then (if p194 = (fn_pre_41 p50 p24 p32 p38) then (if p206 = (fn_pre_41 p50 p24 p32 p38) then (if p218 = (fn_pre_42 p24 p32 p38) then (1 : Int32) else (0 : Int32)) else (0 : Int32)) else (0 : Int32)) else (0 : Int32)) = z ∧ (0 ≤ z.toInt ∧ z.toInt ≤ 1)) (pcB := 230) (LB := fun z => #[vI x0, vI x1, vI x2, vI x3, vI x4, vR b1, vR b20, vI p43, vI p46, vI p48, vI p50, vR b52, vI p182, vI p194, vI p206, vI p218]) (SB := fun z => [.int z]) (fun key => ?_) ?_
  ·
   refine r_icmpne H 229 190 at_187 (fun c232 => ?_) (fun c232 => ?_)
   ·
    refine r_iconst H 230 0 at_229 ?_
    exact key (0 : Int32) ⟨(by rw [if_neg c232]), (by decide)⟩
   ·
    refine r_iload H 192 at_190 ?_
    refine r_iload H 194 at_192 ?_
    refine r_aload H 196 at_194 ?_
    refine r_static (argsL := [.int p50, .ref b20]) (rest := [.int p194]) (W := 1) H 199 at_196 (tw123 hw) (tw124 hw) (tw3 hw) (tw125 hw) (lenOf pd_2 rfl) (rm_pre_41 hw Ts b20 p50 p24 p32 p38 kc20 hh224 f Zf (nlt Z0 z229) q228 rp50 rp24 rp32 rp38) ?_
    rintro _ _ ⟨p234, rfl, rfl, ep234, rp234⟩
    refine Run.join (P := fun z => (if p194 = p234 then (if p206 = p234 then (if p218 = (fn_pre_42 p24 p32 p38) then (1 : Int32) else (0 : Int32)) else (0 : Int32)) else (0 : Int32)) = z ∧ (0 ≤ z.toInt ∧ z.toInt ≤ 1)) (pcB := 230) (LB := fun z => #[vI x0, vI x1, vI x2, vI x3, vI x4, vR b1, vR b20, vI p43, vI p46, vI p48, vI p50, vR b52, vI p182, vI p194, vI p206, vI p218]) (SB := fun z => [.int z]) (fun key => ?_) ?_
    ·
     refine r_icmpne H 229 202 at_199 (fun c236 => ?_) (fun c236 => ?_)
     ·
      refine r_iconst H 230 0 at_229 ?_
      exact key (0 : Int32) ⟨(by rw [if_neg c236]), (by decide)⟩
     ·
      refine r_iload H 204 at_202 ?_
      refine r_iload H 206 at_204 ?_
      refine r_aload H 208 at_206 ?_
      refine r_static (argsL := [.int p50, .ref b20]) (rest := [.int p206]) (W := 1) H 211 at_208 (tw123 hw) (tw124 hw) (tw3 hw) (tw125 hw) (lenOf pd_2 rfl) (rm_pre_41 hw Ts b20 p50 p24 p32 p38 kc20 hh224 f Zf (nlt Z0 z229) q228 rp50 rp24 rp32 rp38) ?_
      rintro _ _ ⟨p237, rfl, rfl, ep237, rp237⟩
      have hzp237 : p234 = p237 := ep234.symm.trans ep237
      subst hzp237
      refine Run.join (P := fun z => (if p206 = p234 then (if p218 = (fn_pre_42 p24 p32 p38) then (1 : Int32) else (0 : Int32)) else (0 : Int32)) = z ∧ (0 ≤ z.toInt ∧ z.toInt ≤ 1)) (pcB := 230) (LB := fun z => #[vI x0, vI x1, vI x2, vI x3, vI x4, vR b1, vR b20, vI p43, vI p46, vI p48, vI p50, vR b52, vI p182, vI p194, vI p206, vI p218]) (SB := fun z => [.int z]) (fun key => ?_) ?_
      ·
       refine r_icmpne H 229 214 at_211 (fun c239 => ?_) (fun c239 => ?_)
       ·
        refine r_iconst H 230 0 at_229 ?_
        exact key (0 : Int32) ⟨(by rw [if_neg c239]), (by decide)⟩
       ·
        refine r_iload H 216 at_214 ?_
        refine r_iconst H 217 4 at_216 ?_
        refine r_aload H 219 at_217 ?_
        refine r_static (argsL := [.int 4, .ref b20]) (rest := [.int p218]) (W := 1) H 222 at_219 (tw123 hw) (tw124 hw) (tw3 hw) (tw125 hw) (lenOf pd_2 rfl) (rm_pre_42 hw Ts b20 p24 p32 p38 kc20 hh224 f Zf (nlt Z0 z229) q228 rp24 rp32 rp38) ?_
        rintro _ _ ⟨p240, rfl, rfl, ep240, rp240⟩
        refine Run.join (P := fun z => (if p218 = p240 then (1 : Int32) else (0 : Int32)) = z ∧ (0 ≤ z.toInt ∧ z.toInt ≤ 1)) (pcB := 230) (LB := fun z => #[vI x0, vI x1, vI x2, vI x3, vI x4, vR b1, vR b20, vI p43, vI p46, vI p48, vI p50, vR b52, vI p182, vI p194, vI p206, vI p218]) (SB := fun z => [.int z]) (fun key => ?_) ?_
        ·
         refine r_icmpne H 229 225 at_222 (fun c242 => ?_) (fun c242 => ?_)
         ·
          refine r_iconst H 230 0 at_229 ?_
          exact key (0 : Int32) ⟨(by rw [if_neg c242]), (by decide)⟩
         ·
          refine r_iconst H 226 1 at_225 ?_
          refine r_goto H 230 at_226 ?_
          exact key (1 : Int32) ⟨(by rw [if_pos c242]), (by decide)⟩
        rintro p243 ⟨ep243, rp243⟩
        exact key p243 ⟨(by subst ep240 ep243; rw [if_pos c239]), (by have := rp243; omega)⟩
      rintro p244 ⟨ep244, rp244⟩
      exact key p244 ⟨(by subst ep244; rw [if_pos c236]), (by have := rp244; omega)⟩
    rintro p245 ⟨ep245, rp245⟩
    exact key p245 ⟨(by subst ep234 ep245; rw [if_pos c232]), (by have := rp245; omega)⟩
  rintro p246 ⟨ep246, rp246⟩
  have hone : p246 = 1 := by rw [← ep246]; exact own_fin2 ep24 ep32 ep38 ep48 ep50 lp46 rp43 rp46 ep182 ep194 ep206 ep218 ep230
  exact r_nreturn (1 : Int32) H at_230 (by rw [hone]; decide) rfl
set_option maxRecDepth 65536 in
set_option maxHeartbeats 40000000 in
theorem comes_1 {Post : Tables → Env → Array Value → State → Outcome → State → Prop} (hpost : ∀ tb e args s v u, (limb_1_1.after args s (.returned v) u = true ∧ limb_1_2.after args s (.returned v) u = true ∧ True) → FrameEnd s (.returned v) u (Jvm.fieldLocs frame_1_writes args s ++ Jvm.arrayLocs frame_1_arrays args s ++ Jvm.staticLocs frame_1_statics s) 24 128 → Post tb e args s (.returned v) u) :
    ArmFor flags0 classFile x code maxLocals ret World_1 tables_1 room_1 Calls_1 rest_1 Pre_1 Post := by
  intro l hfl _ _ p e ha hc hk s m args below hf hA hF happ hP
  obtain ⟨hcalls, hrest, hpre⟩ := hP
  obtain ⟨-, -, -, hnamed, -, -, -, hat⟩ := (Spec.applies_iff hf).mp happ
  obtain ⟨hg, hn⟩ := and_e (Cond.before_iff.mp (show (Jvm.Cond.and given_1 narrow_1).before args s = true from hpre))
  obtain ⟨hcnt, hg0⟩ := and_e hg
  obtain ⟨ga0, hg1⟩ := and_e hg0
  obtain ⟨ga1, hg2⟩ := and_e hg1
  obtain ⟨ga2, hg3⟩ := and_e hg2
  obtain ⟨ga3, hg4⟩ := and_e hg3
  obtain ⟨w0, w1, w2, w3, w4, rfl⟩ : ∃ w0 w1 w2 w3 w4 : Value, args = #[w0, w1, w2, w3, w4] := by
    have hs : args.size = 5 := by simpa [Cond.value, given_1] using hcnt
    obtain ⟨L⟩ := args
    match L, hs with
    | [w0, w1, w2, w3, w4], _ => exact ⟨w0, w1, w2, w3, w4, rfl⟩
  have hw := fun d (hd : d ∈ tables_1) => atoms_spec (ws := Jvm.Cond.code x code maxLocals ret :: tables_1) hat d (List.mem_cons_of_mem _ hd)
  obtain ⟨hsets, hown0⟩ := atoms_of _ (rest_1_c_eq ▸ (show rest_1_c.before _ s = true from hrest))
  obtain ⟨i0, ei0⟩ := is_v ga0
  obtain rfl : w0 = (.int i0) := Option.some.inj ei0
  obtain ⟨i1, ei1⟩ := is_v ga1
  obtain rfl : w1 = (.int i1) := Option.some.inj ei1
  obtain ⟨i2, ei2⟩ := is_v ga2
  obtain rfl : w2 = (.int i2) := Option.some.inj ei2
  obtain ⟨i3, ei3⟩ := is_v ga3
  obtain rfl : w3 = (.int i3) := Option.some.inj ei3
  obtain ⟨i4, ei4⟩ := is_v hg4
  obtain rfl : w4 = (.int i4) := Option.some.inj ei4
  have ncs := not_v (Cond.before_iff.mp (hsets _ (List.mem_of_getElem? (i := 2) rfl)))
  obtain ⟨cs, ecs⟩ := is_v (Cond.before_iff.mp (hsets _ (List.mem_of_getElem? (i := 1) rfl)))
  have S_cs : Sta s s.heap "java/lang/String" "COMPACT_STRINGS" "Z" (.int cs) := Sta.start ecs (Or.inl (hsets _ (List.mem_of_getElem? (i := 0) rfl)))
  have hcs : ¬ (cs = (0 : Int32)) := gotF (Cond.eq_ints ecs (Term.int_eval (0))) ncs
  have S__assertionsDisabled : Sta s s.heap "java/lang/StringUTF16" "$assertionsDisabled" "Z" (.int (1 : Int32)) := Sta.start (Cond.eq_int (hsets _ (List.mem_of_getElem? (i := 12) rfl)) rfl) (Or.inl (hsets _ (List.mem_of_getElem? (i := 11) rfl)))
  have S_HI_BYTE_SHIFT : Sta s s.heap "java/lang/StringUTF16" "HI_BYTE_SHIFT" "I" (.int (0 : Int32)) := Sta.start (Cond.eq_int (hsets _ (List.mem_of_getElem? (i := 15) rfl)) rfl) (Or.inl (hsets _ (List.mem_of_getElem? (i := 14) rfl)))
  have S_LO_BYTE_SHIFT : Sta s s.heap "java/lang/StringUTF16" "LO_BYTE_SHIFT" "I" (.int (8 : Int32)) := Sta.start (Cond.eq_int (hsets _ (List.mem_of_getElem? (i := 18) rfl)) rfl) (Or.inl (hsets _ (List.mem_of_getElem? (i := 17) rfl)))
  obtain ⟨n, o, h1, h2, h3, _, L, rfl, ⟨rfl, N, -, -⟩, hq⟩ := rm_law hw [] rfl i0 i1 i2 i3 i4 cs s.heap s.heap.size (Nat.le_refl _) (Nat.le_refl _) S_cs S__assertionsDisabled S_HI_BYTE_SHIFT S_LO_BYTE_SHIFT hcs l p e ha hc hk s m _ below hf ((Spec.applies_iff_loose hf).mp happ).1 ⟨rfl, State.Warmed39.refl s, rfl, IB.start, ⟨Nat.le_refl _, fun _ _ q => q⟩⟩ trivial
  refine ⟨n, _, h1, h2, h3, hpost _ _ _ _ _ _ ⟨Cond.after_iff.mpr rfl, Cond.after_iff.mpr (eq_i res_at (Term.int_eval (1)) rfl), trivial⟩ ⟨hq.1, hq.2.1, (hq.2.2.sift fun y hy => Or.inr (N y hy)).mono (by decide) (by decide)⟩⟩
theorem main_1_1 : Claimed_1_1 := comes_1 fun _ _ _ _ _ _ h hF => ⟨h.1, hF⟩
theorem main_1_2 : Claimed_1_2 := comes_1 fun _ _ _ _ _ _ h hF => ⟨h.2.1, hF⟩
end Jvm.Pilot.@@N@@
namespace Jvm.Pilot.@@N@@
open Jvm Jvm.ClassFile Sem Op Lib Jvm.Free Jvm.Stand Jvm.Pilot.@@N@@.Jvm.D
/-! MADE BY PROGRAM (witnessworld.py) out of the Statement's table words and the real class files: 24 classes; the members and pool entries that the words name. The judged class is class 1, her method 5. -/
namespace start1
open Jvm.ClassFile
def u (s : String) : CpInfo := .utf8 (stringToUtf16 s)
/-- a pool by its gaps: so many unusable entries, then the entry; so many at the end -/
def gap : Nat → List CpInfo → List CpInfo
  | 0, r => r
  | n + 1, r => .unusable :: gap n r
def poolList (es : List (Nat × CpInfo)) (last : Nat) : List CpInfo := es.foldr (fun e r => gap e.1 (e.2 :: r)) (gap last [])
def pool (es : List (Nat × CpInfo)) (last : Nat) : Array CpInfo := ⟨poolList es last⟩
def fileOf (pool : Array CpInfo) (this : Nat) (attrs : Array Attribute := #[]) (ms : Array MethodInfo := #[]) (fl : Nat := 33) (sup : Nat := 0) (ifs : Array Nat := #[]) (fds : Array FieldInfo := #[]) : ClassFile where
  minorVersion := 0
  majorVersion := 65
  constantPool := pool
  accessFlags := fl
  thisClass := this
  superClass := sup
  interfaces := ifs
  fields := fds
  methods := ms
  attributes := attrs
def plain (name : String) (sup : Option ClassId) : Class where
  name := name
  kind := .ordinary
  loader := none
  accessFlags := 33
  super := sup
  interfaces := #[]
  cf := none
  fields := #[]
  methods := #[]
  instanceTypes := #[]
  staticTypes := #[]
  resolved := #[]
  callSites := []
  init := .initialized
  statics := none
  mirror := none

def pool0 : Array CpInfo := pool [(5, u "<init>"), (0, u "()V"), (1, .class_ 10), (1, u "java/lang/Object")] 113

def k0c0 : Code := { maxStack := 0, maxLocals := 1, code := object_method_1_code, exceptionTable := #[], attributes := #[] }
def k0m0 : Method := { name := "<init>", desc := "()V", sig := { parameters := [], returnType := none }, accessFlags := 1, code := some k0c0 }
/-- java/lang/Object -/
def k0 : Class := { plain "java/lang/Object" none with
  accessFlags := 33
  interfaces := #[]
  cf := some (fileOf pool0 8 #[] #[{ accessFlags := 1, nameIndex := 5, descriptorIndex := 6, attributes := #[] }] 33 0 #[] #[])
  fields := #[]
  methods := #[k0m0]
  instanceTypes := #[]
  staticTypes := #[]
  resolved := Array.replicate 124 none
  statics := none }

def pool1 : Array CpInfo := pool [(2, .class_ 4), (1, u "java/lang/Object"), (0, u "<init>"), (0, u "()V"), (0, .integer 55296), (0, .integer 56320), (0, .integer 65535), (0, .integer 56319), (0, .integer 57343), (0, .methodref 13 14), (0, .class_ 15), (0, .nameAndType 16 17), (0, u "com/example/indentree/indentree/reader/CodePointsOffsetPinLaw"), (0, u "mk"), (0, u "(I)C"), (0, .methodref 13 19), (0, .nameAndType 20 21), (0, u "pair"), (0, u "(CC)Z"), (0, .integer 2147483647), (0, .methodref 13 24), (0, .nameAndType 25 26), (0, u "snap"), (0, u "(I[Z)I"), (0, .class_ 28), (0, u "com/example/indentree/indentree/reader/CodePoints"), (0, .class_ 30), (0, u "java/lang/String"), (0, .methodref 29 32), (0, .nameAndType 5 33), (0, u "([C)V"), (0, .methodref 27 35), (0, .nameAndType 5 36), (0, u "(Ljava/lang/String;)V"), (0, .methodref 27 38), (0, .nameAndType 39 40), (0, u "offset"), (0, u "(I)I"), (0, .methodref 13 42), (0, .nameAndType 43 26), (0, u "pre"), (3, u "law"), (0, u "(IIIII)Z")] 6

def k1m0 : Method := { name := "<init>", desc := "()V", sig := { parameters := [], returnType := none }, accessFlags := 1, code := none }
def k1c1 : Code := { maxStack := 3, maxLocals := 3, code := method_2_code, exceptionTable := #[], attributes := #[] }
def k1m1 : Method := { name := "mk", desc := "(I)C", sig := { parameters := [.int], returnType := some .char }, accessFlags := 10, code := some k1c1 }
def k1c2 : Code := { maxStack := 2, maxLocals := 2, code := method_3_code, exceptionTable := #[], attributes := #[] }
def k1m2 : Method := { name := "pair", desc := "(CC)Z", sig := { parameters := [.char, .char], returnType := some .boolean }, accessFlags := 10, code := some k1c2 }
def k1c3 : Code := { maxStack := 2, maxLocals := 2, code := method_4_code, exceptionTable := #[], attributes := #[] }
def k1m3 : Method := { name := "snap", desc := "(I[Z)I", sig := { parameters := [.int, (.array .boolean)], returnType := some .int }, accessFlags := 10, code := some k1c3 }
def k1c4 : Code := { maxStack := 2, maxLocals := 3, code := method_5_code, exceptionTable := #[], attributes := #[] }
def k1m4 : Method := { name := "pre", desc := "(I[Z)I", sig := { parameters := [.int, (.array .boolean)], returnType := some .int }, accessFlags := 10, code := some k1c4 }
def k1c5 : Code := { maxStack := 5, maxLocals := 16, code := code, exceptionTable := #[], attributes := #[] }
def k1m5 : Method := { name := "law", desc := "(IIIII)Z", sig := { parameters := [.int, .int, .int, .int, .int], returnType := some .boolean }, accessFlags := 9, code := some k1c5 }
/-- com/example/indentree/indentree/reader/CodePointsOffsetPinLaw -/
def k1 : Class := { plain "com/example/indentree/indentree/reader/CodePointsOffsetPinLaw" (some 0) with
  accessFlags := 49
  interfaces := #[]
  cf := some (fileOf pool1 13 #[] #[{ accessFlags := 1, nameIndex := 5, descriptorIndex := 6, attributes := #[] }, { accessFlags := 10, nameIndex := 16, descriptorIndex := 17, attributes := #[] }, { accessFlags := 10, nameIndex := 20, descriptorIndex := 21, attributes := #[] }, { accessFlags := 10, nameIndex := 25, descriptorIndex := 26, attributes := #[] }, { accessFlags := 10, nameIndex := 43, descriptorIndex := 26, attributes := #[] }, { accessFlags := 9, nameIndex := 47, descriptorIndex := 48, attributes := #[] }] 49 2 #[] #[])
  fields := #[]
  methods := #[k1m0, k1m1, k1m2, k1m3, k1m4, k1m5]
  instanceTypes := #[]
  staticTypes := #[]
  resolved := Array.replicate 55 none
  statics := none }

def pool2 : Array CpInfo := pool [(1, .methodref 2 3), (0, .class_ 4), (0, .nameAndType 5 6), (0, u "java/lang/Object"), (0, u "<init>"), (0, u "()V"), (0, .fieldref 8 9), (0, .class_ 10), (0, .nameAndType 11 12), (0, u "com/example/indentree/indentree/reader/CodePoints"), (0, u "text"), (0, u "Ljava/lang/String;"), (0, .fieldref 8 14), (0, .nameAndType 15 16), (0, u "offset"), (0, u "I"), (0, .fieldref 8 18), (0, .nameAndType 19 16), (0, u "index"), (0, .methodref 21 22), (0, .class_ 23), (0, .nameAndType 24 25), (0, u "java/lang/String"), (0, u "codePointCount"), (0, u "(II)I"), (6, u "(I)I"), (0, u "(Ljava/lang/String;)V")] 5

def k2c0 : Code := { maxStack := 2, maxLocals := 2, code := prog_19_method_1_code, exceptionTable := #[], attributes := #[] }
def k2m0 : Method := { name := "<init>", desc := "(Ljava/lang/String;)V", sig := { parameters := [(.object "java/lang/String")], returnType := none }, accessFlags := 0, code := some k2c0 }
def k2c1 : Code := { maxStack := 5, maxLocals := 2, code := prog_19_method_2_code, exceptionTable := #[], attributes := #[] }
def k2m1 : Method := { name := "offset", desc := "(I)I", sig := { parameters := [.int], returnType := some .int }, accessFlags := 0, code := some k2c1 }
/-- com/example/indentree/indentree/reader/CodePoints -/
def k2 : Class := { plain "com/example/indentree/indentree/reader/CodePoints" (some 0) with
  accessFlags := 48
  interfaces := #[]
  cf := some (fileOf pool2 8 #[] #[{ accessFlags := 0, nameIndex := 5, descriptorIndex := 33, attributes := #[] }, { accessFlags := 0, nameIndex := 15, descriptorIndex := 32, attributes := #[] }] 48 2 #[] #[{ accessFlags := 18, nameIndex := 11, descriptorIndex := 12, attributes := #[] }, { accessFlags := 2, nameIndex := 19, descriptorIndex := 16, attributes := #[] }, { accessFlags := 2, nameIndex := 15, descriptorIndex := 16, attributes := #[] }])
  fields := #[{ name := "text", type := (.object "java/lang/String"), accessFlags := 18, slot := 0, constantValue := 0 }, { name := "index", type := .int, accessFlags := 2, slot := 1, constantValue := 0 }, { name := "offset", type := .int, accessFlags := 2, slot := 2, constantValue := 0 }]
  methods := #[k2m0, k2m1]
  instanceTypes := #[(.object "java/lang/String"), .int, .int]
  staticTypes := #[]
  resolved := Array.replicate 39 none
  statics := none }

def pool3 : Array CpInfo := pool [(1, .class_ 2), (0, u "java/io/Serializable"), (0, .class_ 4), (0, u "java/lang/Object")] 2

/-- java/io/Serializable -/
def k3 : Class := { plain "java/io/Serializable" (some 0) with
  accessFlags := 1537
  interfaces := #[]
  cf := some (fileOf pool3 1 #[] #[] 1537 3 #[] #[])
  fields := #[]
  methods := #[]
  instanceTypes := #[]
  staticTypes := #[]
  resolved := Array.replicate 7 none
  statics := none }

def pool4 : Array CpInfo := pool [(1, .class_ 2), (0, u "java/lang/Comparable"), (0, .class_ 4), (0, u "java/lang/Object")] 7

/-- java/lang/Comparable -/
def k4 : Class := { plain "java/lang/Comparable" (some 0) with
  accessFlags := 1537
  interfaces := #[]
  cf := some (fileOf pool4 1 #[] #[] 1537 3 #[] #[])
  fields := #[]
  methods := #[]
  instanceTypes := #[]
  staticTypes := #[]
  resolved := Array.replicate 12 none
  statics := none }

def pool5 : Array CpInfo := pool [(2, .class_ 4), (1, u "java/lang/CharSequence"), (42, .class_ 48), (0, u "java/lang/CharSequence$1CodePointIterator"), (10, .class_ 60), (0, u "java/lang/CharSequence$1CharIterator"), (5, .class_ 67), (0, u "java/lang/Object")] 63

/-- java/lang/CharSequence -/
def k5 : Class := { plain "java/lang/CharSequence" (some 0) with
  accessFlags := 1537
  interfaces := #[]
  cf := some (fileOf pool5 2 #[.nestMembers #[47, 59]] #[] 1537 66 #[] #[])
  fields := #[]
  methods := #[]
  instanceTypes := #[]
  staticTypes := #[]
  resolved := Array.replicate 131 none
  statics := none }

def pool6 : Array CpInfo := pool [(1, .class_ 2), (0, u "java/lang/constant/Constable"), (0, .class_ 4), (0, u "java/lang/Object")] 6

/-- java/lang/constant/Constable -/
def k6 : Class := { plain "java/lang/constant/Constable" (some 0) with
  accessFlags := 1537
  interfaces := #[]
  cf := some (fileOf pool6 1 #[] #[] 1537 3 #[] #[])
  fields := #[]
  methods := #[]
  instanceTypes := #[]
  staticTypes := #[]
  resolved := Array.replicate 11 none
  statics := none }

def pool7 : Array CpInfo := pool [(1, .class_ 2), (0, u "java/lang/constant/ConstantDesc"), (0, .class_ 4), (0, u "java/lang/Object")] 32

/-- java/lang/constant/ConstantDesc -/
def k7 : Class := { plain "java/lang/constant/ConstantDesc" (some 0) with
  accessFlags := 1537
  interfaces := #[]
  cf := some (fileOf pool7 1 #[] #[] 1537 3 #[] #[])
  fields := #[]
  methods := #[]
  instanceTypes := #[]
  staticTypes := #[]
  resolved := Array.replicate 37 none
  statics := none }

def pool8 : Array CpInfo := pool [(1, .methodref 2 3), (0, .class_ 4), (0, .nameAndType 5 6), (0, u "java/lang/Object"), (0, u "<init>"), (0, u "()V"), (2, .fieldref 10 11), (0, .class_ 12), (0, .nameAndType 13 14), (0, u "java/lang/String"), (0, u "value"), (0, u "[B"), (0, .fieldref 10 16), (0, .nameAndType 17 18), (0, u "coder"), (0, u "B"), (2, u "hash"), (0, u "I"), (2, u "hashIsZero"), (0, u "Z"), (0, .methodref 10 28), (0, .nameAndType 5 29), (0, u "([CIILjava/lang/Void;)V"), (7, u "(III)I"), (0, .fieldref 10 39), (0, .nameAndType 40 26), (0, u "COMPACT_STRINGS"), (1, .class_ 44), (1, u "java/lang/StringUTF16"), (0, u "compress"), (1, .methodref 42 48), (0, .nameAndType 49 50), (0, u "coderFromArrayLen"), (0, u "([BI)B"), (28, .class_ 81), (1, u "java/util/Objects"), (15, u "([BII)I"), (44, u "()Z"), (34, .methodref 42 178), (0, .nameAndType 45 179), (0, u "([CII)[B"), (154, u "()I"), (0, .methodref 10 336), (0, .nameAndType 17 337), (0, u "()B"), (154, .methodref 10 493), (0, .nameAndType 494 142), (0, u "isLatin1"), (10, .methodref 10 506), (0, .nameAndType 507 334), (0, u "length"), (3, .methodref 79 512), (0, .nameAndType 513 37), (0, u "checkFromToIndex"), (0, .methodref 42 515), (0, .nameAndType 516 97), (0, u "codePointCount"), (58, .class_ 576), (0, u "java/lang/CharSequence"), (22, u "CASE_INSENSITIVE_ORDER"), (0, u "Ljava/util/Comparator;"), (35, u "(II)I"), (373, u "([C)V"), (90, u "serialPersistentFields"), (0, u "[Ljava/io/ObjectStreamField;"), (0, .class_ 1104), (0, u "java/lang/String$CaseInsensitiveComparator"), (1, .class_ 1107), (0, u "java/io/Serializable"), (0, .class_ 1109), (0, u "java/lang/Comparable"), (0, .class_ 1111), (0, u "java/lang/constant/Constable"), (0, .class_ 1113), (0, u "java/lang/constant/ConstantDesc"), (2, u "serialVersionUID"), (0, u "J"), (3, u "REPL"), (0, u "C"), (2, u "LATIN1"), (1, u "UTF16")] 323

def k8m0 : Method := { name := "<init>", desc := "()V", sig := { parameters := [], returnType := none }, accessFlags := 1, code := none }
def k8c1 : Code := { maxStack := 5, maxLocals := 2, code := jdk_42_method_3_code, exceptionTable := #[], attributes := #[] }
def k8m1 : Method := { name := "<init>", desc := "([C)V", sig := { parameters := [(.array .char)], returnType := none }, accessFlags := 1, code := some k8c1 }
def k8c2 : Code := { maxStack := 2, maxLocals := 1, code := jdk_42_method_54_code, exceptionTable := #[], attributes := #[] }
def k8m2 : Method := { name := "length", desc := "()I", sig := { parameters := [], returnType := some .int }, accessFlags := 1, code := some k8c2 }
def k8c3 : Code := { maxStack := 3, maxLocals := 3, code := jdk_42_method_59_code, exceptionTable := #[], attributes := #[] }
def k8m3 : Method := { name := "codePointCount", desc := "(II)I", sig := { parameters := [.int, .int], returnType := some .int }, accessFlags := 1, code := some k8c3 }
def k8c4 : Code := { maxStack := 4, maxLocals := 6, code := jdk_42_method_149_code, exceptionTable := #[], attributes := #[] }
def k8m4 : Method := { name := "<init>", desc := "([CIILjava/lang/Void;)V", sig := { parameters := [(.array .char), .int, .int, (.object "java/lang/Void")], returnType := none }, accessFlags := 2, code := some k8c4 }
def k8c5 : Code := { maxStack := 1, maxLocals := 1, code := jdk_42_method_152_code, exceptionTable := #[], attributes := #[] }
def k8m5 : Method := { name := "coder", desc := "()B", sig := { parameters := [], returnType := some .byte }, accessFlags := 0, code := some k8c5 }
def k8c6 : Code := { maxStack := 1, maxLocals := 1, code := jdk_42_method_154_code, exceptionTable := #[], attributes := #[] }
def k8m6 : Method := { name := "isLatin1", desc := "()Z", sig := { parameters := [], returnType := some .boolean }, accessFlags := 0, code := some k8c6 }
/-- java/lang/String -/
def k8 : Class := { plain "java/lang/String" (some 0) with
  accessFlags := 49
  interfaces := #[3, 4, 5, 6, 7]
  cf := some (fileOf pool8 10 #[.nestMembers #[1103]] #[{ accessFlags := 1, nameIndex := 5, descriptorIndex := 6, attributes := #[] }, { accessFlags := 1, nameIndex := 5, descriptorIndex := 1010, attributes := #[] }, { accessFlags := 1, nameIndex := 507, descriptorIndex := 334, attributes := #[] }, { accessFlags := 1, nameIndex := 516, descriptorIndex := 636, attributes := #[] }, { accessFlags := 2, nameIndex := 5, descriptorIndex := 29, attributes := #[] }, { accessFlags := 0, nameIndex := 17, descriptorIndex := 337, attributes := #[] }, { accessFlags := 0, nameIndex := 494, descriptorIndex := 142, attributes := #[] }] 49 2 #[1106, 1108, 575, 1110, 1112] #[{ accessFlags := 18, nameIndex := 13, descriptorIndex := 14, attributes := #[] }, { accessFlags := 18, nameIndex := 17, descriptorIndex := 18, attributes := #[] }, { accessFlags := 2, nameIndex := 21, descriptorIndex := 22, attributes := #[] }, { accessFlags := 2, nameIndex := 25, descriptorIndex := 26, attributes := #[] }, { accessFlags := 26, nameIndex := 1116, descriptorIndex := 1117, attributes := #[] }, { accessFlags := 24, nameIndex := 40, descriptorIndex := 26, attributes := #[] }, { accessFlags := 26, nameIndex := 1101, descriptorIndex := 1102, attributes := #[] }, { accessFlags := 26, nameIndex := 1121, descriptorIndex := 1122, attributes := #[] }, { accessFlags := 25, nameIndex := 599, descriptorIndex := 600, attributes := #[] }, { accessFlags := 24, nameIndex := 1125, descriptorIndex := 18, attributes := #[] }, { accessFlags := 24, nameIndex := 1127, descriptorIndex := 18, attributes := #[] }])
  fields := #[{ name := "value", type := (.array .byte), accessFlags := 18, slot := 0, constantValue := 0 }, { name := "coder", type := .byte, accessFlags := 18, slot := 1, constantValue := 0 }, { name := "hash", type := .int, accessFlags := 2, slot := 2, constantValue := 0 }, { name := "hashIsZero", type := .boolean, accessFlags := 2, slot := 3, constantValue := 0 }, { name := "serialVersionUID", type := .long, accessFlags := 26, slot := 0, constantValue := 0 }, { name := "COMPACT_STRINGS", type := .boolean, accessFlags := 24, slot := 1, constantValue := 0 }, { name := "serialPersistentFields", type := (.array (.object "java/io/ObjectStreamField")), accessFlags := 26, slot := 2, constantValue := 0 }, { name := "REPL", type := .char, accessFlags := 26, slot := 3, constantValue := 0 }, { name := "CASE_INSENSITIVE_ORDER", type := (.object "java/util/Comparator"), accessFlags := 25, slot := 4, constantValue := 0 }, { name := "LATIN1", type := .byte, accessFlags := 24, slot := 5, constantValue := 0 }, { name := "UTF16", type := .byte, accessFlags := 24, slot := 6, constantValue := 0 }]
  methods := #[k8m0, k8m1, k8m2, k8m3, k8m4, k8m5, k8m6]
  instanceTypes := #[(.array .byte), .byte, .int, .boolean]
  staticTypes := #[.long, .boolean, (.array (.object "java/io/ObjectStreamField")), .char, (.object "java/util/Comparator"), .byte, .byte]
  resolved := Array.replicate 1451 none
  statics := some 0 }

def pool9 : Array CpInfo := pool [(6, .class_ 8), (1, u "java/lang/Object"), (0, u "<init>"), (0, u "()V"), (0, .methodref 12 13), (0, .class_ 14), (0, .nameAndType 15 16), (0, u "java/lang/StringUTF16"), (0, u "newBytesLength"), (0, u "(I)I"), (3, .integer 1073741823), (23, .fieldref 12 45), (0, .nameAndType 46 47), (0, u "$assertionsDisabled"), (0, u "Z"), (11, .fieldref 12 60), (0, .nameAndType 61 62), (0, u "HI_BYTE_SHIFT"), (0, u "I"), (0, .fieldref 12 64), (0, .nameAndType 65 62), (0, u "LO_BYTE_SHIFT"), (5, .methodref 12 72), (0, .nameAndType 73 74), (0, u "getChar"), (0, u "([BI)C"), (0, .methodref 76 77), (0, .class_ 78), (0, .nameAndType 79 80), (0, u "java/lang/Character"), (0, u "isHighSurrogate"), (0, u "(C)Z"), (0, .methodref 76 82), (0, .nameAndType 83 80), (0, u "isLowSurrogate"), (7, u "([BIIZ)I"), (8, .methodref 12 101), (0, .nameAndType 102 91), (0, u "codePointCount"), (4, .methodref 12 108), (0, .nameAndType 109 110), (0, u "newBytesFor"), (0, u "(I)[B"), (0, .methodref 12 112), (0, .nameAndType 113 114), (0, u "putChar"), (0, u "([BII)V"), (0, .methodref 12 116), (0, .nameAndType 117 118), (0, u "compress"), (0, u "([CI[BII)I"), (0, .methodref 12 120), (0, .nameAndType 121 122), (0, u "toBytes"), (0, u "([CII)[B"), (127, u "([BII)I"), (10, u "coderFromArrayLen"), (0, u "([BI)B"), (106, .class_ 371), (1, u "java/lang/StringUTF16$LinesSpliterator"), (58, u "MAX_LENGTH"), (196, .class_ 628), (0, u "java/lang/StringUTF16$CodePointsSpliterator"), (0, .class_ 630), (0, u "java/lang/StringUTF16$CharsSpliterator")] 4

def k9m0 : Method := { name := "<init>", desc := "()V", sig := { parameters := [], returnType := none }, accessFlags := 0, code := none }
def k9c1 : Code := { maxStack := 1, maxLocals := 1, code := jdk_52_method_2_code, exceptionTable := #[], attributes := #[] }
def k9m1 : Method := { name := "newBytesFor", desc := "(I)[B", sig := { parameters := [.int], returnType := some (.array .byte) }, accessFlags := 9, code := some k9c1 }
def k9c2 : Code := { maxStack := 4, maxLocals := 1, code := jdk_52_method_3_code, exceptionTable := #[], attributes := #[] }
def k9m2 : Method := { name := "newBytesLength", desc := "(I)I", sig := { parameters := [.int], returnType := some .int }, accessFlags := 9, code := some k9c2 }
def k9c3 : Code := { maxStack := 4, maxLocals := 3, code := jdk_52_method_4_code, exceptionTable := #[], attributes := #[] }
def k9m3 : Method := { name := "putChar", desc := "([BII)V", sig := { parameters := [(.array .byte), .int, .int], returnType := none }, accessFlags := 8, code := some k9c3 }
def k9c4 : Code := { maxStack := 3, maxLocals := 2, code := jdk_52_method_5_code, exceptionTable := #[], attributes := #[] }
def k9m4 : Method := { name := "getChar", desc := "([BI)C", sig := { parameters := [(.array .byte), .int], returnType := some .char }, accessFlags := 8, code := some k9c4 }
def k9c5 : Code := { maxStack := 3, maxLocals := 6, code := jdk_52_method_11_code, exceptionTable := #[], attributes := #[] }
def k9m5 : Method := { name := "codePointCount", desc := "([BIIZ)I", sig := { parameters := [(.array .byte), .int, .int, .boolean], returnType := some .int }, accessFlags := 10, code := some k9c5 }
def k9c6 : Code := { maxStack := 4, maxLocals := 3, code := jdk_52_method_12_code, exceptionTable := #[], attributes := #[] }
def k9m6 : Method := { name := "codePointCount", desc := "([BII)I", sig := { parameters := [(.array .byte), .int, .int], returnType := some .int }, accessFlags := 9, code := some k9c6 }
def k9c7 : Code := { maxStack := 4, maxLocals := 5, code := jdk_52_method_14_code, exceptionTable := #[], attributes := #[] }
def k9m7 : Method := { name := "toBytes", desc := "([CII)[B", sig := { parameters := [(.array .char), .int, .int], returnType := some (.array .byte) }, accessFlags := 9, code := some k9c7 }
def k9c8 : Code := { maxStack := 2, maxLocals := 2, code := jdk_52_method_15_code, exceptionTable := #[], attributes := #[] }
def k9m8 : Method := { name := "coderFromArrayLen", desc := "([BI)B", sig := { parameters := [(.array .byte), .int], returnType := some .byte }, accessFlags := 8, code := some k9c8 }
def k9c9 : Code := { maxStack := 5, maxLocals := 6, code := jdk_52_method_16_code, exceptionTable := #[], attributes := #[] }
def k9m9 : Method := { name := "compress", desc := "([CII)[B", sig := { parameters := [(.array .char), .int, .int], returnType := some (.array .byte) }, accessFlags := 9, code := some k9c9 }
def k9c10 : Code := { maxStack := 3, maxLocals := 7, code := jdk_52_method_21_code, exceptionTable := #[], attributes := #[] }
def k9m10 : Method := { name := "compress", desc := "([CI[BII)I", sig := { parameters := [(.array .char), .int, (.array .byte), .int, .int], returnType := some .int }, accessFlags := 9, code := some k9c10 }
/-- java/lang/StringUTF16 -/
def k9 : Class := { plain "java/lang/StringUTF16" (some 0) with
  accessFlags := 48
  interfaces := #[]
  cf := some (fileOf pool9 12 #[.nestMembers #[627, 629, 369]] #[{ accessFlags := 0, nameIndex := 9, descriptorIndex := 10, attributes := #[] }, { accessFlags := 9, nameIndex := 109, descriptorIndex := 110, attributes := #[] }, { accessFlags := 9, nameIndex := 15, descriptorIndex := 16, attributes := #[] }, { accessFlags := 8, nameIndex := 113, descriptorIndex := 114, attributes := #[] }, { accessFlags := 8, nameIndex := 73, descriptorIndex := 74, attributes := #[] }, { accessFlags := 10, nameIndex := 102, descriptorIndex := 91, attributes := #[] }, { accessFlags := 9, nameIndex := 102, descriptorIndex := 250, attributes := #[] }, { accessFlags := 9, nameIndex := 121, descriptorIndex := 122, attributes := #[] }, { accessFlags := 8, nameIndex := 261, descriptorIndex := 262, attributes := #[] }, { accessFlags := 9, nameIndex := 117, descriptorIndex := 122, attributes := #[] }, { accessFlags := 9, nameIndex := 117, descriptorIndex := 118, attributes := #[] }] 48 6 #[] #[{ accessFlags := 26, nameIndex := 61, descriptorIndex := 62, attributes := #[] }, { accessFlags := 26, nameIndex := 65, descriptorIndex := 62, attributes := #[] }, { accessFlags := 24, nameIndex := 430, descriptorIndex := 62, attributes := #[] }, { accessFlags := 4120, nameIndex := 46, descriptorIndex := 47, attributes := #[] }])
  fields := #[{ name := "HI_BYTE_SHIFT", type := .int, accessFlags := 26, slot := 0, constantValue := 0 }, { name := "LO_BYTE_SHIFT", type := .int, accessFlags := 26, slot := 1, constantValue := 0 }, { name := "MAX_LENGTH", type := .int, accessFlags := 24, slot := 2, constantValue := 0 }, { name := "$assertionsDisabled", type := .boolean, accessFlags := 4120, slot := 3, constantValue := 0 }]
  methods := #[k9m0, k9m1, k9m2, k9m3, k9m4, k9m5, k9m6, k9m7, k9m8, k9m9, k9m10]
  instanceTypes := #[]
  staticTypes := #[.int, .int, .int, .boolean]
  resolved := Array.replicate 635 none
  statics := some 1 }

def pool10 : Array CpInfo := pool [(2, .class_ 4), (1, u "java/lang/Object"), (0, u "<init>"), (0, u "()V"), (35, .class_ 44), (1, u "java/util/Objects"), (61, .class_ 108), (1, u "jdk/internal/util/Preconditions"), (2, .methodref 106 112), (0, .nameAndType 113 114), (0, u "checkFromToIndex"), (0, u "(IIILjava/util/function/BiFunction;)I"), (60, u "(III)I")] 8

def k10m0 : Method := { name := "<init>", desc := "()V", sig := { parameters := [], returnType := none }, accessFlags := 2, code := none }
def k10c1 : Code := { maxStack := 4, maxLocals := 3, code := jdk_31_method_18_code, exceptionTable := #[], attributes := #[] }
def k10m1 : Method := { name := "checkFromToIndex", desc := "(III)I", sig := { parameters := [.int, .int, .int], returnType := some .int }, accessFlags := 9, code := some k10c1 }
/-- java/util/Objects -/
def k10 : Class := { plain "java/util/Objects" (some 0) with
  accessFlags := 49
  interfaces := #[]
  cf := some (fileOf pool10 42 #[] #[{ accessFlags := 2, nameIndex := 5, descriptorIndex := 6, attributes := #[] }, { accessFlags := 9, nameIndex := 113, descriptorIndex := 175, attributes := #[] }] 49 2 #[] #[])
  fields := #[]
  methods := #[k10m0, k10m1]
  instanceTypes := #[]
  staticTypes := #[]
  resolved := Array.replicate 184 none
  statics := none }

def pool11 : Array CpInfo := pool [(2, .class_ 4), (1, u "java/lang/Object"), (0, u "<init>"), (0, u "()V"), (17, .class_ 26), (1, u "jdk/internal/util/Preconditions"), (20, u "checkFromToIndex"), (7, .class_ 56), (0, u "jdk/internal/util/Preconditions$4"), (57, .class_ 115), (0, u "jdk/internal/util/Preconditions$1"), (7, u "SIOOBE_FORMATTER"), (0, u "Ljava/util/function/BiFunction;"), (0, .class_ 126), (0, u "jdk/internal/util/Preconditions$2"), (3, u "AIOOBE_FORMATTER"), (0, .class_ 132), (0, u "jdk/internal/util/Preconditions$3"), (3, u "IOOBE_FORMATTER"), (46, u "(IIILjava/util/function/BiFunction;)I")] 10

def k11m0 : Method := { name := "<init>", desc := "()V", sig := { parameters := [], returnType := none }, accessFlags := 1, code := none }
def k11c1 : Code := { maxStack := 4, maxLocals := 4, code := jdk_41_method_12_code, exceptionTable := #[], attributes := #[] }
def k11m1 : Method := { name := "checkFromToIndex", desc := "(IIILjava/util/function/BiFunction;)I", sig := { parameters := [.int, .int, .int, (.object "java/util/function/BiFunction")], returnType := some .int }, accessFlags := 9, code := some k11c1 }
/-- jdk/internal/util/Preconditions -/
def k11 : Class := { plain "jdk/internal/util/Preconditions" (some 0) with
  accessFlags := 33
  interfaces := #[]
  cf := some (fileOf pool11 24 #[.nestMembers #[55, 131, 125, 114]] #[{ accessFlags := 1, nameIndex := 5, descriptorIndex := 6, attributes := #[] }, { accessFlags := 9, nameIndex := 47, descriptorIndex := 183, attributes := #[] }] 33 2 #[] #[{ accessFlags := 25, nameIndex := 123, descriptorIndex := 124, attributes := #[] }, { accessFlags := 25, nameIndex := 130, descriptorIndex := 124, attributes := #[] }, { accessFlags := 25, nameIndex := 136, descriptorIndex := 124, attributes := #[] }])
  fields := #[{ name := "SIOOBE_FORMATTER", type := (.object "java/util/function/BiFunction"), accessFlags := 25, slot := 0, constantValue := 0 }, { name := "AIOOBE_FORMATTER", type := (.object "java/util/function/BiFunction"), accessFlags := 25, slot := 1, constantValue := 0 }, { name := "IOOBE_FORMATTER", type := (.object "java/util/function/BiFunction"), accessFlags := 25, slot := 2, constantValue := 0 }]
  methods := #[k11m0, k11m1]
  instanceTypes := #[]
  staticTypes := #[(.object "java/util/function/BiFunction"), (.object "java/util/function/BiFunction"), (.object "java/util/function/BiFunction")]
  resolved := Array.replicate 194 none
  statics := some 2 }

def pool12 : Array CpInfo := pool [(1, .class_ 2), (0, u "java/lang/Character"), (18, u "value"), (0, u "C"), (19, .class_ 44), (1, u "java/lang/Object"), (3, .class_ 50), (1, u "java/lang/Character$CharacterCache"), (24, .integer 55296), (0, .integer 56320), (0, .integer 57344), (2, u "isHighSurrogate"), (0, u "(C)Z"), (2, u "isLowSurrogate"), (199, u "$assertionsDisabled"), (0, u "Z"), (21, .class_ 309), (1, u "java/lang/Character$UnicodeBlock"), (73, u "TYPE"), (0, u "Ljava/lang/Class;"), (0, .class_ 386), (0, u "java/io/Serializable"), (0, .class_ 388), (0, u "java/lang/Comparable"), (0, .class_ 390), (0, u "java/lang/constant/Constable"), (0, u "MIN_RADIX"), (0, u "I"), (2, u "MAX_RADIX"), (1, u "MIN_VALUE"), (1, u "MAX_VALUE"), (3, u "UNASSIGNED"), (0, u "B"), (0, u "UPPERCASE_LETTER"), (1, u "LOWERCASE_LETTER"), (0, u "TITLECASE_LETTER"), (1, u "MODIFIER_LETTER"), (1, u "OTHER_LETTER"), (1, u "NON_SPACING_MARK"), (1, u "ENCLOSING_MARK"), (1, u "COMBINING_SPACING_MARK"), (1, u "DECIMAL_DIGIT_NUMBER"), (1, u "LETTER_NUMBER"), (1, u "OTHER_NUMBER"), (1, u "SPACE_SEPARATOR"), (1, u "LINE_SEPARATOR"), (1, u "PARAGRAPH_SEPARATOR"), (1, u "CONTROL"), (1, u "FORMAT"), (1, u "PRIVATE_USE"), (1, u "SURROGATE"), (1, u "DASH_PUNCTUATION"), (1, u "START_PUNCTUATION"), (1, u "END_PUNCTUATION"), (1, u "CONNECTOR_PUNCTUATION"), (1, u "OTHER_PUNCTUATION"), (1, u "MATH_SYMBOL"), (1, u "CURRENCY_SYMBOL"), (1, u "MODIFIER_SYMBOL"), (1, u "OTHER_SYMBOL"), (1, u "INITIAL_QUOTE_PUNCTUATION"), (1, u "FINAL_QUOTE_PUNCTUATION"), (1, u "ERROR"), (1, u "DIRECTIONALITY_UNDEFINED"), (0, u "DIRECTIONALITY_LEFT_TO_RIGHT"), (0, u "DIRECTIONALITY_RIGHT_TO_LEFT"), (0, u "DIRECTIONALITY_RIGHT_TO_LEFT_ARABIC"), (0, u "DIRECTIONALITY_EUROPEAN_NUMBER"), (0, u "DIRECTIONALITY_EUROPEAN_NUMBER_SEPARATOR"), (0, u "DIRECTIONALITY_EUROPEAN_NUMBER_TERMINATOR"), (0, u "DIRECTIONALITY_ARABIC_NUMBER"), (0, u "DIRECTIONALITY_COMMON_NUMBER_SEPARATOR"), (0, u "DIRECTIONALITY_NONSPACING_MARK"), (0, u "DIRECTIONALITY_BOUNDARY_NEUTRAL"), (0, u "DIRECTIONALITY_PARAGRAPH_SEPARATOR"), (0, u "DIRECTIONALITY_SEGMENT_SEPARATOR"), (0, u "DIRECTIONALITY_WHITESPACE"), (0, u "DIRECTIONALITY_OTHER_NEUTRALS"), (0, u "DIRECTIONALITY_LEFT_TO_RIGHT_EMBEDDING"), (0, u "DIRECTIONALITY_LEFT_TO_RIGHT_OVERRIDE"), (0, u "DIRECTIONALITY_RIGHT_TO_LEFT_EMBEDDING"), (0, u "DIRECTIONALITY_RIGHT_TO_LEFT_OVERRIDE"), (1, u "DIRECTIONALITY_POP_DIRECTIONAL_FORMAT"), (0, u "DIRECTIONALITY_LEFT_TO_RIGHT_ISOLATE"), (0, u "DIRECTIONALITY_RIGHT_TO_LEFT_ISOLATE"), (0, u "DIRECTIONALITY_FIRST_STRONG_ISOLATE"), (0, u "DIRECTIONALITY_POP_DIRECTIONAL_ISOLATE"), (0, u "MIN_HIGH_SURROGATE"), (0, u "MAX_HIGH_SURROGATE"), (1, u "MIN_LOW_SURROGATE"), (0, u "MAX_LOW_SURROGATE"), (1, u "MIN_SURROGATE"), (0, u "MAX_SURROGATE"), (0, u "MIN_SUPPLEMENTARY_CODE_POINT"), (0, u "MIN_CODE_POINT"), (0, u "MAX_CODE_POINT"), (1, u "serialVersionUID"), (0, u "J"), (2, u "SIZE"), (0, u "BYTES"), (88, .class_ 596), (0, u "java/lang/Character$UnicodeScript"), (0, .class_ 598), (0, u "java/lang/Character$Subset")] 5

def k12c0 : Code := { maxStack := 2, maxLocals := 1, code := jdk_89_method_14_code, exceptionTable := #[], attributes := #[] }
def k12m0 : Method := { name := "isHighSurrogate", desc := "(C)Z", sig := { parameters := [.char], returnType := some .boolean }, accessFlags := 9, code := some k12c0 }
def k12c1 : Code := { maxStack := 2, maxLocals := 1, code := jdk_89_method_15_code, exceptionTable := #[], attributes := #[] }
def k12m1 : Method := { name := "isLowSurrogate", desc := "(C)Z", sig := { parameters := [.char], returnType := some .boolean }, accessFlags := 9, code := some k12c1 }
/-- java/lang/Character -/
def k12 : Class := { plain "java/lang/Character" (some 0) with
  accessFlags := 49
  interfaces := #[3, 4, 6]
  cf := some (fileOf pool12 1 #[.nestMembers #[48, 595, 307, 597]] #[{ accessFlags := 9, nameIndex := 80, descriptorIndex := 81, attributes := #[] }, { accessFlags := 9, nameIndex := 84, descriptorIndex := 81, attributes := #[] }] 49 42 #[385, 387, 389] #[{ accessFlags := 25, nameIndex := 391, descriptorIndex := 392, attributes := #[] }, { accessFlags := 25, nameIndex := 395, descriptorIndex := 392, attributes := #[] }, { accessFlags := 25, nameIndex := 397, descriptorIndex := 22, attributes := #[] }, { accessFlags := 25, nameIndex := 399, descriptorIndex := 22, attributes := #[] }, { accessFlags := 25, nameIndex := 383, descriptorIndex := 384, attributes := #[] }, { accessFlags := 25, nameIndex := 403, descriptorIndex := 404, attributes := #[] }, { accessFlags := 25, nameIndex := 405, descriptorIndex := 404, attributes := #[] }, { accessFlags := 25, nameIndex := 407, descriptorIndex := 404, attributes := #[] }, { accessFlags := 25, nameIndex := 408, descriptorIndex := 404, attributes := #[] }, { accessFlags := 25, nameIndex := 410, descriptorIndex := 404, attributes := #[] }, { accessFlags := 25, nameIndex := 412, descriptorIndex := 404, attributes := #[] }, { accessFlags := 25, nameIndex := 414, descriptorIndex := 404, attributes := #[] }, { accessFlags := 25, nameIndex := 416, descriptorIndex := 404, attributes := #[] }, { accessFlags := 25, nameIndex := 418, descriptorIndex := 404, attributes := #[] }, { accessFlags := 25, nameIndex := 420, descriptorIndex := 404, attributes := #[] }, { accessFlags := 25, nameIndex := 422, descriptorIndex := 404, attributes := #[] }, { accessFlags := 25, nameIndex := 424, descriptorIndex := 404, attributes := #[] }, { accessFlags := 25, nameIndex := 426, descriptorIndex := 404, attributes := #[] }, { accessFlags := 25, nameIndex := 428, descriptorIndex := 404, attributes := #[] }, { accessFlags := 25, nameIndex := 430, descriptorIndex := 404, attributes := #[] }, { accessFlags := 25, nameIndex := 432, descriptorIndex := 404, attributes := #[] }, { accessFlags := 25, nameIndex := 434, descriptorIndex := 404, attributes := #[] }, { accessFlags := 25, nameIndex := 436, descriptorIndex := 404, attributes := #[] }, { accessFlags := 25, nameIndex := 438, descriptorIndex := 404, attributes := #[] }, { accessFlags := 25, nameIndex := 440, descriptorIndex := 404, attributes := #[] }, { accessFlags := 25, nameIndex := 442, descriptorIndex := 404, attributes := #[] }, { accessFlags := 25, nameIndex := 444, descriptorIndex := 404, attributes := #[] }, { accessFlags := 25, nameIndex := 446, descriptorIndex := 404, attributes := #[] }, { accessFlags := 25, nameIndex := 448, descriptorIndex := 404, attributes := #[] }, { accessFlags := 25, nameIndex := 450, descriptorIndex := 404, attributes := #[] }, { accessFlags := 25, nameIndex := 452, descriptorIndex := 404, attributes := #[] }, { accessFlags := 25, nameIndex := 454, descriptorIndex := 404, attributes := #[] }, { accessFlags := 25, nameIndex := 456, descriptorIndex := 404, attributes := #[] }, { accessFlags := 25, nameIndex := 458, descriptorIndex := 404, attributes := #[] }, { accessFlags := 25, nameIndex := 460, descriptorIndex := 404, attributes := #[] }, { accessFlags := 24, nameIndex := 462, descriptorIndex := 392, attributes := #[] }, { accessFlags := 25, nameIndex := 464, descriptorIndex := 404, attributes := #[] }, { accessFlags := 25, nameIndex := 465, descriptorIndex := 404, attributes := #[] }, { accessFlags := 25, nameIndex := 466, descriptorIndex := 404, attributes := #[] }, { accessFlags := 25, nameIndex := 467, descriptorIndex := 404, attributes := #[] }, { accessFlags := 25, nameIndex := 468, descriptorIndex := 404, attributes := #[] }, { accessFlags := 25, nameIndex := 469, descriptorIndex := 404, attributes := #[] }, { accessFlags := 25, nameIndex := 470, descriptorIndex := 404, attributes := #[] }, { accessFlags := 25, nameIndex := 471, descriptorIndex := 404, attributes := #[] }, { accessFlags := 25, nameIndex := 472, descriptorIndex := 404, attributes := #[] }, { accessFlags := 25, nameIndex := 473, descriptorIndex := 404, attributes := #[] }, { accessFlags := 25, nameIndex := 474, descriptorIndex := 404, attributes := #[] }, { accessFlags := 25, nameIndex := 475, descriptorIndex := 404, attributes := #[] }, { accessFlags := 25, nameIndex := 476, descriptorIndex := 404, attributes := #[] }, { accessFlags := 25, nameIndex := 477, descriptorIndex := 404, attributes := #[] }, { accessFlags := 25, nameIndex := 478, descriptorIndex := 404, attributes := #[] }, { accessFlags := 25, nameIndex := 479, descriptorIndex := 404, attributes := #[] }, { accessFlags := 25, nameIndex := 480, descriptorIndex := 404, attributes := #[] }, { accessFlags := 25, nameIndex := 481, descriptorIndex := 404, attributes := #[] }, { accessFlags := 25, nameIndex := 482, descriptorIndex := 404, attributes := #[] }, { accessFlags := 25, nameIndex := 484, descriptorIndex := 404, attributes := #[] }, { accessFlags := 25, nameIndex := 485, descriptorIndex := 404, attributes := #[] }, { accessFlags := 25, nameIndex := 486, descriptorIndex := 404, attributes := #[] }, { accessFlags := 25, nameIndex := 487, descriptorIndex := 404, attributes := #[] }, { accessFlags := 25, nameIndex := 488, descriptorIndex := 404, attributes := #[] }, { accessFlags := 25, nameIndex := 489, descriptorIndex := 22, attributes := #[] }, { accessFlags := 25, nameIndex := 490, descriptorIndex := 22, attributes := #[] }, { accessFlags := 25, nameIndex := 492, descriptorIndex := 22, attributes := #[] }, { accessFlags := 25, nameIndex := 493, descriptorIndex := 22, attributes := #[] }, { accessFlags := 25, nameIndex := 495, descriptorIndex := 22, attributes := #[] }, { accessFlags := 25, nameIndex := 496, descriptorIndex := 22, attributes := #[] }, { accessFlags := 25, nameIndex := 497, descriptorIndex := 392, attributes := #[] }, { accessFlags := 25, nameIndex := 498, descriptorIndex := 392, attributes := #[] }, { accessFlags := 25, nameIndex := 499, descriptorIndex := 392, attributes := #[] }, { accessFlags := 18, nameIndex := 21, descriptorIndex := 22, attributes := #[] }, { accessFlags := 26, nameIndex := 501, descriptorIndex := 502, attributes := #[] }, { accessFlags := 25, nameIndex := 505, descriptorIndex := 392, attributes := #[] }, { accessFlags := 25, nameIndex := 506, descriptorIndex := 392, attributes := #[] }, { accessFlags := 4120, nameIndex := 284, descriptorIndex := 285, attributes := #[] }])
  fields := #[{ name := "MIN_RADIX", type := .int, accessFlags := 25, slot := 0, constantValue := 0 }, { name := "MAX_RADIX", type := .int, accessFlags := 25, slot := 1, constantValue := 0 }, { name := "MIN_VALUE", type := .char, accessFlags := 25, slot := 2, constantValue := 0 }, { name := "MAX_VALUE", type := .char, accessFlags := 25, slot := 3, constantValue := 0 }, { name := "TYPE", type := (.object "java/lang/Class"), accessFlags := 25, slot := 4, constantValue := 0 }, { name := "UNASSIGNED", type := .byte, accessFlags := 25, slot := 5, constantValue := 0 }, { name := "UPPERCASE_LETTER", type := .byte, accessFlags := 25, slot := 6, constantValue := 0 }, { name := "LOWERCASE_LETTER", type := .byte, accessFlags := 25, slot := 7, constantValue := 0 }, { name := "TITLECASE_LETTER", type := .byte, accessFlags := 25, slot := 8, constantValue := 0 }, { name := "MODIFIER_LETTER", type := .byte, accessFlags := 25, slot := 9, constantValue := 0 }, { name := "OTHER_LETTER", type := .byte, accessFlags := 25, slot := 10, constantValue := 0 }, { name := "NON_SPACING_MARK", type := .byte, accessFlags := 25, slot := 11, constantValue := 0 }, { name := "ENCLOSING_MARK", type := .byte, accessFlags := 25, slot := 12, constantValue := 0 }, { name := "COMBINING_SPACING_MARK", type := .byte, accessFlags := 25, slot := 13, constantValue := 0 }, { name := "DECIMAL_DIGIT_NUMBER", type := .byte, accessFlags := 25, slot := 14, constantValue := 0 }, { name := "LETTER_NUMBER", type := .byte, accessFlags := 25, slot := 15, constantValue := 0 }, { name := "OTHER_NUMBER", type := .byte, accessFlags := 25, slot := 16, constantValue := 0 }, { name := "SPACE_SEPARATOR", type := .byte, accessFlags := 25, slot := 17, constantValue := 0 }, { name := "LINE_SEPARATOR", type := .byte, accessFlags := 25, slot := 18, constantValue := 0 }, { name := "PARAGRAPH_SEPARATOR", type := .byte, accessFlags := 25, slot := 19, constantValue := 0 }, { name := "CONTROL", type := .byte, accessFlags := 25, slot := 20, constantValue := 0 }, { name := "FORMAT", type := .byte, accessFlags := 25, slot := 21, constantValue := 0 }, { name := "PRIVATE_USE", type := .byte, accessFlags := 25, slot := 22, constantValue := 0 }, { name := "SURROGATE", type := .byte, accessFlags := 25, slot := 23, constantValue := 0 }, { name := "DASH_PUNCTUATION", type := .byte, accessFlags := 25, slot := 24, constantValue := 0 }, { name := "START_PUNCTUATION", type := .byte, accessFlags := 25, slot := 25, constantValue := 0 }, { name := "END_PUNCTUATION", type := .byte, accessFlags := 25, slot := 26, constantValue := 0 }, { name := "CONNECTOR_PUNCTUATION", type := .byte, accessFlags := 25, slot := 27, constantValue := 0 }, { name := "OTHER_PUNCTUATION", type := .byte, accessFlags := 25, slot := 28, constantValue := 0 }, { name := "MATH_SYMBOL", type := .byte, accessFlags := 25, slot := 29, constantValue := 0 }, { name := "CURRENCY_SYMBOL", type := .byte, accessFlags := 25, slot := 30, constantValue := 0 }, { name := "MODIFIER_SYMBOL", type := .byte, accessFlags := 25, slot := 31, constantValue := 0 }, { name := "OTHER_SYMBOL", type := .byte, accessFlags := 25, slot := 32, constantValue := 0 }, { name := "INITIAL_QUOTE_PUNCTUATION", type := .byte, accessFlags := 25, slot := 33, constantValue := 0 }, { name := "FINAL_QUOTE_PUNCTUATION", type := .byte, accessFlags := 25, slot := 34, constantValue := 0 }, { name := "ERROR", type := .int, accessFlags := 24, slot := 35, constantValue := 0 }, { name := "DIRECTIONALITY_UNDEFINED", type := .byte, accessFlags := 25, slot := 36, constantValue := 0 }, { name := "DIRECTIONALITY_LEFT_TO_RIGHT", type := .byte, accessFlags := 25, slot := 37, constantValue := 0 }, { name := "DIRECTIONALITY_RIGHT_TO_LEFT", type := .byte, accessFlags := 25, slot := 38, constantValue := 0 }, { name := "DIRECTIONALITY_RIGHT_TO_LEFT_ARABIC", type := .byte, accessFlags := 25, slot := 39, constantValue := 0 }, { name := "DIRECTIONALITY_EUROPEAN_NUMBER", type := .byte, accessFlags := 25, slot := 40, constantValue := 0 }, { name := "DIRECTIONALITY_EUROPEAN_NUMBER_SEPARATOR", type := .byte, accessFlags := 25, slot := 41, constantValue := 0 }, { name := "DIRECTIONALITY_EUROPEAN_NUMBER_TERMINATOR", type := .byte, accessFlags := 25, slot := 42, constantValue := 0 }, { name := "DIRECTIONALITY_ARABIC_NUMBER", type := .byte, accessFlags := 25, slot := 43, constantValue := 0 }, { name := "DIRECTIONALITY_COMMON_NUMBER_SEPARATOR", type := .byte, accessFlags := 25, slot := 44, constantValue := 0 }, { name := "DIRECTIONALITY_NONSPACING_MARK", type := .byte, accessFlags := 25, slot := 45, constantValue := 0 }, { name := "DIRECTIONALITY_BOUNDARY_NEUTRAL", type := .byte, accessFlags := 25, slot := 46, constantValue := 0 }, { name := "DIRECTIONALITY_PARAGRAPH_SEPARATOR", type := .byte, accessFlags := 25, slot := 47, constantValue := 0 }, { name := "DIRECTIONALITY_SEGMENT_SEPARATOR", type := .byte, accessFlags := 25, slot := 48, constantValue := 0 }, { name := "DIRECTIONALITY_WHITESPACE", type := .byte, accessFlags := 25, slot := 49, constantValue := 0 }, { name := "DIRECTIONALITY_OTHER_NEUTRALS", type := .byte, accessFlags := 25, slot := 50, constantValue := 0 }, { name := "DIRECTIONALITY_LEFT_TO_RIGHT_EMBEDDING", type := .byte, accessFlags := 25, slot := 51, constantValue := 0 }, { name := "DIRECTIONALITY_LEFT_TO_RIGHT_OVERRIDE", type := .byte, accessFlags := 25, slot := 52, constantValue := 0 }, { name := "DIRECTIONALITY_RIGHT_TO_LEFT_EMBEDDING", type := .byte, accessFlags := 25, slot := 53, constantValue := 0 }, { name := "DIRECTIONALITY_RIGHT_TO_LEFT_OVERRIDE", type := .byte, accessFlags := 25, slot := 54, constantValue := 0 }, { name := "DIRECTIONALITY_POP_DIRECTIONAL_FORMAT", type := .byte, accessFlags := 25, slot := 55, constantValue := 0 }, { name := "DIRECTIONALITY_LEFT_TO_RIGHT_ISOLATE", type := .byte, accessFlags := 25, slot := 56, constantValue := 0 }, { name := "DIRECTIONALITY_RIGHT_TO_LEFT_ISOLATE", type := .byte, accessFlags := 25, slot := 57, constantValue := 0 }, { name := "DIRECTIONALITY_FIRST_STRONG_ISOLATE", type := .byte, accessFlags := 25, slot := 58, constantValue := 0 }, { name := "DIRECTIONALITY_POP_DIRECTIONAL_ISOLATE", type := .byte, accessFlags := 25, slot := 59, constantValue := 0 }, { name := "MIN_HIGH_SURROGATE", type := .char, accessFlags := 25, slot := 60, constantValue := 0 }, { name := "MAX_HIGH_SURROGATE", type := .char, accessFlags := 25, slot := 61, constantValue := 0 }, { name := "MIN_LOW_SURROGATE", type := .char, accessFlags := 25, slot := 62, constantValue := 0 }, { name := "MAX_LOW_SURROGATE", type := .char, accessFlags := 25, slot := 63, constantValue := 0 }, { name := "MIN_SURROGATE", type := .char, accessFlags := 25, slot := 64, constantValue := 0 }, { name := "MAX_SURROGATE", type := .char, accessFlags := 25, slot := 65, constantValue := 0 }, { name := "MIN_SUPPLEMENTARY_CODE_POINT", type := .int, accessFlags := 25, slot := 66, constantValue := 0 }, { name := "MIN_CODE_POINT", type := .int, accessFlags := 25, slot := 67, constantValue := 0 }, { name := "MAX_CODE_POINT", type := .int, accessFlags := 25, slot := 68, constantValue := 0 }, { name := "value", type := .char, accessFlags := 18, slot := 0, constantValue := 0 }, { name := "serialVersionUID", type := .long, accessFlags := 26, slot := 69, constantValue := 0 }, { name := "SIZE", type := .int, accessFlags := 25, slot := 70, constantValue := 0 }, { name := "BYTES", type := .int, accessFlags := 25, slot := 71, constantValue := 0 }, { name := "$assertionsDisabled", type := .boolean, accessFlags := 4120, slot := 72, constantValue := 0 }]
  methods := #[k12m0, k12m1]
  instanceTypes := #[.char]
  staticTypes := #[.int, .int, .char, .char, (.object "java/lang/Class"), .byte, .byte, .byte, .byte, .byte, .byte, .byte, .byte, .byte, .byte, .byte, .byte, .byte, .byte, .byte, .byte, .byte, .byte, .byte, .byte, .byte, .byte, .byte, .byte, .byte, .byte, .byte, .byte, .byte, .byte, .int, .byte, .byte, .byte, .byte, .byte, .byte, .byte, .byte, .byte, .byte, .byte, .byte, .byte, .byte, .byte, .byte, .byte, .byte, .byte, .byte, .byte, .byte, .byte, .byte, .char, .char, .char, .char, .char, .char, .int, .int, .int, .long, .int, .int, .boolean]
  resolved := Array.replicate 604 none
  statics := none }

def pool13 : Array CpInfo := pool [(4, .class_ 6), (1, u "java/lang/Object"), (0, u "<init>"), (0, u "()V"), (5, .class_ 16), (1, u "java/lang/StringLatin1"), (104, u "$assertionsDisabled"), (0, u "Z"), (98, .class_ 223), (1, u "java/lang/StringLatin1$LinesSpliterator"), (166, .class_ 391), (0, u "java/lang/StringLatin1$CharsSpliterator")] 3

def k13m0 : Method := { name := "<init>", desc := "()V", sig := { parameters := [], returnType := none }, accessFlags := 0, code := none }
/-- java/lang/StringLatin1 -/
def k13 : Class := { plain "java/lang/StringLatin1" (some 0) with
  accessFlags := 48
  interfaces := #[]
  cf := some (fileOf pool13 14 #[.nestMembers #[390, 221]] #[{ accessFlags := 0, nameIndex := 7, descriptorIndex := 8, attributes := #[] }] 48 4 #[] #[{ accessFlags := 4120, nameIndex := 121, descriptorIndex := 122, attributes := #[] }])
  fields := #[{ name := "$assertionsDisabled", type := .boolean, accessFlags := 4120, slot := 0, constantValue := 0 }]
  methods := #[k13m0]
  instanceTypes := #[]
  staticTypes := #[.boolean]
  resolved := Array.replicate 395 none
  statics := none }

def pool14 : Array CpInfo := pool [(9, u "<init>"), (6, .class_ 18), (1, u "java/lang/Object"), (0, u "()V"), (1, .class_ 23), (1, u "jdk/internal/util/ArraysSupport"), (0, u "LOG2_ARRAY_LONG_INDEX_SCALE"), (0, u "I"), (2, u "U"), (0, u "Ljdk/internal/misc/Unsafe;"), (8, u "BIG_ENDIAN"), (0, u "Z"), (8, u "LOG2_BYTE_BIT_SIZE"), (4, u "LOG2_ARRAY_INT_INDEX_SCALE"), (54, u "JLA"), (0, u "Ljdk/internal/access/JavaLangAccess;"), (11, u "LOG2_ARRAY_BOOLEAN_INDEX_SCALE"), (9, u "LOG2_ARRAY_BYTE_INDEX_SCALE"), (5, u "LOG2_ARRAY_CHAR_INDEX_SCALE"), (5, u "LOG2_ARRAY_SHORT_INDEX_SCALE"), (18, u "LOG2_ARRAY_FLOAT_INDEX_SCALE"), (24, u "LOG2_ARRAY_DOUBLE_INDEX_SCALE"), (89, u "T_BOOLEAN"), (2, u "T_CHAR"), (1, u "T_FLOAT"), (1, u "T_DOUBLE"), (1, u "T_BYTE"), (1, u "T_SHORT"), (1, u "T_INT"), (1, u "T_LONG"), (1, u "SOFT_MAX_ARRAY_LENGTH")] 83

def k14m0 : Method := { name := "<init>", desc := "()V", sig := { parameters := [], returnType := none }, accessFlags := 2, code := none }
/-- jdk/internal/util/ArraysSupport -/
def k14 : Class := { plain "jdk/internal/util/ArraysSupport" (some 0) with
  accessFlags := 33
  interfaces := #[]
  cf := some (fileOf pool14 21 #[] #[{ accessFlags := 2, nameIndex := 9, descriptorIndex := 19, attributes := #[] }] 33 16 #[] #[{ accessFlags := 24, nameIndex := 28, descriptorIndex := 29, attributes := #[] }, { accessFlags := 26, nameIndex := 38, descriptorIndex := 39, attributes := #[] }, { accessFlags := 25, nameIndex := 121, descriptorIndex := 25, attributes := #[] }, { accessFlags := 25, nameIndex := 131, descriptorIndex := 25, attributes := #[] }, { accessFlags := 25, nameIndex := 137, descriptorIndex := 25, attributes := #[] }, { accessFlags := 25, nameIndex := 143, descriptorIndex := 25, attributes := #[] }, { accessFlags := 25, nameIndex := 53, descriptorIndex := 25, attributes := #[] }, { accessFlags := 25, nameIndex := 24, descriptorIndex := 25, attributes := #[] }, { accessFlags := 25, nameIndex := 162, descriptorIndex := 25, attributes := #[] }, { accessFlags := 25, nameIndex := 187, descriptorIndex := 25, attributes := #[] }, { accessFlags := 26, nameIndex := 48, descriptorIndex := 25, attributes := #[] }, { accessFlags := 25, nameIndex := 277, descriptorIndex := 25, attributes := #[] }, { accessFlags := 25, nameIndex := 280, descriptorIndex := 25, attributes := #[] }, { accessFlags := 25, nameIndex := 282, descriptorIndex := 25, attributes := #[] }, { accessFlags := 25, nameIndex := 284, descriptorIndex := 25, attributes := #[] }, { accessFlags := 25, nameIndex := 286, descriptorIndex := 25, attributes := #[] }, { accessFlags := 25, nameIndex := 288, descriptorIndex := 25, attributes := #[] }, { accessFlags := 25, nameIndex := 290, descriptorIndex := 25, attributes := #[] }, { accessFlags := 25, nameIndex := 292, descriptorIndex := 25, attributes := #[] }, { accessFlags := 26, nameIndex := 108, descriptorIndex := 109, attributes := #[] }, { accessFlags := 25, nameIndex := 294, descriptorIndex := 25, attributes := #[] }])
  fields := #[{ name := "U", type := (.object "jdk/internal/misc/Unsafe"), accessFlags := 24, slot := 0, constantValue := 0 }, { name := "BIG_ENDIAN", type := .boolean, accessFlags := 26, slot := 1, constantValue := 0 }, { name := "LOG2_ARRAY_BOOLEAN_INDEX_SCALE", type := .int, accessFlags := 25, slot := 2, constantValue := 0 }, { name := "LOG2_ARRAY_BYTE_INDEX_SCALE", type := .int, accessFlags := 25, slot := 3, constantValue := 0 }, { name := "LOG2_ARRAY_CHAR_INDEX_SCALE", type := .int, accessFlags := 25, slot := 4, constantValue := 0 }, { name := "LOG2_ARRAY_SHORT_INDEX_SCALE", type := .int, accessFlags := 25, slot := 5, constantValue := 0 }, { name := "LOG2_ARRAY_INT_INDEX_SCALE", type := .int, accessFlags := 25, slot := 6, constantValue := 0 }, { name := "LOG2_ARRAY_LONG_INDEX_SCALE", type := .int, accessFlags := 25, slot := 7, constantValue := 0 }, { name := "LOG2_ARRAY_FLOAT_INDEX_SCALE", type := .int, accessFlags := 25, slot := 8, constantValue := 0 }, { name := "LOG2_ARRAY_DOUBLE_INDEX_SCALE", type := .int, accessFlags := 25, slot := 9, constantValue := 0 }, { name := "LOG2_BYTE_BIT_SIZE", type := .int, accessFlags := 26, slot := 10, constantValue := 0 }, { name := "T_BOOLEAN", type := .int, accessFlags := 25, slot := 11, constantValue := 0 }, { name := "T_CHAR", type := .int, accessFlags := 25, slot := 12, constantValue := 0 }, { name := "T_FLOAT", type := .int, accessFlags := 25, slot := 13, constantValue := 0 }, { name := "T_DOUBLE", type := .int, accessFlags := 25, slot := 14, constantValue := 0 }, { name := "T_BYTE", type := .int, accessFlags := 25, slot := 15, constantValue := 0 }, { name := "T_SHORT", type := .int, accessFlags := 25, slot := 16, constantValue := 0 }, { name := "T_INT", type := .int, accessFlags := 25, slot := 17, constantValue := 0 }, { name := "T_LONG", type := .int, accessFlags := 25, slot := 18, constantValue := 0 }, { name := "JLA", type := (.object "jdk/internal/access/JavaLangAccess"), accessFlags := 26, slot := 19, constantValue := 0 }, { name := "SOFT_MAX_ARRAY_LENGTH", type := .int, accessFlags := 25, slot := 20, constantValue := 0 }]
  methods := #[k14m0]
  instanceTypes := #[]
  staticTypes := #[(.object "jdk/internal/misc/Unsafe"), .boolean, .int, .int, .int, .int, .int, .int, .int, .int, .int, .int, .int, .int, .int, .int, .int, .int, .int, (.object "jdk/internal/access/JavaLangAccess"), .int]
  resolved := Array.replicate 378 none
  statics := none }

def pool15 : Array CpInfo := pool [(1, u "java/lang/Cloneable"), (0, .class_ 1), (0, u "java/lang/Object"), (0, .class_ 3)] 3

/-- java/lang/Cloneable -/
def k15 : Class := { plain "java/lang/Cloneable" (some 0) with
  accessFlags := 1537
  interfaces := #[]
  cf := some (fileOf pool15 2 #[] #[] 1537 4 #[] #[])
  fields := #[]
  methods := #[]
  instanceTypes := #[]
  staticTypes := #[]
  resolved := Array.replicate 8 none
  statics := none }

/-- the primitive boolean -/
def k16 : Class := { plain "boolean" none with kind := .primitive 'Z', accessFlags := 0x411 }
/-- [Z -/
def k17 : Class := { plain "[Z" (some 0) with kind := .array 16 .boolean, interfaces := #[15, 3], accessFlags := 1041 }

/-- the primitive byte -/
def k18 : Class := { plain "byte" none with kind := .primitive 'B', accessFlags := 0x411 }
/-- [B -/
def k19 : Class := { plain "[B" (some 0) with kind := .array 18 .byte, interfaces := #[15, 3], accessFlags := 1041 }

/-- the primitive char -/
def k20 : Class := { plain "char" none with kind := .primitive 'C', accessFlags := 0x411 }
/-- [C -/
def k21 : Class := { plain "[C" (some 0) with kind := .array 20 .char, interfaces := #[15, 3], accessFlags := 1041 }

/-- the primitive int -/
def k22 : Class := { plain "int" none with kind := .primitive 'I', accessFlags := 0x411 }
/-- [I -/
def k23 : Class := { plain "[I" (some 0) with kind := .array 22 .int, interfaces := #[15, 3], accessFlags := 1041 }

def heap : Heap := #[{ cls := 8, slots := #[.long 0, .int 1, .null, .int 0, .null, .int 0, .int 0], vm := .statics 8 },
  { cls := 9, slots := #[.int 0, .int 8, .int 0, .int 1], vm := .statics 9 },
  { cls := 11, slots := #[.null, .null, .null], vm := .statics 11 }]
def classes : Array Class := #[k0, k1, k2, k3, k4, k5, k6, k7, k8, k9, k10, k11, k12, k13, k14, k15, k16, k17, k18, k19, k20, k21, k22, k23]
def interned : List (Array UInt16 × Addr) := []
def slotsUsed : Nat := 14
def theMethod : MethodId := ⟨1, 5⟩
def args0 : Array Value := #[.int 65, .int 66, .int 67, .int 68, .int 69]
def aboutOver (below : List Frame) : State where
  vm := { classes := classes, interned := interned.toArray }
  heap := heap
  slotsUsed := slotsUsed
  threads := #[{ frames := .invoking theMethod args0 :: below }]
def below0 : List Frame := [.native { method := ⟨0, 0⟩, args := #[] }]
def about1 : State := aboutOver below0
def p0 : Program := .bare "" "" ""
def e0 : Env := launch0.env 0 0 0
theorem w_frames : about1.frames = Frame.invoking theMethod args0 :: below0 := rfl
set_option maxRecDepth 65536 in
theorem w_args : argsFit about1.vm theMethod args0 = true := by decide +kernel
set_option maxRecDepth 65536 in
theorem w_heap : heapFits about1 = true := by decide +kernel
set_option maxRecDepth 65536 in
theorem w_runnable : about1.curStatus? = some .runnable := by decide +kernel
set_option maxRecDepth 65536 in
theorem w_alone : about1.alone = true := by decide +kernel
set_option maxRecDepth 65536 in
theorem w_named : about1.methodNamed? x = some theMethod := by decide +kernel
set_option maxRecDepth 65536 in
theorem w_hears : about1.hears theMethod below0 = true := by decide +kernel
set_option maxRecDepth 65536 in
theorem w_ripe : about1.ripe theMethod args0 below0 = true := by decide +kernel
theorem w_running : about1.status = .running := rfl
set_option maxRecDepth 65536 in
theorem w_room : about1.hasRoom e0.platform room_1 = true :=
  launch0.hasRoom_least _ room_1 (by decide +kernel) (by decide +kernel) (by decide +kernel) (by decide +kernel) (by decide +kernel) (by decide +kernel)
theorem allAtoms_all (ts : List Jvm.Cond) (a : Array Jvm.Value) (st : Jvm.State) : (allAtoms ts).before a st = ts.all (fun c => c.before a st) := by
  induction ts with
  | nil => rfl
  | cons c t ih =>
    show (Jvm.Cond.and c (allAtoms t)).before a st = _
    rw [Jvm.Cond.before_and, ih, List.all_cons]
def words1 : List Jvm.Cond := Jvm.Cond.code x code maxLocals ret :: tables_1
/-- a 'code' word, met by the world's own term for the bytes: nothing is compared byte by byte -/
theorem code_word {y : MethodName} {bytes : ByteArray} {mx : Nat} {rt : Option FieldType} {a : Array Value} {s : State} {m : MethodId} {meth : Method} {c : Code} (h1 : s.methodNamed? y = some m) (h2 : s.vm.method? m = some meth) (h3 : meth.code = some c) (h4 : c.code = bytes)
    (h5 : (c.maxLocals == mx && c.exceptionTable.isEmpty && decide (c.maxStack ≤ mostOperands) && decide (meth.sig.returnType = rt) && !meth.locks && decide (parseMethodDescriptor y.desc = some meth.sig)) = true) : (Jvm.Cond.code y bytes mx rt).before a s = true := by
  simp only [Bool.and_eq_true, beq_iff_eq, Bool.not_eq_true', decide_eq_true_eq] at h5
  obtain ⟨⟨⟨⟨⟨g1, g2⟩, g3⟩, g4⟩, g5⟩, g6⟩ := h5
  simp [Cond.before, Cond.holds, Cond.value, h1, h2, h3, h4, g1, g2, g3, g4, g5, g6]
def isCode : Jvm.Cond → Bool
  | .code _ _ _ _ => true
  | _ => false
theorem all_split {L : List Jvm.Cond} {P : Jvm.Cond → Bool} (h1 : L.all (fun c => isCode c || P c) = true) (h2 : ∀ c ∈ L.filter isCode, P c = true) : L.all P = true := by
  refine List.all_eq_true.mpr fun c hc => ?_
  have h := List.all_eq_true.mp h1 c hc
  rcases Bool.eq_false_or_eq_true (isCode c) with hi | hi
  · exact h2 c (List.mem_filter.mpr ⟨hc, hi⟩)
  · simpa [hi] using h
set_option maxRecDepth 65536 in
theorem w_c0 : (Jvm.Cond.code x code maxLocals ret).before args0 about1 = true := code_word (m := ⟨1, 5⟩) (meth := k1m5) (c := k1c5) (by decide +kernel) rfl rfl rfl (by decide +kernel)
set_option maxRecDepth 65536 in
theorem w_c1 : (Jvm.Cond.code ({ cls := "com/example/indentree/indentree/reader/CodePointsOffsetPinLaw", name := "mk", desc := "(I)C" } : Jvm.MethodName) method_2_code (3 : Nat) (Option.some Jvm.ClassFile.FieldType.char)).before args0 about1 = true := code_word (m := ⟨1, 1⟩) (meth := k1m1) (c := k1c1) (by decide +kernel) rfl rfl rfl (by decide +kernel)
set_option maxRecDepth 65536 in
theorem w_c2 : (Jvm.Cond.code ({ cls := "com/example/indentree/indentree/reader/CodePointsOffsetPinLaw", name := "pair", desc := "(CC)Z" } : Jvm.MethodName) method_3_code (2 : Nat) (Option.some Jvm.ClassFile.FieldType.boolean)).before args0 about1 = true := code_word (m := ⟨1, 2⟩) (meth := k1m2) (c := k1c2) (by decide +kernel) rfl rfl rfl (by decide +kernel)
set_option maxRecDepth 65536 in
theorem w_c3 : (Jvm.Cond.code ({ cls := "com/example/indentree/indentree/reader/CodePointsOffsetPinLaw", name := "snap", desc := "(I[Z)I" } : Jvm.MethodName) method_4_code (2 : Nat) (Option.some Jvm.ClassFile.FieldType.int)).before args0 about1 = true := code_word (m := ⟨1, 3⟩) (meth := k1m3) (c := k1c3) (by decide +kernel) rfl rfl rfl (by decide +kernel)
set_option maxRecDepth 65536 in
theorem w_c4 : (Jvm.Cond.code ({ cls := "java/lang/String", name := "<init>", desc := "([C)V" } : Jvm.MethodName) jdk_42_method_3_code (2 : Nat) (Option.none : Option Jvm.ClassFile.FieldType)).before args0 about1 = true := code_word (m := ⟨8, 1⟩) (meth := k8m1) (c := k8c1) (by decide +kernel) rfl rfl rfl (by decide +kernel)
set_option maxRecDepth 65536 in
theorem w_c5 : (Jvm.Cond.code ({ cls := "java/lang/String", name := "<init>", desc := "([CIILjava/lang/Void;)V" } : Jvm.MethodName) jdk_42_method_149_code (6 : Nat) (Option.none : Option Jvm.ClassFile.FieldType)).before args0 about1 = true := code_word (m := ⟨8, 4⟩) (meth := k8m4) (c := k8c4) (by decide +kernel) rfl rfl rfl (by decide +kernel)
set_option maxRecDepth 65536 in
theorem w_c6 : (Jvm.Cond.code ({ cls := "java/lang/Object", name := "<init>", desc := "()V" } : Jvm.MethodName) object_method_1_code (1 : Nat) (Option.none : Option Jvm.ClassFile.FieldType)).before args0 about1 = true := code_word (m := ⟨0, 0⟩) (meth := k0m0) (c := k0c0) (by decide +kernel) rfl rfl rfl (by decide +kernel)
set_option maxRecDepth 65536 in
theorem w_c7 : (Jvm.Cond.code ({ cls := "java/lang/StringUTF16", name := "compress", desc := "([CII)[B" } : Jvm.MethodName) jdk_52_method_16_code (6 : Nat) (Option.some (Jvm.ClassFile.FieldType.array Jvm.ClassFile.FieldType.byte))).before args0 about1 = true := code_word (m := ⟨9, 9⟩) (meth := k9m9) (c := k9c9) (by decide +kernel) rfl rfl rfl (by decide +kernel)
set_option maxRecDepth 65536 in
theorem w_c8 : (Jvm.Cond.code ({ cls := "java/lang/StringUTF16", name := "compress", desc := "([CI[BII)I" } : Jvm.MethodName) jdk_52_method_21_code (7 : Nat) (Option.some Jvm.ClassFile.FieldType.int)).before args0 about1 = true := code_word (m := ⟨9, 10⟩) (meth := k9m10) (c := k9c10) (by decide +kernel) rfl rfl rfl (by decide +kernel)
set_option maxRecDepth 65536 in
theorem w_c9 : (Jvm.Cond.code ({ cls := "java/lang/StringUTF16", name := "toBytes", desc := "([CII)[B" } : Jvm.MethodName) jdk_52_method_14_code (5 : Nat) (Option.some (Jvm.ClassFile.FieldType.array Jvm.ClassFile.FieldType.byte))).before args0 about1 = true := code_word (m := ⟨9, 7⟩) (meth := k9m7) (c := k9c7) (by decide +kernel) rfl rfl rfl (by decide +kernel)
set_option maxRecDepth 65536 in
theorem w_c10 : (Jvm.Cond.code ({ cls := "java/lang/StringUTF16", name := "newBytesFor", desc := "(I)[B" } : Jvm.MethodName) jdk_52_method_2_code (1 : Nat) (Option.some (Jvm.ClassFile.FieldType.array Jvm.ClassFile.FieldType.byte))).before args0 about1 = true := code_word (m := ⟨9, 1⟩) (meth := k9m1) (c := k9c1) (by decide +kernel) rfl rfl rfl (by decide +kernel)
set_option maxRecDepth 65536 in
theorem w_c11 : (Jvm.Cond.code ({ cls := "java/lang/StringUTF16", name := "newBytesLength", desc := "(I)I" } : Jvm.MethodName) jdk_52_method_3_code (1 : Nat) (Option.some Jvm.ClassFile.FieldType.int)).before args0 about1 = true := code_word (m := ⟨9, 2⟩) (meth := k9m2) (c := k9c2) (by decide +kernel) rfl rfl rfl (by decide +kernel)
set_option maxRecDepth 65536 in
theorem w_c12 : (Jvm.Cond.code ({ cls := "java/lang/StringUTF16", name := "putChar", desc := "([BII)V" } : Jvm.MethodName) jdk_52_method_4_code (3 : Nat) (Option.none : Option Jvm.ClassFile.FieldType)).before args0 about1 = true := code_word (m := ⟨9, 3⟩) (meth := k9m3) (c := k9c3) (by decide +kernel) rfl rfl rfl (by decide +kernel)
set_option maxRecDepth 65536 in
theorem w_c13 : (Jvm.Cond.code ({ cls := "java/lang/StringUTF16", name := "getChar", desc := "([BI)C" } : Jvm.MethodName) jdk_52_method_5_code (2 : Nat) (Option.some Jvm.ClassFile.FieldType.char)).before args0 about1 = true := code_word (m := ⟨9, 4⟩) (meth := k9m4) (c := k9c4) (by decide +kernel) rfl rfl rfl (by decide +kernel)
set_option maxRecDepth 65536 in
theorem w_c14 : (Jvm.Cond.code ({ cls := "java/lang/StringUTF16", name := "coderFromArrayLen", desc := "([BI)B" } : Jvm.MethodName) jdk_52_method_15_code (2 : Nat) (Option.some Jvm.ClassFile.FieldType.byte)).before args0 about1 = true := code_word (m := ⟨9, 8⟩) (meth := k9m8) (c := k9c8) (by decide +kernel) rfl rfl rfl (by decide +kernel)
set_option maxRecDepth 65536 in
theorem w_c15 : (Jvm.Cond.code ({ cls := "com/example/indentree/indentree/reader/CodePoints", name := "<init>", desc := "(Ljava/lang/String;)V" } : Jvm.MethodName) prog_19_method_1_code (2 : Nat) (Option.none : Option Jvm.ClassFile.FieldType)).before args0 about1 = true := code_word (m := ⟨2, 0⟩) (meth := k2m0) (c := k2c0) (by decide +kernel) rfl rfl rfl (by decide +kernel)
set_option maxRecDepth 65536 in
theorem w_c16 : (Jvm.Cond.code ({ cls := "com/example/indentree/indentree/reader/CodePoints", name := "offset", desc := "(I)I" } : Jvm.MethodName) prog_19_method_2_code (2 : Nat) (Option.some Jvm.ClassFile.FieldType.int)).before args0 about1 = true := code_word (m := ⟨2, 1⟩) (meth := k2m1) (c := k2c1) (by decide +kernel) rfl rfl rfl (by decide +kernel)
set_option maxRecDepth 65536 in
theorem w_c17 : (Jvm.Cond.code ({ cls := "java/lang/String", name := "codePointCount", desc := "(II)I" } : Jvm.MethodName) jdk_42_method_59_code (3 : Nat) (Option.some Jvm.ClassFile.FieldType.int)).before args0 about1 = true := code_word (m := ⟨8, 3⟩) (meth := k8m3) (c := k8c3) (by decide +kernel) rfl rfl rfl (by decide +kernel)
set_option maxRecDepth 65536 in
theorem w_c18 : (Jvm.Cond.code ({ cls := "java/lang/String", name := "length", desc := "()I" } : Jvm.MethodName) jdk_42_method_54_code (1 : Nat) (Option.some Jvm.ClassFile.FieldType.int)).before args0 about1 = true := code_word (m := ⟨8, 2⟩) (meth := k8m2) (c := k8c2) (by decide +kernel) rfl rfl rfl (by decide +kernel)
set_option maxRecDepth 65536 in
theorem w_c19 : (Jvm.Cond.code ({ cls := "java/lang/String", name := "coder", desc := "()B" } : Jvm.MethodName) jdk_42_method_152_code (1 : Nat) (Option.some Jvm.ClassFile.FieldType.byte)).before args0 about1 = true := code_word (m := ⟨8, 5⟩) (meth := k8m5) (c := k8c5) (by decide +kernel) rfl rfl rfl (by decide +kernel)
set_option maxRecDepth 65536 in
theorem w_c20 : (Jvm.Cond.code ({ cls := "java/util/Objects", name := "checkFromToIndex", desc := "(III)I" } : Jvm.MethodName) jdk_31_method_18_code (3 : Nat) (Option.some Jvm.ClassFile.FieldType.int)).before args0 about1 = true := code_word (m := ⟨10, 1⟩) (meth := k10m1) (c := k10c1) (by decide +kernel) rfl rfl rfl (by decide +kernel)
set_option maxRecDepth 65536 in
theorem w_c21 : (Jvm.Cond.code ({ cls := "jdk/internal/util/Preconditions", name := "checkFromToIndex", desc := "(IIILjava/util/function/BiFunction;)I" } : Jvm.MethodName) jdk_41_method_12_code (4 : Nat) (Option.some Jvm.ClassFile.FieldType.int)).before args0 about1 = true := code_word (m := ⟨11, 1⟩) (meth := k11m1) (c := k11c1) (by decide +kernel) rfl rfl rfl (by decide +kernel)
set_option maxRecDepth 65536 in
theorem w_c22 : (Jvm.Cond.code ({ cls := "java/lang/String", name := "isLatin1", desc := "()Z" } : Jvm.MethodName) jdk_42_method_154_code (1 : Nat) (Option.some Jvm.ClassFile.FieldType.boolean)).before args0 about1 = true := code_word (m := ⟨8, 6⟩) (meth := k8m6) (c := k8c6) (by decide +kernel) rfl rfl rfl (by decide +kernel)
set_option maxRecDepth 65536 in
theorem w_c23 : (Jvm.Cond.code ({ cls := "java/lang/StringUTF16", name := "codePointCount", desc := "([BII)I" } : Jvm.MethodName) jdk_52_method_12_code (3 : Nat) (Option.some Jvm.ClassFile.FieldType.int)).before args0 about1 = true := code_word (m := ⟨9, 6⟩) (meth := k9m6) (c := k9c6) (by decide +kernel) rfl rfl rfl (by decide +kernel)
set_option maxRecDepth 65536 in
theorem w_c24 : (Jvm.Cond.code ({ cls := "java/lang/StringUTF16", name := "codePointCount", desc := "([BIIZ)I" } : Jvm.MethodName) jdk_52_method_11_code (6 : Nat) (Option.some Jvm.ClassFile.FieldType.int)).before args0 about1 = true := code_word (m := ⟨9, 5⟩) (meth := k9m5) (c := k9c5) (by decide +kernel) rfl rfl rfl (by decide +kernel)
set_option maxRecDepth 65536 in
theorem w_c25 : (Jvm.Cond.code ({ cls := "java/lang/Character", name := "isHighSurrogate", desc := "(C)Z" } : Jvm.MethodName) jdk_89_method_14_code (1 : Nat) (Option.some Jvm.ClassFile.FieldType.boolean)).before args0 about1 = true := code_word (m := ⟨12, 0⟩) (meth := k12m0) (c := k12c0) (by decide +kernel) rfl rfl rfl (by decide +kernel)
set_option maxRecDepth 65536 in
theorem w_c26 : (Jvm.Cond.code ({ cls := "com/example/indentree/indentree/reader/CodePointsOffsetPinLaw", name := "pre", desc := "(I[Z)I" } : Jvm.MethodName) method_5_code (3 : Nat) (Option.some Jvm.ClassFile.FieldType.int)).before args0 about1 = true := code_word (m := ⟨1, 4⟩) (meth := k1m4) (c := k1c4) (by decide +kernel) rfl rfl rfl (by decide +kernel)
set_option maxRecDepth 65536 in
theorem w_c27 : (Jvm.Cond.code ({ cls := "java/lang/Character", name := "isLowSurrogate", desc := "(C)Z" } : Jvm.MethodName) jdk_89_method_15_code (1 : Nat) (Option.some Jvm.ClassFile.FieldType.boolean)).before args0 about1 = true := code_word (m := ⟨12, 1⟩) (meth := k12m1) (c := k12c1) (by decide +kernel) rfl rfl rfl (by decide +kernel)
def codes1 : List Jvm.Cond := [Jvm.Cond.code x code maxLocals ret, Jvm.Cond.code ({ cls := "com/example/indentree/indentree/reader/CodePointsOffsetPinLaw", name := "mk", desc := "(I)C" } : Jvm.MethodName) method_2_code (3 : Nat) (Option.some Jvm.ClassFile.FieldType.char), Jvm.Cond.code ({ cls := "com/example/indentree/indentree/reader/CodePointsOffsetPinLaw", name := "pair", desc := "(CC)Z" } : Jvm.MethodName) method_3_code (2 : Nat) (Option.some Jvm.ClassFile.FieldType.boolean), Jvm.Cond.code ({ cls := "com/example/indentree/indentree/reader/CodePointsOffsetPinLaw", name := "snap", desc := "(I[Z)I" } : Jvm.MethodName) method_4_code (2 : Nat) (Option.some Jvm.ClassFile.FieldType.int), Jvm.Cond.code ({ cls := "java/lang/String", name := "<init>", desc := "([C)V" } : Jvm.MethodName) jdk_42_method_3_code (2 : Nat) (Option.none : Option Jvm.ClassFile.FieldType), Jvm.Cond.code ({ cls := "java/lang/String", name := "<init>", desc := "([CIILjava/lang/Void;)V" } : Jvm.MethodName) jdk_42_method_149_code (6 : Nat) (Option.none : Option Jvm.ClassFile.FieldType), Jvm.Cond.code ({ cls := "java/lang/Object", name := "<init>", desc := "()V" } : Jvm.MethodName) object_method_1_code (1 : Nat) (Option.none : Option Jvm.ClassFile.FieldType), Jvm.Cond.code ({ cls := "java/lang/StringUTF16", name := "compress", desc := "([CII)[B" } : Jvm.MethodName) jdk_52_method_16_code (6 : Nat) (Option.some (Jvm.ClassFile.FieldType.array Jvm.ClassFile.FieldType.byte)), Jvm.Cond.code ({ cls := "java/lang/StringUTF16", name := "compress", desc := "([CI[BII)I" } : Jvm.MethodName) jdk_52_method_21_code (7 : Nat) (Option.some Jvm.ClassFile.FieldType.int), Jvm.Cond.code ({ cls := "java/lang/StringUTF16", name := "toBytes", desc := "([CII)[B" } : Jvm.MethodName) jdk_52_method_14_code (5 : Nat) (Option.some (Jvm.ClassFile.FieldType.array Jvm.ClassFile.FieldType.byte)), Jvm.Cond.code ({ cls := "java/lang/StringUTF16", name := "newBytesFor", desc := "(I)[B" } : Jvm.MethodName) jdk_52_method_2_code (1 : Nat) (Option.some (Jvm.ClassFile.FieldType.array Jvm.ClassFile.FieldType.byte)), Jvm.Cond.code ({ cls := "java/lang/StringUTF16", name := "newBytesLength", desc := "(I)I" } : Jvm.MethodName) jdk_52_method_3_code (1 : Nat) (Option.some Jvm.ClassFile.FieldType.int), Jvm.Cond.code ({ cls := "java/lang/StringUTF16", name := "putChar", desc := "([BII)V" } : Jvm.MethodName) jdk_52_method_4_code (3 : Nat) (Option.none : Option Jvm.ClassFile.FieldType), Jvm.Cond.code ({ cls := "java/lang/StringUTF16", name := "getChar", desc := "([BI)C" } : Jvm.MethodName) jdk_52_method_5_code (2 : Nat) (Option.some Jvm.ClassFile.FieldType.char), Jvm.Cond.code ({ cls := "java/lang/StringUTF16", name := "coderFromArrayLen", desc := "([BI)B" } : Jvm.MethodName) jdk_52_method_15_code (2 : Nat) (Option.some Jvm.ClassFile.FieldType.byte), Jvm.Cond.code ({ cls := "com/example/indentree/indentree/reader/CodePoints", name := "<init>", desc := "(Ljava/lang/String;)V" } : Jvm.MethodName) prog_19_method_1_code (2 : Nat) (Option.none : Option Jvm.ClassFile.FieldType), Jvm.Cond.code ({ cls := "com/example/indentree/indentree/reader/CodePoints", name := "offset", desc := "(I)I" } : Jvm.MethodName) prog_19_method_2_code (2 : Nat) (Option.some Jvm.ClassFile.FieldType.int), Jvm.Cond.code ({ cls := "java/lang/String", name := "codePointCount", desc := "(II)I" } : Jvm.MethodName) jdk_42_method_59_code (3 : Nat) (Option.some Jvm.ClassFile.FieldType.int), Jvm.Cond.code ({ cls := "java/lang/String", name := "length", desc := "()I" } : Jvm.MethodName) jdk_42_method_54_code (1 : Nat) (Option.some Jvm.ClassFile.FieldType.int), Jvm.Cond.code ({ cls := "java/lang/String", name := "coder", desc := "()B" } : Jvm.MethodName) jdk_42_method_152_code (1 : Nat) (Option.some Jvm.ClassFile.FieldType.byte), Jvm.Cond.code ({ cls := "java/util/Objects", name := "checkFromToIndex", desc := "(III)I" } : Jvm.MethodName) jdk_31_method_18_code (3 : Nat) (Option.some Jvm.ClassFile.FieldType.int), Jvm.Cond.code ({ cls := "jdk/internal/util/Preconditions", name := "checkFromToIndex", desc := "(IIILjava/util/function/BiFunction;)I" } : Jvm.MethodName) jdk_41_method_12_code (4 : Nat) (Option.some Jvm.ClassFile.FieldType.int), Jvm.Cond.code ({ cls := "java/lang/String", name := "isLatin1", desc := "()Z" } : Jvm.MethodName) jdk_42_method_154_code (1 : Nat) (Option.some Jvm.ClassFile.FieldType.boolean), Jvm.Cond.code ({ cls := "java/lang/StringUTF16", name := "codePointCount", desc := "([BII)I" } : Jvm.MethodName) jdk_52_method_12_code (3 : Nat) (Option.some Jvm.ClassFile.FieldType.int), Jvm.Cond.code ({ cls := "java/lang/StringUTF16", name := "codePointCount", desc := "([BIIZ)I" } : Jvm.MethodName) jdk_52_method_11_code (6 : Nat) (Option.some Jvm.ClassFile.FieldType.int), Jvm.Cond.code ({ cls := "java/lang/Character", name := "isHighSurrogate", desc := "(C)Z" } : Jvm.MethodName) jdk_89_method_14_code (1 : Nat) (Option.some Jvm.ClassFile.FieldType.boolean), Jvm.Cond.code ({ cls := "com/example/indentree/indentree/reader/CodePointsOffsetPinLaw", name := "pre", desc := "(I[Z)I" } : Jvm.MethodName) method_5_code (3 : Nat) (Option.some Jvm.ClassFile.FieldType.int), Jvm.Cond.code ({ cls := "java/lang/Character", name := "isLowSurrogate", desc := "(C)Z" } : Jvm.MethodName) jdk_89_method_15_code (1 : Nat) (Option.some Jvm.ClassFile.FieldType.boolean)]
set_option maxRecDepth 65536 in
theorem codes_eq : words1.filter isCode = codes1 := rfl
theorem w_codes : ∀ c ∈ words1.filter isCode, c.before args0 about1 = true := by
  rw [codes_eq]
  intro c hc
  simp only [codes1, List.mem_cons, List.not_mem_nil, or_false] at hc
  rcases hc with rfl | rfl | rfl | rfl | rfl | rfl | rfl | rfl | rfl | rfl | rfl | rfl | rfl | rfl | rfl | rfl | rfl | rfl | rfl | rfl | rfl | rfl | rfl | rfl | rfl | rfl | rfl | rfl
  · exact w_c0
  · exact w_c1
  · exact w_c2
  · exact w_c3
  · exact w_c4
  · exact w_c5
  · exact w_c6
  · exact w_c7
  · exact w_c8
  · exact w_c9
  · exact w_c10
  · exact w_c11
  · exact w_c12
  · exact w_c13
  · exact w_c14
  · exact w_c15
  · exact w_c16
  · exact w_c17
  · exact w_c18
  · exact w_c19
  · exact w_c20
  · exact w_c21
  · exact w_c22
  · exact w_c23
  · exact w_c24
  · exact w_c25
  · exact w_c26
  · exact w_c27
set_option maxRecDepth 65536 in
theorem w_t1 : (words1.take 24).all (fun c => isCode c || c.before args0 about1) = true := by decide +kernel
set_option maxRecDepth 65536 in
theorem w_t2 : ((words1.drop 24).take 24).all (fun c => isCode c || c.before args0 about1) = true := by decide +kernel
set_option maxRecDepth 65536 in
theorem w_t3 : (((words1.drop 24).drop 24).take 24).all (fun c => isCode c || c.before args0 about1) = true := by decide +kernel
set_option maxRecDepth 65536 in
theorem w_t4 : ((((words1.drop 24).drop 24).drop 24).take 24).all (fun c => isCode c || c.before args0 about1) = true := by decide +kernel
set_option maxRecDepth 65536 in
theorem w_t5 : (((((words1.drop 24).drop 24).drop 24).drop 24).take 24).all (fun c => isCode c || c.before args0 about1) = true := by decide +kernel
set_option maxRecDepth 65536 in
theorem w_t6 : (((((words1.drop 24).drop 24).drop 24).drop 24).drop 24).all (fun c => isCode c || c.before args0 about1) = true := by decide +kernel
theorem w_tables : (allAtoms (Jvm.Cond.code x code maxLocals ret :: tables_1)).before args0 about1 = true := by
  rw [allAtoms_all]
  show words1.all (fun c => c.before args0 about1) = true
  refine all_split ?_ w_codes
  rw [← List.take_append_drop 24 words1, List.all_append, w_t1, ← List.take_append_drop 24 (words1.drop 24), List.all_append, w_t2, ← List.take_append_drop 24 ((words1.drop 24).drop 24), List.all_append, w_t3, ← List.take_append_drop 24 (((words1.drop 24).drop 24).drop 24), List.all_append, w_t4, ← List.take_append_drop 24 ((((words1.drop 24).drop 24).drop 24).drop 24), List.all_append, w_t5, w_t6]
  rfl
set_option maxRecDepth 65536 in
theorem w_rest : rest_1_c.before args0 about1 = true := by decide +kernel
set_option maxRecDepth 65536 in
theorem w_case : (Jvm.Cond.and given_1 narrow_1).before args0 about1 = true := by decide +kernel
theorem w_applies : (headSpec (Jvm.Cond.code x code maxLocals ret :: tables_1) room_1).applies x e0.platform about1 = true :=
  (Spec.applies_iff w_frames).mpr ⟨w_running, w_runnable, w_alone, w_named, w_hears, w_ripe, w_room, w_tables⟩
theorem atStart : AtStart classFile x code maxLocals ret World_1 tables_1 room_1 Calls_1 rest_1 Pre_1 launch0 p0 e0 about1 theMethod args0 below0 :=
  ⟨lists_1, trivial, launch0.admits_env _ _ _, launch0.least_env, fairChoices_fair.cas, fairChoices_fair.clock, w_frames, w_args, w_heap, w_applies, trivial, w_rest, w_case⟩
end start1
theorem witness_1 : WitnessClaimed_1 := ⟨start1.p0, start1.e0, start1.about1, start1.theMethod, start1.args0, start1.below0, start1.atStart⟩
end Jvm.Pilot.@@N@@
