import JvmDerived
import JvmDerived.Pilot.@@N@@Statement
import JvmDerived.Pilot.@@N@@Code
set_option linter.unusedVariables false
set_option linter.unusedSimpArgs false
set_option maxRecDepth 65536
set_option maxHeartbeats 4000000
namespace Jvm.Pilot.@@N@@
open Jvm Jvm.ClassFile Sem Op Lib Jvm.Free Jvm.Stand Jvm.LawKit Jvm.RoadKit Bundle Jvm.Pilot.@@N@@.Jvm.D
abbrev ush32 (x y : Int32) : Int32 := (x.toUInt32 >>> (y &&& 31).toUInt32).toInt32
abbrev Cx : Type := Program × Launch × Env × State × MethodId × Array Value × List Frame × Method × ClassFile.Code
abbrev Cx.p (C : Cx) : Program := C.1
abbrev Cx.l (C : Cx) : Launch := C.2.1
abbrev Cx.e (C : Cx) : Env := C.2.2.1
abbrev Cx.s (C : Cx) : State := C.2.2.2.1
abbrev Cx.m (C : Cx) : MethodId := C.2.2.2.2.1
abbrev Cx.a (C : Cx) : Array Value := C.2.2.2.2.2.1
abbrev Cx.bl (C : Cx) : List Frame := C.2.2.2.2.2.2.1
abbrev Cx.mt (C : Cx) : Method := C.2.2.2.2.2.2.2.1
abbrev Cx.c (C : Cx) : ClassFile.Code := C.2.2.2.2.2.2.2.2
def EndK (w : Bool) (s : State) (o : Outcome) (t : State) (L : List Loc) (k n : Nat) : Prop := match w with
  | true => ReturnedEndW s o t L k n
  | false => FrameEnd s o t L k n
def Stn (C : Cx) (Z : State) (own : String) (by_ : ByteArray) (mL : Nat) (rt : Option FieldType) (nm : String) (q : Nat) : Prop :=
  C.p.tables.exec = Jvm.exec ∧ C.c.code = by_ ∧ C.c.maxLocals = mL ∧ C.mt.sig.returnType = rt ∧ C.mt.locks = false ∧ C.mt.name = nm ∧ C.s.heap.size = q ∧ Ext Z.heap C.s.heap ∧ C.s.vm.findClass own = some C.m.cls
def Pos (C : Cx) (Z : State) (R : Room) (w : Bool) (b : Nat) (Ts : List String) (Li : List (String × Nat × Addr)) (h : Heap) (k n : Nat) (T : State) (vm0 : Vm) (locs : List Loc) : Prop :=
  Stand C.p C.l C.e R (C.s.setVm vm0) C.m C.a C.bl C.mt C.c T locs k n ∧ Z.Warmed39 vm0 ∧ T.heap = h ∧ C.s.Since vm0 h.size ∧ IB Z vm0 Ts ∧ (w = false → vm0 = C.s.vm) ∧ Fr b locs ∧ Z.heap.size ≤ b ∧ Ext Z.heap h ∧ C.s.heap.size ≤ h.size ∧ ∀ x ∈ Li, Lit (C.s.setVm vm0) x.1 x.2.1 x.2.2
def Gl (C : Cx) (Z : State) (R : Room) (w : Bool) (To : List String) (f : Nat) (Q : Option Value → Heap → Prop) (st : State) : Prop :=
  ∃ s₂ o, Steps C.p.tables C.e C.bl st s₂ ∧ s₂.status = .running ∧ Ended s₂ C.bl o ∧ ∃ v L, o = .returned v ∧ (Q v s₂.heap ∧ Fr f L ∧ Ext Z.heap s₂.heap ∧ IB Z s₂.vm To) ∧ EndK w C.s o s₂ L R.cells R.slots
def Run (C : Cx) (Z : State) (R : Room) (w : Bool) (To : List String) (f : Nat) (Q : Option Value → Heap → Prop) (b : Nat) (Ts : List String) (Li : List (String × Nat × Addr)) (h : Heap) (k n : Nat) (pc : Nat) (L : Array Slot) (S : List Value) : Prop :=
  ∀ T vm0 locs, Pos C Z R w b Ts Li h k n T vm0 locs → Gl C Z R w To f Q (T.setTop (mkF C.m pc L S))
def Con (w : Bool) (ws : List Jvm.Cond) (Z : State) (y : MethodName) (yb : ByteArray) (ymL : Nat) (yrt : Option FieldType) (Ry : Room) (Ti To : List String) (f : Nat) (as : Array Value) (h : Heap) (Q : Option Value → Heap → Prop) : Prop :=
  ∀ l, MetFree l y (head1 (Jvm.Cond.code y yb ymL yrt :: ws) Ry) (fun a U => a = as ∧ Z.Warmed39 U.vm ∧ U.heap = h ∧ IB Z U.vm Ti ∧ Ext Z.heap h) (fun _ _ _ _ _ => True)
    (fun _ U o U' => ∃ v L, o = .returned v ∧ (Q v U'.heap ∧ Fr f L ∧ Ext Z.heap U'.heap ∧ IB Z U'.vm To) ∧ EndK w U o U' L Ry.cells Ry.slots)
theorem ib_same {Z : State} {vm0 vm1 : Vm} {Ts : List String} (I : IB Z vm0 Ts) (h : vm1.interned = vm0.interned) : IB Z vm1 Ts := by
  obtain ⟨m, h1, h2⟩ := I; exact ⟨m, h.trans h1, h2⟩
theorem ib_mono {Z : State} {vm0 : Vm} {Ts To : List String} (I : IB Z vm0 Ts) (h : ∀ t ∈ Ts, t ∈ To) : IB Z vm0 To := by
  obtain ⟨m, h1, h2⟩ := I; exact ⟨m, h1, fun q hq => by obtain ⟨t, a, c⟩ := h2 q hq; exact ⟨t, h t a, c⟩⟩
theorem fr_low {k k' : Nat} {L : List Loc} (N : Fr k L) (h : k' ≤ k) : Fr k' L := fun y hy => Nat.le_trans h (N y hy)
theorem since_same {s : State} {vm : Vm} {n n' : Nat} (h : s.Since vm n) (hn : n ≤ n') : s.Since vm n' := ⟨h.1, fun j p hj hp => ⟨(h.2 j p hj hp).1, Nat.lt_of_lt_of_le (h.2 j p hj hp).2 hn⟩⟩
section Walk
variable {C : Cx} {Z : State} {a0 : Array Value} {own : String} {by_ : ByteArray} {mL : Nat} {rt : Option FieldType} {nm : String} {q : Nat} {R : Room} {w : Bool} {To : List String} {f : Nat} {Q : Option Value → Heap → Prop} {b : Nat} {Ts : List String} {Li : List (String × Nat × Addr)} {h : Heap} {k n pc : Nat} {L : Array Slot} {S : List Value}
theorem Run.one {pc' : Nat} {L' : Array Slot} {S' : List Value} (g : ∀ T vm0 locs t, Stand C.p C.l C.e R (C.s.setVm vm0) C.m C.a C.bl C.mt C.c T locs k n → Steps C.p.tables C.e C.bl (T.setTop (mkF C.m pc' L' S')) t → Steps C.p.tables C.e C.bl (T.setTop (mkF C.m pc L S)) t)
    (kk : Run C Z R w To f Q b Ts Li h k n pc' L' S') : Run C Z R w To f Q b Ts Li h k n pc L S := fun T vm0 locs P => by
  obtain ⟨s₂, o, h1, r⟩ := kk T vm0 locs P
  exact ⟨s₂, o, g T vm0 locs _ P.1 h1, r⟩
theorem Stn.dec (H : Stn C Z own by_ mL rt nm q) {pc : Nat} {r : Except ClassFile.DecodeError (Instr × Nat)} (hd : decode by_ pc = r) : decode C.c.code pc = r := by rw [H.2.1]; exact hd
theorem Stn.cl (H : Stn C Z own by_ mL rt nm q) {vm0 : Vm} (hS : C.s.Since vm0 k) : (C.s.setVm vm0).vm.findClass own = some C.m.cls := by
  show vm0.findClass own = _
  rw [hS.1.alike.findClass]; exact H.2.2.2.2.2.2.2.2
theorem r_iloadN (H : Stn C Z own by_ mL rt nm q) (pc' : Nat) {i : Fin 4} {v : Int32} (hd : decode by_ pc = .ok (.iload_n i, 1)) (kk : Run C Z R w To f Q b Ts Li h k n pc' L (.int v :: S)) (hv : L[i.val]? = some (.val (.int v)) := by exact rfl) (hp : pc' = pc + 1 := by exact rfl) : Run C Z R w To f Q b Ts Li h k n pc L (S) := by
  subst hp
  exact kk.one fun T vm0 locs t X kt => XS.iloadN X.here H.1 rfl (H.dec hd) hv kt
theorem r_iload (H : Stn C Z own by_ mL rt nm q) (pc' : Nat) {i : Nat} {v : Int32} (hd : decode by_ pc = .ok (.iload i, 2)) (kk : Run C Z R w To f Q b Ts Li h k n pc' L (.int v :: S)) (hv : L[i]? = some (.val (.int v)) := by exact rfl) (hp : pc' = pc + 2 := by exact rfl) : Run C Z R w To f Q b Ts Li h k n pc L (S) := by
  subst hp
  exact kk.one fun T vm0 locs t X kt => XS.iload X.here H.1 rfl (H.dec hd) hv kt
theorem r_aloadN (H : Stn C Z own by_ mL rt nm q) (pc' : Nat) {i : Fin 4} {v : Value} (hd : decode by_ pc = .ok (.aload_n i, 1)) (kk : Run C Z R w To f Q b Ts Li h k n pc' L (v :: S)) (hv : L[i.val]? = some (.val v) := by exact rfl) (hr : v.isRef = true := by exact rfl) (hp : pc' = pc + 1 := by exact rfl) : Run C Z R w To f Q b Ts Li h k n pc L (S) := by
  subst hp
  exact kk.one fun T vm0 locs t X kt => XS.aloadN X.here H.1 rfl (H.dec hd) hv hr kt
theorem r_aload (H : Stn C Z own by_ mL rt nm q) (pc' : Nat) {i : Nat} {v : Value} (hd : decode by_ pc = .ok (.aload i, 2)) (kk : Run C Z R w To f Q b Ts Li h k n pc' L (v :: S)) (hv : L[i]? = some (.val v) := by exact rfl) (hr : v.isRef = true := by exact rfl) (hp : pc' = pc + 2 := by exact rfl) : Run C Z R w To f Q b Ts Li h k n pc L (S) := by
  subst hp
  exact kk.one fun T vm0 locs t X kt => XS.aload X.here H.1 rfl (H.dec hd) hv hr kt
theorem r_istoreN (H : Stn C Z own by_ mL rt nm q) (pc' : Nat) (L' : Array Slot) {i : Fin 4} {x : Int32} (hd : decode by_ pc = .ok (.istore_n i, 1)) (kk : Run C Z R w To f Q b Ts Li h k n pc' L' (S)) (hl : storeLocals L i.val (.int x) = some L' := by exact rfl) (hp : pc' = pc + 1 := by exact rfl) : Run C Z R w To f Q b Ts Li h k n pc L (.int x :: S) := by
  subst hp
  exact kk.one fun T vm0 locs t X kt => XS.istoreN X.here H.1 rfl (H.dec hd) rfl hl kt
theorem r_istore (H : Stn C Z own by_ mL rt nm q) (pc' : Nat) (L' : Array Slot) {i : Nat} {x : Int32} (hd : decode by_ pc = .ok (.istore i, 2)) (kk : Run C Z R w To f Q b Ts Li h k n pc' L' (S)) (hl : storeLocals L i (.int x) = some L' := by exact rfl) (hp : pc' = pc + 2 := by exact rfl) : Run C Z R w To f Q b Ts Li h k n pc L (.int x :: S) := by
  subst hp
  exact kk.one fun T vm0 locs t X kt => XS.istore X.here H.1 rfl (H.dec hd) rfl hl kt
theorem r_astoreN (H : Stn C Z own by_ mL rt nm q) (pc' : Nat) (L' : Array Slot) {i : Fin 4} {x : Value} (hd : decode by_ pc = .ok (.astore_n i, 1)) (kk : Run C Z R w To f Q b Ts Li h k n pc' L' (S)) (hr : x.isRef = true := by exact rfl) (hl : storeLocals L i.val x = some L' := by exact rfl) (hp : pc' = pc + 1 := by exact rfl) : Run C Z R w To f Q b Ts Li h k n pc L (x :: S) := by
  subst hp
  exact kk.one fun T vm0 locs t X kt => XS.astoreN X.here H.1 rfl (H.dec hd) rfl hr hl kt
theorem r_astore (H : Stn C Z own by_ mL rt nm q) (pc' : Nat) (L' : Array Slot) {i : Nat} {x : Value} (hd : decode by_ pc = .ok (.astore i, 2)) (kk : Run C Z R w To f Q b Ts Li h k n pc' L' (S)) (hr : x.isRef = true := by exact rfl) (hl : storeLocals L i x = some L' := by exact rfl) (hp : pc' = pc + 2 := by exact rfl) : Run C Z R w To f Q b Ts Li h k n pc L (x :: S) := by
  subst hp
  exact kk.one fun T vm0 locs t X kt => XS.astore X.here H.1 rfl (H.dec hd) rfl hr hl kt
theorem r_iinc (H : Stn C Z own by_ mL rt nm q) (pc' : Nat) (L' : Array Slot) {i : Nat} {cst : Int} {x : Int32} (y : Int32) (hd : decode by_ pc = .ok (.iinc i cst, 3)) (kk : Run C Z R w To f Q b Ts Li h k n pc' L' (S)) (hv : L[i]? = some (.val (.int x)) := by exact rfl) (hy : x + Int32.ofInt cst = y := by decide) (hl : storeLocals L i (.int y) = some L' := by exact rfl) (hp : pc' = pc + 3 := by exact rfl) : Run C Z R w To f Q b Ts Li h k n pc L (S) := by
  subst hp
  subst hy
  exact kk.one fun T vm0 locs t X kt => XS.iinc X.here H.1 rfl (H.dec hd) hv hl kt
theorem r_iconst (H : Stn C Z own by_ mL rt nm q) (pc' : Nat) (x : Int32) {i : Int} (hd : decode by_ pc = .ok (.iconst i, 1)) (kk : Run C Z R w To f Q b Ts Li h k n pc' L (.int x :: S)) (hv : Int32.ofInt i = x := by decide) (hp : pc' = pc + 1 := by exact rfl) : Run C Z R w To f Q b Ts Li h k n pc L (S) := by
  subst hp
  subst hv
  exact kk.one fun T vm0 locs t X kt => XS.iconst X.here H.1 rfl (H.dec hd)  kt
theorem r_bipush (H : Stn C Z own by_ mL rt nm q) (pc' : Nat) (x : Int32) {i : Int} (hd : decode by_ pc = .ok (.bipush i, 2)) (kk : Run C Z R w To f Q b Ts Li h k n pc' L (.int x :: S)) (hv : (Int8.ofInt i).toInt32 = x := by decide) (hp : pc' = pc + 2 := by exact rfl) : Run C Z R w To f Q b Ts Li h k n pc L (S) := by
  subst hp
  subst hv
  exact kk.one fun T vm0 locs t X kt => XS.bipush X.here H.1 rfl (H.dec hd)  kt
theorem r_sipush (H : Stn C Z own by_ mL rt nm q) (pc' : Nat) (x : Int32) {i : Int} (hd : decode by_ pc = .ok (.sipush i, 3)) (kk : Run C Z R w To f Q b Ts Li h k n pc' L (.int x :: S)) (hv : (Int16.ofInt i).toInt32 = x := by decide) (hp : pc' = pc + 3 := by exact rfl) : Run C Z R w To f Q b Ts Li h k n pc L (S) := by
  subst hp
  subst hv
  exact kk.one fun T vm0 locs t X kt => XS.sipush X.here H.1 rfl (H.dec hd)  kt
theorem r_null (H : Stn C Z own by_ mL rt nm q) (pc' : Nat) (hd : decode by_ pc = .ok (.aconst_null, 1)) (kk : Run C Z R w To f Q b Ts Li h k n pc' L (.null :: S)) (hp : pc' = pc + 1 := by exact rfl) : Run C Z R w To f Q b Ts Li h k n pc L (S) := by
  subst hp
  exact kk.one fun T vm0 locs t X kt => XS.aconstNull X.here H.1 rfl (H.dec hd)  kt
theorem r_iadd (H : Stn C Z own by_ mL rt nm q) (pc' : Nat) (z : Int32) {x y : Int32} (hd : decode by_ pc = .ok (.iadd, 1)) (kk : Run C Z R w To f Q b Ts Li h k n pc' L (.int z :: S)) (hz : (x + y) = z := by decide) (hp : pc' = pc + 1 := by exact rfl) : Run C Z R w To f Q b Ts Li h k n pc L (.int y :: .int x :: S) := by
  subst hp
  subst hz
  exact kk.one fun T vm0 locs t X kt => XS.iadd X.here H.1 rfl (H.dec hd) rfl kt
theorem r_isub (H : Stn C Z own by_ mL rt nm q) (pc' : Nat) (z : Int32) {x y : Int32} (hd : decode by_ pc = .ok (.isub, 1)) (kk : Run C Z R w To f Q b Ts Li h k n pc' L (.int z :: S)) (hz : (x - y) = z := by decide) (hp : pc' = pc + 1 := by exact rfl) : Run C Z R w To f Q b Ts Li h k n pc L (.int y :: .int x :: S) := by
  subst hp
  subst hz
  exact kk.one fun T vm0 locs t X kt => XS.isub X.here H.1 rfl (H.dec hd) rfl kt
theorem r_iand (H : Stn C Z own by_ mL rt nm q) (pc' : Nat) (z : Int32) {x y : Int32} (hd : decode by_ pc = .ok (.iand, 1)) (hz : (x &&& y) = z) (kk : Run C Z R w To f Q b Ts Li h k n pc' L (.int z :: S)) (hp : pc' = pc + 1 := by exact rfl) : Run C Z R w To f Q b Ts Li h k n pc L (.int y :: .int x :: S) := by
  subst hp
  subst hz
  exact kk.one fun T vm0 locs t X kt => XS.iand X.here H.1 rfl (H.dec hd) rfl kt
theorem r_ishl (H : Stn C Z own by_ mL rt nm q) (pc' : Nat) (z : Int32) {x y : Int32} (hd : decode by_ pc = .ok (.ishl, 1)) (kk : Run C Z R w To f Q b Ts Li h k n pc' L (.int z :: S)) (hz : (x <<< (y &&& 31)) = z := by decide) (hp : pc' = pc + 1 := by exact rfl) : Run C Z R w To f Q b Ts Li h k n pc L (.int y :: .int x :: S) := by
  subst hp
  subst hz
  exact kk.one fun T vm0 locs t X kt => XS.ishl X.here H.1 rfl (H.dec hd) rfl kt
theorem r_ishr (H : Stn C Z own by_ mL rt nm q) (pc' : Nat) (z : Int32) {x y : Int32} (hd : decode by_ pc = .ok (.ishr, 1)) (kk : Run C Z R w To f Q b Ts Li h k n pc' L (.int z :: S)) (hz : (x >>> (y &&& 31)) = z := by decide) (hp : pc' = pc + 1 := by exact rfl) : Run C Z R w To f Q b Ts Li h k n pc L (.int y :: .int x :: S) := by
  subst hp
  subst hz
  exact kk.one fun T vm0 locs t X kt => XS.ishr X.here H.1 rfl (H.dec hd) rfl kt
theorem r_iushr (H : Stn C Z own by_ mL rt nm q) (pc' : Nat) (z : Int32) {x y : Int32} (hd : decode by_ pc = .ok (.iushr, 1)) (kk : Run C Z R w To f Q b Ts Li h k n pc' L (.int z :: S)) (hz : (ush32 x y) = z := by decide) (hp : pc' = pc + 1 := by exact rfl) : Run C Z R w To f Q b Ts Li h k n pc L (.int y :: .int x :: S) := by
  subst hp
  subst hz
  exact kk.one fun T vm0 locs t X kt => XS.iushr X.here H.1 rfl (H.dec hd) rfl kt
theorem r_irem (H : Stn C Z own by_ mL rt nm q) (pc' : Nat) (z : Int32) {x y : Int32} (hd : decode by_ pc = .ok (.irem, 1)) (hz : x % y = z) (kk : Run C Z R w To f Q b Ts Li h k n pc' L (.int z :: S)) (hy : y ≠ 0 := by decide) (hp : pc' = pc + 1 := by exact rfl) : Run C Z R w To f Q b Ts Li h k n pc L (.int y :: .int x :: S) := by
  subst hp hz
  exact kk.one fun T vm0 locs t X kt => iremM X H.1 rfl (H.dec hd) rfl hy kt
theorem r_ineg (H : Stn C Z own by_ mL rt nm q) (pc' : Nat) (z : Int32) {x : Int32} (hd : decode by_ pc = .ok (.ineg, 1)) (hz : (-x) = z) (kk : Run C Z R w To f Q b Ts Li h k n pc' L (.int z :: S)) (hp : pc' = pc + 1 := by exact rfl) : Run C Z R w To f Q b Ts Li h k n pc L (.int x :: S) := by
  subst hp
  subst hz
  exact kk.one fun T vm0 locs t X kt => XS.ineg X.here H.1 rfl (H.dec hd) rfl kt
theorem r_i2b (H : Stn C Z own by_ mL rt nm q) (pc' : Nat) (z : Int32) {x : Int32} (hd : decode by_ pc = .ok (.i2b, 1)) (kk : Run C Z R w To f Q b Ts Li h k n pc' L (.int z :: S)) (hz : (x.toInt8.toInt32) = z := by decide) (hp : pc' = pc + 1 := by exact rfl) : Run C Z R w To f Q b Ts Li h k n pc L (.int x :: S) := by
  subst hp
  subst hz
  exact kk.one fun T vm0 locs t X kt => XS.i2b X.here H.1 rfl (H.dec hd) rfl kt
theorem r_i2c (H : Stn C Z own by_ mL rt nm q) (pc' : Nat) (z : Int32) {x : Int32} (hd : decode by_ pc = .ok (.i2c, 1)) (hz : (x.toUInt32.toUInt16.toUInt32.toInt32) = z) (kk : Run C Z R w To f Q b Ts Li h k n pc' L (.int z :: S)) (hp : pc' = pc + 1 := by exact rfl) : Run C Z R w To f Q b Ts Li h k n pc L (.int x :: S) := by
  subst hp
  subst hz
  exact kk.one fun T vm0 locs t X kt => XS.i2c X.here H.1 rfl (H.dec hd) rfl kt
theorem r_dup (H : Stn C Z own by_ mL rt nm q) (pc' : Nat) {x : Value} (hd : decode by_ pc = .ok (.dup, 1)) (kk : Run C Z R w To f Q b Ts Li h k n pc' L (x :: x :: S)) (hc : x.category = 1 := by exact rfl) (hp : pc' = pc + 1 := by exact rfl) : Run C Z R w To f Q b Ts Li h k n pc L (x :: S) := by
  subst hp
  exact kk.one fun T vm0 locs t X kt => XS.dup X.here H.1 rfl (H.dec hd) rfl hc kt
theorem r_pop (H : Stn C Z own by_ mL rt nm q) (pc' : Nat) {x : Value} (hd : decode by_ pc = .ok (.pop, 1)) (kk : Run C Z R w To f Q b Ts Li h k n pc' L (S)) (hc : x.category = 1 := by exact rfl) (hp : pc' = pc + 1 := by exact rfl) : Run C Z R w To f Q b Ts Li h k n pc L (x :: S) := by
  subst hp
  exact kk.one fun T vm0 locs t X kt => XS.pop X.here H.1 rfl (H.dec hd) rfl hc kt
theorem r_goto (H : Stn C Z own by_ mL rt nm q) (pc' : Nat) {o : Int} (hd : decode by_ pc = .ok (.goto o, 3)) (kk : Run C Z R w To f Q b Ts Li h k n pc' L S) (ho : 0 ≤ (pc : Int) + o := by decide) (hp : ((pc : Int) + o).toNat = pc' := by decide) : Run C Z R w To f Q b Ts Li h k n pc L S := by
  exact kk.one fun T vm0 locs t X kt => XS.goto X.here H.1 rfl rfl (H.dec hd) ho hp kt
theorem r_icmpltT (H : Stn C Z own by_ mL rt nm q) (pc' : Nat) {x y : Int32} {o : Int} (hd : decode by_ pc = .ok (.if_icmp .lt o, 3)) (kk : Run C Z R w To f Q b Ts Li h k n pc' L S) (ho : 0 ≤ (pc : Int) + o := by decide) (hp : ((pc : Int) + o).toNat = pc' := by decide) (c : x < y := by decide) : Run C Z R w To f Q b Ts Li h k n pc L (.int y :: .int x :: S) := by
  exact kk.one fun T vm0 locs t X kt => XS.icmpYes X.here H.1 rfl rfl (H.dec hd) rfl (tlt c).1 ho hp kt
theorem r_ifltF (H : Stn C Z own by_ mL rt nm q) (pc' : Nat) {x : Int32} {o : Int} (hd : decode by_ pc = .ok (.ifCond .lt o, 3)) (c : ¬ x < 0) (kk : Run C Z R w To f Q b Ts Li h k n pc' L S) (hp : pc' = pc + 3 := by exact rfl) : Run C Z R w To f Q b Ts Li h k n pc L (.int x :: S) := by
  subst hp
  exact kk.one fun T vm0 locs t X kt => XS.ifNo X.here H.1 rfl (H.dec hd) rfl ((if0 _ _).trans (flt c).1) kt
theorem r_icmpgeT (H : Stn C Z own by_ mL rt nm q) (pc' : Nat) {x y : Int32} {o : Int} (hd : decode by_ pc = .ok (.if_icmp .ge o, 3)) (kk : Run C Z R w To f Q b Ts Li h k n pc' L S) (ho : 0 ≤ (pc : Int) + o := by decide) (hp : ((pc : Int) + o).toNat = pc' := by decide) (c : ¬ x < y := by decide) : Run C Z R w To f Q b Ts Li h k n pc L (.int y :: .int x :: S) := by
  exact kk.one fun T vm0 locs t X kt => XS.icmpYes X.here H.1 rfl rfl (H.dec hd) rfl (flt c).2.1 ho hp kt
theorem r_icmpgeF (H : Stn C Z own by_ mL rt nm q) (pc' : Nat) {x y : Int32} {o : Int} (hd : decode by_ pc = .ok (.if_icmp .ge o, 3)) (kk : Run C Z R w To f Q b Ts Li h k n pc' L S) (hp : pc' = pc + 3 := by exact rfl) (c : x < y := by decide) : Run C Z R w To f Q b Ts Li h k n pc L (.int y :: .int x :: S) := by
  subst hp
  exact kk.one fun T vm0 locs t X kt => XS.icmpNo X.here H.1 rfl (H.dec hd) rfl (tlt c).2.1 kt
theorem r_ifgeT (H : Stn C Z own by_ mL rt nm q) (pc' : Nat) {x : Int32} {o : Int} (hd : decode by_ pc = .ok (.ifCond .ge o, 3)) (c : ¬ x < 0) (kk : Run C Z R w To f Q b Ts Li h k n pc' L S) (ho : 0 ≤ (pc : Int) + o := by decide) (hp : ((pc : Int) + o).toNat = pc' := by decide) : Run C Z R w To f Q b Ts Li h k n pc L (.int x :: S) := by
  exact kk.one fun T vm0 locs t X kt => XS.ifYes X.here H.1 rfl rfl (H.dec hd) rfl ((if0 _ _).trans (flt c).2.1) ho hp kt
theorem r_icmpgtT (H : Stn C Z own by_ mL rt nm q) (pc' : Nat) {x y : Int32} {o : Int} (hd : decode by_ pc = .ok (.if_icmp .gt o, 3)) (c : y < x) (kk : Run C Z R w To f Q b Ts Li h k n pc' L S) (ho : 0 ≤ (pc : Int) + o := by decide) (hp : ((pc : Int) + o).toNat = pc' := by decide) : Run C Z R w To f Q b Ts Li h k n pc L (.int y :: .int x :: S) := by
  exact kk.one fun T vm0 locs t X kt => XS.icmpYes X.here H.1 rfl rfl (H.dec hd) rfl (tlt c).2.2.1 ho hp kt
theorem r_icmpgtF (H : Stn C Z own by_ mL rt nm q) (pc' : Nat) {x y : Int32} {o : Int} (hd : decode by_ pc = .ok (.if_icmp .gt o, 3)) (kk : Run C Z R w To f Q b Ts Li h k n pc' L S) (hp : pc' = pc + 3 := by exact rfl) (c : ¬ y < x := by decide) : Run C Z R w To f Q b Ts Li h k n pc L (.int y :: .int x :: S) := by
  subst hp
  exact kk.one fun T vm0 locs t X kt => XS.icmpNo X.here H.1 rfl (H.dec hd) rfl (flt c).2.2.1 kt
theorem r_icmpleT (H : Stn C Z own by_ mL rt nm q) (pc' : Nat) {x y : Int32} {o : Int} (hd : decode by_ pc = .ok (.if_icmp .le o, 3)) (kk : Run C Z R w To f Q b Ts Li h k n pc' L S) (ho : 0 ≤ (pc : Int) + o := by decide) (hp : ((pc : Int) + o).toNat = pc' := by decide) (c : ¬ y < x := by decide) : Run C Z R w To f Q b Ts Li h k n pc L (.int y :: .int x :: S) := by
  exact kk.one fun T vm0 locs t X kt => XS.icmpYes X.here H.1 rfl rfl (H.dec hd) rfl (flt c).2.2.2 ho hp kt
theorem r_icmpleF (H : Stn C Z own by_ mL rt nm q) (pc' : Nat) {x y : Int32} {o : Int} (hd : decode by_ pc = .ok (.if_icmp .le o, 3)) (c : y < x) (kk : Run C Z R w To f Q b Ts Li h k n pc' L S) (hp : pc' = pc + 3 := by exact rfl) : Run C Z R w To f Q b Ts Li h k n pc L (.int y :: .int x :: S) := by
  subst hp
  exact kk.one fun T vm0 locs t X kt => XS.icmpNo X.here H.1 rfl (H.dec hd) rfl (tlt c).2.2.2 kt
theorem r_ifleT (H : Stn C Z own by_ mL rt nm q) (pc' : Nat) {x : Int32} {o : Int} (hd : decode by_ pc = .ok (.ifCond .le o, 3)) (kk : Run C Z R w To f Q b Ts Li h k n pc' L S) (ho : 0 ≤ (pc : Int) + o := by decide) (hp : ((pc : Int) + o).toNat = pc' := by decide) (c : ¬ 0 < x := by decide) : Run C Z R w To f Q b Ts Li h k n pc L (.int x :: S) := by
  exact kk.one fun T vm0 locs t X kt => XS.ifYes X.here H.1 rfl rfl (H.dec hd) rfl ((if0 _ _).trans (flt c).2.2.2) ho hp kt
theorem r_ifleF (H : Stn C Z own by_ mL rt nm q) (pc' : Nat) {x : Int32} {o : Int} (hd : decode by_ pc = .ok (.ifCond .le o, 3)) (kk : Run C Z R w To f Q b Ts Li h k n pc' L S) (hp : pc' = pc + 3 := by exact rfl) (c : 0 < x := by decide) : Run C Z R w To f Q b Ts Li h k n pc L (.int x :: S) := by
  subst hp
  exact kk.one fun T vm0 locs t X kt => XS.ifNo X.here H.1 rfl (H.dec hd) rfl ((if0 _ _).trans (tlt c).2.2.2) kt
theorem r_icmpeqT (H : Stn C Z own by_ mL rt nm q) (pc' : Nat) {x y : Int32} {o : Int} (hd : decode by_ pc = .ok (.if_icmp .eq o, 3)) (kk : Run C Z R w To f Q b Ts Li h k n pc' L S) (ho : 0 ≤ (pc : Int) + o := by decide) (hp : ((pc : Int) + o).toNat = pc' := by decide) (c : x = y := by decide) : Run C Z R w To f Q b Ts Li h k n pc L (.int y :: .int x :: S) := by
  exact kk.one fun T vm0 locs t X kt => XS.icmpYes X.here H.1 rfl rfl (H.dec hd) rfl (teq c).1 ho hp kt
theorem r_icmpeqF (H : Stn C Z own by_ mL rt nm q) (pc' : Nat) {x y : Int32} {o : Int} (hd : decode by_ pc = .ok (.if_icmp .eq o, 3)) (kk : Run C Z R w To f Q b Ts Li h k n pc' L S) (hp : pc' = pc + 3 := by exact rfl) (c : ¬ x = y := by decide) : Run C Z R w To f Q b Ts Li h k n pc L (.int y :: .int x :: S) := by
  subst hp
  exact kk.one fun T vm0 locs t X kt => XS.icmpNo X.here H.1 rfl (H.dec hd) rfl (feq c).1 kt
theorem r_ifeqT (H : Stn C Z own by_ mL rt nm q) (pc' : Nat) {x : Int32} {o : Int} (hd : decode by_ pc = .ok (.ifCond .eq o, 3)) (kk : Run C Z R w To f Q b Ts Li h k n pc' L S) (ho : 0 ≤ (pc : Int) + o := by decide) (hp : ((pc : Int) + o).toNat = pc' := by decide) (c : x = 0 := by decide) : Run C Z R w To f Q b Ts Li h k n pc L (.int x :: S) := by
  exact kk.one fun T vm0 locs t X kt => XS.ifYes X.here H.1 rfl rfl (H.dec hd) rfl ((if0 _ _).trans (teq c).1) ho hp kt
theorem r_ifeqF (H : Stn C Z own by_ mL rt nm q) (pc' : Nat) {x : Int32} {o : Int} (hd : decode by_ pc = .ok (.ifCond .eq o, 3)) (c : ¬ x = 0) (kk : Run C Z R w To f Q b Ts Li h k n pc' L S) (hp : pc' = pc + 3 := by exact rfl) : Run C Z R w To f Q b Ts Li h k n pc L (.int x :: S) := by
  subst hp
  exact kk.one fun T vm0 locs t X kt => XS.ifNo X.here H.1 rfl (H.dec hd) rfl ((if0 _ _).trans (feq c).1) kt
theorem r_icmpneT (H : Stn C Z own by_ mL rt nm q) (pc' : Nat) {x y : Int32} {o : Int} (hd : decode by_ pc = .ok (.if_icmp .ne o, 3)) (ho : 0 ≤ (pc : Int) + o) (hp : ((pc : Int) + o).toNat = pc') (c : ¬ x = y) (kk : Run C Z R w To f Q b Ts Li h k n pc' L S) : Run C Z R w To f Q b Ts Li h k n pc L (.int y :: .int x :: S) := by
  exact kk.one fun T vm0 locs t X kt => XS.icmpYes X.here H.1 rfl rfl (H.dec hd) rfl (feq c).2 ho hp kt
theorem r_icmpneF (H : Stn C Z own by_ mL rt nm q) (pc' : Nat) {x y : Int32} {o : Int} (hd : decode by_ pc = .ok (.if_icmp .ne o, 3)) (hp : pc' = pc + 3) (c : x = y) (kk : Run C Z R w To f Q b Ts Li h k n pc' L S) : Run C Z R w To f Q b Ts Li h k n pc L (.int y :: .int x :: S) := by
  subst hp
  exact kk.one fun T vm0 locs t X kt => XS.icmpNo X.here H.1 rfl (H.dec hd) rfl (teq c).2 kt
theorem r_icmpne (H : Stn C Z own by_ mL rt nm q) (pt : Nat) (pf : Nat) {x y : Int32} {o : Int} (hd : decode by_ pc = .ok (.if_icmp .ne o, 3)) (kt : ¬ x = y → Run C Z R w To f Q b Ts Li h k n pt L S) (kf : x = y → Run C Z R w To f Q b Ts Li h k n pf L S) (ho : 0 ≤ (pc : Int) + o := by decide) (hp : ((pc : Int) + o).toNat = pt := by decide) (hf : pf = pc + 3 := by exact rfl) : Run C Z R w To f Q b Ts Li h k n pc L (.int y :: .int x :: S) := by
  by_cases c : ¬ x = y
  · exact r_icmpneT H pt hd ho hp c (kt c)
  · exact r_icmpneF H pf hd hf (Decidable.not_not.mp c) (kf (Decidable.not_not.mp c))
theorem r_ifneT (H : Stn C Z own by_ mL rt nm q) (pc' : Nat) {x : Int32} {o : Int} (hd : decode by_ pc = .ok (.ifCond .ne o, 3)) (kk : Run C Z R w To f Q b Ts Li h k n pc' L S) (ho : 0 ≤ (pc : Int) + o := by decide) (hp : ((pc : Int) + o).toNat = pc' := by decide) (c : ¬ x = 0 := by decide) : Run C Z R w To f Q b Ts Li h k n pc L (.int x :: S) := by
  exact kk.one fun T vm0 locs t X kt => XS.ifYes X.here H.1 rfl rfl (H.dec hd) rfl ((if0 _ _).trans (feq c).2) ho hp kt
theorem r_ifneF (H : Stn C Z own by_ mL rt nm q) (pc' : Nat) {x : Int32} {o : Int} (hd : decode by_ pc = .ok (.ifCond .ne o, 3)) (kk : Run C Z R w To f Q b Ts Li h k n pc' L S) (hp : pc' = pc + 3 := by exact rfl) (c : x = 0 := by decide) : Run C Z R w To f Q b Ts Li h k n pc L (.int x :: S) := by
  subst hp
  exact kk.one fun T vm0 locs t X kt => XS.ifNo X.here H.1 rfl (H.dec hd) rfl ((if0 _ _).trans (teq c).2) kt
theorem r_ifnonnullT (H : Stn C Z own by_ mL rt nm q) (pc' : Nat) {o : Int} {a : Addr} (hd : decode by_ pc = .ok (.ifnonnull o, 3)) (kk : Run C Z R w To f Q b Ts Li h k n pc' L S) (ho : 0 ≤ (pc : Int) + o := by decide) (hp : ((pc : Int) + o).toNat = pc' := by decide) : Run C Z R w To f Q b Ts Li h k n pc L (.ref a :: S) := by
  exact kk.one fun T vm0 locs t X kt => XS.ifnonnullYes X.here H.1 rfl rfl (H.dec hd) rfl ho hp kt
theorem r_acmp (H : Stn C Z own by_ mL rt nm q) (pc' : Nat) {cd : ClassFile.ACond} {x y : Value} {o : Int} (same : Bool) (hd : decode by_ pc = .ok (.if_acmp cd o, 3)) (hq : decide (x = y) = same) (kk : Run C Z R w To f Q b Ts Li h k n pc' L S) (h1 : x.isRef = true := by exact rfl) (h2 : y.isRef = true := by exact rfl) (ho : 0 ≤ (pc : Int) + o := by decide) (hp : pc' = if acV cd same = true then ((pc : Int) + o).toNat else pc + 3 := by decide) : Run C Z R w To f Q b Ts Li h k n pc L (y :: x :: S) := by
  exact kk.one fun T vm0 locs t X kt => Jvm.RoadKit.acmp X H.1 rfl h1 h2 rfl (H.dec hd) rfl hq ho hp kt
theorem Pos.done {T : State} {vm0 : Vm} {locs : List Loc} (H : Stn C Z own by_ mL rt nm q) (P : Pos C Z R w b Ts Li h k n T vm0 locs) {v : Option Value} (hv : rt = none → v = none) (hk : k ≤ R.cells) (hn : n ≤ R.slots) (hf : f ≤ b) (hT : ∀ t ∈ Ts, t ∈ To) (hQ : Q v h) {g : JFrame}
    (st : ∀ fs, (∀ (f : JFrame) (acts : List Action), f.method = C.m → f.locked = none → f.entered = [] → (doReturn C.e (T.setTop f) acts v).1 = T.setFrames fs) → Steps C.p.tables C.e C.bl (T.setTop g) (T.setFrames fs)) : Gl C Z R w To f Q (T.setTop g) := by
  obtain ⟨X, hZ, eT, hS, hI, hw, N, hz, hE, hq, hL⟩ := P
  have hlk : C.mt.locks = false := H.2.2.2.2.1
  have hv' : C.mt.sig.returnType = none → v = none := fun e => hv (by rw [← H.2.2.2.1]; exact e)
  have hin : T.vm.interned = vm0.interned := X.warmed.interned_eq
  cases w with
  | false =>
    have e0 := hw rfl
    subst e0
    obtain ⟨fs, hr, hrun, hended, hW, hsame⟩ := Stand.leave (s := C.s) X (v := v) hv' hlk
    exact ⟨_, _, st fs hr, hrun, hended, v, locs, rfl, ⟨by show Q v T.heap; rw [eT]; exact hQ, fr_low N hf, by show Ext Z.heap T.heap; rw [eT]; exact hE, ib_mono (ib_same hI hin) hT⟩, ⟨v, rfl⟩, hW, hsame.mono hk hn⟩
  | true =>
    obtain ⟨fs, hr, hrun, hended, h1, h2, h3, hsame⟩ := Stand.leaveW X (v := v) hS (Nat.le_of_eq (by rw [eT])) hv' hlk
    exact ⟨_, _, st fs hr, hrun, hended, v, locs, rfl, ⟨by show Q v T.heap; rw [eT]; exact hQ, fr_low N hf, by show Ext Z.heap T.heap; rw [eT]; exact hE, ib_mono (ib_same hI hin) hT⟩, h1, h2, h3, hsame.mono hk hn⟩
theorem r_return (H : Stn C Z own by_ mL none nm q) (hd : decode by_ pc = .ok (.return_, 1)) (hQ : Q none h) (hk : k ≤ R.cells := by decide) (hn : n ≤ R.slots := by decide) (hf : f ≤ b := by exact Nat.le_refl _) (hT : ∀ t ∈ Ts, t ∈ To := by exact fun _ t => t) : Run C Z R w To f Q b Ts Li h k n pc L [] := fun T vm0 locs P =>
  P.done H (v := none) (fun _ => rfl) hk hn hf hT hQ fun fs hr => P.1.returnOut H.1 H.2.2.2.1 (H.dec hd) hr
theorem retI' {p : Program} {l : Launch} {e : Env} {R : Room} {s : State} {m : MethodId} {args : Array Value} {below : List Frame} {meth : Method} {c : ClassFile.Code} {T : State} {locs : List Loc} {cells slots : Nat} (X : Stand p l e R s m args below meth c T locs cells slots) (hx : p.tables.exec = Jvm.exec) {pc : Nat} {Ls : Array Slot} {z : Int32} {rest : List Value} (hret : meth.sig.returnType = some .int) (hd : decode c.code pc = .ok (.ireturn, 1)) {fs : List Frame}
    (hl : ∀ (f : JFrame) (acts : List Action), f.method = m → f.locked = none → f.entered = [] → (doReturn e (T.setTop f) acts (some (.int z))).1 = T.setFrames fs) : Steps p.tables e below (T.setTop (mkF m pc Ls (.int z :: rest))) (T.setFrames fs) := retOut X hx hret rfl (Or.inl ⟨rfl, Or.inl rfl, z, rfl⟩) hd hl
theorem r_ireturn {z : Int32} (H : Stn C Z own by_ mL (some .int) nm q) (hd : decode by_ pc = .ok (.ireturn, 1)) (hQ : Q (some (.int z)) h) (hk : k ≤ R.cells := by decide) (hn : n ≤ R.slots := by decide) (hf : f ≤ b := by exact Nat.le_refl _) (hT : ∀ t ∈ Ts, t ∈ To := by exact fun _ t => t) : Run C Z R w To f Q b Ts Li h k n pc L (.int z :: S) := fun T vm0 locs P =>
  P.done H (v := some (.int z)) (fun e => by cases e) hk hn hf hT hQ fun fs hr => retI' P.1 H.1 H.2.2.2.1 (H.dec hd) hr
theorem r_nreturn {z : Int32} (z' : Int32) {t : FieldType} (H : Stn C Z own by_ mL (some t) nm q) (hd : decode by_ pc = .ok (.ireturn, 1)) (hQ : Q (some (.int z')) h) (ht : t = .boolean ∨ t = .byte ∨ t = .char ∨ t = .short := by simp) (hz : nar t z = z' := by decide) (hk : k ≤ R.cells := by decide) (hn : n ≤ R.slots := by decide) (hf : f ≤ b := by exact Nat.le_refl _) (hT : ∀ t ∈ Ts, t ∈ To := by exact fun _ t => t) : Run C Z R w To f Q b Ts Li h k n pc L (.int z :: S) := fun T vm0 locs P => by
  subst hz
  exact P.done H (v := some (.int (nar t z))) (fun e => by cases e) hk hn hf hT hQ fun fs hr => retN P.1 H.1 H.2.2.2.1 ht (H.dec hd) hr
theorem r_areturn {v : Value} {t : FieldType} (H : Stn C Z own by_ mL (some t) nm q) (hd : decode by_ pc = .ok (.areturn, 1)) (hQ : Q (some v) h) (ht : t.isReference = true := by exact rfl) (hv : v.isRef = true := by exact rfl) (hk : k ≤ R.cells := by decide) (hn : n ≤ R.slots := by decide) (hf : f ≤ b := by exact Nat.le_refl _) (hT : ∀ t ∈ Ts, t ∈ To := by exact fun _ t => t) : Run C Z R w To f Q b Ts Li h k n pc L (v :: S) := fun T vm0 locs P =>
  P.done H (v := some v) (fun e => by cases e) hk hn hf hT hQ fun fs hr => retOut P.1 H.1 H.2.2.2.1 (by rcases ref_cases hv with rfl | ⟨a, rfl⟩ <;> cases t <;> first | rfl | simp [FieldType.isReference] at ht) (Or.inr (Or.inr (Or.inr (Or.inr ⟨rfl, ht, hv⟩)))) (H.dec hd) hr
theorem Run.hold {pc' : Nat} {L' : Array Slot} {S' : List Value} (g : ∀ T vm0 locs, Pos C Z R w b Ts Li h k n T vm0 locs → ∃ T', Stand C.p C.l C.e R (C.s.setVm vm0) C.m C.a C.bl C.mt C.c T' locs k n ∧ T'.heap = h ∧ ∀ t, Steps C.p.tables C.e C.bl (T'.setTop (mkF C.m pc' L' S')) t → Steps C.p.tables C.e C.bl (T.setTop (mkF C.m pc L S)) t)
    (kk : Run C Z R w To f Q b Ts Li h k n pc' L' S') : Run C Z R w To f Q b Ts Li h k n pc L S := fun T vm0 locs P => by
  obtain ⟨T', X', e', st⟩ := g T vm0 locs P
  obtain ⟨X, hZ, eT, r⟩ := P
  obtain ⟨s₂, o, h1, r'⟩ := kk T' vm0 locs ⟨X', hZ, e', r⟩
  exact ⟨s₂, o, st _ h1, r'⟩
theorem Pos.cl {T : State} {vm0 : Vm} {locs : List Loc} (P : Pos C Z R w b Ts Li h k n T vm0 locs) (H : Stn C Z own by_ mL rt nm q) : (C.s.setVm vm0).vm.findClass own = some C.m.cls := H.cl P.2.2.2.1
theorem r_getf (H : Stn C Z own by_ mL rt nm q) (pc' : Nat) {idx : Nat} {R0 O fn d : String} {a : Addr} {v : Value} (hd : decode by_ pc = .ok (.getfield idx, 3)) (w1 : (Cond.fieldLink own idx R0 fn d).before a0 Z = true) (F : Fld Z h a O fn d v) (kk : Run C Z R w To f Q b Ts Li h k n pc' L (v :: S)) (via : Via Z R0 O fn d := by exact Via.refl) (hp : pc' = pc + 3 := by exact rfl) : Run C Z R w To f Q b Ts Li h k n pc L (.ref a :: S) := by
  subst hp
  exact kk.hold fun T vm0 locs P => getF (host := "") P.1 H.1 P.2.1 (P.cl H) (Or.inl w1) via P.2.2.1 F (g := mkF C.m pc L (.ref a :: S)) rfl rfl (H.dec hd)
theorem r_gets (H : Stn C Z own by_ mL rt nm q) (pc' : Nat) {idx : Nat} {R0 O fn d : String} {v : Value} (hd : decode by_ pc = .ok (.getstatic idx, 3)) (w1 : (Cond.fieldLink own idx R0 fn d).before a0 Z = true) (F : Sta Z Z.heap O fn d v) (kk : Run C Z R w To f Q b Ts Li h k n pc' L (v :: S)) (via : Via Z R0 O fn d := by exact Via.refl) (hp : pc' = pc + 3 := by exact rfl) : Run C Z R w To f Q b Ts Li h k n pc L S := by
  subst hp
  exact kk.hold fun T vm0 locs P => getS2 (host := "") P.1 H.1 P.2.1 (P.cl H) (Or.inl w1) via P.2.2.1 (F.ext P.2.2.2.2.2.2.2.2.1) (g := mkF C.m pc L S) rfl (H.dec hd)
theorem r_initO (H : Stn C Z own by_ mL rt nm q) (pc' : Nat) {idx : Nat} {a : Addr} (hd : decode by_ pc = .ok (.invokespecial idx, 3)) (w1 : (Cond.methodLink own idx Lib.objectInit).before a0 Z = true) (w2 : (Cond.instanceMethod Lib.objectInit).before a0 Z = true) (w3 : (Cond.code Lib.objectInit ⟨#[0xb1]⟩ 1 none).before a0 Z = true) {W : Nat} (kk : Run C Z R w To f Q b Ts Li h k n pc' L S) (hL : L.size = mL := by exact rfl) (hf : 1 ≤ R.frames := by decide) (hW : (S.map fun v => v.category).sum ≤ W := by exact Nat.le_of_eq rfl) (hl : W + 12 ≤ R.locals := by decide) (hp : pc' = pc + 3 := by exact rfl) : Run C Z R w To f Q b Ts Li h k n pc L (.ref a :: S) := by
  subst hp
  exact kk.hold fun T vm0 locs P => initO P.1 H.1 P.2.1 (P.cl H) w1 w2 w3 P.2.2.1 (g := mkF C.m pc L (.ref a :: S)) rfl (by rw [H.2.2.1]; exact hL) rfl (H.dec hd) hf (W := W) (by show 2 * 0 + _ ≤ _; omega) hl
theorem r_castY (H : Stn C Z own by_ mL rt nm q) (pc' : Nat) {idx : Nat} {K : String} {a : Addr} (hd : decode by_ pc = .ok (.checkcast idx, 3)) (w1 : (Cond.classLink own idx K).before a0 Z = true) (F : Ins Z h a K true) (kk : Run C Z R w To f Q b Ts Li h k n pc' L (.ref a :: S)) (hp : pc' = pc + 3 := by exact rfl) : Run C Z R w To f Q b Ts Li h k n pc L (.ref a :: S) := by
  subst hp
  exact kk.hold fun T vm0 locs P => castY P.1 H.1 P.2.1 (P.cl H) w1 P.2.2.1 F (g := mkF C.m pc L (.ref a :: S)) rfl rfl (H.dec hd)
theorem r_instY (H : Stn C Z own by_ mL rt nm q) (pc' : Nat) {idx : Nat} {K : String} {a : Addr} (hd : decode by_ pc = .ok (.instanceof idx, 3)) (w1 : (Cond.classLink own idx K).before a0 Z = true) (F : Ins Z h a K true) (kk : Run C Z R w To f Q b Ts Li h k n pc' L (.int 1 :: S)) (hp : pc' = pc + 3 := by exact rfl) : Run C Z R w To f Q b Ts Li h k n pc L (.ref a :: S) := by
  subst hp
  exact kk.hold fun T vm0 locs P => instY P.1 H.1 P.2.1 (P.cl H) w1 P.2.2.1 F (g := mkF C.m pc L (.ref a :: S)) rfl rfl (H.dec hd)
theorem r_ldcI (H : Stn C Z own by_ mL rt nm q) (pc' : Nat) {idx : Nat} {v : Int32} (hd : decode by_ pc = .ok (.ldc idx, 2)) (w1 : (Cond.constant own idx v).before a0 Z = true) (kk : Run C Z R w To f Q b Ts Li h k n pc' L (.int v :: S)) (hp : pc' = pc + 2 := by exact rfl) : Run C Z R w To f Q b Ts Li h k n pc L S := by
  subst hp
  exact kk.hold fun T vm0 locs P => ⟨T, P.1, P.2.2.1, P.1.ldcInt H.1 (P.cl H) (mvT (s := C.s.setVm vm0) P.2.1 w1) (g := mkF C.m pc L S) rfl (H.dec hd)⟩
def Ar (Z : State) (h : Heap) (a : Addr) (kc : ClassId) (ty : FieldType) (vs : List Value) : Prop := ∃ c : Cell, Arr Z h a c ty ∧ c.cls = kc ∧ c.slots = vs.toArray ∧ vs.length < 2 ^ 31 ∧ ∀ v ∈ vs, fits ty v = true
theorem Ar.lt {a : Addr} {kc : ClassId} {ty : FieldType} {vs : List Value} (F : Ar Z h a kc ty vs) : a < h.size := by obtain ⟨c, A, -⟩ := F; exact A.lt
theorem Ar.ext {h' : Heap} {a : Addr} {kc : ClassId} {ty : FieldType} {vs : List Value} (F : Ar Z h a kc ty vs) (E : Ext h h') : Ar Z h' a kc ty vs := by obtain ⟨c, A, r⟩ := F; exact ⟨c, A.ext E, r⟩
theorem Ar.keep {h' : Heap} {a : Addr} {kc : ClassId} {ty : FieldType} {vs : List Value} {ws : List Addr} (F : Ar Z h a kc ty vs) (K : Keep h h' ws) (hn : a ∉ ws) : Ar Z h' a kc ty vs := by obtain ⟨c, A, r⟩ := F; exact ⟨c, ⟨K.2.1 a c A.1 hn, A.2⟩, r⟩
theorem Ar.arv {a : Addr} {kc : ClassId} {ty : FieldType} {vs : List Value} {z : Int32} {dv : Value} (F : Ar Z h a kc ty vs) (hz : z.toNatClampNeg = vs.length) (hn : ¬ z < 0) : Arv Z h a kc ty z vs dv := by
  obtain ⟨c, A, h1, h2, h3, h4⟩ := F
  have hs : c.slots.size = vs.length := by rw [h2]; simp
  refine ⟨c, A, h1, by rw [hs, hz], hn, fun j hj => ?_, fun j hj => ?_⟩
  · rw [hs] at hj; rw [h2]; simp [List.getD_eq_getElem?_getD, hj]
  · rw [hs] at hj; exact h4 _ (by simp [List.getD_eq_getElem?_getD, hj])
theorem Ar.of_arv {a : Addr} {kc : ClassId} {ty : FieldType} {vs : List Value} {z : Int32} {dv : Value} (F : Arv Z h a kc ty z vs dv) (hz : z.toNatClampNeg = vs.length) : Ar Z h a kc ty vs := by
  obtain ⟨c, A, h1, h2, h3, h4, h5⟩ := F
  have hs : c.slots.size = vs.length := by rw [h2, hz]
  refine ⟨c, A, h1, ?_, by rw [← hz]; exact (back32 h3).2, fun v hv => ?_⟩
  · apply Array.ext
    · simpa using hs
    · intro i q1 q2
      have e := h4 i q1
      rw [Array.getElem?_eq_getElem q1] at e
      have hi : i < vs.length := by omega
      rw [List.getD_eq_getElem?_getD, List.getElem?_eq_getElem hi] at e
      simpa using e
  · obtain ⟨i, hi, e⟩ := List.mem_iff_getElem.mp hv
    have := h5 i (by omega)
    rw [List.getD_eq_getElem?_getD, List.getElem?_eq_getElem hi] at this
    rw [← e]; exact this
theorem Ar.new {a : Addr} {kc : ClassId} {ty : FieldType} {z : Int32} (A : Arr Z h a (newA kc ty z) ty) (hn : ¬ z < 0) : Ar Z h a kc ty (List.replicate z.toNatClampNeg (defaultValue ty)) :=
  ⟨_, A, rfl, by simp [newA], by simpa using (back32 hn).2, fun v hv => by rw [List.eq_of_mem_replicate hv]; cases ty <;> rfl⟩
theorem Ar.put {h' : Heap} {a : Addr} {kc : ClassId} {ty : FieldType} {vs : List Value} {i : Nat} {v : Value} (F : Ar Z h a kc ty vs) (W : Wr h h' a i v) (hv : fits ty v = true) : Ar Z h' a kc ty (vs.set i v) := by
  obtain ⟨c, A, h1, h2, h3, h4⟩ := F
  refine ⟨_, A.same W, h1, ?_, by simpa using h3, fun u hu => ?_⟩
  · simp [Cell.setSlot, h2]
  · rcases List.mem_or_eq_of_mem_set hu with q | q
    · exact h4 u q
    · rw [q]; exact hv
theorem Ar.size {a : Addr} {kc : ClassId} {ty : FieldType} {vs : List Value} {c : Cell} (A : Arr Z h a c ty) (F : Ar Z h a kc ty vs) : c.slots = vs.toArray ∧ vs.length < 2 ^ 31 := by
  obtain ⟨c', A', h1, h2, h3, h4⟩ := F
  cases A.1.symm.trans A'.1
  exact ⟨h2, h3⟩
theorem ld_in {vs : List Value} {j : Int32} {v : Value} {c : Cell} (hs : c.slots = vs.toArray) (hj : ¬ j < 0) (hv : vs[j.toNatClampNeg]? = some v) : ¬ (j < 0 ∨ c.slots.size ≤ j.toNatClampNeg) ∧ c.slots[j.toNatClampNeg]? = some v := by
  refine ⟨fun q => q.elim hj fun u => ?_, by rw [hs]; simpa using hv⟩
  rw [hs] at u
  have := (List.getElem?_eq_some_iff.mp hv).1
  simp at u; omega
theorem r_alen (H : Stn C Z own by_ mL rt nm q) (pc' : Nat) {a : Addr} {kc : ClassId} {ty : FieldType} {vs : List Value} (z : Int32) (hd : decode by_ pc = .ok (.arraylength, 1)) (F : Ar Z h a kc ty vs) (kk : Run C Z R w To f Q b Ts Li h k n pc' L (.int z :: S)) (hz : vs.length.toInt32 = z := by exact rfl) (hp : pc' = pc + 1 := by exact rfl) : Run C Z R w To f Q b Ts Li h k n pc L (.ref a :: S) := by
  subst hp hz
  refine kk.hold fun T vm0 locs P => ?_
  obtain ⟨c, A, h1, h2, h3, h4⟩ := F
  refine ⟨T, P.1, P.2.2.1, fun t kt => ?_⟩
  refine P.1.arraylength H.1 (by rw [P.2.2.1]; exact A.1) (State.isArrayOf_alike P.2.1.alike A.2.1) (g := mkF C.m pc L (.ref a :: S)) rfl rfl (H.dec hd) _ ?_
  have e : c.slots.size.toInt32 = vs.length.toInt32 := by rw [h2]; simp
  rw [e]; exact kt
theorem r_caload (H : Stn C Z own by_ mL rt nm q) (pc' : Nat) {a : Addr} {kc : ClassId} {vs : List Value} {j : Int32} (v : Int32) (hd : decode by_ pc = .ok (.caload, 1)) (F : Ar Z h a kc .char vs) (kk : Run C Z R w To f Q b Ts Li h k n pc' L (.int v :: S)) (hj : ¬ j < 0 := by decide) (hv : vs[j.toNatClampNeg]? = some (.int v) := by exact rfl) (hp : pc' = pc + 1 := by exact rfl) : Run C Z R w To f Q b Ts Li h k n pc L (.int j :: .ref a :: S) := by
  subst hp
  refine kk.hold fun T vm0 locs P => ?_
  obtain ⟨c, A, h1, h2, h3, h4⟩ := F
  obtain ⟨q1, q2⟩ := ld_in h2 hj hv
  exact ⟨T, P.1, P.2.2.1, P.1.caload H.1 (by rw [P.2.2.1]; exact A.1) (State.isArrayOf_alike P.2.1.alike A.2.1) A.2.2 q1 q2 (g := mkF C.m pc L (.int j :: .ref a :: S)) rfl rfl (H.dec hd)⟩
theorem r_baload (H : Stn C Z own by_ mL rt nm q) (pc' : Nat) {a : Addr} {kc : ClassId} {vs : List Value} {j : Int32} (v : Int32) (hd : decode by_ pc = .ok (.baload, 1)) (F : Ar Z h a kc .byte vs) (kk : Run C Z R w To f Q b Ts Li h k n pc' L (.int v :: S)) (hj : ¬ j < 0 := by decide) (hv : vs[j.toNatClampNeg]? = some (.int v) := by exact rfl) (hp : pc' = pc + 1 := by exact rfl) : Run C Z R w To f Q b Ts Li h k n pc L (.int j :: .ref a :: S) := by
  subst hp
  refine kk.hold fun T vm0 locs P => ?_
  obtain ⟨c, A, h1, h2, h3, h4⟩ := F
  obtain ⟨q1, q2⟩ := ld_in h2 hj hv
  exact ⟨T, P.1, P.2.2.1, P.1.baloadBytes H.1 (by rw [P.2.2.1]; exact A.1) (State.isArrayOf_alike P.2.1.alike A.2.1) A.2.2 q1 q2 (g := mkF C.m pc L (.int j :: .ref a :: S)) rfl rfl (H.dec hd)⟩
theorem Run.write {pc' : Nat} {L' : Array Slot} {S' : List Value} {a : Addr} {sl : Nat} {v : Value} (hb : b ≤ a) (g : ∀ T vm0 locs, Pos C Z R w b Ts Li h k n T vm0 locs → ∃ T' h', Stand C.p C.l C.e R (C.s.setVm vm0) C.m C.a C.bl C.mt C.c T' (locs ++ [⟨a, sl⟩]) k n ∧ T'.heap = h' ∧ Wr h h' a sl v ∧ ∀ t, Steps C.p.tables C.e C.bl (T'.setTop (mkF C.m pc' L' S')) t → Steps C.p.tables C.e C.bl (T.setTop (mkF C.m pc L S)) t)
    (kk : ∀ h', Wr h h' a sl v → Keep h h' [a] → Run C Z R w To f Q b Ts Li h' k n pc' L' S') : Run C Z R w To f Q b Ts Li h k n pc L S := fun T vm0 locs P => by
  obtain ⟨T', h', X', e', W, st⟩ := g T vm0 locs P
  obtain ⟨X, hZ, eT, hS, hI, hw, N, hz, hE, hq, hL⟩ := P
  have K := Keep.of_wr W
  have hE' : Ext Z.heap h' := (Old.wr (n0 := Z.heap.size) ⟨rfl, hE⟩ W (Nat.le_trans hz hb)).2
  obtain ⟨s₂, o, h1, r'⟩ := kk h' W K T' vm0 _ ⟨X', hZ, e', since_same hS K.1, hI, hw, Fr.snoc X' N hb, hz, hE', Nat.le_trans hq K.1, hL⟩
  exact ⟨s₂, o, st _ h1, r'⟩
theorem r_castore (H : Stn C Z own by_ mL rt nm q) (pc' : Nat) {a : Addr} {kc : ClassId} {vs : List Value} {j x : Int32} (y : Int32) (hd : decode by_ pc = .ok (.castore, 1)) (F : Ar Z h a kc .char vs) (hb : b ≤ a) (kk : ∀ h', Keep h h' [a] → Ar Z h' a kc .char (vs.set j.toNatClampNeg (.int y)) → Run C Z R w To f Q b Ts Li h' k n pc' L S) (hj : ¬ j < 0 := by decide) (hi : j.toNatClampNeg < vs.length := by exact Nat.le_of_ble_eq_true rfl) (hy : (nar .char x) = y := by decide) (hp : pc' = pc + 1 := by exact rfl) : Run C Z R w To f Q b Ts Li h k n pc L (.int x :: .int j :: .ref a :: S) := by
  subst hp hy
  obtain ⟨c, A, h1, h2, h3, h4⟩ := id F
  have hin : ¬ (j < 0 ∨ c.slots.size ≤ j.toNatClampNeg) := fun q => q.elim hj fun u => by rw [h2] at u; simp at u; omega
  exact Run.write hb (fun T vm0 locs P => stC P.1 H.1 P.2.1 P.2.2.1 A hin (g := mkF C.m pc L (.int x :: .int j :: .ref a :: S)) rfl rfl (H.dec hd)) fun h' W K => kk h' K (F.put W (fits_nar_char _))
theorem r_bastore (H : Stn C Z own by_ mL rt nm q) (pc' : Nat) {a : Addr} {kc : ClassId} {vs : List Value} {j x : Int32} (y : Int32) (hd : decode by_ pc = .ok (.bastore, 1)) (F : Ar Z h a kc .byte vs) (hb : b ≤ a) (kk : ∀ h', Keep h h' [a] → Ar Z h' a kc .byte (vs.set j.toNatClampNeg (.int y)) → Run C Z R w To f Q b Ts Li h' k n pc' L S) (hj : ¬ j < 0 := by decide) (hi : j.toNatClampNeg < vs.length := by exact Nat.le_of_ble_eq_true rfl) (hy : (nar .byte x) = y := by decide) (hp : pc' = pc + 1 := by exact rfl) : Run C Z R w To f Q b Ts Li h k n pc L (.int x :: .int j :: .ref a :: S) := by
  subst hp hy
  obtain ⟨c, A, h1, h2, h3, h4⟩ := id F
  have hin : ¬ (j < 0 ∨ c.slots.size ≤ j.toNatClampNeg) := fun q => q.elim hj fun u => by rw [h2] at u; simp at u; omega
  exact Run.write hb (fun T vm0 locs P => stB P.1 H.1 P.2.1 P.2.2.1 A hin (g := mkF C.m pc L (.int x :: .int j :: .ref a :: S)) rfl rfl (H.dec hd)) fun h' W K => kk h' K (F.put W (fits_nar_byte _))
theorem r_putf (H : Stn C Z own by_ mL rt nm q) (pc' : Nat) {idx kk0 : Nat} {R0 O fn d CC : String} {ty : FieldType} {a : Addr} {v old : Value} (hd : decode by_ pc = .ok (.putfield idx, 3)) (w1 : (Cond.fieldLink own idx R0 fn d).before a0 Z = true) (F : Fld Z h a O fn d old) (E : Exa Z h a CC) (wl : (Cond.lays CC O fn d).before a0 Z = true ∨ ((Cond.laysFinal CC O fn d).before a0 Z = true ∧ own = O ∧ nm = "<init>")) (wi : (Cond.instantiable CC kk0).before a0 Z = true) (hb : b ≤ a) (kk : ∀ h', Wr h h' a (Jvm.RoadKit.slotOf Z O fn d) v → Keep h h' [a] → Exa Z h' a CC → Fld Z h' a O fn d v → Run C Z R w To f Q b Ts Li h' k n pc' L S) (via : Via Z R0 O fn d := by exact Via.refl) (hty : parseFieldDescriptor d = some ty := by decide) (hn : narrow ty v = v := by exact rfl) (hf' : fits ty v = true := by exact rfl) (hp : pc' = pc + 3 := by exact rfl) : Run C Z R w To f Q b Ts Li h k n pc L (v :: .ref a :: S) := by
  subst hp
  exact Run.write hb (fun T vm0 locs P => putF (host := "") P.1 H.1 P.2.1 (P.cl H) (Or.inl w1) via P.2.2.1 F E (wl.imp id fun z => ⟨z.1, z.2.1, H.2.2.2.2.2.1.trans z.2.2⟩) wi hty hn hf' (g := mkF C.m pc L (v :: .ref a :: S)) rfl rfl (H.dec hd)) fun h' W K => kk h' W K (E.wr W) (F.same W)
theorem r_putn (H : Stn C Z own by_ mL rt nm q) (pc' : Nat) {idx kk0 : Nat} {R0 O fn d CC : String} {ty : FieldType} {a : Addr} {v old : Value} (v' : Value) (hd : decode by_ pc = .ok (.putfield idx, 3)) (w1 : (Cond.fieldLink own idx R0 fn d).before a0 Z = true) (F : Fld Z h a O fn d old) (E : Exa Z h a CC) (wl : (Cond.lays CC O fn d).before a0 Z = true ∨ ((Cond.laysFinal CC O fn d).before a0 Z = true ∧ own = O ∧ nm = "<init>")) (wi : (Cond.instantiable CC kk0).before a0 Z = true) (hb : b ≤ a) (kk : ∀ h', Wr h h' a (Jvm.RoadKit.slotOf Z O fn d) v' → Keep h h' [a] → Exa Z h' a CC → Fld Z h' a O fn d v' → Run C Z R w To f Q b Ts Li h' k n pc' L S) (via : Via Z R0 O fn d := by exact Via.refl) (hty : parseFieldDescriptor d = some ty := by decide) (hn : narrow ty v = v' := by exact rfl) (hf' : fits ty v' = true := by decide) (hp : pc' = pc + 3 := by exact rfl) : Run C Z R w To f Q b Ts Li h k n pc L (v :: .ref a :: S) := by
  subst hp
  exact Run.write hb (fun T vm0 locs P => putFN P.1 H.1 P.2.1 (P.cl H) w1 via P.2.2.1 F E (wl.imp id fun z => ⟨z.1, z.2.1, H.2.2.2.2.2.1.trans z.2.2⟩) wi hty hn hf' (g := mkF C.m pc L (v :: .ref a :: S)) rfl rfl (H.dec hd)) fun h' W K => kk h' W K (E.wr W) (F.same W)
theorem Run.make {pc' k' n' : Nat} {L' : Array Slot} {S' : List Value} {P' : Heap → Prop} (hkk : k ≤ k') (g : ∀ T vm0 locs, Pos C Z R w b Ts Li h k n T vm0 locs → ∃ T' h', Stand C.p C.l C.e R (C.s.setVm vm0) C.m C.a C.bl C.mt C.c T' locs k' n' ∧ T'.heap = h' ∧ Ext h h' ∧ P' h' ∧ ∀ t, Steps C.p.tables C.e C.bl (T'.setTop (mkF C.m pc' L' S')) t → Steps C.p.tables C.e C.bl (T.setTop (mkF C.m pc L S)) t)
    (kk : ∀ h', Ext h h' → P' h' → Run C Z R w To f Q b Ts Li h' k' n' pc' L' S') : Run C Z R w To f Q b Ts Li h k n pc L S := fun T vm0 locs P => by
  obtain ⟨T', h', X', e', E, hP, st⟩ := g T vm0 locs P
  obtain ⟨X, hZ, eT, hS, hI, hw, N, hz, hE, hq, hL⟩ := P
  obtain ⟨s₂, o, h1, r'⟩ := kk h' E hP T' vm0 locs ⟨X', hZ, e', since_same hS E.1, hI, hw, N, hz, ⟨Nat.le_trans hE.1 E.1, fun x c r => E.2 x c (hE.2 x c r)⟩, Nat.le_trans hq E.1, hL⟩
  exact ⟨s₂, o, st _ h1, r'⟩
theorem Keep.of_ext {h h' : Heap} (E : Ext h h') : Keep h h' [] := (Keep.refl h []).ext E
theorem r_new (H : Stn C Z own by_ mL rt nm q) (pc' : Nat) {idx ns : Nat} {CC : String} (hd : decode by_ pc = .ok (.new idx, 3)) (w1 : (Cond.classLink own idx CC).before a0 Z = true) (wi : (Cond.instantiable CC ns).before a0 Z = true) (wz : (Cond.initialized CC).before a0 Z = true) (kk : ∀ h' a, a = h.size → a < h'.size → Keep h h' [] → Exa Z h' a CC → (∀ {O nm d : String} {ty : FieldType}, Laid Z a0 CC O nm d → parseFieldDescriptor d = some ty → Fld Z h' a O nm d (defaultValue ty)) → Run C Z R w To f Q b Ts Li h' (k + 1) (n + ns) pc' L (.ref a :: S)) (hc : k + 1 ≤ R.cells := by decide) (hl : n + ns ≤ R.slots := by decide) (hp : pc' = pc + 3 := by exact rfl) : Run C Z R w To f Q b Ts Li h k n pc L S := by
  subst hp
  refine Run.make (P' := fun h' => Exa Z h' h.size CC ∧ (∀ {O nm d : String} {ty : FieldType}, Laid Z a0 CC O nm d → parseFieldDescriptor d = some ty → Fld Z h' h.size O nm d (defaultValue ty))) (Nat.le_succ k) (fun T vm0 locs P => ?_) fun h' E hP => kk h' _ rfl hP.1.lt (Keep.of_ext E) hP.1 hP.2
  obtain ⟨T', h', X', e', E, A, D, -, st⟩ := newO P.1 H.1 P.2.1 (P.cl H) w1 wi wz P.2.2.1 (g := mkF C.m pc L S) rfl (H.dec hd) hc hl
  exact ⟨T', h', X', e', E, ⟨A, D⟩, st⟩
theorem r_newP (H : Stn C Z own by_ mL rt nm q) (pc' : Nat) {aty : ArrayType} {z : Int32} (ad : String) (cap : Nat) (hd : decode by_ pc = .ok (.newarray aty, 2)) (w1 : (Cond.arrayClass (newarray.typeOf aty)).before a0 Z = true) (kk : ∀ h' a kc, a = h.size → a < h'.size → Keep h h' [] → Exa Z h' a ad → Ar Z h' a kc (newarray.typeOf aty) (List.replicate z.toNatClampNeg (defaultValue (newarray.typeOf aty))) → Run C Z R w To f Q b Ts Li h' (k + 1) (n + cap) pc' L (.ref a :: S)) (had : "[" ++ (newarray.typeOf aty).toString = ad := by exact rfl) (hn : ¬ z < 0 := by decide) (hcap : z.toNatClampNeg ≤ cap := by decide) (hb : cap * 8 ≤ 536870912 := by decide) (hc : k + 1 ≤ R.cells := by decide) (hl : n + cap ≤ R.slots := by decide) (hp : pc' = pc + 2 := by exact rfl) : Run C Z R w To f Q b Ts Li h k n pc L (.int z :: S) := by
  subst hp
  refine Run.make (P' := fun h' => ∃ kc, Exa Z h' h.size ad ∧ Ar Z h' h.size kc (newarray.typeOf aty) (List.replicate z.toNatClampNeg (defaultValue (newarray.typeOf aty)))) (Nat.le_succ k) (fun T vm0 locs P => ?_) fun h' E hP => by obtain ⟨kc, h1, h2⟩ := hP; exact kk h' _ kc rfl h2.lt (Keep.of_ext E) h1 h2
  obtain ⟨T', h', cA, X', e', E, A, A2, st⟩ := newPE P.1 H.1 P.2.1 w1 P.2.2.1 (g := mkF C.m pc L (.int z :: S)) rfl (H.dec hd) rfl hn hcap hb hc hl had
  exact ⟨T', h', X', e', E, ⟨cA, A2, Ar.new A hn⟩, st⟩
section Contract
variable {y : MethodName} {yb : ByteArray} {ymL : Nat} {yrt : Option FieldType} {Ry : Room} {Ti To' : List String} {f' : Nat} {as : Array Value} {Qy Qy' : Option Value → Heap → Prop} {ws : List Jvm.Cond}
theorem Con.mono (hc : Con w ws Z y yb ymL yrt Ry Ti To' f' as h Qy) (hq : ∀ v h', Qy v h' → Qy' v h') : Con w ws Z y yb ymL yrt Ry Ti To' f' as h Qy' := by
  intro l p e ha hca hk s m args below hf happ hP hK
  obtain ⟨n, o, h1, h2, h3, v, L, e1, hQ, hE⟩ := hc l p e ha hca hk s m args below hf happ hP hK
  exact ⟨n, o, h1, h2, h3, v, L, e1, ⟨hq _ _ hQ.1, hQ.2⟩, hE⟩
theorem con_of (bb : Nat) (L0 : Array Slot) (hpl : plainFor y = true) (hef : ∀ m, entryFrame m as ymL = mkF m 0 L0 []) (hz : Z.heap.size ≤ bb)
    (body : ∀ C : Cx, Stn C Z y.cls yb ymL yrt y.name h.size → Ext Z.heap h → Run C Z Ry w To' f' Qy bb Ti [] h 0 0 0 L0 []) : Con w ws Z y yb ymL yrt Ry Ti To' f' as h Qy := by
  intro l
  refine MetFree.of_bodySF hpl hisR ?_
  intro p e s m args below meth c s₁ Bd hml0 hP hK
  obtain ⟨rfl, hZ, hh, hI, hE⟩ := hP
  have X0 : Stand p l e Ry s m args below meth c s₁ [] 0 0 := Stand.of_body Bd
  have e0 : s₁.heap = h := by rw [← hh, Bd.state]; rfl
  have H : Stn (p, l, e, s, m, args, below, meth, c) Z y.cls yb ymL yrt y.name h.size := ⟨Bd.exec, Bd.bytes, hml0, Bd.returns, Bd.notSynchronized, (name_of_methodNamed Bd.named Bd.method).1, (by show s.heap.size = _; rw [hh]), (by show Ext Z.heap s.heap; rw [hh]; exact hE), findClass_of_methodNamed Bd.named⟩
  obtain ⟨s₂, o, h1, h2, h3, r⟩ := body (p, l, e, s, m, args, below, meth, c) H hE s₁ s.vm [] ⟨X0, hZ, e0, (State.WarmedH.refl s).since _, hI, fun _ => rfl, Fr.nil _, hz, hE, Nat.le_of_eq (by show s.heap.size = _; rw [hh]), fun _ q => by cases q⟩
  exact ⟨s₂, o, castTop (hef m) h1, h2, h3, r⟩
theorem Con.back {p : Program} {l : Launch} {e : Env} {R : Room} {below : List Frame} {s : State} {args : Array Value} {len W : Nat} (hc : Con false [] Z y yb ymL yrt Ry Ti To' f' as h Qy) (hZ : Z.Warmed39 s.vm) (hI : IB Z s.vm Ti) (hE : Ext Z.heap h)
    (wc : (Cond.code y yb ymL yrt).before a0 Z = true) (wz : (Cond.initialized y.cls).before a0 Z = true) (hf : Ry.frames + 1 ≤ R.frames) (hl : W + (ymL + 11) + Ry.locals ≤ R.locals) :
    Back l R p e below s args y len W (fun A a => a = as ∧ A.U.heap = h ∧ A.cells + Ry.cells ≤ R.cells ∧ A.slots + Ry.slots ≤ R.slots)
      (fun A _ v B => ∃ L, (Qy v B.U.heap ∧ Fr f' L ∧ Ext Z.heap B.U.heap ∧ IB Z B.U.vm To') ∧ B.locs = A.locs ++ L ∧ B.cells = A.cells + Ry.cells ∧ B.slots = A.slots + Ry.slots) :=
  Back.of_free (bytes := yb) (maxL := ymL) (ret := yrt) (E := fun _ _ o t L k n => k = Ry.cells ∧ n = Ry.slots ∧ ∃ v, o = .returned v ∧ (Qy v t.heap ∧ Fr f' L ∧ Ext Z.heap t.heap ∧ IB Z t.vm To')) (hc l) hf hl
    (fun m meth c A a Y hp => have hU : Z.Warmed39 A.U.vm := wtrans hZ Y.warmed
      ⟨by show (Cond.and _ .tt).before a A.U = true; rw [Cond.before_and, mv hU wc]; rfl, mv hU wc, mv hU wz, hp.2.2.1, hp.2.2.2⟩)
    (fun m meth c A a g mk Y hp => ⟨hp.1, wtrans hZ Y.warmed, hp.2.1, ib_same hI Y.warmed.interned_eq, hE⟩) (fun _ _ _ _ _ _ _ _ _ => trivial)
    (fun _ _ _ _ ⟨v, L, h1, h2, h3⟩ => ⟨L, _, _, h3, rfl, rfl, v, h1, h2⟩)
    (fun m meth c A a g mk v t L k n Y hp _ _ ⟨e1, e2, v', e3, e4⟩ => by cases e3; subst e1 e2; exact ⟨L, e4, rfl, rfl, rfl⟩)
theorem Con.backS {p : Program} {l : Launch} {e : Env} {R : Room} {below : List Frame} {s : State} {args : Array Value} {len W : Nat} (hc : Con true [] Z y yb ymL yrt Ry Ti To' f' as h Qy) (hZ : Z.Warmed39 s.vm) (hI : IB Z s.vm Ti) (hE : Ext Z.heap h)
    (wc : (Cond.code y yb ymL yrt).before a0 Z = true) (wz : (Cond.initialized y.cls).before a0 Z = true) (hf : Ry.frames + 1 ≤ R.frames) (hl : W + (ymL + 11) + Ry.locals ≤ R.locals) :
    BackS l R p e below s args y len W (fun A a => a = as ∧ A.U.heap = h ∧ A.cells + Ry.cells ≤ R.cells ∧ A.slots + Ry.slots ≤ R.slots)
      (fun A _ v B => ∃ L, (Qy v B.U.heap ∧ Fr f' L ∧ Ext Z.heap B.U.heap ∧ IB Z B.U.vm To') ∧ B.locs = A.locs ++ L ∧ B.cells = A.cells + Ry.cells ∧ B.slots = A.slots + Ry.slots) :=
  BackS.of_freeW (bytes := yb) (maxL := ymL) (ret := yrt) (E := fun _ _ o t L k n => k = Ry.cells ∧ n = Ry.slots ∧ ∃ v, o = .returned v ∧ (Qy v t.heap ∧ Fr f' L ∧ Ext Z.heap t.heap ∧ IB Z t.vm To')) (hc l) hf hl
    (fun m meth c A a Y hp => have hU : Z.Warmed39 A.U.vm := wtrans hZ Y.warmed
      ⟨by show (Cond.and _ .tt).before a A.U = true; rw [Cond.before_and, mv hU wc]; rfl, mv hU wc, mv hU wz, hp.2.2.1, hp.2.2.2⟩)
    (fun m meth c A a g mk Y hp => ⟨hp.1, wtrans hZ Y.warmed, hp.2.1, ib_same hI Y.warmed.interned_eq, hE⟩) (fun _ _ _ _ _ _ _ _ _ => trivial)
    (fun _ _ _ _ ⟨v, L, h1, h2, h3⟩ => ⟨L, _, _, h3, rfl, rfl, v, h1, h2⟩)
    (fun m meth c A a g mk v t L k n Y hp _ _ ⟨e1, e2, v', e3, e4⟩ => by cases e3; subst e1 e2; exact ⟨L, e4, rfl, rfl, rfl⟩)
theorem Pos.afterN {T : State} {vm0 : Vm} {locs : List Loc} {U : State} {ls : List Loc} {ce sl : Nat} {Lc : List Loc} (P : Pos C Z R false b Ts Li h k n T vm0 locs) (X' : Stand C.p C.l C.e R (C.s.setVm vm0) C.m C.a C.bl C.mt C.c U ls ce sl)
    (hF : Fr f' Lc) (hE' : Ext Z.heap U.heap) (hI' : IB Z U.vm To') (l1 : ls = locs ++ Lc) (c1 : ce = k + Ry.cells) (s1 : sl = n + Ry.slots) (hb : b ≤ f') : Pos C Z R false b To' Li U.heap (k + Ry.cells) (n + Ry.slots) U vm0 (locs ++ Lc) := by
  obtain ⟨X, hZ, eT, hS, hI, hw, N, hz, hE, hq, hL⟩ := P
  subst l1 c1 s1
  have e0 := hw rfl
  subst e0
  exact ⟨X', hZ, rfl, (State.WarmedH.refl C.s).since _, ib_same hI' X'.warmed.interned_eq.symm, fun _ => rfl, N.app (fr_low hF hb), hz, hE', X'.same.2.1, hL⟩
theorem Pos.afterS {T : State} {vm0 : Vm} {locs : List Loc} {U : State} {ls : List Loc} {ce sl : Nat} {Lc : List Loc} (P : Pos C Z R true b Ts Li h k n T vm0 locs) (X' : Stand C.p C.l C.e R ((C.s.setVm vm0).setVm U.vm) C.m C.a C.bl C.mt C.c U ls ce sl)
    (hS' : (C.s.setVm vm0).Since U.vm U.heap.size) (hg : T.heap.size ≤ U.heap.size) (hF : Fr f' Lc) (hE' : Ext Z.heap U.heap) (hI' : IB Z U.vm To') (l1 : ls = locs ++ Lc) (c1 : ce = k + Ry.cells) (s1 : sl = n + Ry.slots) (hb : b ≤ f') : Pos C Z R true b To' Li U.heap (k + Ry.cells) (n + Ry.slots) U U.vm (locs ++ Lc) := by
  obtain ⟨X, hZ, eT, hS, hI, hw, N, hz, hE, hq, hL⟩ := P
  subst l1 c1 s1
  exact ⟨X', State.Warmed39.trans (t := C.s.setVm vm0) hZ hS'.1, rfl, hS.trans hS' (by rw [← eT]; exact hg), hI', fun e => (by cases e), N.app (fr_low hF hb), hz, hE', Nat.le_trans hq (by rw [← eT]; exact hg), fun x hx => (hL x hx).stays hS'.1⟩
end Contract
theorem r_static (H : Stn C Z own by_ mL rt nm q) (pc' : Nat) {idx : Nat} {y : MethodName} {yb : ByteArray} {ymL : Nat} {yrt : Option FieldType} {Ry : Room} {To' : List String} {f' : Nat} {Qy : Option Value → Heap → Prop} {argsL rest : List Value} {W : Nat} (hd : decode by_ pc = .ok (.invokestatic idx, 3)) (w1 : (Cond.methodLink own idx y).before a0 Z = true) (w2 : (Cond.static y).before a0 Z = true) (w3 : (Cond.initialized y.cls).before a0 Z = true) (w4 : (Cond.code y yb ymL yrt).before a0 Z = true) (hlen : ∀ sig, parseMethodDescriptor y.desc = some sig → argsL.length = sig.parameters.length) (hc : Con w [] Z y yb ymL yrt Ry Ts To' f' argsL.toArray h Qy) (kk : ∀ v h', Qy v h' → Run C Z R w To f Q b To' Li h' (k + Ry.cells) (n + Ry.slots) pc' L (v.toList ++ rest)) (hy : y.cls ≠ "java/lang/invoke/MethodHandle" ∧ y.cls ≠ "java/lang/invoke/VarHandle" := by decide) (hs : S = argsL.reverse ++ rest := by exact rfl) (hW : (rest.map fun v => v.category).sum ≤ W := by exact Nat.le_of_eq rfl) (hL : L.size = mL := by exact rfl) (hf : Ry.frames + 1 ≤ R.frames := by decide) (hl : W + (ymL + 11) + Ry.locals ≤ R.locals := by decide) (hk : k + Ry.cells ≤ R.cells := by decide) (hn : n + Ry.slots ≤ R.slots := by decide) (hb : b ≤ f' := by exact Nat.le_refl _) (hp : pc' = pc + 3 := by exact rfl) : Run C Z R w To f Q b Ts Li h k n pc L S := by
  subst hp hs
  intro T vm0 locs P
  cases w with
  | false =>
    obtain ⟨v, vm₁, ⟨U, ls, ce, sl⟩, -, X', ⟨Lc, ⟨hQ, hF, hE', hI'⟩, l1, c1, s1⟩, st⟩ := Jvm.LawKit.callS P.1 H.1 (P.cl H) (mvT (s := C.s.setVm vm0) P.2.1 w1) (mvT (s := C.s.setVm vm0) P.2.1 w2) (mvT (s := C.s.setVm vm0) P.2.1 w3) (mvT (s := C.s.setVm vm0) P.2.1 w4) hy (hc.back P.2.1 P.2.2.2.2.1 P.2.2.2.2.2.2.2.2.1 w4 w3 hf hl) (g := mkF C.m pc L (argsL.reverse ++ rest)) rfl (by rw [H.2.2.1]; exact hL) hlen rfl (by show 2 * 0 + _ ≤ _; omega) (H.dec hd) (fun _ _ => ⟨rfl, P.2.2.1, hk, hn⟩)
    obtain ⟨s₂, o, h1, r⟩ := kk v U.heap hQ U vm0 _ (P.afterN X' hF hE' hI' l1 c1 s1 hb)
    exact ⟨s₂, o, st _ h1, r⟩
  | true =>
    obtain ⟨v, vm₁, ⟨U, ls, ce, sl⟩, -, X', hS', hg, ⟨Lc, ⟨hQ, hF, hE', hI'⟩, l1, c1, s1⟩, st⟩ := callSS P.1 H.1 (P.cl H) (mvT (s := C.s.setVm vm0) P.2.1 w1) (mvT (s := C.s.setVm vm0) P.2.1 w2) (mvT (s := C.s.setVm vm0) P.2.1 w3) (mvT (s := C.s.setVm vm0) P.2.1 w4) hy (hc.backS P.2.1 P.2.2.2.2.1 P.2.2.2.2.2.2.2.2.1 w4 w3 hf hl) (g := mkF C.m pc L (argsL.reverse ++ rest)) rfl (by rw [H.2.2.1]; exact hL) hlen rfl (by show 2 * 0 + _ ≤ _; omega) (H.dec hd) (fun _ _ => ⟨rfl, P.2.2.1, hk, hn⟩)
    obtain ⟨s₂, o, h1, r⟩ := kk v U.heap hQ U U.vm _ (P.afterS X' hS' hg hF hE' hI' l1 c1 s1 hb)
    exact ⟨s₂, o, st.trans h1, r⟩
theorem r_special (H : Stn C Z own by_ mL rt nm q) (pc' : Nat) {idx : Nat} {y : MethodName} {yb : ByteArray} {ymL : Nat} {Ry : Room} {To' : List String} {f' : Nat} {Qy : Option Value → Heap → Prop} {a : Addr} {argsL rest : List Value} {W : Nat} (hd : decode by_ pc = .ok (.invokespecial idx, 3)) (w1 : (Cond.methodLink own idx y).before a0 Z = true) (w2 : (Cond.instanceMethod y).before a0 Z = true) (w3 : (Cond.initialized y.cls).before a0 Z = true) (w4 : (Cond.code y yb ymL none).before a0 Z = true) (hlen : ∀ sig, parseMethodDescriptor y.desc = some sig → argsL.length = sig.parameters.length) (hc : Con w [] Z y yb ymL none Ry Ts To' f' (.ref a :: argsL).toArray h Qy) (kk : ∀ v h', Qy v h' → Run C Z R w To f Q b To' Li h' (k + Ry.cells) (n + Ry.slots) pc' L (v.toList ++ rest)) (hy : y.cls ≠ "java/lang/invoke/MethodHandle" ∧ y.cls ≠ "java/lang/invoke/VarHandle" := by decide) (hy1 : y.name = "<init>" := by exact rfl) (hs : S = argsL.reverse ++ .ref a :: rest := by exact rfl) (hW : (rest.map fun v => v.category).sum ≤ W := by exact Nat.le_of_eq rfl) (hL : L.size = mL := by exact rfl) (hf : Ry.frames + 1 ≤ R.frames := by decide) (hl : W + (ymL + 11) + Ry.locals ≤ R.locals := by decide) (hk : k + Ry.cells ≤ R.cells := by decide) (hn : n + Ry.slots ≤ R.slots := by decide) (hb : b ≤ f' := by exact Nat.le_refl _) (hp : pc' = pc + 3 := by exact rfl) : Run C Z R w To f Q b Ts Li h k n pc L S := by
  subst hp hs
  intro T vm0 locs P
  cases w with
  | false =>
    obtain ⟨v, vm₁, ⟨U, ls, ce, sl⟩, -, X', ⟨Lc, ⟨hQ, hF, hE', hI'⟩, l1, c1, s1⟩, st⟩ := P.1.specialBack H.1 hy1 (P.cl H) (mvT (s := C.s.setVm vm0) P.2.1 w1) (mvT (s := C.s.setVm vm0) P.2.1 w2) (mvT (s := C.s.setVm vm0) P.2.1 w4) hy (hc.back P.2.1 P.2.2.2.2.1 P.2.2.2.2.2.2.2.2.1 w4 w3 hf hl) (g := mkF C.m pc L (argsL.reverse ++ .ref a :: rest)) rfl (by rw [H.2.2.1]; exact hL) (Steps.refl _) (a := a) hlen rfl (by show 2 * 0 + _ ≤ _; omega) (H.dec hd) (fun _ _ => ⟨rfl, P.2.2.1, hk, hn⟩)
    obtain ⟨s₂, o, h1, r⟩ := kk v U.heap hQ U vm0 _ (P.afterN X' hF hE' hI' l1 c1 s1 hb)
    exact ⟨s₂, o, st.trans h1, r⟩
  | true =>
    obtain ⟨v, vm₁, ⟨U, ls, ce, sl⟩, -, X', hS', hg, ⟨Lc, ⟨hQ, hF, hE', hI'⟩, l1, c1, s1⟩, st⟩ := P.1.specialBackS H.1 hy1 (P.cl H) (mvT (s := C.s.setVm vm0) P.2.1 w1) (mvT (s := C.s.setVm vm0) P.2.1 w2) (mvT (s := C.s.setVm vm0) P.2.1 w4) hy (hc.backS P.2.1 P.2.2.2.2.1 P.2.2.2.2.2.2.2.2.1 w4 w3 hf hl) (g := mkF C.m pc L (argsL.reverse ++ .ref a :: rest)) rfl (by rw [H.2.2.1]; exact hL) (Steps.refl _) (a := a) hlen rfl (by show 2 * 0 + _ ≤ _; omega) (H.dec hd) (fun _ _ => ⟨rfl, P.2.2.1, hk, hn⟩)
    obtain ⟨s₂, o, h1, r⟩ := kk v U.heap hQ U U.vm _ (P.afterS X' hS' hg hF hE' hI' l1 c1 s1 hb)
    exact ⟨s₂, o, st.trans h1, r⟩
theorem r_virtual (H : Stn C Z own by_ mL rt nm q) (pc' : Nat) {idx : Nat} {y : MethodName} {yb : ByteArray} {ymL : Nat} {yrt : Option FieldType} {Ry : Room} {To' : List String} {f' : Nat} {Qy : Option Value → Heap → Prop} {z : MethodName} {CC : String} {a : Addr} {argsL rest : List Value} {W : Nat} (hd : decode by_ pc = .ok (.invokevirtual idx, 3)) (w1 : (Cond.methodLink own idx y).before a0 Z = true) (wd : (Cond.declares y).before a0 Z = true) (hnf : ∀ vm0, Z.Warmed39 vm0 → NotFace (C.s.setVm vm0) y) (w2 : (Cond.selects CC y z).before a0 Z = true) (w5 : (Cond.instanceMethod z).before a0 Z = true) (w3 : (Cond.initialized z.cls).before a0 Z = true) (w4 : (Cond.code z yb ymL yrt).before a0 Z = true) (E : Exa Z h a CC) (hlen : ∀ sig, parseMethodDescriptor y.desc = some sig → argsL.length = sig.parameters.length) (hc : Con w [] Z z yb ymL yrt Ry Ts To' f' (.ref a :: argsL).toArray h Qy) (kk : ∀ v h', Qy v h' → Run C Z R w To f Q b To' Li h' (k + Ry.cells) (n + Ry.slots) pc' L (v.toList ++ rest)) (hy : y.cls ≠ "java/lang/invoke/MethodHandle" ∧ y.cls ≠ "java/lang/invoke/VarHandle" := by decide) (hs : S = argsL.reverse ++ .ref a :: rest := by exact rfl) (hW : (rest.map fun v => v.category).sum ≤ W := by exact Nat.le_of_eq rfl) (hL : L.size = mL := by exact rfl) (hf : Ry.frames + 1 ≤ R.frames := by decide) (hl : W + (ymL + 11) + Ry.locals ≤ R.locals := by decide) (hk : k + Ry.cells ≤ R.cells := by decide) (hn : n + Ry.slots ≤ R.slots := by decide) (hb : b ≤ f' := by exact Nat.le_refl _) (hp : pc' = pc + 3 := by exact rfl) : Run C Z R w To f Q b Ts Li h k n pc L S := by
  subst hp hs
  intro T vm0 locs P
  obtain ⟨cB, kB, q1, q2, q3⟩ := isOf (T := T) (s := C.s.setVm vm0) P.2.1 P.2.2.1 E
  cases w with
  | false =>
    obtain ⟨v, vm₁, ⟨U, ls, ce, sl⟩, -, X', ⟨Lc, ⟨hQ, hF, hE', hI'⟩, l1, c1, s1⟩, st⟩ := P.1.virtualBack H.1 (P.cl H) (mvT (s := C.s.setVm vm0) P.2.1 w1) (mvT (s := C.s.setVm vm0) P.2.1 wd) (hnf vm0 P.2.1) (mvT (s := C.s.setVm vm0) P.2.1 w2) (mvT (s := C.s.setVm vm0) P.2.1 w5) hy (hc.back P.2.1 P.2.2.2.2.1 P.2.2.2.2.2.2.2.2.1 w4 w3 hf hl) q1 q3 (g := mkF C.m pc L (argsL.reverse ++ .ref a :: rest)) rfl (by rw [H.2.2.1]; exact hL) (Steps.refl _) hlen rfl (by show 2 * 0 + _ ≤ _; omega) (H.dec hd) (fun _ _ => ⟨rfl, P.2.2.1, hk, hn⟩)
    obtain ⟨s₂, o, h1, r⟩ := kk v U.heap hQ U vm0 _ (P.afterN X' hF hE' hI' l1 c1 s1 hb)
    exact ⟨s₂, o, st.trans h1, r⟩
  | true =>
    obtain ⟨v, vm₁, ⟨U, ls, ce, sl⟩, -, X', hS', hg, ⟨Lc, ⟨hQ, hF, hE', hI'⟩, l1, c1, s1⟩, st⟩ := P.1.virtualBackS H.1 (P.cl H) (mvT (s := C.s.setVm vm0) P.2.1 w1) (mvT (s := C.s.setVm vm0) P.2.1 wd) (hnf vm0 P.2.1) (mvT (s := C.s.setVm vm0) P.2.1 w2) (mvT (s := C.s.setVm vm0) P.2.1 w5) hy (hc.backS P.2.1 P.2.2.2.2.1 P.2.2.2.2.2.2.2.2.1 w4 w3 hf hl) q1 q3 (g := mkF C.m pc L (argsL.reverse ++ .ref a :: rest)) rfl (by rw [H.2.2.1]; exact hL) (Steps.refl _) hlen rfl (by show 2 * 0 + _ ≤ _; omega) (H.dec hd) (fun _ _ => ⟨rfl, P.2.2.1, hk, hn⟩)
    obtain ⟨s₂, o, h1, r⟩ := kk v U.heap hQ U U.vm _ (P.afterS X' hS' hg hF hE' hI' l1 c1 s1 hb)
    exact ⟨s₂, o, st.trans h1, r⟩
theorem nf_sel {vmS : State} {CC : String} {y : MethodName} (w2 : (Cond.selects CC y y).before a0 Z = true) : ∀ vm0, Z.Warmed39 vm0 → NotFace (vmS.setVm vm0) y := fun vm0 hZ => notFace_of_selects (args := #[]) (mvT (s := vmS.setVm vm0) hZ w2)
theorem sel_self {s : State} {args : Array Value} {CS : String} {y : MethodName} (w5 : (Cond.selects CS y y).before args s = true) (hp : s.PrivateAt y) (w2 : (Cond.instanceMethod y).before args s = true) (hy : y.cls ≠ "java/lang/invoke/MethodHandle" ∧ y.cls ≠ "java/lang/invoke/VarHandle") : (Cond.selects y.cls y y).before args s = true := by
  obtain ⟨c, r, m, -, -, hn, -, kk, hk, hni⟩ := Cond.selects_spec w5
  exact selects_self_of_private (findClass_of_methodNamed hn) hk hni hp w2 hy
theorem r_private (H : Stn C Z own by_ mL rt nm q) (pc' : Nat) {idx : Nat} {y : MethodName} {yb : ByteArray} {ymL : Nat} {yrt : Option FieldType} {Ry : Room} {To' : List String} {f' : Nat} {Qy : Option Value → Heap → Prop} {CC CS : String} {a : Addr} {argsL rest : List Value} {W : Nat} (hd : decode by_ pc = .ok (.invokevirtual idx, 3)) (w1 : (Cond.methodLink own idx y).before a0 Z = true) (w2 : (Cond.instanceMethod y).before a0 Z = true) (w5 : (Cond.selects CS y y).before a0 Z = true) (w6 : (Cond.privateMethod y).before a0 Z = true) (w3 : (Cond.initialized y.cls).before a0 Z = true) (w4 : (Cond.code y yb ymL yrt).before a0 Z = true) (E : Exa Z h a CC) (hlen : ∀ sig, parseMethodDescriptor y.desc = some sig → argsL.length = sig.parameters.length) (hc : Con w [] Z y yb ymL yrt Ry Ts To' f' (.ref a :: argsL).toArray h Qy) (kk : ∀ v h', Qy v h' → Run C Z R w To f Q b To' Li h' (k + Ry.cells) (n + Ry.slots) pc' L (v.toList ++ rest)) (hy : y.cls ≠ "java/lang/invoke/MethodHandle" ∧ y.cls ≠ "java/lang/invoke/VarHandle" := by decide) (hs : S = argsL.reverse ++ .ref a :: rest := by exact rfl) (hW : (rest.map fun v => v.category).sum ≤ W := by exact Nat.le_of_eq rfl) (hL : L.size = mL := by exact rfl) (hf : Ry.frames + 1 ≤ R.frames := by decide) (hl : W + (ymL + 11) + Ry.locals ≤ R.locals := by decide) (hk : k + Ry.cells ≤ R.cells := by decide) (hn : n + Ry.slots ≤ R.slots := by decide) (hb : b ≤ f' := by exact Nat.le_refl _) (hp : pc' = pc + 3 := by exact rfl) : Run C Z R w To f Q b Ts Li h k n pc L S := by
  subst hp hs
  intro T vm0 locs P
  obtain ⟨cq, q1, q2⟩ := E.cell
  cases w with
  | false =>
    obtain ⟨v, vm₁, ⟨U, ls, ce, sl⟩, -, X', ⟨Lc, ⟨hQ, hF, hE', hI'⟩, l1, c1, s1⟩, st⟩ := P.1.privateBack H.1 (P.cl H) (mvT (s := C.s.setVm vm0) P.2.1 w1) (mvT (s := C.s.setVm vm0) P.2.1 w2) (sel_self (mvT (s := C.s.setVm vm0) P.2.1 w5) (Cond.privateMethod_at (mvP (s := C.s.setVm vm0) P.2.1 w6 (args := #[]))) (mvT (s := C.s.setVm vm0) P.2.1 w2) hy) (Cond.privateMethod_at (mvP (s := C.s.setVm vm0) P.2.1 w6 (args := #[]))) (mvT (s := C.s.setVm vm0) P.2.1 w4) hy (hc.back P.2.1 P.2.2.2.2.1 P.2.2.2.2.2.2.2.2.1 w4 w3 hf hl) (g := mkF C.m pc L (argsL.reverse ++ .ref a :: rest)) rfl (by rw [H.2.2.1]; exact hL) (Steps.refl _) (a := a) (by rw [P.2.2.1]; exact q1) q2 hlen rfl (by show 2 * 0 + _ ≤ _; omega) (H.dec hd) (fun _ _ => ⟨rfl, P.2.2.1, hk, hn⟩)
    obtain ⟨s₂, o, h1, r⟩ := kk v U.heap hQ U vm0 _ (P.afterN X' hF hE' hI' l1 c1 s1 hb)
    exact ⟨s₂, o, st.trans h1, r⟩
  | true =>
    obtain ⟨v, vm₁, ⟨U, ls, ce, sl⟩, -, X', hS', hg, ⟨Lc, ⟨hQ, hF, hE', hI'⟩, l1, c1, s1⟩, st⟩ := P.1.privateBackS H.1 (P.cl H) (mvT (s := C.s.setVm vm0) P.2.1 w1) (mvT (s := C.s.setVm vm0) P.2.1 w2) (sel_self (mvT (s := C.s.setVm vm0) P.2.1 w5) (Cond.privateMethod_at (mvP (s := C.s.setVm vm0) P.2.1 w6 (args := #[]))) (mvT (s := C.s.setVm vm0) P.2.1 w2) hy) (Cond.privateMethod_at (mvP (s := C.s.setVm vm0) P.2.1 w6 (args := #[]))) (mvT (s := C.s.setVm vm0) P.2.1 w4) hy (hc.backS P.2.1 P.2.2.2.2.1 P.2.2.2.2.2.2.2.2.1 w4 w3 hf hl) (g := mkF C.m pc L (argsL.reverse ++ .ref a :: rest)) rfl (by rw [H.2.2.1]; exact hL) (Steps.refl _) (a := a) (by rw [P.2.2.1]; exact q1) q2 hlen rfl (by show 2 * 0 + _ ≤ _; omega) (H.dec hd) (fun _ _ => ⟨rfl, P.2.2.1, hk, hn⟩)
    obtain ⟨s₂, o, h1, r⟩ := kk v U.heap hQ U U.vm _ (P.afterS X' hS' hg hF hE' hI' l1 c1 s1 hb)
    exact ⟨s₂, o, st.trans h1, r⟩
theorem r_super (H : Stn C Z own by_ mL rt nm q) (pc' : Nat) {idx : Nat} {y : MethodName} {yb : ByteArray} {ymL : Nat} {yrt : Option FieldType} {Ry : Room} {To' : List String} {f' : Nat} {Qy : Option Value → Heap → Prop} {K : String} {a : Addr} {argsL rest : List Value} {W : Nat} (hd : decode by_ pc = .ok (.invokespecial idx, 3)) (w1 : (Cond.methodLink own idx y).before a0 Z = true) (w2 : (Cond.sameMethod y.cls y.cls y.name y.desc).before a0 Z = true) (w5 : (Cond.instanceMethod y).before a0 Z = true) (w6 : (Cond.superclass own y.cls).before a0 Z = true) (w3 : (Cond.initialized y.cls).before a0 Z = true) (w4 : (Cond.code y yb ymL yrt).before a0 Z = true) (E : Ins Z h a K true) (hlen : ∀ sig, parseMethodDescriptor y.desc = some sig → argsL.length = sig.parameters.length) (hc : Con w [] Z y yb ymL yrt Ry Ts To' f' (.ref a :: argsL).toArray h Qy) (kk : ∀ v h', Qy v h' → Run C Z R w To f Q b To' Li h' (k + Ry.cells) (n + Ry.slots) pc' L (v.toList ++ rest)) (hyn : y.name ≠ "<init>" := by decide) (hs : S = argsL.reverse ++ .ref a :: rest := by exact rfl) (hW : (rest.map fun v => v.category).sum ≤ W := by exact Nat.le_of_eq rfl) (hL : L.size = mL := by exact rfl) (hf : Ry.frames + 1 ≤ R.frames := by decide) (hl : W + (ymL + 11) + Ry.locals ≤ R.locals := by decide) (hk : k + Ry.cells ≤ R.cells := by decide) (hn : n + Ry.slots ≤ R.slots := by decide) (hb : b ≤ f' := by exact Nat.le_refl _) (hp : pc' = pc + 3 := by exact rfl) : Run C Z R w To f Q b Ts Li h k n pc L S := by
  subst hp hs
  intro T vm0 locs P
  cases w with
  | false =>
    obtain ⟨v, vm₁, ⟨U, ls, ce, sl⟩, -, X', ⟨Lc, ⟨hQ, hF, hE', hI'⟩, l1, c1, s1⟩, st⟩ := superBack P.1 H.1 P.2.1 (P.cl H) w1 w2 w5 w6 hyn (hc.back P.2.1 P.2.2.2.2.1 P.2.2.2.2.2.2.2.2.1 w4 w3 hf hl) P.2.2.1 E (g := mkF C.m pc L (argsL.reverse ++ .ref a :: rest)) rfl (by rw [H.2.2.1]; exact hL) w4 hlen rfl (by show 2 * 0 + _ ≤ _; omega) (H.dec hd) (fun _ _ => ⟨rfl, P.2.2.1, hk, hn⟩)
    obtain ⟨s₂, o, h1, r⟩ := kk v U.heap hQ U vm0 _ (P.afterN X' hF hE' hI' l1 c1 s1 hb)
    exact ⟨s₂, o, st.trans h1, r⟩
  | true =>
    obtain ⟨v, vm₁, ⟨U, ls, ce, sl⟩, -, X', hS', hg, ⟨Lc, ⟨hQ, hF, hE', hI'⟩, l1, c1, s1⟩, st⟩ := superBackS P.1 H.1 P.2.1 (P.cl H) w1 w2 w5 w6 hyn (hc.backS P.2.1 P.2.2.2.2.1 P.2.2.2.2.2.2.2.2.1 w4 w3 hf hl) P.2.2.1 E (g := mkF C.m pc L (argsL.reverse ++ .ref a :: rest)) rfl (by rw [H.2.2.1]; exact hL) w4 hlen rfl (by show 2 * 0 + _ ≤ _; omega) (H.dec hd) (fun _ _ => ⟨rfl, P.2.2.1, hk, hn⟩)
    obtain ⟨s₂, o, h1, r⟩ := kk v U.heap hQ U U.vm _ (P.afterS X' hS' hg hF hE' hI' l1 c1 s1 hb)
    exact ⟨s₂, o, st.trans h1, r⟩
theorem r_ldcS (H : Stn C Z own by_ mL rt nm b) (pc' : Nat) {idx : Nat} {text : String} {vs : List Value} {z : Int32} (ns : Nat) (hd : decode by_ pc = .ok (.ldc idx, 2)) (w1 : (Cond.stringLink own idx text).before a0 Z = true) (wS : ∀ a ∈ Bundle.stringAtoms, a.before a0 Z = true) (hnot : text ∉ Ts) (hh : Jvm.Lit.constHeld Z own idx) (hcw : Jvm.Lit.compactW.before a0 Z = true) (ht : (∀ c ∈ text.toList, c.toNat < 256) ∧ text.toList.map (fun c => Value.int (Jvm.Lit.byteI c.toNat.toUInt16)) = vs) (kk : ∀ h' a v kc, Keep h h' [] → Exa Z h' a "java/lang/String" → Fld Z h' a "java/lang/String" "coder" "B" (.int 0) → Fld Z h' a "java/lang/String" "value" "[B" (.ref v) → Ar Z h' v kc .byte vs → ((a < b ∧ v < b) ∨ (h.size ≤ a ∧ h.size ≤ v)) → Run C Z R true To f Q b (text :: Ts) [(own, idx, a)] h' (k + 2) (n + (ns + 4)) pc' L (.ref a :: S)) (hz : ¬ z < 0 := by decide) (hl : z.toNatClampNeg = vs.length := by decide) (hns : 4 * text.toList.length ≤ ns := by decide) (hbig : ns ≤ 536870912 := by decide) (hc : k + 2 ≤ R.cells := by decide) (hsl : n + (ns + 4) ≤ R.slots := by decide) (hp : pc' = pc + 2 := by exact rfl) : Run C Z R true To f Q b Ts Li h k n pc L S := by
  subst hp
  intro T vm0 locs P
  obtain ⟨X, hZ, eT, hS, hI, hw, N, hzz, hE, hq, hL⟩ := P
  obtain ⟨a, T', h', k1, v, kc, X', e', E, hS', hk1, hW', ho', x1, x2, x3, x4, x5, x6, hI', hLit, hwh, st⟩ := ldcSVd X H.1 hZ (H.cl hS) w1 wS eT hS (Nat.le_refl _) (by rw [H.2.2.2.2.2.2.1]; exact N) (fun bb cl r => H.2.2.2.2.2.2.2.1.2 bb cl r) hI hnot hh hcw ht hz hl (g := mkF C.m pc L S) rfl (H.dec hd) hns hbig hc hsl
  subst e'
  obtain ⟨s₂, o, h1, r⟩ := kk T'.heap a v kc (Keep.of_ext E) x1 x2 x3 (Ar.of_arv x4 hl) (by rw [← H.2.2.2.2.2.2.1]; exact hwh) T' T'.vm locs ⟨X', hW', rfl, since_same hS' hk1, hI', fun e => (by cases e), N, hzz, ⟨Nat.le_trans hE.1 E.1, fun x c r => E.2 x c (hE.2 x c r)⟩, Nat.le_trans hq E.1, fun x hx => (by cases List.mem_singleton.mp hx; exact hLit)⟩
  exact ⟨s₂, o, st _ h1, r⟩

end Walk
theorem i2c_id {x : Int32} (h : 0 ≤ x.toInt ∧ x.toInt ≤ 65535) : x.toUInt32.toUInt16.toUInt32.toInt32 = x := by
  apply Int32.toInt_inj.mp; have := c_i2c x; omega
theorem i2b_id {x : Int32} (h : -128 ≤ x.toInt ∧ x.toInt ≤ 127) : x.toInt8.toInt32 = x := by
  apply Int32.toInt_inj.mp; have := c_i2b x; omega
theorem nar_char_id {x : Int32} (h : 0 ≤ x.toInt ∧ x.toInt ≤ 65535) : nar .char x = x := i2c_id h
theorem nar_byte_id {x : Int32} (h : -128 ≤ x.toInt ∧ x.toInt ≤ 127) : nar .byte x = x := i2b_id h
theorem ne_ar {Z : State} {h : Heap} {a0 : Array Value} {a b : Addr} {CC : String} {k : Nat} {kc : ClassId} {ty : FieldType} {vs : List Value} (E : Exa Z h a CC) (wi : (Cond.instantiable CC k).before a0 Z = true) (F : Ar Z h b kc ty vs) : a ≠ b := by
  obtain ⟨c, A, -⟩ := F; exact ne_arr E wi A
theorem len32 {n : Nat} (h : n < 2 ^ 31) : n.toInt32.toNatClampNeg = n ∧ ¬ n.toInt32 < 0 := by
  have e := len_toInt h
  refine ⟨by simp only [Int32.toNatClampNeg, e]; rfl, ?_⟩
  rw [Int32.lt_iff_toInt_lt, e]; show ¬ (n : Int) < 0; omega
theorem r_copy {C : Cx} {Z : State} {a0 : Array Value} {own : String} {by_ : ByteArray} {mL : Nat} {rt : Option FieldType} {nm : String} {q : Nat} {R : Room} {w : Bool} {To : List String} {f : Nat} {Q : Option Value → Heap → Prop} {b : Nat} {Ts : List String} {Li : List (String × Nat × Addr)} {h : Heap} {k n pc : Nat} {L : Array Slot} {S : List Value} (H : Stn C Z own by_ mL rt nm q) (pc' : Nat) {idx W : Nat} {s d : Addr} {kc kd : ClassId} {ty : FieldType} {vs vd : List Value} {sp dp nn : Int32} (hd : decode by_ pc = .ok (.invokestatic idx, 3)) (w1 : (Cond.methodLink own idx Jvm.Stand.acN).before a0 Z = true) (w2 : (Cond.native Jvm.Stand.acN).before a0 Z = true) (w3 : (Cond.static Jvm.Stand.acN).before a0 Z = true) (w4 : (Cond.initialized "java/lang/System").before a0 Z = true) (A : Ar Z h s kc ty vs) (B : Ar Z h d kd ty vd) (hb : b ≤ d) (kk : ∀ h', Keep h h' [d] → Ar Z h' d kd ty (vd.take dp.toNatClampNeg ++ (List.range nn.toNatClampNeg).map (fun i => vs.getD (sp.toNatClampNeg + i) (.int 0)) ++ vd.drop (dp.toNatClampNeg + nn.toNatClampNeg)) → Run C Z R w To f Q b Ts Li h' k n pc' L S) (hty : refKind ty = false := by exact rfl) (h1 : ¬ sp < 0 := by decide) (h2 : ¬ dp < 0 := by decide) (h3 : ¬ nn < 0 := by decide) (h4 : sp.toNatClampNeg + nn.toNatClampNeg ≤ vs.length := by exact Nat.le_of_ble_eq_true rfl) (h5 : dp.toNatClampNeg + nn.toNatClampNeg ≤ vd.length := by exact Nat.le_of_ble_eq_true rfl) (hL : L.size = mL := by exact rfl) (hf : 1 ≤ R.frames := by decide) (hW : (S.map fun v => v.category).sum ≤ W := by exact Nat.le_of_eq rfl) (hlo : W + (nativeFrameWords "java/lang/System" "arraycopy" 5 + 11) ≤ R.locals := by decide) (hp : pc' = pc + 3 := by exact rfl) : Run C Z R w To f Q b Ts Li h k n pc L (.int nn :: .int dp :: .ref d :: .int sp :: .ref s :: S) := by
  subst hp
  intro T vm0 locs P
  have lA : vs.length < 2 ^ 31 := by obtain ⟨c, -, -, -, r, -⟩ := A; exact r
  have lB : vd.length < 2 ^ 31 := by obtain ⟨c, -, -, -, r, -⟩ := B; exact r
  obtain ⟨eA, nA⟩ := len32 lA
  obtain ⟨eB, nB⟩ := len32 lB
  obtain ⟨T', h', L', X', e', N', K, B', st⟩ := cpA P.1 H.1 P.2.1 (P.cl H) w1 w2 w3 w4 P.2.2.1 (A.arv (dv := .int 0) eA nA) (B.arv (dv := .int 0) eB nB) (Or.inl ⟨rfl, hty⟩) h1 h2 h3 (by rw [eA]; exact h4) (by rw [eB]; exact h5) rfl h5 P.2.2.2.2.2.2.1 hb (g := mkF C.m pc L (.int nn :: .int dp :: .ref d :: .int sp :: .ref s :: S)) rfl (by rw [H.2.2.1]; exact hL) rfl (H.dec hd) hf (W := W) (by show 2 * 0 + _ ≤ _; omega) hlo
  obtain ⟨X, hZ, eT, hS, hI, hw, N, hz, hE, hq, hLi⟩ := P
  have B2 := Ar.of_arv B' (by rw [eB]; simp; omega)
  obtain ⟨s₂, o, g1, r⟩ := kk h' K B2 T' vm0 L' ⟨X', hZ, e', since_same hS K.1, hI, hw, N', hz, (Old.keep (n0 := Z.heap.size) ⟨rfl, hE⟩ K (allS (Nat.le_trans hz hb) all0)).2, Nat.le_trans hq K.1, hLi⟩
  exact ⟨s₂, o, st _ g1, r⟩
theorem same_self {Z : State} {a0 : Array Value} {y z z' : MethodName} {CS : String} (wd : (Cond.declares y).before a0 Z = true) (ws : (Cond.selects CS z z').before a0 Z = true) (hz : z'.cls = y.cls) (hy : y.cls ≠ "java/lang/invoke/MethodHandle" ∧ y.cls ≠ "java/lang/invoke/VarHandle") : (Cond.sameMethod y.cls y.cls y.name y.desc).before a0 Z = true := by
  obtain ⟨r0, r, hn, hrm, -, -⟩ := Cond.declares_spec wd
  obtain ⟨c, r2, m, -, -, hn2, -, mk, hk, hni⟩ := Cond.selects_spec ws
  have hf := State.methodFound?_of_named hn hy
  have hc := findClass_of_methodNamed hn
  have hc2 := findClass_of_methodNamed hn2
  rw [hz] at hc2
  have e : r0.cls = m.cls := Option.some.inj (hc.symm.trans hc2)
  have hn' : Z.methodNamed? ⟨y.cls, y.name, y.desc⟩ = some r0 := hn
  rw [← e] at hk
  simp [Cond.before, Cond.holds, Cond.value, hc, hf, hn', hk, hni]
theorem nf_by {Z vmS : State} {a0 : Array Value} {CS : String} {y z z' : MethodName} (ws : (Cond.selects CS z z').before a0 Z = true) (hz : z'.cls = y.cls) : ∀ vm0, Z.Warmed39 vm0 → NotFace (vmS.setVm vm0) y := fun vm0 hZ r0 h0 => by
  obtain ⟨c, r2, m, -, -, hn2, -, mk, hk, hni⟩ := Cond.selects_spec (mvT (s := vmS.setVm vm0) (args := #[]) hZ ws)
  have hc := findClass_of_methodNamed h0
  have hc2 := findClass_of_methodNamed hn2
  rw [hz] at hc2
  have e : r0.cls = m.cls := Option.some.inj (hc.symm.trans hc2)
  exact ⟨mk, by rw [e]; exact hk, hni⟩
theorem nin_cons {a b : String} {l : List String} (h : a ≠ b) (g : a ∉ l) : a ∉ b :: l := by
  intro m; rcases List.mem_cons.mp m with e | e; exact h e; exact g e

abbrev vI (x : Int32) : Slot := .val (.int x)
abbrev vR (x : Addr) : Slot := .val (.ref x)
theorem nlr {n : Nat} : n ≤ n := Nat.le_refl n
theorem nlt {a b c : Nat} (h : a ≤ b) (g : b ≤ c) : a ≤ c := Nat.le_trans h g
theorem nlq {a b : Nat} (h : a = b) : a ≤ b := Nat.le_of_eq h
abbrev own_DigitOnes : List Value := (List.range 100).map fun r => .int (Int32.ofNat (48 + r % 10))
abbrev own_DigitTens : List Value := (List.range 100).map fun r => .int (Int32.ofNat (48 + r / 10))
theorem own_tab {s : State} {a0 : Array Value} {name : String} {rhs : Term} {F : Nat → Nat} (we : (Cond.exactly (Term.static "java/lang/Integer" name "[B") "[B").before a0 s = true) (wn : (Cond.eq (Term.length (Term.static "java/lang/Integer" name "[B")) (Term.int 100)).before a0 s = true)
    (wa : (Cond.all (Term.static "java/lang/Integer" name "[B") (Cond.eq (Term.elem (Term.static "java/lang/Integer" name "[B") (Term.index 0)) rhs)).before a0 s = true) (warr : (Cond.arrayClass .byte).before a0 s = true)
    (hrhs : ∀ r, r < 100 → rhs.eval a0 s none [r] s = some (.int (Int32.ofNat (F r)))) (hF : ∀ r, r < 100 → fits .byte (.int (Int32.ofNat (F r))) = true) :
    ∃ (g : Addr) (k : ClassId), (Term.static "java/lang/Integer" name "[B").eval a0 s none [] s = some (.ref g) ∧ Ar s s.heap g k .byte ((List.range 100).map fun r => .int (Int32.ofNat (F r))) := by
  obtain ⟨d, cB, D, kB, hev, hfcB, hcellD, hkB, hstatD, hclsD, -⟩ := Cond.exactly_spec we
  have hevAll : ∀ idx, (Term.static "java/lang/Integer" name "[B").eval a0 s none idx s = some (.ref d) := fun idx => by
    have : (Term.static "java/lang/Integer" name "[B").eval a0 s none idx s = (Term.static "java/lang/Integer" name "[B").eval a0 s none [] s := by simp only [Term.eval]
    rw [this]; exact hev
  have hl := Cond.eq_int wn rfl
  obtain ⟨d', D', hev', harrAt, hlen⟩ := Term.length_spec hl
  cases hev.symm.trans hev'
  obtain ⟨hcellD', hknD, -, -⟩ := State.arrayAt?_spec harrAt
  cases hcellD.symm.trans hcellD'
  have h31 := SBG.length_lt hev harrAt hl
  have hsz : D.slots.size = 100 := by
    have h2 := congrArg Int32.toInt (Value.int.inj hlen)
    rw [len_toInt h31] at h2
    have : (100 : Int32).toInt = 100 := by decide
    omega
  obtain ⟨cB', kB', comp, hnameB, hkB', hkindB⟩ := Cond.arrayClass_spec warr
  have eBA : ("[" ++ FieldType.toString .byte) = "[B" := by decide
  rw [eBA] at hnameB
  cases hfcB.symm.trans hnameB
  cases hkB.symm.trans hkB'
  have hel : ∀ r, r < 100 → D.slots[r]? = some (.int (Int32.ofNat (F r))) := fun r hr => by
    have h := Cond.all_elim (hevAll []) harrAt (by simpa [Cond.before, Cond.holds] using wa) r (by omega)
    have h' := Cond.eq_int (by simpa [Cond.holds] using h) (hrhs r hr)
    rw [SBG.elem_at (ix := .index 0) (hevAll [r]) harrAt (by omega) (by omega) rfl] at h'
    exact h'
  refine ⟨d, D.cls, hev, D, ⟨hcellD, ⟨(fun q h => by rw [h] at hstatD; cases hstatD), kB, (by rw [hclsD]; exact hkB), comp, hkindB⟩, hknD⟩, rfl, ?_, by simp, ?_⟩
  · apply Array.ext
    · simp [hsz]
    · intro i h1 h2
      have := hel i (by omega)
      rw [Array.getElem?_eq_getElem h1] at this
      simpa using Option.some.inj this
  · intro v hv
    obtain ⟨r, hr, rfl⟩ := List.mem_map.mp hv
    exact hF r (List.mem_range.mp hr)
theorem own_do (j : Int32) (h : 0 ≤ j.toInt ∧ j.toInt ≤ 9) : own_DigitOnes[j.toNatClampNeg]? = some (.int ((48 : Int32) + j)) := by
  have hc : j = 0 ∨ j = 1 ∨ j = 2 ∨ j = 3 ∨ j = 4 ∨ j = 5 ∨ j = 6 ∨ j = 7 ∨ j = 8 ∨ j = 9 := by
    simp only [← Int32.toInt_inj]
    have : (0 : Int32).toInt = 0 := (by decide); have : (1 : Int32).toInt = 1 := (by decide); have : (2 : Int32).toInt = 2 := (by decide); have : (3 : Int32).toInt = 3 := (by decide); have : (4 : Int32).toInt = 4 := (by decide)
    have : (5 : Int32).toInt = 5 := (by decide); have : (6 : Int32).toInt = 6 := (by decide); have : (7 : Int32).toInt = 7 := (by decide); have : (8 : Int32).toInt = 8 := (by decide); have : (9 : Int32).toInt = 9 := (by decide)
    omega
  rcases hc with rfl | rfl | rfl | rfl | rfl | rfl | rfl | rfl | rfl | rfl <;> decide +kernel
theorem own_neg2 (x : Int32) : -(-x) = x := by simp
theorem own_tDigitOnes (s : State) (a0 : Array Value) : ∀ r, r < 100 → (Term.add (Term.int (48 : Int32)) (Term.rem (Term.index (0 : Nat)) (Term.int (10 : Int32)))).eval a0 s none [r] s = some (.int (Int32.ofNat (48 + r % 10))) := fun r hr => by rw [← SBG.ones_num r hr]; rfl
theorem own_fDigitOnes : ∀ r, r < 100 → fits .byte (.int (Int32.ofNat (48 + r % 10))) = true := by decide +kernel
theorem own_tDigitTens (s : State) (a0 : Array Value) : ∀ r, r < 100 → (Term.add (Term.int (48 : Int32)) (Term.div (Term.index (0 : Nat)) (Term.int (10 : Int32)))).eval a0 s none [r] s = some (.int (Int32.ofNat (48 + r / 10))) := fun r hr => by rw [← SBG.tens_num r hr]; rfl
theorem own_fDigitTens : ∀ r, r < 100 → fits .byte (.int (Int32.ofNat (48 + r / 10))) = true := by decide +kernel
abbrev HW (a0 : Array Value) (Z : State) : Prop := ∀ d ∈ tables_1, d.before a0 Z = true
abbrev G_S_cs (Z : State) (cs : Int32) : Prop := Sta Z Z.heap "java/lang/String" "COMPACT_STRINGS" "Z" (.int cs)
abbrev G_S_DigitOnes (Z : State) (gDigitOnes : Addr) : Prop := Sta Z Z.heap "java/lang/Integer" "DigitOnes" "[B" (.ref gDigitOnes)
abbrev G_A_DigitOnes (Z : State) (gDigitOnes : Addr) (kDigitOnes : ClassId) : Prop := Ar Z Z.heap gDigitOnes kDigitOnes .byte own_DigitOnes
abbrev G_wS (Z : State) (a0 : Array Value) : Prop := ∀ a ∈ Bundle.stringAtoms, a.before a0 Z = true
abbrev G_hcw (Z : State) (a0 : Array Value) : Prop := Jvm.Lit.compactW.before a0 Z = true
abbrev G_hh1 (Z : State) : Prop := Jvm.Lit.constHeld Z "com/example/faithful_doubles/faithfuldoubles/doubles/ArgumentMatcher" 66
abbrev G_hh0 (Z : State) : Prop := Jvm.Lit.constHeld Z "com/example/faithful_doubles/faithfuldoubles/doubles/ArgumentMatcher" 57
abbrev G_hh2 (Z : State) : Prop := Jvm.Lit.constHeld Z "com/example/faithful_doubles/faithfuldoubles/doubles/ArgumentMatcher" 75
abbrev G_hh3 (Z : State) : Prop := Jvm.Lit.constHeld Z "com/example/faithful_doubles/faithfuldoubles/doubles/ArgumentMatcher" 77
theorem tw0 {Z : State} {a0 : Array Value} (hw : HW a0 Z) : ((Jvm.Cond.constant "com/example/faithful_doubles/faithfuldoubles/doubles/ArgumentMatcherCountedPinLaw" (7 : Nat) (2147483647 : Int32))).before a0 Z = true := hw _ (List.mem_of_getElem? (i := 0) rfl)
theorem tw1 {Z : State} {a0 : Array Value} (hw : HW a0 Z) : ((Jvm.Cond.methodLink "com/example/faithful_doubles/faithfuldoubles/doubles/ArgumentMatcherCountedPinLaw" (8 : Nat) ({ cls := "com/example/faithful_doubles/faithfuldoubles/doubles/ArgumentMatcher", name := "counted", desc := "(II)Ljava/lang/String;" } : Jvm.MethodName))).before a0 Z = true := hw _ (List.mem_of_getElem? (i := 1) rfl)
theorem tw2 {Z : State} {a0 : Array Value} (hw : HW a0 Z) : ((Jvm.Cond.static ({ cls := "com/example/faithful_doubles/faithfuldoubles/doubles/ArgumentMatcher", name := "counted", desc := "(II)Ljava/lang/String;" } : Jvm.MethodName))).before a0 Z = true := hw _ (List.mem_of_getElem? (i := 2) rfl)
theorem tw3 {Z : State} {a0 : Array Value} (hw : HW a0 Z) : ((Jvm.Cond.initialized "com/example/faithful_doubles/faithfuldoubles/doubles/ArgumentMatcher")).before a0 Z = true := hw _ (List.mem_of_getElem? (i := 3) rfl)
theorem tw4 {Z : State} {a0 : Array Value} (hw : HW a0 Z) : ((Jvm.Cond.code ({ cls := "com/example/faithful_doubles/faithfuldoubles/doubles/ArgumentMatcher", name := "counted", desc := "(II)Ljava/lang/String;" } : Jvm.MethodName) prog_5_method_5_code (3 : Nat) (Option.some (Jvm.ClassFile.FieldType.object "java/lang/String")))).before a0 Z = true := hw _ (List.mem_of_getElem? (i := 4) rfl)
theorem tw5 {Z : State} {a0 : Array Value} (hw : HW a0 Z) : ((Jvm.Cond.classLink "com/example/faithful_doubles/faithfuldoubles/doubles/ArgumentMatcher" (59 : Nat) "java/lang/StringBuilder")).before a0 Z = true := hw _ (List.mem_of_getElem? (i := 5) rfl)
theorem tw6 {Z : State} {a0 : Array Value} (hw : HW a0 Z) : ((Jvm.Cond.instantiable "java/lang/StringBuilder" (4 : Nat))).before a0 Z = true := hw _ (List.mem_of_getElem? (i := 6) rfl)
theorem tw7 {Z : State} {a0 : Array Value} (hw : HW a0 Z) : ((Jvm.Cond.initialized "java/lang/StringBuilder")).before a0 Z = true := hw _ (List.mem_of_getElem? (i := 7) rfl)
theorem tw8 {Z : State} {a0 : Array Value} (hw : HW a0 Z) : ((Jvm.Cond.methodLink "com/example/faithful_doubles/faithfuldoubles/doubles/ArgumentMatcher" (61 : Nat) ({ cls := "java/lang/StringBuilder", name := "<init>", desc := "()V" } : Jvm.MethodName))).before a0 Z = true := hw _ (List.mem_of_getElem? (i := 8) rfl)
theorem tw9 {Z : State} {a0 : Array Value} (hw : HW a0 Z) : ((Jvm.Cond.instanceMethod ({ cls := "java/lang/StringBuilder", name := "<init>", desc := "()V" } : Jvm.MethodName))).before a0 Z = true := hw _ (List.mem_of_getElem? (i := 9) rfl)
theorem tw10 {Z : State} {a0 : Array Value} (hw : HW a0 Z) : ((Jvm.Cond.code ({ cls := "java/lang/StringBuilder", name := "<init>", desc := "()V" } : Jvm.MethodName) jdk_67_method_1_code (1 : Nat) (Option.none : Option Jvm.ClassFile.FieldType))).before a0 Z = true := hw _ (List.mem_of_getElem? (i := 10) rfl)
theorem tw11 {Z : State} {a0 : Array Value} (hw : HW a0 Z) : ((Jvm.Cond.methodLink "java/lang/StringBuilder" (1 : Nat) ({ cls := "java/lang/AbstractStringBuilder", name := "<init>", desc := "(I)V" } : Jvm.MethodName))).before a0 Z = true := hw _ (List.mem_of_getElem? (i := 11) rfl)
theorem tw12 {Z : State} {a0 : Array Value} (hw : HW a0 Z) : ((Jvm.Cond.instanceMethod ({ cls := "java/lang/AbstractStringBuilder", name := "<init>", desc := "(I)V" } : Jvm.MethodName))).before a0 Z = true := hw _ (List.mem_of_getElem? (i := 12) rfl)
theorem tw15 {Z : State} {a0 : Array Value} (hw : HW a0 Z) : ((Jvm.Cond.initialized "java/lang/AbstractStringBuilder")).before a0 Z = true := hw _ (List.mem_of_getElem? (i := 15) rfl)
theorem tw16 {Z : State} {a0 : Array Value} (hw : HW a0 Z) : ((Jvm.Cond.code ({ cls := "java/lang/AbstractStringBuilder", name := "<init>", desc := "(I)V" } : Jvm.MethodName) jdk_68_method_2_code (2 : Nat) (Option.none : Option Jvm.ClassFile.FieldType))).before a0 Z = true := hw _ (List.mem_of_getElem? (i := 16) rfl)
theorem tw17 {Z : State} {a0 : Array Value} (hw : HW a0 Z) : ((Jvm.Cond.methodLink "java/lang/AbstractStringBuilder" (3 : Nat) ({ cls := "java/lang/Object", name := "<init>", desc := "()V" } : Jvm.MethodName))).before a0 Z = true := hw _ (List.mem_of_getElem? (i := 17) rfl)
theorem tw18 {Z : State} {a0 : Array Value} (hw : HW a0 Z) : ((Jvm.Cond.instanceMethod ({ cls := "java/lang/Object", name := "<init>", desc := "()V" } : Jvm.MethodName))).before a0 Z = true := hw _ (List.mem_of_getElem? (i := 18) rfl)
theorem tw19 {Z : State} {a0 : Array Value} (hw : HW a0 Z) : ((Jvm.Cond.code ({ cls := "java/lang/Object", name := "<init>", desc := "()V" } : Jvm.MethodName) object_method_1_code (1 : Nat) (Option.none : Option Jvm.ClassFile.FieldType))).before a0 Z = true := hw _ (List.mem_of_getElem? (i := 19) rfl)
theorem tw20 {Z : State} {a0 : Array Value} (hw : HW a0 Z) : ((Jvm.Cond.fieldLink "java/lang/AbstractStringBuilder" (18 : Nat) "java/lang/String" "COMPACT_STRINGS" "Z")).before a0 Z = true := hw _ (List.mem_of_getElem? (i := 20) rfl)
theorem tw21 {Z : State} {a0 : Array Value} (hw : HW a0 Z) : ((Jvm.Cond.initialized "java/lang/String")).before a0 Z = true := hw _ (List.mem_of_getElem? (i := 21) rfl)
theorem tw22 {Z : State} {a0 : Array Value} (hw : HW a0 Z) : ((Jvm.Cond.arrayClass Jvm.ClassFile.FieldType.byte)).before a0 Z = true := hw _ (List.mem_of_getElem? (i := 22) rfl)
theorem tw23 {Z : State} {a0 : Array Value} (hw : HW a0 Z) : ((Jvm.Cond.fieldLink "java/lang/AbstractStringBuilder" (15 : Nat) "java/lang/AbstractStringBuilder" "value" "[B")).before a0 Z = true := hw _ (List.mem_of_getElem? (i := 23) rfl)
theorem tw24 {Z : State} {a0 : Array Value} (hw : HW a0 Z) : ((Jvm.Cond.lays "java/lang/StringBuilder" "java/lang/AbstractStringBuilder" "value" "[B")).before a0 Z = true := hw _ (List.mem_of_getElem? (i := 24) rfl)
theorem tw25 {Z : State} {a0 : Array Value} (hw : HW a0 Z) : ((Jvm.Cond.fieldLink "java/lang/AbstractStringBuilder" (22 : Nat) "java/lang/AbstractStringBuilder" "coder" "B")).before a0 Z = true := hw _ (List.mem_of_getElem? (i := 25) rfl)
theorem tw26 {Z : State} {a0 : Array Value} (hw : HW a0 Z) : ((Jvm.Cond.lays "java/lang/StringBuilder" "java/lang/AbstractStringBuilder" "coder" "B")).before a0 Z = true := hw _ (List.mem_of_getElem? (i := 26) rfl)
theorem tw27 {Z : State} {a0 : Array Value} (hw : HW a0 Z) : ((Jvm.Cond.methodLink "com/example/faithful_doubles/faithfuldoubles/doubles/ArgumentMatcher" (62 : Nat) ({ cls := "java/lang/StringBuilder", name := "append", desc := "(I)Ljava/lang/StringBuilder;" } : Jvm.MethodName))).before a0 Z = true := hw _ (List.mem_of_getElem? (i := 27) rfl)
theorem tw28 {Z : State} {a0 : Array Value} (hw : HW a0 Z) : ((Jvm.Cond.declares ({ cls := "java/lang/StringBuilder", name := "append", desc := "(I)Ljava/lang/StringBuilder;" } : Jvm.MethodName))).before a0 Z = true := hw _ (List.mem_of_getElem? (i := 28) rfl)
theorem tw29 {Z : State} {a0 : Array Value} (hw : HW a0 Z) : ((Jvm.Cond.instanceMethod ({ cls := "java/lang/StringBuilder", name := "append", desc := "(I)Ljava/lang/StringBuilder;" } : Jvm.MethodName))).before a0 Z = true := hw _ (List.mem_of_getElem? (i := 29) rfl)
theorem tw30 {Z : State} {a0 : Array Value} (hw : HW a0 Z) : ((Jvm.Cond.selects "java/lang/StringBuilder" ({ cls := "java/lang/StringBuilder", name := "append", desc := "(I)Ljava/lang/StringBuilder;" } : Jvm.MethodName) ({ cls := "java/lang/StringBuilder", name := "append", desc := "(I)Ljava/lang/StringBuilder;" } : Jvm.MethodName))).before a0 Z = true := hw _ (List.mem_of_getElem? (i := 30) rfl)
theorem tw31 {Z : State} {a0 : Array Value} (hw : HW a0 Z) : ((Jvm.Cond.code ({ cls := "java/lang/StringBuilder", name := "append", desc := "(I)Ljava/lang/StringBuilder;" } : Jvm.MethodName) jdk_67_method_15_code (2 : Nat) (Option.some (Jvm.ClassFile.FieldType.object "java/lang/StringBuilder")))).before a0 Z = true := hw _ (List.mem_of_getElem? (i := 31) rfl)
theorem tw32 {Z : State} {a0 : Array Value} (hw : HW a0 Z) : ((Jvm.Cond.methodLink "java/lang/StringBuilder" (53 : Nat) ({ cls := "java/lang/AbstractStringBuilder", name := "append", desc := "(I)Ljava/lang/AbstractStringBuilder;" } : Jvm.MethodName))).before a0 Z = true := hw _ (List.mem_of_getElem? (i := 32) rfl)
theorem tw33 {Z : State} {a0 : Array Value} (hw : HW a0 Z) : ((Jvm.Cond.instanceMethod ({ cls := "java/lang/AbstractStringBuilder", name := "append", desc := "(I)Ljava/lang/AbstractStringBuilder;" } : Jvm.MethodName))).before a0 Z = true := hw _ (List.mem_of_getElem? (i := 33) rfl)
theorem tw34 {Z : State} {a0 : Array Value} (hw : HW a0 Z) : ((Jvm.Cond.superclass "java/lang/StringBuilder" "java/lang/AbstractStringBuilder")).before a0 Z = true := hw _ (List.mem_of_getElem? (i := 34) rfl)
theorem tw35 {Z : State} {a0 : Array Value} (hw : HW a0 Z) : ((Jvm.Cond.declares ({ cls := "java/lang/AbstractStringBuilder", name := "append", desc := "(I)Ljava/lang/AbstractStringBuilder;" } : Jvm.MethodName))).before a0 Z = true := hw _ (List.mem_of_getElem? (i := 35) rfl)
theorem tw36 {Z : State} {a0 : Array Value} (hw : HW a0 Z) : ((Jvm.Cond.code ({ cls := "java/lang/AbstractStringBuilder", name := "append", desc := "(I)Ljava/lang/AbstractStringBuilder;" } : Jvm.MethodName) jdk_68_method_32_code (4 : Nat) (Option.some (Jvm.ClassFile.FieldType.object "java/lang/AbstractStringBuilder")))).before a0 Z = true := hw _ (List.mem_of_getElem? (i := 36) rfl)
theorem tw37 {Z : State} {a0 : Array Value} (hw : HW a0 Z) : ((Jvm.Cond.fieldLink "java/lang/AbstractStringBuilder" (79 : Nat) "java/lang/AbstractStringBuilder" "count" "I")).before a0 Z = true := hw _ (List.mem_of_getElem? (i := 37) rfl)
theorem tw38 {Z : State} {a0 : Array Value} (hw : HW a0 Z) : ((Jvm.Cond.lays "java/lang/StringBuilder" "java/lang/AbstractStringBuilder" "count" "I")).before a0 Z = true := hw _ (List.mem_of_getElem? (i := 38) rfl)
theorem tw39 {Z : State} {a0 : Array Value} (hw : HW a0 Z) : ((Jvm.Cond.methodLink "java/lang/AbstractStringBuilder" (245 : Nat) ({ cls := "java/lang/Integer", name := "stringSize", desc := "(I)I" } : Jvm.MethodName))).before a0 Z = true := hw _ (List.mem_of_getElem? (i := 39) rfl)
theorem tw40 {Z : State} {a0 : Array Value} (hw : HW a0 Z) : ((Jvm.Cond.static ({ cls := "java/lang/Integer", name := "stringSize", desc := "(I)I" } : Jvm.MethodName))).before a0 Z = true := hw _ (List.mem_of_getElem? (i := 40) rfl)
theorem tw41 {Z : State} {a0 : Array Value} (hw : HW a0 Z) : ((Jvm.Cond.initialized "java/lang/Integer")).before a0 Z = true := hw _ (List.mem_of_getElem? (i := 41) rfl)
theorem tw42 {Z : State} {a0 : Array Value} (hw : HW a0 Z) : ((Jvm.Cond.code ({ cls := "java/lang/Integer", name := "stringSize", desc := "(I)I" } : Jvm.MethodName) jdk_33_method_13_code (4 : Nat) (Option.some Jvm.ClassFile.FieldType.int))).before a0 Z = true := hw _ (List.mem_of_getElem? (i := 42) rfl)
theorem tw43 {Z : State} {a0 : Array Value} (hw : HW a0 Z) : ((Jvm.Cond.methodLink "java/lang/AbstractStringBuilder" (100 : Nat) ({ cls := "java/lang/AbstractStringBuilder", name := "ensureCapacityInternal", desc := "(I)V" } : Jvm.MethodName))).before a0 Z = true := hw _ (List.mem_of_getElem? (i := 43) rfl)
theorem tw44 {Z : State} {a0 : Array Value} (hw : HW a0 Z) : ((Jvm.Cond.instanceMethod ({ cls := "java/lang/AbstractStringBuilder", name := "ensureCapacityInternal", desc := "(I)V" } : Jvm.MethodName))).before a0 Z = true := hw _ (List.mem_of_getElem? (i := 44) rfl)
theorem tw45 {Z : State} {a0 : Array Value} (hw : HW a0 Z) : ((Jvm.Cond.privateMethod ({ cls := "java/lang/AbstractStringBuilder", name := "ensureCapacityInternal", desc := "(I)V" } : Jvm.MethodName))).before a0 Z = true := hw _ (List.mem_of_getElem? (i := 45) rfl)
theorem tw46 {Z : State} {a0 : Array Value} (hw : HW a0 Z) : ((Jvm.Cond.selects "java/lang/StringBuilder" ({ cls := "java/lang/AbstractStringBuilder", name := "ensureCapacityInternal", desc := "(I)V" } : Jvm.MethodName) ({ cls := "java/lang/AbstractStringBuilder", name := "ensureCapacityInternal", desc := "(I)V" } : Jvm.MethodName))).before a0 Z = true := hw _ (List.mem_of_getElem? (i := 46) rfl)
theorem tw47 {Z : State} {a0 : Array Value} (hw : HW a0 Z) : ((Jvm.Cond.code ({ cls := "java/lang/AbstractStringBuilder", name := "ensureCapacityInternal", desc := "(I)V" } : Jvm.MethodName) jdk_68_method_9_code (3 : Nat) (Option.none : Option Jvm.ClassFile.FieldType))).before a0 Z = true := hw _ (List.mem_of_getElem? (i := 47) rfl)
theorem tw48 {Z : State} {a0 : Array Value} (hw : HW a0 Z) : ((Jvm.Cond.methodLink "java/lang/AbstractStringBuilder" (83 : Nat) ({ cls := "java/lang/AbstractStringBuilder", name := "isLatin1", desc := "()Z" } : Jvm.MethodName))).before a0 Z = true := hw _ (List.mem_of_getElem? (i := 48) rfl)
theorem tw49 {Z : State} {a0 : Array Value} (hw : HW a0 Z) : ((Jvm.Cond.declares ({ cls := "java/lang/AbstractStringBuilder", name := "isLatin1", desc := "()Z" } : Jvm.MethodName))).before a0 Z = true := hw _ (List.mem_of_getElem? (i := 49) rfl)
theorem tw50 {Z : State} {a0 : Array Value} (hw : HW a0 Z) : ((Jvm.Cond.instanceMethod ({ cls := "java/lang/AbstractStringBuilder", name := "isLatin1", desc := "()Z" } : Jvm.MethodName))).before a0 Z = true := hw _ (List.mem_of_getElem? (i := 50) rfl)
theorem tw51 {Z : State} {a0 : Array Value} (hw : HW a0 Z) : ((Jvm.Cond.selects "java/lang/StringBuilder" ({ cls := "java/lang/AbstractStringBuilder", name := "isLatin1", desc := "()Z" } : Jvm.MethodName) ({ cls := "java/lang/AbstractStringBuilder", name := "isLatin1", desc := "()Z" } : Jvm.MethodName))).before a0 Z = true := hw _ (List.mem_of_getElem? (i := 51) rfl)
theorem tw52 {Z : State} {a0 : Array Value} (hw : HW a0 Z) : ((Jvm.Cond.code ({ cls := "java/lang/AbstractStringBuilder", name := "isLatin1", desc := "()Z" } : Jvm.MethodName) jdk_68_method_68_code (1 : Nat) (Option.some Jvm.ClassFile.FieldType.boolean))).before a0 Z = true := hw _ (List.mem_of_getElem? (i := 52) rfl)
theorem tw53 {Z : State} {a0 : Array Value} (hw : HW a0 Z) : ((Jvm.Cond.methodLink "java/lang/AbstractStringBuilder" (248 : Nat) ({ cls := "java/lang/Integer", name := "getChars", desc := "(II[B)I" } : Jvm.MethodName))).before a0 Z = true := hw _ (List.mem_of_getElem? (i := 53) rfl)
theorem tw54 {Z : State} {a0 : Array Value} (hw : HW a0 Z) : ((Jvm.Cond.static ({ cls := "java/lang/Integer", name := "getChars", desc := "(II[B)I" } : Jvm.MethodName))).before a0 Z = true := hw _ (List.mem_of_getElem? (i := 54) rfl)
theorem tw55 {Z : State} {a0 : Array Value} (hw : HW a0 Z) : ((Jvm.Cond.code ({ cls := "java/lang/Integer", name := "getChars", desc := "(II[B)I" } : Jvm.MethodName) jdk_33_method_12_code (7 : Nat) (Option.some Jvm.ClassFile.FieldType.int))).before a0 Z = true := hw _ (List.mem_of_getElem? (i := 55) rfl)
theorem tw56 {Z : State} {a0 : Array Value} (hw : HW a0 Z) : ((Jvm.Cond.fieldLink "java/lang/Integer" (83 : Nat) "java/lang/Integer" "DigitOnes" "[B")).before a0 Z = true := hw _ (List.mem_of_getElem? (i := 56) rfl)
theorem tw57 {Z : State} {a0 : Array Value} (hw : HW a0 Z) : ((Jvm.Cond.stringLink "com/example/faithful_doubles/faithfuldoubles/doubles/ArgumentMatcher" (66 : Nat) " matchers")).before a0 Z = true := hw _ (List.mem_of_getElem? (i := 57) rfl)
theorem tw58 {Z : State} {a0 : Array Value} (hw : HW a0 Z) : ((Jvm.Cond.instantiable "java/lang/String" (4 : Nat))).before a0 Z = true := hw _ (List.mem_of_getElem? (i := 58) rfl)
theorem tw59 {Z : State} {a0 : Array Value} (hw : HW a0 Z) : ((Jvm.Cond.laysFinal "java/lang/String" "java/lang/String" "value" "[B")).before a0 Z = true := hw _ (List.mem_of_getElem? (i := 59) rfl)
theorem tw60 {Z : State} {a0 : Array Value} (hw : HW a0 Z) : ((Jvm.Cond.laysFinal "java/lang/String" "java/lang/String" "coder" "B")).before a0 Z = true := hw _ (List.mem_of_getElem? (i := 60) rfl)
theorem tw61 {Z : State} {a0 : Array Value} (hw : HW a0 Z) : ((Jvm.Cond.soleField "java/lang/String" "value")).before a0 Z = true := hw _ (List.mem_of_getElem? (i := 61) rfl)
theorem tw62 {Z : State} {a0 : Array Value} (hw : HW a0 Z) : ((Jvm.Cond.soleField "java/lang/String" "coder")).before a0 Z = true := hw _ (List.mem_of_getElem? (i := 62) rfl)
theorem tw63 {Z : State} {a0 : Array Value} (hw : HW a0 Z) : ((Jvm.Cond.methodLink "com/example/faithful_doubles/faithfuldoubles/doubles/ArgumentMatcher" (68 : Nat) ({ cls := "java/lang/StringBuilder", name := "append", desc := "(Ljava/lang/String;)Ljava/lang/StringBuilder;" } : Jvm.MethodName))).before a0 Z = true := hw _ (List.mem_of_getElem? (i := 63) rfl)
theorem tw64 {Z : State} {a0 : Array Value} (hw : HW a0 Z) : ((Jvm.Cond.declares ({ cls := "java/lang/StringBuilder", name := "append", desc := "(Ljava/lang/String;)Ljava/lang/StringBuilder;" } : Jvm.MethodName))).before a0 Z = true := hw _ (List.mem_of_getElem? (i := 64) rfl)
theorem tw65 {Z : State} {a0 : Array Value} (hw : HW a0 Z) : ((Jvm.Cond.instanceMethod ({ cls := "java/lang/StringBuilder", name := "append", desc := "(Ljava/lang/String;)Ljava/lang/StringBuilder;" } : Jvm.MethodName))).before a0 Z = true := hw _ (List.mem_of_getElem? (i := 65) rfl)
theorem tw66 {Z : State} {a0 : Array Value} (hw : HW a0 Z) : ((Jvm.Cond.selects "java/lang/StringBuilder" ({ cls := "java/lang/StringBuilder", name := "append", desc := "(Ljava/lang/String;)Ljava/lang/StringBuilder;" } : Jvm.MethodName) ({ cls := "java/lang/StringBuilder", name := "append", desc := "(Ljava/lang/String;)Ljava/lang/StringBuilder;" } : Jvm.MethodName))).before a0 Z = true := hw _ (List.mem_of_getElem? (i := 66) rfl)
theorem tw67 {Z : State} {a0 : Array Value} (hw : HW a0 Z) : ((Jvm.Cond.code ({ cls := "java/lang/StringBuilder", name := "append", desc := "(Ljava/lang/String;)Ljava/lang/StringBuilder;" } : Jvm.MethodName) jdk_67_method_7_code (2 : Nat) (Option.some (Jvm.ClassFile.FieldType.object "java/lang/StringBuilder")))).before a0 Z = true := hw _ (List.mem_of_getElem? (i := 67) rfl)
theorem tw68 {Z : State} {a0 : Array Value} (hw : HW a0 Z) : ((Jvm.Cond.methodLink "java/lang/StringBuilder" (29 : Nat) ({ cls := "java/lang/AbstractStringBuilder", name := "append", desc := "(Ljava/lang/String;)Ljava/lang/AbstractStringBuilder;" } : Jvm.MethodName))).before a0 Z = true := hw _ (List.mem_of_getElem? (i := 68) rfl)
theorem tw69 {Z : State} {a0 : Array Value} (hw : HW a0 Z) : ((Jvm.Cond.instanceMethod ({ cls := "java/lang/AbstractStringBuilder", name := "append", desc := "(Ljava/lang/String;)Ljava/lang/AbstractStringBuilder;" } : Jvm.MethodName))).before a0 Z = true := hw _ (List.mem_of_getElem? (i := 69) rfl)
theorem tw70 {Z : State} {a0 : Array Value} (hw : HW a0 Z) : ((Jvm.Cond.declares ({ cls := "java/lang/AbstractStringBuilder", name := "append", desc := "(Ljava/lang/String;)Ljava/lang/AbstractStringBuilder;" } : Jvm.MethodName))).before a0 Z = true := hw _ (List.mem_of_getElem? (i := 70) rfl)
theorem tw71 {Z : State} {a0 : Array Value} (hw : HW a0 Z) : ((Jvm.Cond.code ({ cls := "java/lang/AbstractStringBuilder", name := "append", desc := "(Ljava/lang/String;)Ljava/lang/AbstractStringBuilder;" } : Jvm.MethodName) jdk_68_method_22_code (3 : Nat) (Option.some (Jvm.ClassFile.FieldType.object "java/lang/AbstractStringBuilder")))).before a0 Z = true := hw _ (List.mem_of_getElem? (i := 71) rfl)
theorem tw72 {Z : State} {a0 : Array Value} (hw : HW a0 Z) : ((Jvm.Cond.methodLink "java/lang/AbstractStringBuilder" (32 : Nat) ({ cls := "java/lang/String", name := "length", desc := "()I" } : Jvm.MethodName))).before a0 Z = true := hw _ (List.mem_of_getElem? (i := 72) rfl)
theorem tw73 {Z : State} {a0 : Array Value} (hw : HW a0 Z) : ((Jvm.Cond.declares ({ cls := "java/lang/String", name := "length", desc := "()I" } : Jvm.MethodName))).before a0 Z = true := hw _ (List.mem_of_getElem? (i := 73) rfl)
theorem tw74 {Z : State} {a0 : Array Value} (hw : HW a0 Z) : ((Jvm.Cond.instanceMethod ({ cls := "java/lang/String", name := "length", desc := "()I" } : Jvm.MethodName))).before a0 Z = true := hw _ (List.mem_of_getElem? (i := 74) rfl)
theorem tw75 {Z : State} {a0 : Array Value} (hw : HW a0 Z) : ((Jvm.Cond.selects "java/lang/String" ({ cls := "java/lang/String", name := "length", desc := "()I" } : Jvm.MethodName) ({ cls := "java/lang/String", name := "length", desc := "()I" } : Jvm.MethodName))).before a0 Z = true := hw _ (List.mem_of_getElem? (i := 75) rfl)
theorem tw76 {Z : State} {a0 : Array Value} (hw : HW a0 Z) : ((Jvm.Cond.code ({ cls := "java/lang/String", name := "length", desc := "()I" } : Jvm.MethodName) jdk_42_method_54_code (1 : Nat) (Option.some Jvm.ClassFile.FieldType.int))).before a0 Z = true := hw _ (List.mem_of_getElem? (i := 76) rfl)
theorem tw77 {Z : State} {a0 : Array Value} (hw : HW a0 Z) : ((Jvm.Cond.fieldLink "java/lang/String" (9 : Nat) "java/lang/String" "value" "[B")).before a0 Z = true := hw _ (List.mem_of_getElem? (i := 77) rfl)
theorem tw78 {Z : State} {a0 : Array Value} (hw : HW a0 Z) : ((Jvm.Cond.methodLink "java/lang/String" (335 : Nat) ({ cls := "java/lang/String", name := "coder", desc := "()B" } : Jvm.MethodName))).before a0 Z = true := hw _ (List.mem_of_getElem? (i := 78) rfl)
theorem tw79 {Z : State} {a0 : Array Value} (hw : HW a0 Z) : ((Jvm.Cond.declares ({ cls := "java/lang/String", name := "coder", desc := "()B" } : Jvm.MethodName))).before a0 Z = true := hw _ (List.mem_of_getElem? (i := 79) rfl)
theorem tw80 {Z : State} {a0 : Array Value} (hw : HW a0 Z) : ((Jvm.Cond.instanceMethod ({ cls := "java/lang/String", name := "coder", desc := "()B" } : Jvm.MethodName))).before a0 Z = true := hw _ (List.mem_of_getElem? (i := 80) rfl)
theorem tw81 {Z : State} {a0 : Array Value} (hw : HW a0 Z) : ((Jvm.Cond.selects "java/lang/String" ({ cls := "java/lang/String", name := "coder", desc := "()B" } : Jvm.MethodName) ({ cls := "java/lang/String", name := "coder", desc := "()B" } : Jvm.MethodName))).before a0 Z = true := hw _ (List.mem_of_getElem? (i := 81) rfl)
theorem tw82 {Z : State} {a0 : Array Value} (hw : HW a0 Z) : ((Jvm.Cond.code ({ cls := "java/lang/String", name := "coder", desc := "()B" } : Jvm.MethodName) jdk_42_method_152_code (1 : Nat) (Option.some Jvm.ClassFile.FieldType.byte))).before a0 Z = true := hw _ (List.mem_of_getElem? (i := 82) rfl)
theorem tw83 {Z : State} {a0 : Array Value} (hw : HW a0 Z) : ((Jvm.Cond.fieldLink "java/lang/String" (38 : Nat) "java/lang/String" "COMPACT_STRINGS" "Z")).before a0 Z = true := hw _ (List.mem_of_getElem? (i := 83) rfl)
theorem tw84 {Z : State} {a0 : Array Value} (hw : HW a0 Z) : ((Jvm.Cond.fieldLink "java/lang/String" (15 : Nat) "java/lang/String" "coder" "B")).before a0 Z = true := hw _ (List.mem_of_getElem? (i := 84) rfl)
theorem tw85 {Z : State} {a0 : Array Value} (hw : HW a0 Z) : ((Jvm.Cond.methodLink "java/lang/AbstractStringBuilder" (208 : Nat) ({ cls := "java/lang/AbstractStringBuilder", name := "putStringAt", desc := "(ILjava/lang/String;)V" } : Jvm.MethodName))).before a0 Z = true := hw _ (List.mem_of_getElem? (i := 85) rfl)
theorem tw86 {Z : State} {a0 : Array Value} (hw : HW a0 Z) : ((Jvm.Cond.instanceMethod ({ cls := "java/lang/AbstractStringBuilder", name := "putStringAt", desc := "(ILjava/lang/String;)V" } : Jvm.MethodName))).before a0 Z = true := hw _ (List.mem_of_getElem? (i := 86) rfl)
theorem tw87 {Z : State} {a0 : Array Value} (hw : HW a0 Z) : ((Jvm.Cond.privateMethod ({ cls := "java/lang/AbstractStringBuilder", name := "putStringAt", desc := "(ILjava/lang/String;)V" } : Jvm.MethodName))).before a0 Z = true := hw _ (List.mem_of_getElem? (i := 87) rfl)
theorem tw88 {Z : State} {a0 : Array Value} (hw : HW a0 Z) : ((Jvm.Cond.selects "java/lang/StringBuilder" ({ cls := "java/lang/AbstractStringBuilder", name := "putStringAt", desc := "(ILjava/lang/String;)V" } : Jvm.MethodName) ({ cls := "java/lang/AbstractStringBuilder", name := "putStringAt", desc := "(ILjava/lang/String;)V" } : Jvm.MethodName))).before a0 Z = true := hw _ (List.mem_of_getElem? (i := 88) rfl)
theorem tw89 {Z : State} {a0 : Array Value} (hw : HW a0 Z) : ((Jvm.Cond.code ({ cls := "java/lang/AbstractStringBuilder", name := "putStringAt", desc := "(ILjava/lang/String;)V" } : Jvm.MethodName) jdk_68_method_73_code (3 : Nat) (Option.none : Option Jvm.ClassFile.FieldType))).before a0 Z = true := hw _ (List.mem_of_getElem? (i := 89) rfl)
theorem tw90 {Z : State} {a0 : Array Value} (hw : HW a0 Z) : ((Jvm.Cond.methodLink "java/lang/AbstractStringBuilder" (397 : Nat) ({ cls := "java/lang/AbstractStringBuilder", name := "inflateIfNeededFor", desc := "(Ljava/lang/String;)V" } : Jvm.MethodName))).before a0 Z = true := hw _ (List.mem_of_getElem? (i := 90) rfl)
theorem tw91 {Z : State} {a0 : Array Value} (hw : HW a0 Z) : ((Jvm.Cond.instanceMethod ({ cls := "java/lang/AbstractStringBuilder", name := "inflateIfNeededFor", desc := "(Ljava/lang/String;)V" } : Jvm.MethodName))).before a0 Z = true := hw _ (List.mem_of_getElem? (i := 91) rfl)
theorem tw92 {Z : State} {a0 : Array Value} (hw : HW a0 Z) : ((Jvm.Cond.privateMethod ({ cls := "java/lang/AbstractStringBuilder", name := "inflateIfNeededFor", desc := "(Ljava/lang/String;)V" } : Jvm.MethodName))).before a0 Z = true := hw _ (List.mem_of_getElem? (i := 92) rfl)
theorem tw93 {Z : State} {a0 : Array Value} (hw : HW a0 Z) : ((Jvm.Cond.selects "java/lang/StringBuilder" ({ cls := "java/lang/AbstractStringBuilder", name := "inflateIfNeededFor", desc := "(Ljava/lang/String;)V" } : Jvm.MethodName) ({ cls := "java/lang/AbstractStringBuilder", name := "inflateIfNeededFor", desc := "(Ljava/lang/String;)V" } : Jvm.MethodName))).before a0 Z = true := hw _ (List.mem_of_getElem? (i := 93) rfl)
theorem tw94 {Z : State} {a0 : Array Value} (hw : HW a0 Z) : ((Jvm.Cond.code ({ cls := "java/lang/AbstractStringBuilder", name := "inflateIfNeededFor", desc := "(Ljava/lang/String;)V" } : Jvm.MethodName) jdk_68_method_71_code (2 : Nat) (Option.none : Option Jvm.ClassFile.FieldType))).before a0 Z = true := hw _ (List.mem_of_getElem? (i := 94) rfl)
theorem tw95 {Z : State} {a0 : Array Value} (hw : HW a0 Z) : ((Jvm.Cond.methodLink "java/lang/AbstractStringBuilder" (40 : Nat) ({ cls := "java/lang/String", name := "coder", desc := "()B" } : Jvm.MethodName))).before a0 Z = true := hw _ (List.mem_of_getElem? (i := 95) rfl)
theorem tw96 {Z : State} {a0 : Array Value} (hw : HW a0 Z) : ((Jvm.Cond.methodLink "java/lang/AbstractStringBuilder" (399 : Nat) ({ cls := "java/lang/String", name := "getBytes", desc := "([BIB)V" } : Jvm.MethodName))).before a0 Z = true := hw _ (List.mem_of_getElem? (i := 96) rfl)
theorem tw97 {Z : State} {a0 : Array Value} (hw : HW a0 Z) : ((Jvm.Cond.declares ({ cls := "java/lang/String", name := "getBytes", desc := "([BIB)V" } : Jvm.MethodName))).before a0 Z = true := hw _ (List.mem_of_getElem? (i := 97) rfl)
theorem tw98 {Z : State} {a0 : Array Value} (hw : HW a0 Z) : ((Jvm.Cond.instanceMethod ({ cls := "java/lang/String", name := "getBytes", desc := "([BIB)V" } : Jvm.MethodName))).before a0 Z = true := hw _ (List.mem_of_getElem? (i := 98) rfl)
theorem tw99 {Z : State} {a0 : Array Value} (hw : HW a0 Z) : ((Jvm.Cond.selects "java/lang/String" ({ cls := "java/lang/String", name := "getBytes", desc := "([BIB)V" } : Jvm.MethodName) ({ cls := "java/lang/String", name := "getBytes", desc := "([BIB)V" } : Jvm.MethodName))).before a0 Z = true := hw _ (List.mem_of_getElem? (i := 99) rfl)
theorem tw100 {Z : State} {a0 : Array Value} (hw : HW a0 Z) : ((Jvm.Cond.code ({ cls := "java/lang/String", name := "getBytes", desc := "([BIB)V" } : Jvm.MethodName) jdk_42_method_147_code (4 : Nat) (Option.none : Option Jvm.ClassFile.FieldType))).before a0 Z = true := hw _ (List.mem_of_getElem? (i := 100) rfl)
theorem tw101 {Z : State} {a0 : Array Value} (hw : HW a0 Z) : ((Jvm.Cond.methodLink "java/lang/String" (212 : Nat) ({ cls := "java/lang/System", name := "arraycopy", desc := "(Ljava/lang/Object;ILjava/lang/Object;II)V" } : Jvm.MethodName))).before a0 Z = true := hw _ (List.mem_of_getElem? (i := 101) rfl)
theorem tw102 {Z : State} {a0 : Array Value} (hw : HW a0 Z) : ((Jvm.Cond.static ({ cls := "java/lang/System", name := "arraycopy", desc := "(Ljava/lang/Object;ILjava/lang/Object;II)V" } : Jvm.MethodName))).before a0 Z = true := hw _ (List.mem_of_getElem? (i := 102) rfl)
theorem tw103 {Z : State} {a0 : Array Value} (hw : HW a0 Z) : ((Jvm.Cond.initialized "java/lang/System")).before a0 Z = true := hw _ (List.mem_of_getElem? (i := 103) rfl)
theorem tw104 {Z : State} {a0 : Array Value} (hw : HW a0 Z) : ((Jvm.Cond.native ({ cls := "java/lang/System", name := "arraycopy", desc := "(Ljava/lang/Object;ILjava/lang/Object;II)V" } : Jvm.MethodName))).before a0 Z = true := hw _ (List.mem_of_getElem? (i := 104) rfl)
theorem tw105 {Z : State} {a0 : Array Value} (hw : HW a0 Z) : ((Jvm.Cond.methodLink "com/example/faithful_doubles/faithfuldoubles/doubles/ArgumentMatcher" (71 : Nat) ({ cls := "java/lang/StringBuilder", name := "toString", desc := "()Ljava/lang/String;" } : Jvm.MethodName))).before a0 Z = true := hw _ (List.mem_of_getElem? (i := 105) rfl)
theorem tw106 {Z : State} {a0 : Array Value} (hw : HW a0 Z) : ((Jvm.Cond.declares ({ cls := "java/lang/StringBuilder", name := "toString", desc := "()Ljava/lang/String;" } : Jvm.MethodName))).before a0 Z = true := hw _ (List.mem_of_getElem? (i := 106) rfl)
theorem tw107 {Z : State} {a0 : Array Value} (hw : HW a0 Z) : ((Jvm.Cond.instanceMethod ({ cls := "java/lang/StringBuilder", name := "toString", desc := "()Ljava/lang/String;" } : Jvm.MethodName))).before a0 Z = true := hw _ (List.mem_of_getElem? (i := 107) rfl)
theorem tw108 {Z : State} {a0 : Array Value} (hw : HW a0 Z) : ((Jvm.Cond.selects "java/lang/StringBuilder" ({ cls := "java/lang/StringBuilder", name := "toString", desc := "()Ljava/lang/String;" } : Jvm.MethodName) ({ cls := "java/lang/StringBuilder", name := "toString", desc := "()Ljava/lang/String;" } : Jvm.MethodName))).before a0 Z = true := hw _ (List.mem_of_getElem? (i := 108) rfl)
theorem tw109 {Z : State} {a0 : Array Value} (hw : HW a0 Z) : ((Jvm.Cond.code ({ cls := "java/lang/StringBuilder", name := "toString", desc := "()Ljava/lang/String;" } : Jvm.MethodName) jdk_67_method_42_code (1 : Nat) (Option.some (Jvm.ClassFile.FieldType.object "java/lang/String")))).before a0 Z = true := hw _ (List.mem_of_getElem? (i := 109) rfl)
theorem tw110 {Z : State} {a0 : Array Value} (hw : HW a0 Z) : ((Jvm.Cond.classLink "java/lang/StringBuilder" (18 : Nat) "java/lang/String")).before a0 Z = true := hw _ (List.mem_of_getElem? (i := 110) rfl)
theorem tw111 {Z : State} {a0 : Array Value} (hw : HW a0 Z) : ((Jvm.Cond.methodLink "java/lang/StringBuilder" (137 : Nat) ({ cls := "java/lang/String", name := "<init>", desc := "(Ljava/lang/StringBuilder;)V" } : Jvm.MethodName))).before a0 Z = true := hw _ (List.mem_of_getElem? (i := 111) rfl)
theorem tw112 {Z : State} {a0 : Array Value} (hw : HW a0 Z) : ((Jvm.Cond.instanceMethod ({ cls := "java/lang/String", name := "<init>", desc := "(Ljava/lang/StringBuilder;)V" } : Jvm.MethodName))).before a0 Z = true := hw _ (List.mem_of_getElem? (i := 112) rfl)
theorem tw114 {Z : State} {a0 : Array Value} (hw : HW a0 Z) : ((Jvm.Cond.code ({ cls := "java/lang/String", name := "<init>", desc := "(Ljava/lang/StringBuilder;)V" } : Jvm.MethodName) jdk_42_method_53_code (2 : Nat) (Option.none : Option Jvm.ClassFile.FieldType))).before a0 Z = true := hw _ (List.mem_of_getElem? (i := 114) rfl)
theorem tw115 {Z : State} {a0 : Array Value} (hw : HW a0 Z) : ((Jvm.Cond.methodLink "java/lang/String" (489 : Nat) ({ cls := "java/lang/String", name := "<init>", desc := "(Ljava/lang/AbstractStringBuilder;Ljava/lang/Void;)V" } : Jvm.MethodName))).before a0 Z = true := hw _ (List.mem_of_getElem? (i := 115) rfl)
theorem tw116 {Z : State} {a0 : Array Value} (hw : HW a0 Z) : ((Jvm.Cond.instanceMethod ({ cls := "java/lang/String", name := "<init>", desc := "(Ljava/lang/AbstractStringBuilder;Ljava/lang/Void;)V" } : Jvm.MethodName))).before a0 Z = true := hw _ (List.mem_of_getElem? (i := 116) rfl)
theorem tw117 {Z : State} {a0 : Array Value} (hw : HW a0 Z) : ((Jvm.Cond.code ({ cls := "java/lang/String", name := "<init>", desc := "(Ljava/lang/AbstractStringBuilder;Ljava/lang/Void;)V" } : Jvm.MethodName) jdk_42_method_150_code (5 : Nat) (Option.none : Option Jvm.ClassFile.FieldType))).before a0 Z = true := hw _ (List.mem_of_getElem? (i := 117) rfl)
theorem tw118 {Z : State} {a0 : Array Value} (hw : HW a0 Z) : ((Jvm.Cond.methodLink "java/lang/String" (1 : Nat) ({ cls := "java/lang/Object", name := "<init>", desc := "()V" } : Jvm.MethodName))).before a0 Z = true := hw _ (List.mem_of_getElem? (i := 118) rfl)
theorem tw119 {Z : State} {a0 : Array Value} (hw : HW a0 Z) : ((Jvm.Cond.methodLink "java/lang/String" (552 : Nat) ({ cls := "java/lang/AbstractStringBuilder", name := "getValue", desc := "()[B" } : Jvm.MethodName))).before a0 Z = true := hw _ (List.mem_of_getElem? (i := 119) rfl)
theorem tw120 {Z : State} {a0 : Array Value} (hw : HW a0 Z) : ((Jvm.Cond.declares ({ cls := "java/lang/AbstractStringBuilder", name := "getValue", desc := "()[B" } : Jvm.MethodName))).before a0 Z = true := hw _ (List.mem_of_getElem? (i := 120) rfl)
theorem tw121 {Z : State} {a0 : Array Value} (hw : HW a0 Z) : ((Jvm.Cond.instanceMethod ({ cls := "java/lang/AbstractStringBuilder", name := "getValue", desc := "()[B" } : Jvm.MethodName))).before a0 Z = true := hw _ (List.mem_of_getElem? (i := 121) rfl)
theorem tw122 {Z : State} {a0 : Array Value} (hw : HW a0 Z) : ((Jvm.Cond.selects "java/lang/StringBuilder" ({ cls := "java/lang/AbstractStringBuilder", name := "getValue", desc := "()[B" } : Jvm.MethodName) ({ cls := "java/lang/AbstractStringBuilder", name := "getValue", desc := "()[B" } : Jvm.MethodName))).before a0 Z = true := hw _ (List.mem_of_getElem? (i := 122) rfl)
theorem tw123 {Z : State} {a0 : Array Value} (hw : HW a0 Z) : ((Jvm.Cond.code ({ cls := "java/lang/AbstractStringBuilder", name := "getValue", desc := "()[B" } : Jvm.MethodName) jdk_68_method_64_code (1 : Nat) (Option.some (Jvm.ClassFile.FieldType.array Jvm.ClassFile.FieldType.byte)))).before a0 Z = true := hw _ (List.mem_of_getElem? (i := 123) rfl)
theorem tw124 {Z : State} {a0 : Array Value} (hw : HW a0 Z) : ((Jvm.Cond.methodLink "java/lang/String" (549 : Nat) ({ cls := "java/lang/AbstractStringBuilder", name := "length", desc := "()I" } : Jvm.MethodName))).before a0 Z = true := hw _ (List.mem_of_getElem? (i := 124) rfl)
theorem tw125 {Z : State} {a0 : Array Value} (hw : HW a0 Z) : ((Jvm.Cond.declares ({ cls := "java/lang/AbstractStringBuilder", name := "length", desc := "()I" } : Jvm.MethodName))).before a0 Z = true := hw _ (List.mem_of_getElem? (i := 125) rfl)
theorem tw126 {Z : State} {a0 : Array Value} (hw : HW a0 Z) : ((Jvm.Cond.instanceMethod ({ cls := "java/lang/AbstractStringBuilder", name := "length", desc := "()I" } : Jvm.MethodName))).before a0 Z = true := hw _ (List.mem_of_getElem? (i := 126) rfl)
theorem tw127 {Z : State} {a0 : Array Value} (hw : HW a0 Z) : ((Jvm.Cond.selects "java/lang/StringBuilder" ({ cls := "java/lang/AbstractStringBuilder", name := "length", desc := "()I" } : Jvm.MethodName) ({ cls := "java/lang/StringBuilder", name := "length", desc := "()I" } : Jvm.MethodName))).before a0 Z = true := hw _ (List.mem_of_getElem? (i := 127) rfl)
theorem tw128 {Z : State} {a0 : Array Value} (hw : HW a0 Z) : ((Jvm.Cond.instanceMethod ({ cls := "java/lang/StringBuilder", name := "length", desc := "()I" } : Jvm.MethodName))).before a0 Z = true := hw _ (List.mem_of_getElem? (i := 128) rfl)
theorem tw129 {Z : State} {a0 : Array Value} (hw : HW a0 Z) : ((Jvm.Cond.code ({ cls := "java/lang/StringBuilder", name := "length", desc := "()I" } : Jvm.MethodName) jdk_67_method_93_code (1 : Nat) (Option.some Jvm.ClassFile.FieldType.int))).before a0 Z = true := hw _ (List.mem_of_getElem? (i := 129) rfl)
theorem tw130 {Z : State} {a0 : Array Value} (hw : HW a0 Z) : ((Jvm.Cond.methodLink "java/lang/StringBuilder" (343 : Nat) ({ cls := "java/lang/AbstractStringBuilder", name := "length", desc := "()I" } : Jvm.MethodName))).before a0 Z = true := hw _ (List.mem_of_getElem? (i := 130) rfl)
theorem tw131 {Z : State} {a0 : Array Value} (hw : HW a0 Z) : ((Jvm.Cond.code ({ cls := "java/lang/AbstractStringBuilder", name := "length", desc := "()I" } : Jvm.MethodName) jdk_68_method_6_code (1 : Nat) (Option.some Jvm.ClassFile.FieldType.int))).before a0 Z = true := hw _ (List.mem_of_getElem? (i := 131) rfl)
theorem tw132 {Z : State} {a0 : Array Value} (hw : HW a0 Z) : ((Jvm.Cond.methodLink "java/lang/String" (1047 : Nat) ({ cls := "java/lang/AbstractStringBuilder", name := "isLatin1", desc := "()Z" } : Jvm.MethodName))).before a0 Z = true := hw _ (List.mem_of_getElem? (i := 132) rfl)
theorem tw133 {Z : State} {a0 : Array Value} (hw : HW a0 Z) : ((Jvm.Cond.methodLink "java/lang/String" (54 : Nat) ({ cls := "java/util/Arrays", name := "copyOfRange", desc := "([BII)[B" } : Jvm.MethodName))).before a0 Z = true := hw _ (List.mem_of_getElem? (i := 133) rfl)
theorem tw134 {Z : State} {a0 : Array Value} (hw : HW a0 Z) : ((Jvm.Cond.static ({ cls := "java/util/Arrays", name := "copyOfRange", desc := "([BII)[B" } : Jvm.MethodName))).before a0 Z = true := hw _ (List.mem_of_getElem? (i := 134) rfl)
theorem tw135 {Z : State} {a0 : Array Value} (hw : HW a0 Z) : ((Jvm.Cond.initialized "java/util/Arrays")).before a0 Z = true := hw _ (List.mem_of_getElem? (i := 135) rfl)
theorem tw136 {Z : State} {a0 : Array Value} (hw : HW a0 Z) : ((Jvm.Cond.code ({ cls := "java/util/Arrays", name := "copyOfRange", desc := "([BII)[B" } : Jvm.MethodName) jdk_65_method_132_code (3 : Nat) (Option.some (Jvm.ClassFile.FieldType.array Jvm.ClassFile.FieldType.byte)))).before a0 Z = true := hw _ (List.mem_of_getElem? (i := 136) rfl)
theorem tw137 {Z : State} {a0 : Array Value} (hw : HW a0 Z) : ((Jvm.Cond.methodLink "java/util/Arrays" (339 : Nat) ({ cls := "java/util/Arrays", name := "copyOfRangeByte", desc := "([BII)[B" } : Jvm.MethodName))).before a0 Z = true := hw _ (List.mem_of_getElem? (i := 137) rfl)
theorem tw138 {Z : State} {a0 : Array Value} (hw : HW a0 Z) : ((Jvm.Cond.static ({ cls := "java/util/Arrays", name := "copyOfRangeByte", desc := "([BII)[B" } : Jvm.MethodName))).before a0 Z = true := hw _ (List.mem_of_getElem? (i := 138) rfl)
theorem tw139 {Z : State} {a0 : Array Value} (hw : HW a0 Z) : ((Jvm.Cond.code ({ cls := "java/util/Arrays", name := "copyOfRangeByte", desc := "([BII)[B" } : Jvm.MethodName) jdk_65_method_133_code (5 : Nat) (Option.some (Jvm.ClassFile.FieldType.array Jvm.ClassFile.FieldType.byte)))).before a0 Z = true := hw _ (List.mem_of_getElem? (i := 139) rfl)
theorem tw140 {Z : State} {a0 : Array Value} (hw : HW a0 Z) : ((Jvm.Cond.methodLink "java/util/Arrays" (343 : Nat) ({ cls := "java/util/Arrays", name := "checkLength", desc := "(II)V" } : Jvm.MethodName))).before a0 Z = true := hw _ (List.mem_of_getElem? (i := 140) rfl)
theorem tw141 {Z : State} {a0 : Array Value} (hw : HW a0 Z) : ((Jvm.Cond.static ({ cls := "java/util/Arrays", name := "checkLength", desc := "(II)V" } : Jvm.MethodName))).before a0 Z = true := hw _ (List.mem_of_getElem? (i := 141) rfl)
theorem tw142 {Z : State} {a0 : Array Value} (hw : HW a0 Z) : ((Jvm.Cond.code ({ cls := "java/util/Arrays", name := "checkLength", desc := "(II)V" } : Jvm.MethodName) jdk_65_method_131_code (2 : Nat) (Option.none : Option Jvm.ClassFile.FieldType))).before a0 Z = true := hw _ (List.mem_of_getElem? (i := 142) rfl)
theorem tw143 {Z : State} {a0 : Array Value} (hw : HW a0 Z) : ((Jvm.Cond.methodLink "java/util/Arrays" (304 : Nat) ({ cls := "java/lang/Math", name := "min", desc := "(II)I" } : Jvm.MethodName))).before a0 Z = true := hw _ (List.mem_of_getElem? (i := 143) rfl)
theorem tw144 {Z : State} {a0 : Array Value} (hw : HW a0 Z) : ((Jvm.Cond.static ({ cls := "java/lang/Math", name := "min", desc := "(II)I" } : Jvm.MethodName))).before a0 Z = true := hw _ (List.mem_of_getElem? (i := 144) rfl)
theorem tw145 {Z : State} {a0 : Array Value} (hw : HW a0 Z) : ((Jvm.Cond.initialized "java/lang/Math")).before a0 Z = true := hw _ (List.mem_of_getElem? (i := 145) rfl)
theorem tw146 {Z : State} {a0 : Array Value} (hw : HW a0 Z) : ((Jvm.Cond.code ({ cls := "java/lang/Math", name := "min", desc := "(II)I" } : Jvm.MethodName) jdk_29_method_69_code (2 : Nat) (Option.some Jvm.ClassFile.FieldType.int))).before a0 Z = true := hw _ (List.mem_of_getElem? (i := 146) rfl)
theorem tw147 {Z : State} {a0 : Array Value} (hw : HW a0 Z) : ((Jvm.Cond.methodLink "java/util/Arrays" (150 : Nat) ({ cls := "java/lang/System", name := "arraycopy", desc := "(Ljava/lang/Object;ILjava/lang/Object;II)V" } : Jvm.MethodName))).before a0 Z = true := hw _ (List.mem_of_getElem? (i := 147) rfl)
theorem tw148 {Z : State} {a0 : Array Value} (hw : HW a0 Z) : ((Jvm.Cond.stringLink "com/example/faithful_doubles/faithfuldoubles/doubles/ArgumentMatcher" (75 : Nat) " expected, ")).before a0 Z = true := hw _ (List.mem_of_getElem? (i := 148) rfl)
theorem tw149 {Z : State} {a0 : Array Value} (hw : HW a0 Z) : ((Jvm.Cond.methodLink "java/lang/AbstractStringBuilder" (104 : Nat) ({ cls := "java/lang/AbstractStringBuilder", name := "newCapacity", desc := "(I)I" } : Jvm.MethodName))).before a0 Z = true := hw _ (List.mem_of_getElem? (i := 149) rfl)
theorem tw150 {Z : State} {a0 : Array Value} (hw : HW a0 Z) : ((Jvm.Cond.instanceMethod ({ cls := "java/lang/AbstractStringBuilder", name := "newCapacity", desc := "(I)I" } : Jvm.MethodName))).before a0 Z = true := hw _ (List.mem_of_getElem? (i := 150) rfl)
theorem tw151 {Z : State} {a0 : Array Value} (hw : HW a0 Z) : ((Jvm.Cond.privateMethod ({ cls := "java/lang/AbstractStringBuilder", name := "newCapacity", desc := "(I)I" } : Jvm.MethodName))).before a0 Z = true := hw _ (List.mem_of_getElem? (i := 151) rfl)
theorem tw152 {Z : State} {a0 : Array Value} (hw : HW a0 Z) : ((Jvm.Cond.selects "java/lang/StringBuilder" ({ cls := "java/lang/AbstractStringBuilder", name := "newCapacity", desc := "(I)I" } : Jvm.MethodName) ({ cls := "java/lang/AbstractStringBuilder", name := "newCapacity", desc := "(I)I" } : Jvm.MethodName))).before a0 Z = true := hw _ (List.mem_of_getElem? (i := 152) rfl)
theorem tw153 {Z : State} {a0 : Array Value} (hw : HW a0 Z) : ((Jvm.Cond.code ({ cls := "java/lang/AbstractStringBuilder", name := "newCapacity", desc := "(I)I" } : Jvm.MethodName) jdk_68_method_10_code (6 : Nat) (Option.some Jvm.ClassFile.FieldType.int))).before a0 Z = true := hw _ (List.mem_of_getElem? (i := 153) rfl)
theorem tw154 {Z : State} {a0 : Array Value} (hw : HW a0 Z) : ((Jvm.Cond.methodLink "java/lang/AbstractStringBuilder" (114 : Nat) ({ cls := "jdk/internal/util/ArraysSupport", name := "newLength", desc := "(III)I" } : Jvm.MethodName))).before a0 Z = true := hw _ (List.mem_of_getElem? (i := 154) rfl)
theorem tw155 {Z : State} {a0 : Array Value} (hw : HW a0 Z) : ((Jvm.Cond.static ({ cls := "jdk/internal/util/ArraysSupport", name := "newLength", desc := "(III)I" } : Jvm.MethodName))).before a0 Z = true := hw _ (List.mem_of_getElem? (i := 155) rfl)
theorem tw156 {Z : State} {a0 : Array Value} (hw : HW a0 Z) : ((Jvm.Cond.initialized "jdk/internal/util/ArraysSupport")).before a0 Z = true := hw _ (List.mem_of_getElem? (i := 156) rfl)
theorem tw157 {Z : State} {a0 : Array Value} (hw : HW a0 Z) : ((Jvm.Cond.code ({ cls := "jdk/internal/util/ArraysSupport", name := "newLength", desc := "(III)I" } : Jvm.MethodName) jdk_48_method_27_code (4 : Nat) (Option.some Jvm.ClassFile.FieldType.int))).before a0 Z = true := hw _ (List.mem_of_getElem? (i := 157) rfl)
theorem tw158 {Z : State} {a0 : Array Value} (hw : HW a0 Z) : ((Jvm.Cond.methodLink "jdk/internal/util/ArraysSupport" (194 : Nat) ({ cls := "java/lang/Math", name := "max", desc := "(II)I" } : Jvm.MethodName))).before a0 Z = true := hw _ (List.mem_of_getElem? (i := 158) rfl)
theorem tw159 {Z : State} {a0 : Array Value} (hw : HW a0 Z) : ((Jvm.Cond.static ({ cls := "java/lang/Math", name := "max", desc := "(II)I" } : Jvm.MethodName))).before a0 Z = true := hw _ (List.mem_of_getElem? (i := 159) rfl)
theorem tw160 {Z : State} {a0 : Array Value} (hw : HW a0 Z) : ((Jvm.Cond.code ({ cls := "java/lang/Math", name := "max", desc := "(II)I" } : Jvm.MethodName) jdk_29_method_65_code (2 : Nat) (Option.some Jvm.ClassFile.FieldType.int))).before a0 Z = true := hw _ (List.mem_of_getElem? (i := 160) rfl)
theorem tw161 {Z : State} {a0 : Array Value} (hw : HW a0 Z) : ((Jvm.Cond.constant "jdk/internal/util/ArraysSupport" (200 : Nat) (2147483639 : Int32))).before a0 Z = true := hw _ (List.mem_of_getElem? (i := 161) rfl)
theorem tw162 {Z : State} {a0 : Array Value} (hw : HW a0 Z) : ((Jvm.Cond.constant "java/lang/AbstractStringBuilder" (39 : Nat) (2147483647 : Int32))).before a0 Z = true := hw _ (List.mem_of_getElem? (i := 162) rfl)
theorem tw163 {Z : State} {a0 : Array Value} (hw : HW a0 Z) : ((Jvm.Cond.methodLink "java/lang/AbstractStringBuilder" (108 : Nat) ({ cls := "java/util/Arrays", name := "copyOf", desc := "([BI)[B" } : Jvm.MethodName))).before a0 Z = true := hw _ (List.mem_of_getElem? (i := 163) rfl)
theorem tw164 {Z : State} {a0 : Array Value} (hw : HW a0 Z) : ((Jvm.Cond.static ({ cls := "java/util/Arrays", name := "copyOf", desc := "([BI)[B" } : Jvm.MethodName))).before a0 Z = true := hw _ (List.mem_of_getElem? (i := 164) rfl)
theorem tw165 {Z : State} {a0 : Array Value} (hw : HW a0 Z) : ((Jvm.Cond.code ({ cls := "java/util/Arrays", name := "copyOf", desc := "([BI)[B" } : Jvm.MethodName) jdk_65_method_121_code (3 : Nat) (Option.some (Jvm.ClassFile.FieldType.array Jvm.ClassFile.FieldType.byte)))).before a0 Z = true := hw _ (List.mem_of_getElem? (i := 165) rfl)
theorem tw166 {Z : State} {a0 : Array Value} (hw : HW a0 Z) : ((Jvm.Cond.stringLink "com/example/faithful_doubles/faithfuldoubles/doubles/ArgumentMatcher" (77 : Nat) " recorded.")).before a0 Z = true := hw _ (List.mem_of_getElem? (i := 166) rfl)
theorem tw167 {Z : State} {a0 : Array Value} (hw : HW a0 Z) : ((Jvm.Cond.classLink "com/example/faithful_doubles/faithfuldoubles/doubles/ArgumentMatcherCountedPinLaw" (14 : Nat) "java/lang/String")).before a0 Z = true := hw _ (List.mem_of_getElem? (i := 167) rfl)
theorem tw168 {Z : State} {a0 : Array Value} (hw : HW a0 Z) : ((Jvm.Cond.arrayClass Jvm.ClassFile.FieldType.char)).before a0 Z = true := hw _ (List.mem_of_getElem? (i := 168) rfl)
theorem tw169 {Z : State} {a0 : Array Value} (hw : HW a0 Z) : ((Jvm.Cond.methodLink "com/example/faithful_doubles/faithfuldoubles/doubles/ArgumentMatcherCountedPinLaw" (16 : Nat) ({ cls := "java/lang/String", name := "<init>", desc := "([C)V" } : Jvm.MethodName))).before a0 Z = true := hw _ (List.mem_of_getElem? (i := 169) rfl)
theorem tw170 {Z : State} {a0 : Array Value} (hw : HW a0 Z) : ((Jvm.Cond.instanceMethod ({ cls := "java/lang/String", name := "<init>", desc := "([C)V" } : Jvm.MethodName))).before a0 Z = true := hw _ (List.mem_of_getElem? (i := 170) rfl)
theorem tw171 {Z : State} {a0 : Array Value} (hw : HW a0 Z) : ((Jvm.Cond.code ({ cls := "java/lang/String", name := "<init>", desc := "([C)V" } : Jvm.MethodName) jdk_42_method_3_code (2 : Nat) (Option.none : Option Jvm.ClassFile.FieldType))).before a0 Z = true := hw _ (List.mem_of_getElem? (i := 171) rfl)
theorem tw172 {Z : State} {a0 : Array Value} (hw : HW a0 Z) : ((Jvm.Cond.methodLink "java/lang/String" (27 : Nat) ({ cls := "java/lang/String", name := "<init>", desc := "([CIILjava/lang/Void;)V" } : Jvm.MethodName))).before a0 Z = true := hw _ (List.mem_of_getElem? (i := 172) rfl)
theorem tw173 {Z : State} {a0 : Array Value} (hw : HW a0 Z) : ((Jvm.Cond.instanceMethod ({ cls := "java/lang/String", name := "<init>", desc := "([CIILjava/lang/Void;)V" } : Jvm.MethodName))).before a0 Z = true := hw _ (List.mem_of_getElem? (i := 173) rfl)
theorem tw174 {Z : State} {a0 : Array Value} (hw : HW a0 Z) : ((Jvm.Cond.code ({ cls := "java/lang/String", name := "<init>", desc := "([CIILjava/lang/Void;)V" } : Jvm.MethodName) jdk_42_method_149_code (6 : Nat) (Option.none : Option Jvm.ClassFile.FieldType))).before a0 Z = true := hw _ (List.mem_of_getElem? (i := 174) rfl)
theorem tw175 {Z : State} {a0 : Array Value} (hw : HW a0 Z) : ((Jvm.Cond.methodLink "java/lang/String" (177 : Nat) ({ cls := "java/lang/StringUTF16", name := "compress", desc := "([CII)[B" } : Jvm.MethodName))).before a0 Z = true := hw _ (List.mem_of_getElem? (i := 175) rfl)
theorem tw176 {Z : State} {a0 : Array Value} (hw : HW a0 Z) : ((Jvm.Cond.static ({ cls := "java/lang/StringUTF16", name := "compress", desc := "([CII)[B" } : Jvm.MethodName))).before a0 Z = true := hw _ (List.mem_of_getElem? (i := 176) rfl)
theorem tw177 {Z : State} {a0 : Array Value} (hw : HW a0 Z) : ((Jvm.Cond.initialized "java/lang/StringUTF16")).before a0 Z = true := hw _ (List.mem_of_getElem? (i := 177) rfl)
theorem tw178 {Z : State} {a0 : Array Value} (hw : HW a0 Z) : ((Jvm.Cond.code ({ cls := "java/lang/StringUTF16", name := "compress", desc := "([CII)[B" } : Jvm.MethodName) jdk_52_method_16_code (6 : Nat) (Option.some (Jvm.ClassFile.FieldType.array Jvm.ClassFile.FieldType.byte)))).before a0 Z = true := hw _ (List.mem_of_getElem? (i := 178) rfl)
theorem tw179 {Z : State} {a0 : Array Value} (hw : HW a0 Z) : ((Jvm.Cond.methodLink "java/lang/StringUTF16" (115 : Nat) ({ cls := "java/lang/StringUTF16", name := "compress", desc := "([CI[BII)I" } : Jvm.MethodName))).before a0 Z = true := hw _ (List.mem_of_getElem? (i := 179) rfl)
theorem tw180 {Z : State} {a0 : Array Value} (hw : HW a0 Z) : ((Jvm.Cond.static ({ cls := "java/lang/StringUTF16", name := "compress", desc := "([CI[BII)I" } : Jvm.MethodName))).before a0 Z = true := hw _ (List.mem_of_getElem? (i := 180) rfl)
theorem tw181 {Z : State} {a0 : Array Value} (hw : HW a0 Z) : ((Jvm.Cond.code ({ cls := "java/lang/StringUTF16", name := "compress", desc := "([CI[BII)I" } : Jvm.MethodName) jdk_52_method_21_code (7 : Nat) (Option.some Jvm.ClassFile.FieldType.int))).before a0 Z = true := hw _ (List.mem_of_getElem? (i := 181) rfl)
theorem tw182 {Z : State} {a0 : Array Value} (hw : HW a0 Z) : ((Jvm.Cond.methodLink "java/lang/String" (47 : Nat) ({ cls := "java/lang/StringUTF16", name := "coderFromArrayLen", desc := "([BI)B" } : Jvm.MethodName))).before a0 Z = true := hw _ (List.mem_of_getElem? (i := 182) rfl)
theorem tw183 {Z : State} {a0 : Array Value} (hw : HW a0 Z) : ((Jvm.Cond.static ({ cls := "java/lang/StringUTF16", name := "coderFromArrayLen", desc := "([BI)B" } : Jvm.MethodName))).before a0 Z = true := hw _ (List.mem_of_getElem? (i := 183) rfl)
theorem tw184 {Z : State} {a0 : Array Value} (hw : HW a0 Z) : ((Jvm.Cond.code ({ cls := "java/lang/StringUTF16", name := "coderFromArrayLen", desc := "([BI)B" } : Jvm.MethodName) jdk_52_method_15_code (2 : Nat) (Option.some Jvm.ClassFile.FieldType.byte))).before a0 Z = true := hw _ (List.mem_of_getElem? (i := 184) rfl)
theorem tw185 {Z : State} {a0 : Array Value} (hw : HW a0 Z) : ((Jvm.Cond.methodLink "com/example/faithful_doubles/faithfuldoubles/doubles/ArgumentMatcherCountedPinLaw" (19 : Nat) ({ cls := "java/lang/String", name := "equals", desc := "(Ljava/lang/Object;)Z" } : Jvm.MethodName))).before a0 Z = true := hw _ (List.mem_of_getElem? (i := 185) rfl)
theorem tw186 {Z : State} {a0 : Array Value} (hw : HW a0 Z) : ((Jvm.Cond.declares ({ cls := "java/lang/String", name := "equals", desc := "(Ljava/lang/Object;)Z" } : Jvm.MethodName))).before a0 Z = true := hw _ (List.mem_of_getElem? (i := 186) rfl)
theorem tw187 {Z : State} {a0 : Array Value} (hw : HW a0 Z) : ((Jvm.Cond.instanceMethod ({ cls := "java/lang/String", name := "equals", desc := "(Ljava/lang/Object;)Z" } : Jvm.MethodName))).before a0 Z = true := hw _ (List.mem_of_getElem? (i := 187) rfl)
theorem tw188 {Z : State} {a0 : Array Value} (hw : HW a0 Z) : ((Jvm.Cond.selects "java/lang/String" ({ cls := "java/lang/String", name := "equals", desc := "(Ljava/lang/Object;)Z" } : Jvm.MethodName) ({ cls := "java/lang/String", name := "equals", desc := "(Ljava/lang/Object;)Z" } : Jvm.MethodName))).before a0 Z = true := hw _ (List.mem_of_getElem? (i := 188) rfl)
theorem tw189 {Z : State} {a0 : Array Value} (hw : HW a0 Z) : ((Jvm.Cond.code ({ cls := "java/lang/String", name := "equals", desc := "(Ljava/lang/Object;)Z" } : Jvm.MethodName) jdk_42_method_66_code (3 : Nat) (Option.some Jvm.ClassFile.FieldType.boolean))).before a0 Z = true := hw _ (List.mem_of_getElem? (i := 189) rfl)
theorem tw190 {Z : State} {a0 : Array Value} (hw : HW a0 Z) : ((Jvm.Cond.classLink "java/lang/String" (10 : Nat) "java/lang/String")).before a0 Z = true := hw _ (List.mem_of_getElem? (i := 190) rfl)
theorem tw191 {Z : State} {a0 : Array Value} (hw : HW a0 Z) : ((Jvm.Cond.methodLink "java/lang/String" (541 : Nat) ({ cls := "java/lang/StringLatin1", name := "equals", desc := "([B[B)Z" } : Jvm.MethodName))).before a0 Z = true := hw _ (List.mem_of_getElem? (i := 191) rfl)
theorem tw192 {Z : State} {a0 : Array Value} (hw : HW a0 Z) : ((Jvm.Cond.static ({ cls := "java/lang/StringLatin1", name := "equals", desc := "([B[B)Z" } : Jvm.MethodName))).before a0 Z = true := hw _ (List.mem_of_getElem? (i := 192) rfl)
theorem tw193 {Z : State} {a0 : Array Value} (hw : HW a0 Z) : ((Jvm.Cond.initialized "java/lang/StringLatin1")).before a0 Z = true := hw _ (List.mem_of_getElem? (i := 193) rfl)
theorem tw194 {Z : State} {a0 : Array Value} (hw : HW a0 Z) : ((Jvm.Cond.code ({ cls := "java/lang/StringLatin1", name := "equals", desc := "([B[B)Z" } : Jvm.MethodName) jdk_43_method_13_code (3 : Nat) (Option.some Jvm.ClassFile.FieldType.boolean))).before a0 Z = true := hw _ (List.mem_of_getElem? (i := 194) rfl)
theorem tw195 {Z : State} {a0 : Array Value} (hw : HW a0 Z) : ((Jvm.Cond.stringLink "com/example/faithful_doubles/faithfuldoubles/doubles/ArgumentMatcher" (57 : Nat) "1 matcher")).before a0 Z = true := hw _ (List.mem_of_getElem? (i := 195) rfl)
theorem pd_0 : parseMethodDescriptor "(I)V" = some ⟨[.int], none⟩ := by decide +kernel
theorem pd_1 : parseMethodDescriptor "()V" = some ⟨[], none⟩ := by decide +kernel
theorem pd_2 : parseMethodDescriptor "(I)I" = some ⟨[.int], some .int⟩ := by decide +kernel
theorem pd_3 : parseMethodDescriptor "()Z" = some ⟨[], some .boolean⟩ := by decide +kernel
theorem pd_4 : parseMethodDescriptor "(II[B)I" = some ⟨[.int, .int, (.array .byte)], some .int⟩ := by decide +kernel
theorem pd_5 : parseMethodDescriptor "(I)Ljava/lang/AbstractStringBuilder;" = some ⟨[.int], some (.object "java/lang/AbstractStringBuilder")⟩ := by decide +kernel
theorem pd_6 : parseMethodDescriptor "(I)Ljava/lang/StringBuilder;" = some ⟨[.int], some (.object "java/lang/StringBuilder")⟩ := by decide +kernel
theorem pd_7 : parseMethodDescriptor "()B" = some ⟨[], some .byte⟩ := by decide +kernel
theorem pd_8 : parseMethodDescriptor "()I" = some ⟨[], some .int⟩ := by decide +kernel
theorem pd_9 : parseMethodDescriptor "(Ljava/lang/String;)V" = some ⟨[(.object "java/lang/String")], none⟩ := by decide +kernel
theorem pd_10 : parseMethodDescriptor "([BIB)V" = some ⟨[(.array .byte), .int, .byte], none⟩ := by decide +kernel
theorem pd_11 : parseMethodDescriptor "(ILjava/lang/String;)V" = some ⟨[.int, (.object "java/lang/String")], none⟩ := by decide +kernel
theorem pd_12 : parseMethodDescriptor "(Ljava/lang/String;)Ljava/lang/AbstractStringBuilder;" = some ⟨[(.object "java/lang/String")], some (.object "java/lang/AbstractStringBuilder")⟩ := by decide +kernel
theorem pd_13 : parseMethodDescriptor "(Ljava/lang/String;)Ljava/lang/StringBuilder;" = some ⟨[(.object "java/lang/String")], some (.object "java/lang/StringBuilder")⟩ := by decide +kernel
theorem pd_14 : parseMethodDescriptor "()[B" = some ⟨[], some (.array .byte)⟩ := by decide +kernel
theorem pd_15 : parseMethodDescriptor "(II)V" = some ⟨[.int, .int], none⟩ := by decide +kernel
theorem pd_16 : parseMethodDescriptor "(II)I" = some ⟨[.int, .int], some .int⟩ := by decide +kernel
theorem pd_17 : parseMethodDescriptor "([BII)[B" = some ⟨[(.array .byte), .int, .int], some (.array .byte)⟩ := by decide +kernel
theorem pd_18 : parseMethodDescriptor "(Ljava/lang/AbstractStringBuilder;Ljava/lang/Void;)V" = some ⟨[(.object "java/lang/AbstractStringBuilder"), (.object "java/lang/Void")], none⟩ := by decide +kernel
theorem pd_19 : parseMethodDescriptor "(Ljava/lang/StringBuilder;)V" = some ⟨[(.object "java/lang/StringBuilder")], none⟩ := by decide +kernel
theorem pd_20 : parseMethodDescriptor "()Ljava/lang/String;" = some ⟨[], some (.object "java/lang/String")⟩ := by decide +kernel
theorem pd_21 : parseMethodDescriptor "(III)I" = some ⟨[.int, .int, .int], some .int⟩ := by decide +kernel
theorem pd_22 : parseMethodDescriptor "([BI)[B" = some ⟨[(.array .byte), .int], some (.array .byte)⟩ := by decide +kernel
theorem pd_23 : parseMethodDescriptor "(II)Ljava/lang/String;" = some ⟨[.int, .int], some (.object "java/lang/String")⟩ := by decide +kernel
theorem pd_24 : parseMethodDescriptor "([CI[BII)I" = some ⟨[(.array .char), .int, (.array .byte), .int, .int], some .int⟩ := by decide +kernel
theorem pd_25 : parseMethodDescriptor "([CII)[B" = some ⟨[(.array .char), .int, .int], some (.array .byte)⟩ := by decide +kernel
theorem pd_26 : parseMethodDescriptor "([BI)B" = some ⟨[(.array .byte), .int], some .byte⟩ := by decide +kernel
theorem pd_27 : parseMethodDescriptor "([CIILjava/lang/Void;)V" = some ⟨[(.array .char), .int, .int, (.object "java/lang/Void")], none⟩ := by decide +kernel
theorem pd_28 : parseMethodDescriptor "([C)V" = some ⟨[(.array .char)], none⟩ := by decide +kernel
theorem pd_29 : parseMethodDescriptor "([B[B)Z" = some ⟨[(.array .byte), (.array .byte)], some .boolean⟩ := by decide +kernel
theorem pd_30 : parseMethodDescriptor "(Ljava/lang/Object;)Z" = some ⟨[(.object "java/lang/Object")], some .boolean⟩ := by decide +kernel
theorem pn_0 : plainName "java/lang/AbstractStringBuilder" = true := by first | (simp [plainName, overriddenIn]; done) | decide +kernel
theorem pn_1 : plainName "java/lang/StringBuilder" = true := by first | (simp [plainName, overriddenIn]; done) | decide +kernel
theorem pn_2 : plainName "java/lang/Integer" = true := by first | (simp [plainName, overriddenIn]; done) | decide +kernel
theorem pn_3 : plainName "java/lang/String" = true := by first | (simp [plainName, overriddenIn]; done) | decide +kernel
theorem pn_4 : plainName "java/util/Arrays" = true := by first | (simp [plainName, overriddenIn]; done) | decide +kernel
theorem pn_5 : plainName "jdk/internal/util/ArraysSupport" = true := by first | (simp [plainName, overriddenIn]; done) | decide +kernel
theorem pn_6 : plainName "com/example/faithful_doubles/faithfuldoubles/doubles/ArgumentMatcher" = true := by first | (simp [plainName, overriddenIn]; done) | decide +kernel
theorem pn_7 : plainName "java/lang/StringUTF16" = true := by first | (simp [plainName, overriddenIn]; done) | decide +kernel
theorem pn_8 : plainName "java/lang/StringLatin1" = true := by first | (simp [plainName, overriddenIn]; done) | decide +kernel
theorem pn_9 : plainName "com/example/faithful_doubles/faithfuldoubles/doubles/ArgumentMatcherCountedPinLaw" = true := by first | (simp [plainName, overriddenIn]; done) | decide +kernel
theorem d_g5_5_0 : decode prog_5_method_5_code 0 = .ok (.iload_n 0, 1) := by decide +kernel
theorem d_g5_5_1 : decode prog_5_method_5_code 1 = .ok (.iconst 1, 1) := by decide +kernel
theorem d_g5_5_2 : decode prog_5_method_5_code 2 = .ok (.if_icmp .ne 8, 3) := by decide +kernel
theorem d_g5_5_10 : decode prog_5_method_5_code 10 = .ok (.new 59, 3) := by decide +kernel
theorem d_g5_5_13 : decode prog_5_method_5_code 13 = .ok (.dup, 1) := by decide +kernel
theorem d_g5_5_14 : decode prog_5_method_5_code 14 = .ok (.invokespecial 61, 3) := by decide +kernel
theorem d_j67_1_0 : decode jdk_67_method_1_code 0 = .ok (.aload_n 0, 1) := by decide +kernel
theorem d_j67_1_1 : decode jdk_67_method_1_code 1 = .ok (.bipush 16, 2) := by decide +kernel
theorem d_j67_1_3 : decode jdk_67_method_1_code 3 = .ok (.invokespecial 1, 3) := by decide +kernel
theorem d_j68_2_0 : decode jdk_68_method_2_code 0 = .ok (.aload_n 0, 1) := by decide +kernel
theorem d_j68_2_1 : decode jdk_68_method_2_code 1 = .ok (.invokespecial 3, 3) := by decide +kernel
theorem d_j68_2_4 : decode jdk_68_method_2_code 4 = .ok (.getstatic 18, 3) := by decide +kernel
theorem d_j68_2_7 : decode jdk_68_method_2_code 7 = .ok (.ifCond .eq 18, 3) := by decide +kernel
theorem d_j68_2_10 : decode jdk_68_method_2_code 10 = .ok (.aload_n 0, 1) := by decide +kernel
theorem d_j68_2_11 : decode jdk_68_method_2_code 11 = .ok (.iload_n 1, 1) := by decide +kernel
theorem d_j68_2_12 : decode jdk_68_method_2_code 12 = .ok (.newarray .byte, 2) := by decide +kernel
theorem d_j68_2_14 : decode jdk_68_method_2_code 14 = .ok (.putfield 15, 3) := by decide +kernel
theorem d_j68_2_17 : decode jdk_68_method_2_code 17 = .ok (.aload_n 0, 1) := by decide +kernel
theorem d_j68_2_18 : decode jdk_68_method_2_code 18 = .ok (.iconst 0, 1) := by decide +kernel
theorem d_j68_2_19 : decode jdk_68_method_2_code 19 = .ok (.putfield 22, 3) := by decide +kernel
theorem d_j68_2_22 : decode jdk_68_method_2_code 22 = .ok (.goto 16, 3) := by decide +kernel
theorem d_j68_2_38 : decode jdk_68_method_2_code 38 = .ok (.return_, 1) := by decide +kernel
theorem d_j67_1_6 : decode jdk_67_method_1_code 6 = .ok (.return_, 1) := by decide +kernel
theorem d_g5_5_17 : decode prog_5_method_5_code 17 = .ok (.iload_n 0, 1) := by decide +kernel
theorem d_g5_5_18 : decode prog_5_method_5_code 18 = .ok (.invokevirtual 62, 3) := by decide +kernel
theorem d_j67_15_0 : decode jdk_67_method_15_code 0 = .ok (.aload_n 0, 1) := by decide +kernel
theorem d_j67_15_1 : decode jdk_67_method_15_code 1 = .ok (.iload_n 1, 1) := by decide +kernel
theorem d_j67_15_2 : decode jdk_67_method_15_code 2 = .ok (.invokespecial 53, 3) := by decide +kernel
theorem d_j68_32_0 : decode jdk_68_method_32_code 0 = .ok (.aload_n 0, 1) := by decide +kernel
theorem d_j68_32_1 : decode jdk_68_method_32_code 1 = .ok (.getfield 79, 3) := by decide +kernel
theorem d_j68_32_4 : decode jdk_68_method_32_code 4 = .ok (.istore_n 2, 1) := by decide +kernel
theorem d_j68_32_5 : decode jdk_68_method_32_code 5 = .ok (.iload_n 2, 1) := by decide +kernel
theorem d_j68_32_6 : decode jdk_68_method_32_code 6 = .ok (.iload_n 1, 1) := by decide +kernel
theorem d_j68_32_7 : decode jdk_68_method_32_code 7 = .ok (.invokestatic 245, 3) := by decide +kernel
theorem d_j33_13_0 : decode jdk_33_method_13_code 0 = .ok (.iconst 1, 1) := by decide +kernel
theorem d_j33_13_1 : decode jdk_33_method_13_code 1 = .ok (.istore_n 1, 1) := by decide +kernel
theorem d_j33_13_2 : decode jdk_33_method_13_code 2 = .ok (.iload_n 0, 1) := by decide +kernel
theorem d_j33_13_3 : decode jdk_33_method_13_code 3 = .ok (.ifCond .lt 8, 3) := by decide +kernel
theorem d_j33_13_6 : decode jdk_33_method_13_code 6 = .ok (.iconst 0, 1) := by decide +kernel
theorem d_j33_13_7 : decode jdk_33_method_13_code 7 = .ok (.istore_n 1, 1) := by decide +kernel
theorem d_j33_13_8 : decode jdk_33_method_13_code 8 = .ok (.iload_n 0, 1) := by decide +kernel
theorem d_j33_13_9 : decode jdk_33_method_13_code 9 = .ok (.ineg, 1) := by decide +kernel
theorem d_j33_13_10 : decode jdk_33_method_13_code 10 = .ok (.istore_n 0, 1) := by decide +kernel
theorem d_j33_13_11 : decode jdk_33_method_13_code 11 = .ok (.bipush (-10), 2) := by decide +kernel
theorem d_j33_13_13 : decode jdk_33_method_13_code 13 = .ok (.istore_n 2, 1) := by decide +kernel
theorem d_j33_13_14 : decode jdk_33_method_13_code 14 = .ok (.iconst 1, 1) := by decide +kernel
theorem d_j33_13_15 : decode jdk_33_method_13_code 15 = .ok (.istore_n 3, 1) := by decide +kernel
theorem d_j33_13_16 : decode jdk_33_method_13_code 16 = .ok (.iload_n 3, 1) := by decide +kernel
theorem d_j33_13_17 : decode jdk_33_method_13_code 17 = .ok (.bipush 10, 2) := by decide +kernel
theorem d_j33_13_19 : decode jdk_33_method_13_code 19 = .ok (.if_icmp .ge 23, 3) := by decide +kernel
theorem d_j33_13_22 : decode jdk_33_method_13_code 22 = .ok (.iload_n 0, 1) := by decide +kernel
theorem d_j33_13_23 : decode jdk_33_method_13_code 23 = .ok (.iload_n 2, 1) := by decide +kernel
theorem d_j33_13_24 : decode jdk_33_method_13_code 24 = .ok (.if_icmp .le 7, 3) := by decide +kernel
theorem d_j33_13_27 : decode jdk_33_method_13_code 27 = .ok (.iload_n 3, 1) := by decide +kernel
theorem d_j33_13_28 : decode jdk_33_method_13_code 28 = .ok (.iload_n 1, 1) := by decide +kernel
theorem d_j33_13_29 : decode jdk_33_method_13_code 29 = .ok (.iadd, 1) := by decide +kernel
theorem d_j33_13_30 : decode jdk_33_method_13_code 30 = .ok (.ireturn, 1) := by decide +kernel
theorem d_j68_32_10 : decode jdk_68_method_32_code 10 = .ok (.iadd, 1) := by decide +kernel
theorem d_j68_32_11 : decode jdk_68_method_32_code 11 = .ok (.istore_n 3, 1) := by decide +kernel
theorem d_j68_32_12 : decode jdk_68_method_32_code 12 = .ok (.aload_n 0, 1) := by decide +kernel
theorem d_j68_32_13 : decode jdk_68_method_32_code 13 = .ok (.iload_n 3, 1) := by decide +kernel
theorem d_j68_32_14 : decode jdk_68_method_32_code 14 = .ok (.invokevirtual 100, 3) := by decide +kernel
theorem d_j68_9_0 : decode jdk_68_method_9_code 0 = .ok (.aload_n 0, 1) := by decide +kernel
theorem d_j68_9_1 : decode jdk_68_method_9_code 1 = .ok (.getfield 15, 3) := by decide +kernel
theorem d_j68_9_4 : decode jdk_68_method_9_code 4 = .ok (.arraylength, 1) := by decide +kernel
theorem d_j68_9_5 : decode jdk_68_method_9_code 5 = .ok (.aload_n 0, 1) := by decide +kernel
theorem d_j68_9_6 : decode jdk_68_method_9_code 6 = .ok (.getfield 22, 3) := by decide +kernel
theorem d_j68_9_9 : decode jdk_68_method_9_code 9 = .ok (.ishr, 1) := by decide +kernel
theorem d_j68_9_10 : decode jdk_68_method_9_code 10 = .ok (.istore_n 2, 1) := by decide +kernel
theorem d_j68_9_11 : decode jdk_68_method_9_code 11 = .ok (.iload_n 1, 1) := by decide +kernel
theorem d_j68_9_12 : decode jdk_68_method_9_code 12 = .ok (.iload_n 2, 1) := by decide +kernel
theorem d_j68_9_13 : decode jdk_68_method_9_code 13 = .ok (.isub, 1) := by decide +kernel
theorem d_j68_9_14 : decode jdk_68_method_9_code 14 = .ok (.ifCond .le 24, 3) := by decide +kernel
theorem d_j68_9_38 : decode jdk_68_method_9_code 38 = .ok (.return_, 1) := by decide +kernel
theorem d_j68_32_17 : decode jdk_68_method_32_code 17 = .ok (.aload_n 0, 1) := by decide +kernel
theorem d_j68_32_18 : decode jdk_68_method_32_code 18 = .ok (.invokevirtual 83, 3) := by decide +kernel
theorem d_j68_68_0 : decode jdk_68_method_68_code 0 = .ok (.getstatic 18, 3) := by decide +kernel
theorem d_j68_68_3 : decode jdk_68_method_68_code 3 = .ok (.ifCond .eq 14, 3) := by decide +kernel
theorem d_j68_68_6 : decode jdk_68_method_68_code 6 = .ok (.aload_n 0, 1) := by decide +kernel
theorem d_j68_68_7 : decode jdk_68_method_68_code 7 = .ok (.getfield 22, 3) := by decide +kernel
theorem d_j68_68_10 : decode jdk_68_method_68_code 10 = .ok (.ifCond .ne 7, 3) := by decide +kernel
theorem d_j68_68_13 : decode jdk_68_method_68_code 13 = .ok (.iconst 1, 1) := by decide +kernel
theorem d_j68_68_14 : decode jdk_68_method_68_code 14 = .ok (.goto 4, 3) := by decide +kernel
theorem d_j68_68_18 : decode jdk_68_method_68_code 18 = .ok (.ireturn, 1) := by decide +kernel
theorem d_j68_32_21 : decode jdk_68_method_32_code 21 = .ok (.ifCond .eq 16, 3) := by decide +kernel
theorem d_j68_32_24 : decode jdk_68_method_32_code 24 = .ok (.iload_n 1, 1) := by decide +kernel
theorem d_j68_32_25 : decode jdk_68_method_32_code 25 = .ok (.iload_n 3, 1) := by decide +kernel
theorem d_j68_32_26 : decode jdk_68_method_32_code 26 = .ok (.aload_n 0, 1) := by decide +kernel
theorem d_j68_32_27 : decode jdk_68_method_32_code 27 = .ok (.getfield 15, 3) := by decide +kernel
theorem d_j68_32_30 : decode jdk_68_method_32_code 30 = .ok (.invokestatic 248, 3) := by decide +kernel
theorem d_j33_12_0 : decode jdk_33_method_12_code 0 = .ok (.iload_n 1, 1) := by decide +kernel
theorem d_j33_12_1 : decode jdk_33_method_12_code 1 = .ok (.istore 5, 2) := by decide +kernel
theorem d_j33_12_3 : decode jdk_33_method_12_code 3 = .ok (.iload_n 0, 1) := by decide +kernel
theorem d_j33_12_4 : decode jdk_33_method_12_code 4 = .ok (.ifCond .ge 7, 3) := by decide +kernel
theorem d_j33_12_11 : decode jdk_33_method_12_code 11 = .ok (.iconst 0, 1) := by decide +kernel
theorem d_j33_12_12 : decode jdk_33_method_12_code 12 = .ok (.istore 6, 2) := by decide +kernel
theorem d_j33_12_14 : decode jdk_33_method_12_code 14 = .ok (.iload 6, 2) := by decide +kernel
theorem d_j33_12_16 : decode jdk_33_method_12_code 16 = .ok (.ifCond .ne 6, 3) := by decide +kernel
theorem d_j33_12_19 : decode jdk_33_method_12_code 19 = .ok (.iload_n 0, 1) := by decide +kernel
theorem d_j33_12_20 : decode jdk_33_method_12_code 20 = .ok (.ineg, 1) := by decide +kernel
theorem d_j33_12_21 : decode jdk_33_method_12_code 21 = .ok (.istore_n 0, 1) := by decide +kernel
theorem d_j33_12_22 : decode jdk_33_method_12_code 22 = .ok (.iload_n 0, 1) := by decide +kernel
theorem d_j33_12_23 : decode jdk_33_method_12_code 23 = .ok (.bipush (-100), 2) := by decide +kernel
theorem d_j33_12_25 : decode jdk_33_method_12_code 25 = .ok (.if_icmp .gt 47, 3) := by decide +kernel
theorem d_j33_12_72 : decode jdk_33_method_12_code 72 = .ok (.aload_n 2, 1) := by decide +kernel
theorem d_j33_12_73 : decode jdk_33_method_12_code 73 = .ok (.iinc 5 (-1), 3) := by decide +kernel
theorem d_j33_12_76 : decode jdk_33_method_12_code 76 = .ok (.iload 5, 2) := by decide +kernel
theorem d_j33_12_78 : decode jdk_33_method_12_code 78 = .ok (.getstatic 83, 3) := by decide +kernel
theorem d_j33_12_81 : decode jdk_33_method_12_code 81 = .ok (.iload_n 0, 1) := by decide +kernel
theorem d_j33_12_82 : decode jdk_33_method_12_code 82 = .ok (.ineg, 1) := by decide +kernel
theorem d_j33_12_83 : decode jdk_33_method_12_code 83 = .ok (.baload, 1) := by decide +kernel
theorem d_j33_12_84 : decode jdk_33_method_12_code 84 = .ok (.bastore, 1) := by decide +kernel
theorem d_j33_12_85 : decode jdk_33_method_12_code 85 = .ok (.iload_n 0, 1) := by decide +kernel
theorem d_j33_12_86 : decode jdk_33_method_12_code 86 = .ok (.bipush (-9), 2) := by decide +kernel
theorem d_j33_12_88 : decode jdk_33_method_12_code 88 = .ok (.if_icmp .ge 16, 3) := by decide +kernel
theorem d_j33_12_104 : decode jdk_33_method_12_code 104 = .ok (.iload 6, 2) := by decide +kernel
theorem d_j33_12_106 : decode jdk_33_method_12_code 106 = .ok (.ifCond .eq 12, 3) := by decide +kernel
theorem d_j33_12_118 : decode jdk_33_method_12_code 118 = .ok (.iload 5, 2) := by decide +kernel
theorem d_j33_12_120 : decode jdk_33_method_12_code 120 = .ok (.ireturn, 1) := by decide +kernel
theorem d_j68_32_33 : decode jdk_68_method_32_code 33 = .ok (.pop, 1) := by decide +kernel
theorem d_j68_32_34 : decode jdk_68_method_32_code 34 = .ok (.goto 14, 3) := by decide +kernel
theorem d_j68_32_48 : decode jdk_68_method_32_code 48 = .ok (.aload_n 0, 1) := by decide +kernel
theorem d_j68_32_49 : decode jdk_68_method_32_code 49 = .ok (.iload_n 3, 1) := by decide +kernel
theorem d_j68_32_50 : decode jdk_68_method_32_code 50 = .ok (.putfield 79, 3) := by decide +kernel
theorem d_j68_32_53 : decode jdk_68_method_32_code 53 = .ok (.aload_n 0, 1) := by decide +kernel
theorem d_j68_32_54 : decode jdk_68_method_32_code 54 = .ok (.areturn, 1) := by decide +kernel
theorem d_j67_15_5 : decode jdk_67_method_15_code 5 = .ok (.pop, 1) := by decide +kernel
theorem d_j67_15_6 : decode jdk_67_method_15_code 6 = .ok (.aload_n 0, 1) := by decide +kernel
theorem d_j67_15_7 : decode jdk_67_method_15_code 7 = .ok (.areturn, 1) := by decide +kernel
theorem d_g5_5_21 : decode prog_5_method_5_code 21 = .ok (.ldc 66, 2) := by decide +kernel
theorem d_g5_5_23 : decode prog_5_method_5_code 23 = .ok (.invokevirtual 68, 3) := by decide +kernel
theorem d_j67_7_0 : decode jdk_67_method_7_code 0 = .ok (.aload_n 0, 1) := by decide +kernel
theorem d_j67_7_1 : decode jdk_67_method_7_code 1 = .ok (.aload_n 1, 1) := by decide +kernel
theorem d_j67_7_2 : decode jdk_67_method_7_code 2 = .ok (.invokespecial 29, 3) := by decide +kernel
theorem d_j68_22_0 : decode jdk_68_method_22_code 0 = .ok (.aload_n 1, 1) := by decide +kernel
theorem d_j68_22_1 : decode jdk_68_method_22_code 1 = .ok (.ifnonnull 8, 3) := by decide +kernel
theorem d_j68_22_9 : decode jdk_68_method_22_code 9 = .ok (.aload_n 1, 1) := by decide +kernel
theorem d_j68_22_10 : decode jdk_68_method_22_code 10 = .ok (.invokevirtual 32, 3) := by decide +kernel
theorem d_j42_54_0 : decode jdk_42_method_54_code 0 = .ok (.aload_n 0, 1) := by decide +kernel
theorem d_j42_54_1 : decode jdk_42_method_54_code 1 = .ok (.getfield 9, 3) := by decide +kernel
theorem d_j42_54_4 : decode jdk_42_method_54_code 4 = .ok (.arraylength, 1) := by decide +kernel
theorem d_j42_54_5 : decode jdk_42_method_54_code 5 = .ok (.aload_n 0, 1) := by decide +kernel
theorem d_j42_54_6 : decode jdk_42_method_54_code 6 = .ok (.invokevirtual 335, 3) := by decide +kernel
theorem d_j42_152_0 : decode jdk_42_method_152_code 0 = .ok (.getstatic 38, 3) := by decide +kernel
theorem d_j42_152_3 : decode jdk_42_method_152_code 3 = .ok (.ifCond .eq 10, 3) := by decide +kernel
theorem d_j42_152_6 : decode jdk_42_method_152_code 6 = .ok (.aload_n 0, 1) := by decide +kernel
theorem d_j42_152_7 : decode jdk_42_method_152_code 7 = .ok (.getfield 15, 3) := by decide +kernel
theorem d_j42_152_10 : decode jdk_42_method_152_code 10 = .ok (.goto 4, 3) := by decide +kernel
theorem d_j42_152_14 : decode jdk_42_method_152_code 14 = .ok (.ireturn, 1) := by decide +kernel
theorem d_j42_54_9 : decode jdk_42_method_54_code 9 = .ok (.ishr, 1) := by decide +kernel
theorem d_j42_54_10 : decode jdk_42_method_54_code 10 = .ok (.ireturn, 1) := by decide +kernel
theorem d_j68_22_13 : decode jdk_68_method_22_code 13 = .ok (.istore_n 2, 1) := by decide +kernel
theorem d_j68_22_14 : decode jdk_68_method_22_code 14 = .ok (.aload_n 0, 1) := by decide +kernel
theorem d_j68_22_15 : decode jdk_68_method_22_code 15 = .ok (.aload_n 0, 1) := by decide +kernel
theorem d_j68_22_16 : decode jdk_68_method_22_code 16 = .ok (.getfield 79, 3) := by decide +kernel
theorem d_j68_22_19 : decode jdk_68_method_22_code 19 = .ok (.iload_n 2, 1) := by decide +kernel
theorem d_j68_22_20 : decode jdk_68_method_22_code 20 = .ok (.iadd, 1) := by decide +kernel
theorem d_j68_22_21 : decode jdk_68_method_22_code 21 = .ok (.invokevirtual 100, 3) := by decide +kernel
theorem d_j68_22_24 : decode jdk_68_method_22_code 24 = .ok (.aload_n 0, 1) := by decide +kernel
theorem d_j68_22_25 : decode jdk_68_method_22_code 25 = .ok (.aload_n 0, 1) := by decide +kernel
theorem d_j68_22_26 : decode jdk_68_method_22_code 26 = .ok (.getfield 79, 3) := by decide +kernel
theorem d_j68_22_29 : decode jdk_68_method_22_code 29 = .ok (.aload_n 1, 1) := by decide +kernel
theorem d_j68_22_30 : decode jdk_68_method_22_code 30 = .ok (.invokevirtual 208, 3) := by decide +kernel
theorem d_j68_73_0 : decode jdk_68_method_73_code 0 = .ok (.aload_n 0, 1) := by decide +kernel
theorem d_j68_73_1 : decode jdk_68_method_73_code 1 = .ok (.aload_n 2, 1) := by decide +kernel
theorem d_j68_73_2 : decode jdk_68_method_73_code 2 = .ok (.invokevirtual 397, 3) := by decide +kernel
theorem d_j68_71_0 : decode jdk_68_method_71_code 0 = .ok (.getstatic 18, 3) := by decide +kernel
theorem d_j68_71_3 : decode jdk_68_method_71_code 3 = .ok (.ifCond .eq 18, 3) := by decide +kernel
theorem d_j68_71_6 : decode jdk_68_method_71_code 6 = .ok (.aload_n 0, 1) := by decide +kernel
theorem d_j68_71_7 : decode jdk_68_method_71_code 7 = .ok (.getfield 22, 3) := by decide +kernel
theorem d_j68_71_10 : decode jdk_68_method_71_code 10 = .ok (.aload_n 1, 1) := by decide +kernel
theorem d_j68_71_11 : decode jdk_68_method_71_code 11 = .ok (.invokevirtual 40, 3) := by decide +kernel
theorem d_j68_71_14 : decode jdk_68_method_71_code 14 = .ok (.if_icmp .eq 7, 3) := by decide +kernel
theorem d_j68_71_21 : decode jdk_68_method_71_code 21 = .ok (.return_, 1) := by decide +kernel
theorem d_j68_73_5 : decode jdk_68_method_73_code 5 = .ok (.aload_n 2, 1) := by decide +kernel
theorem d_j68_73_6 : decode jdk_68_method_73_code 6 = .ok (.aload_n 0, 1) := by decide +kernel
theorem d_j68_73_7 : decode jdk_68_method_73_code 7 = .ok (.getfield 15, 3) := by decide +kernel
theorem d_j68_73_10 : decode jdk_68_method_73_code 10 = .ok (.iload_n 1, 1) := by decide +kernel
theorem d_j68_73_11 : decode jdk_68_method_73_code 11 = .ok (.aload_n 0, 1) := by decide +kernel
theorem d_j68_73_12 : decode jdk_68_method_73_code 12 = .ok (.getfield 22, 3) := by decide +kernel
theorem d_j68_73_15 : decode jdk_68_method_73_code 15 = .ok (.invokevirtual 399, 3) := by decide +kernel
theorem d_j42_147_0 : decode jdk_42_method_147_code 0 = .ok (.aload_n 0, 1) := by decide +kernel
theorem d_j42_147_1 : decode jdk_42_method_147_code 1 = .ok (.invokevirtual 335, 3) := by decide +kernel
theorem d_j42_147_4 : decode jdk_42_method_147_code 4 = .ok (.iload_n 3, 1) := by decide +kernel
theorem d_j42_147_5 : decode jdk_42_method_147_code 5 = .ok (.if_icmp .ne 23, 3) := by decide +kernel
theorem d_j42_147_8 : decode jdk_42_method_147_code 8 = .ok (.aload_n 0, 1) := by decide +kernel
theorem d_j42_147_9 : decode jdk_42_method_147_code 9 = .ok (.getfield 9, 3) := by decide +kernel
theorem d_j42_147_12 : decode jdk_42_method_147_code 12 = .ok (.iconst 0, 1) := by decide +kernel
theorem d_j42_147_13 : decode jdk_42_method_147_code 13 = .ok (.aload_n 1, 1) := by decide +kernel
theorem d_j42_147_14 : decode jdk_42_method_147_code 14 = .ok (.iload_n 2, 1) := by decide +kernel
theorem d_j42_147_15 : decode jdk_42_method_147_code 15 = .ok (.iload_n 3, 1) := by decide +kernel
theorem d_j42_147_16 : decode jdk_42_method_147_code 16 = .ok (.ishl, 1) := by decide +kernel
theorem d_j42_147_17 : decode jdk_42_method_147_code 17 = .ok (.aload_n 0, 1) := by decide +kernel
theorem d_j42_147_18 : decode jdk_42_method_147_code 18 = .ok (.getfield 9, 3) := by decide +kernel
theorem d_j42_147_21 : decode jdk_42_method_147_code 21 = .ok (.arraylength, 1) := by decide +kernel
theorem d_j42_147_22 : decode jdk_42_method_147_code 22 = .ok (.invokestatic 212, 3) := by decide +kernel
theorem d_j42_147_25 : decode jdk_42_method_147_code 25 = .ok (.goto 18, 3) := by decide +kernel
theorem d_j42_147_43 : decode jdk_42_method_147_code 43 = .ok (.return_, 1) := by decide +kernel
theorem d_j68_73_18 : decode jdk_68_method_73_code 18 = .ok (.return_, 1) := by decide +kernel
theorem d_j68_22_33 : decode jdk_68_method_22_code 33 = .ok (.aload_n 0, 1) := by decide +kernel
theorem d_j68_22_34 : decode jdk_68_method_22_code 34 = .ok (.dup, 1) := by decide +kernel
theorem d_j68_22_35 : decode jdk_68_method_22_code 35 = .ok (.getfield 79, 3) := by decide +kernel
theorem d_j68_22_38 : decode jdk_68_method_22_code 38 = .ok (.iload_n 2, 1) := by decide +kernel
theorem d_j68_22_39 : decode jdk_68_method_22_code 39 = .ok (.iadd, 1) := by decide +kernel
theorem d_j68_22_40 : decode jdk_68_method_22_code 40 = .ok (.putfield 79, 3) := by decide +kernel
theorem d_j68_22_43 : decode jdk_68_method_22_code 43 = .ok (.aload_n 0, 1) := by decide +kernel
theorem d_j68_22_44 : decode jdk_68_method_22_code 44 = .ok (.areturn, 1) := by decide +kernel
theorem d_j67_7_5 : decode jdk_67_method_7_code 5 = .ok (.pop, 1) := by decide +kernel
theorem d_j67_7_6 : decode jdk_67_method_7_code 6 = .ok (.aload_n 0, 1) := by decide +kernel
theorem d_j67_7_7 : decode jdk_67_method_7_code 7 = .ok (.areturn, 1) := by decide +kernel
theorem d_g5_5_26 : decode prog_5_method_5_code 26 = .ok (.invokevirtual 71, 3) := by decide +kernel
theorem d_j67_42_0 : decode jdk_67_method_42_code 0 = .ok (.new 18, 3) := by decide +kernel
theorem d_j67_42_3 : decode jdk_67_method_42_code 3 = .ok (.dup, 1) := by decide +kernel
theorem d_j67_42_4 : decode jdk_67_method_42_code 4 = .ok (.aload_n 0, 1) := by decide +kernel
theorem d_j67_42_5 : decode jdk_67_method_42_code 5 = .ok (.invokespecial 137, 3) := by decide +kernel
theorem d_j42_53_0 : decode jdk_42_method_53_code 0 = .ok (.aload_n 0, 1) := by decide +kernel
theorem d_j42_53_1 : decode jdk_42_method_53_code 1 = .ok (.aload_n 1, 1) := by decide +kernel
theorem d_j42_53_2 : decode jdk_42_method_53_code 2 = .ok (.aconst_null, 1) := by decide +kernel
theorem d_j42_53_3 : decode jdk_42_method_53_code 3 = .ok (.invokespecial 489, 3) := by decide +kernel
theorem d_j42_150_0 : decode jdk_42_method_150_code 0 = .ok (.aload_n 0, 1) := by decide +kernel
theorem d_j42_150_1 : decode jdk_42_method_150_code 1 = .ok (.invokespecial 1, 3) := by decide +kernel
theorem d_j42_150_4 : decode jdk_42_method_150_code 4 = .ok (.aload_n 1, 1) := by decide +kernel
theorem d_j42_150_5 : decode jdk_42_method_150_code 5 = .ok (.invokevirtual 552, 3) := by decide +kernel
theorem d_j68_64_0 : decode jdk_68_method_64_code 0 = .ok (.aload_n 0, 1) := by decide +kernel
theorem d_j68_64_1 : decode jdk_68_method_64_code 1 = .ok (.getfield 15, 3) := by decide +kernel
theorem d_j68_64_4 : decode jdk_68_method_64_code 4 = .ok (.areturn, 1) := by decide +kernel
theorem d_j42_150_8 : decode jdk_42_method_150_code 8 = .ok (.astore_n 3, 1) := by decide +kernel
theorem d_j42_150_9 : decode jdk_42_method_150_code 9 = .ok (.aload_n 1, 1) := by decide +kernel
theorem d_j42_150_10 : decode jdk_42_method_150_code 10 = .ok (.invokevirtual 549, 3) := by decide +kernel
theorem d_j67_93_0 : decode jdk_67_method_93_code 0 = .ok (.aload_n 0, 1) := by decide +kernel
theorem d_j67_93_1 : decode jdk_67_method_93_code 1 = .ok (.invokespecial 343, 3) := by decide +kernel
theorem d_j68_6_0 : decode jdk_68_method_6_code 0 = .ok (.aload_n 0, 1) := by decide +kernel
theorem d_j68_6_1 : decode jdk_68_method_6_code 1 = .ok (.getfield 79, 3) := by decide +kernel
theorem d_j68_6_4 : decode jdk_68_method_6_code 4 = .ok (.ireturn, 1) := by decide +kernel
theorem d_j67_93_4 : decode jdk_67_method_93_code 4 = .ok (.ireturn, 1) := by decide +kernel
theorem d_j42_150_13 : decode jdk_42_method_150_code 13 = .ok (.istore 4, 2) := by decide +kernel
theorem d_j42_150_15 : decode jdk_42_method_150_code 15 = .ok (.aload_n 1, 1) := by decide +kernel
theorem d_j42_150_16 : decode jdk_42_method_150_code 16 = .ok (.invokevirtual 1047, 3) := by decide +kernel
theorem d_j42_150_19 : decode jdk_42_method_150_code 19 = .ok (.ifCond .eq 22, 3) := by decide +kernel
theorem d_j42_150_22 : decode jdk_42_method_150_code 22 = .ok (.aload_n 0, 1) := by decide +kernel
theorem d_j42_150_23 : decode jdk_42_method_150_code 23 = .ok (.iconst 0, 1) := by decide +kernel
theorem d_j42_150_24 : decode jdk_42_method_150_code 24 = .ok (.putfield 15, 3) := by decide +kernel
theorem d_j42_150_27 : decode jdk_42_method_150_code 27 = .ok (.aload_n 0, 1) := by decide +kernel
theorem d_j42_150_28 : decode jdk_42_method_150_code 28 = .ok (.aload_n 3, 1) := by decide +kernel
theorem d_j42_150_29 : decode jdk_42_method_150_code 29 = .ok (.iconst 0, 1) := by decide +kernel
theorem d_j42_150_30 : decode jdk_42_method_150_code 30 = .ok (.iload 4, 2) := by decide +kernel
theorem d_j42_150_32 : decode jdk_42_method_150_code 32 = .ok (.invokestatic 54, 3) := by decide +kernel
theorem d_j65_132_0 : decode jdk_65_method_132_code 0 = .ok (.iload_n 1, 1) := by decide +kernel
theorem d_j65_132_1 : decode jdk_65_method_132_code 1 = .ok (.ifCond .ne 9, 3) := by decide +kernel
theorem d_j65_132_4 : decode jdk_65_method_132_code 4 = .ok (.iload_n 2, 1) := by decide +kernel
theorem d_j65_132_5 : decode jdk_65_method_132_code 5 = .ok (.aload_n 0, 1) := by decide +kernel
theorem d_j65_132_6 : decode jdk_65_method_132_code 6 = .ok (.arraylength, 1) := by decide +kernel
theorem d_j65_132_7 : decode jdk_65_method_132_code 7 = .ok (.if_icmp .eq 10, 3) := by decide +kernel
theorem d_j65_132_10 : decode jdk_65_method_132_code 10 = .ok (.aload_n 0, 1) := by decide +kernel
theorem d_j65_132_11 : decode jdk_65_method_132_code 11 = .ok (.iload_n 1, 1) := by decide +kernel
theorem d_j65_132_12 : decode jdk_65_method_132_code 12 = .ok (.iload_n 2, 1) := by decide +kernel
theorem d_j65_132_13 : decode jdk_65_method_132_code 13 = .ok (.invokestatic 339, 3) := by decide +kernel
theorem d_j65_133_0 : decode jdk_65_method_133_code 0 = .ok (.iload_n 1, 1) := by decide +kernel
theorem d_j65_133_1 : decode jdk_65_method_133_code 1 = .ok (.iload_n 2, 1) := by decide +kernel
theorem d_j65_133_2 : decode jdk_65_method_133_code 2 = .ok (.invokestatic 343, 3) := by decide +kernel
theorem d_j65_131_0 : decode jdk_65_method_131_code 0 = .ok (.iload_n 1, 1) := by decide +kernel
theorem d_j65_131_1 : decode jdk_65_method_131_code 1 = .ok (.iload_n 0, 1) := by decide +kernel
theorem d_j65_131_2 : decode jdk_65_method_131_code 2 = .ok (.if_icmp .ge 35, 3) := by decide +kernel
theorem d_j65_131_37 : decode jdk_65_method_131_code 37 = .ok (.return_, 1) := by decide +kernel
theorem d_j65_133_5 : decode jdk_65_method_133_code 5 = .ok (.iload_n 2, 1) := by decide +kernel
theorem d_j65_133_6 : decode jdk_65_method_133_code 6 = .ok (.iload_n 1, 1) := by decide +kernel
theorem d_j65_133_7 : decode jdk_65_method_133_code 7 = .ok (.isub, 1) := by decide +kernel
theorem d_j65_133_8 : decode jdk_65_method_133_code 8 = .ok (.istore_n 3, 1) := by decide +kernel
theorem d_j65_133_9 : decode jdk_65_method_133_code 9 = .ok (.iload_n 3, 1) := by decide +kernel
theorem d_j65_133_10 : decode jdk_65_method_133_code 10 = .ok (.newarray .byte, 2) := by decide +kernel
theorem d_j65_133_12 : decode jdk_65_method_133_code 12 = .ok (.astore 4, 2) := by decide +kernel
theorem d_j65_133_14 : decode jdk_65_method_133_code 14 = .ok (.aload_n 0, 1) := by decide +kernel
theorem d_j65_133_15 : decode jdk_65_method_133_code 15 = .ok (.iload_n 1, 1) := by decide +kernel
theorem d_j65_133_16 : decode jdk_65_method_133_code 16 = .ok (.aload 4, 2) := by decide +kernel
theorem d_j65_133_18 : decode jdk_65_method_133_code 18 = .ok (.iconst 0, 1) := by decide +kernel
theorem d_j65_133_19 : decode jdk_65_method_133_code 19 = .ok (.aload_n 0, 1) := by decide +kernel
theorem d_j65_133_20 : decode jdk_65_method_133_code 20 = .ok (.arraylength, 1) := by decide +kernel
theorem d_j65_133_21 : decode jdk_65_method_133_code 21 = .ok (.iload_n 1, 1) := by decide +kernel
theorem d_j65_133_22 : decode jdk_65_method_133_code 22 = .ok (.isub, 1) := by decide +kernel
theorem d_j65_133_23 : decode jdk_65_method_133_code 23 = .ok (.iload_n 3, 1) := by decide +kernel
theorem d_j65_133_24 : decode jdk_65_method_133_code 24 = .ok (.invokestatic 304, 3) := by decide +kernel
theorem d_j29_69_0 : decode jdk_29_method_69_code 0 = .ok (.iload_n 0, 1) := by decide +kernel
theorem d_j29_69_1 : decode jdk_29_method_69_code 1 = .ok (.iload_n 1, 1) := by decide +kernel
theorem d_j29_69_2 : decode jdk_29_method_69_code 2 = .ok (.if_icmp .gt 7, 3) := by decide +kernel
theorem d_j29_69_9 : decode jdk_29_method_69_code 9 = .ok (.iload_n 1, 1) := by decide +kernel
theorem d_j29_69_10 : decode jdk_29_method_69_code 10 = .ok (.ireturn, 1) := by decide +kernel
theorem d_j65_133_27 : decode jdk_65_method_133_code 27 = .ok (.invokestatic 150, 3) := by decide +kernel
theorem d_j65_133_30 : decode jdk_65_method_133_code 30 = .ok (.aload 4, 2) := by decide +kernel
theorem d_j65_133_32 : decode jdk_65_method_133_code 32 = .ok (.areturn, 1) := by decide +kernel
theorem d_j65_132_16 : decode jdk_65_method_132_code 16 = .ok (.areturn, 1) := by decide +kernel
theorem d_j42_150_35 : decode jdk_42_method_150_code 35 = .ok (.putfield 9, 3) := by decide +kernel
theorem d_j42_150_38 : decode jdk_42_method_150_code 38 = .ok (.goto 59, 3) := by decide +kernel
theorem d_j42_150_97 : decode jdk_42_method_150_code 97 = .ok (.return_, 1) := by decide +kernel
theorem d_j42_53_6 : decode jdk_42_method_53_code 6 = .ok (.return_, 1) := by decide +kernel
theorem d_j67_42_8 : decode jdk_67_method_42_code 8 = .ok (.areturn, 1) := by decide +kernel
theorem d_g5_5_5 : decode prog_5_method_5_code 5 = .ok (.ldc 57, 2) := by decide +kernel
theorem d_g5_5_7 : decode prog_5_method_5_code 7 = .ok (.goto 22, 3) := by decide +kernel
theorem d_g5_5_29 : decode prog_5_method_5_code 29 = .ok (.astore_n 2, 1) := by decide +kernel
theorem d_g5_5_30 : decode prog_5_method_5_code 30 = .ok (.new 59, 3) := by decide +kernel
theorem d_g5_5_33 : decode prog_5_method_5_code 33 = .ok (.dup, 1) := by decide +kernel
theorem d_g5_5_34 : decode prog_5_method_5_code 34 = .ok (.invokespecial 61, 3) := by decide +kernel
theorem d_g5_5_37 : decode prog_5_method_5_code 37 = .ok (.aload_n 2, 1) := by decide +kernel
theorem d_g5_5_38 : decode prog_5_method_5_code 38 = .ok (.invokevirtual 68, 3) := by decide +kernel
theorem d_g5_5_41 : decode prog_5_method_5_code 41 = .ok (.ldc 75, 2) := by decide +kernel
theorem d_g5_5_43 : decode prog_5_method_5_code 43 = .ok (.invokevirtual 68, 3) := by decide +kernel
theorem d_j68_9_17 : decode jdk_68_method_9_code 17 = .ok (.aload_n 0, 1) := by decide +kernel
theorem d_j68_9_18 : decode jdk_68_method_9_code 18 = .ok (.aload_n 0, 1) := by decide +kernel
theorem d_j68_9_19 : decode jdk_68_method_9_code 19 = .ok (.getfield 15, 3) := by decide +kernel
theorem d_j68_9_22 : decode jdk_68_method_9_code 22 = .ok (.aload_n 0, 1) := by decide +kernel
theorem d_j68_9_23 : decode jdk_68_method_9_code 23 = .ok (.iload_n 1, 1) := by decide +kernel
theorem d_j68_9_24 : decode jdk_68_method_9_code 24 = .ok (.invokevirtual 104, 3) := by decide +kernel
theorem d_j68_10_0 : decode jdk_68_method_10_code 0 = .ok (.aload_n 0, 1) := by decide +kernel
theorem d_j68_10_1 : decode jdk_68_method_10_code 1 = .ok (.getfield 15, 3) := by decide +kernel
theorem d_j68_10_4 : decode jdk_68_method_10_code 4 = .ok (.arraylength, 1) := by decide +kernel
theorem d_j68_10_5 : decode jdk_68_method_10_code 5 = .ok (.istore_n 2, 1) := by decide +kernel
theorem d_j68_10_6 : decode jdk_68_method_10_code 6 = .ok (.iload_n 1, 1) := by decide +kernel
theorem d_j68_10_7 : decode jdk_68_method_10_code 7 = .ok (.aload_n 0, 1) := by decide +kernel
theorem d_j68_10_8 : decode jdk_68_method_10_code 8 = .ok (.getfield 22, 3) := by decide +kernel
theorem d_j68_10_11 : decode jdk_68_method_10_code 11 = .ok (.ishl, 1) := by decide +kernel
theorem d_j68_10_12 : decode jdk_68_method_10_code 12 = .ok (.istore_n 3, 1) := by decide +kernel
theorem d_j68_10_13 : decode jdk_68_method_10_code 13 = .ok (.iload_n 3, 1) := by decide +kernel
theorem d_j68_10_14 : decode jdk_68_method_10_code 14 = .ok (.iload_n 2, 1) := by decide +kernel
theorem d_j68_10_15 : decode jdk_68_method_10_code 15 = .ok (.isub, 1) := by decide +kernel
theorem d_j68_10_16 : decode jdk_68_method_10_code 16 = .ok (.istore 4, 2) := by decide +kernel
theorem d_j68_10_18 : decode jdk_68_method_10_code 18 = .ok (.iload_n 2, 1) := by decide +kernel
theorem d_j68_10_19 : decode jdk_68_method_10_code 19 = .ok (.iload 4, 2) := by decide +kernel
theorem d_j68_10_21 : decode jdk_68_method_10_code 21 = .ok (.iload_n 2, 1) := by decide +kernel
theorem d_j68_10_22 : decode jdk_68_method_10_code 22 = .ok (.iconst 2, 1) := by decide +kernel
theorem d_j68_10_23 : decode jdk_68_method_10_code 23 = .ok (.aload_n 0, 1) := by decide +kernel
theorem d_j68_10_24 : decode jdk_68_method_10_code 24 = .ok (.getfield 22, 3) := by decide +kernel
theorem d_j68_10_27 : decode jdk_68_method_10_code 27 = .ok (.ishl, 1) := by decide +kernel
theorem d_j68_10_28 : decode jdk_68_method_10_code 28 = .ok (.iadd, 1) := by decide +kernel
theorem d_j68_10_29 : decode jdk_68_method_10_code 29 = .ok (.invokestatic 114, 3) := by decide +kernel
theorem d_j48_27_0 : decode jdk_48_method_27_code 0 = .ok (.iload_n 0, 1) := by decide +kernel
theorem d_j48_27_1 : decode jdk_48_method_27_code 1 = .ok (.iload_n 1, 1) := by decide +kernel
theorem d_j48_27_2 : decode jdk_48_method_27_code 2 = .ok (.iload_n 2, 1) := by decide +kernel
theorem d_j48_27_3 : decode jdk_48_method_27_code 3 = .ok (.invokestatic 194, 3) := by decide +kernel
theorem d_j29_65_0 : decode jdk_29_method_65_code 0 = .ok (.iload_n 0, 1) := by decide +kernel
theorem d_j29_65_1 : decode jdk_29_method_65_code 1 = .ok (.iload_n 1, 1) := by decide +kernel
theorem d_j29_65_2 : decode jdk_29_method_65_code 2 = .ok (.if_icmp .lt 7, 3) := by decide +kernel
theorem d_j29_65_9 : decode jdk_29_method_65_code 9 = .ok (.iload_n 1, 1) := by decide +kernel
theorem d_j29_65_10 : decode jdk_29_method_65_code 10 = .ok (.ireturn, 1) := by decide +kernel
theorem d_j48_27_6 : decode jdk_48_method_27_code 6 = .ok (.iadd, 1) := by decide +kernel
theorem d_j48_27_7 : decode jdk_48_method_27_code 7 = .ok (.istore_n 3, 1) := by decide +kernel
theorem d_j48_27_8 : decode jdk_48_method_27_code 8 = .ok (.iconst 0, 1) := by decide +kernel
theorem d_j48_27_9 : decode jdk_48_method_27_code 9 = .ok (.iload_n 3, 1) := by decide +kernel
theorem d_j48_27_10 : decode jdk_48_method_27_code 10 = .ok (.if_icmp .ge 11, 3) := by decide +kernel
theorem d_j48_27_13 : decode jdk_48_method_27_code 13 = .ok (.iload_n 3, 1) := by decide +kernel
theorem d_j48_27_14 : decode jdk_48_method_27_code 14 = .ok (.ldc 200, 2) := by decide +kernel
theorem d_j48_27_16 : decode jdk_48_method_27_code 16 = .ok (.if_icmp .gt 5, 3) := by decide +kernel
theorem d_j48_27_19 : decode jdk_48_method_27_code 19 = .ok (.iload_n 3, 1) := by decide +kernel
theorem d_j48_27_20 : decode jdk_48_method_27_code 20 = .ok (.ireturn, 1) := by decide +kernel
theorem d_j68_10_32 : decode jdk_68_method_10_code 32 = .ok (.istore 5, 2) := by decide +kernel
theorem d_j68_10_34 : decode jdk_68_method_10_code 34 = .ok (.iload 5, 2) := by decide +kernel
theorem d_j68_10_36 : decode jdk_68_method_10_code 36 = .ok (.ldc 39, 2) := by decide +kernel
theorem d_j68_10_38 : decode jdk_68_method_10_code 38 = .ok (.if_icmp .ne 13, 3) := by decide +kernel
theorem d_j68_10_51 : decode jdk_68_method_10_code 51 = .ok (.iload 5, 2) := by decide +kernel
theorem d_j68_10_53 : decode jdk_68_method_10_code 53 = .ok (.aload_n 0, 1) := by decide +kernel
theorem d_j68_10_54 : decode jdk_68_method_10_code 54 = .ok (.getfield 22, 3) := by decide +kernel
theorem d_j68_10_57 : decode jdk_68_method_10_code 57 = .ok (.ishr, 1) := by decide +kernel
theorem d_j68_10_58 : decode jdk_68_method_10_code 58 = .ok (.ireturn, 1) := by decide +kernel
theorem d_j68_9_27 : decode jdk_68_method_9_code 27 = .ok (.aload_n 0, 1) := by decide +kernel
theorem d_j68_9_28 : decode jdk_68_method_9_code 28 = .ok (.getfield 22, 3) := by decide +kernel
theorem d_j68_9_31 : decode jdk_68_method_9_code 31 = .ok (.ishl, 1) := by decide +kernel
theorem d_j68_9_32 : decode jdk_68_method_9_code 32 = .ok (.invokestatic 108, 3) := by decide +kernel
theorem d_j65_121_0 : decode jdk_65_method_121_code 0 = .ok (.iload_n 1, 1) := by decide +kernel
theorem d_j65_121_1 : decode jdk_65_method_121_code 1 = .ok (.aload_n 0, 1) := by decide +kernel
theorem d_j65_121_2 : decode jdk_65_method_121_code 2 = .ok (.arraylength, 1) := by decide +kernel
theorem d_j65_121_3 : decode jdk_65_method_121_code 3 = .ok (.if_icmp .ne 11, 3) := by decide +kernel
theorem d_j65_121_14 : decode jdk_65_method_121_code 14 = .ok (.iload_n 1, 1) := by decide +kernel
theorem d_j65_121_15 : decode jdk_65_method_121_code 15 = .ok (.newarray .byte, 2) := by decide +kernel
theorem d_j65_121_17 : decode jdk_65_method_121_code 17 = .ok (.astore_n 2, 1) := by decide +kernel
theorem d_j65_121_18 : decode jdk_65_method_121_code 18 = .ok (.aload_n 0, 1) := by decide +kernel
theorem d_j65_121_19 : decode jdk_65_method_121_code 19 = .ok (.iconst 0, 1) := by decide +kernel
theorem d_j65_121_20 : decode jdk_65_method_121_code 20 = .ok (.aload_n 2, 1) := by decide +kernel
theorem d_j65_121_21 : decode jdk_65_method_121_code 21 = .ok (.iconst 0, 1) := by decide +kernel
theorem d_j65_121_22 : decode jdk_65_method_121_code 22 = .ok (.aload_n 0, 1) := by decide +kernel
theorem d_j65_121_23 : decode jdk_65_method_121_code 23 = .ok (.arraylength, 1) := by decide +kernel
theorem d_j65_121_24 : decode jdk_65_method_121_code 24 = .ok (.iload_n 1, 1) := by decide +kernel
theorem d_j65_121_25 : decode jdk_65_method_121_code 25 = .ok (.invokestatic 304, 3) := by decide +kernel
theorem d_j29_69_5 : decode jdk_29_method_69_code 5 = .ok (.iload_n 0, 1) := by decide +kernel
theorem d_j29_69_6 : decode jdk_29_method_69_code 6 = .ok (.goto 4, 3) := by decide +kernel
theorem d_j65_121_28 : decode jdk_65_method_121_code 28 = .ok (.invokestatic 150, 3) := by decide +kernel
theorem d_j65_121_31 : decode jdk_65_method_121_code 31 = .ok (.aload_n 2, 1) := by decide +kernel
theorem d_j65_121_32 : decode jdk_65_method_121_code 32 = .ok (.areturn, 1) := by decide +kernel
theorem d_j68_9_35 : decode jdk_68_method_9_code 35 = .ok (.putfield 15, 3) := by decide +kernel
theorem d_g5_5_46 : decode prog_5_method_5_code 46 = .ok (.iload_n 1, 1) := by decide +kernel
theorem d_g5_5_47 : decode prog_5_method_5_code 47 = .ok (.invokevirtual 62, 3) := by decide +kernel
theorem d_g5_5_50 : decode prog_5_method_5_code 50 = .ok (.ldc 77, 2) := by decide +kernel
theorem d_g5_5_52 : decode prog_5_method_5_code 52 = .ok (.invokevirtual 68, 3) := by decide +kernel
theorem d_g5_5_55 : decode prog_5_method_5_code 55 = .ok (.invokevirtual 71, 3) := by decide +kernel
theorem d_g5_5_58 : decode prog_5_method_5_code 58 = .ok (.areturn, 1) := by decide +kernel
theorem d_j42_3_0 : decode jdk_42_method_3_code 0 = .ok (.aload_n 0, 1) := by decide +kernel
theorem d_j42_3_1 : decode jdk_42_method_3_code 1 = .ok (.aload_n 1, 1) := by decide +kernel
theorem d_j42_3_2 : decode jdk_42_method_3_code 2 = .ok (.iconst 0, 1) := by decide +kernel
theorem d_j42_3_3 : decode jdk_42_method_3_code 3 = .ok (.aload_n 1, 1) := by decide +kernel
theorem d_j42_3_4 : decode jdk_42_method_3_code 4 = .ok (.arraylength, 1) := by decide +kernel
theorem d_j42_3_5 : decode jdk_42_method_3_code 5 = .ok (.aconst_null, 1) := by decide +kernel
theorem d_j42_3_6 : decode jdk_42_method_3_code 6 = .ok (.invokespecial 27, 3) := by decide +kernel
theorem d_j42_149_0 : decode jdk_42_method_149_code 0 = .ok (.aload_n 0, 1) := by decide +kernel
theorem d_j42_149_1 : decode jdk_42_method_149_code 1 = .ok (.invokespecial 1, 3) := by decide +kernel
theorem d_j42_149_4 : decode jdk_42_method_149_code 4 = .ok (.iload_n 3, 1) := by decide +kernel
theorem d_j42_149_5 : decode jdk_42_method_149_code 5 = .ok (.ifCond .ne 22, 3) := by decide +kernel
theorem d_j42_149_27 : decode jdk_42_method_149_code 27 = .ok (.getstatic 38, 3) := by decide +kernel
theorem d_j42_149_30 : decode jdk_42_method_149_code 30 = .ok (.ifCond .eq 28, 3) := by decide +kernel
theorem d_j42_149_33 : decode jdk_42_method_149_code 33 = .ok (.aload_n 1, 1) := by decide +kernel
theorem d_j42_149_34 : decode jdk_42_method_149_code 34 = .ok (.iload_n 2, 1) := by decide +kernel
theorem d_j42_149_35 : decode jdk_42_method_149_code 35 = .ok (.iload_n 3, 1) := by decide +kernel
theorem d_j42_149_36 : decode jdk_42_method_149_code 36 = .ok (.invokestatic 177, 3) := by decide +kernel
theorem d_j52_16_0 : decode jdk_52_method_16_code 0 = .ok (.iload_n 2, 1) := by decide +kernel
theorem d_j52_16_1 : decode jdk_52_method_16_code 1 = .ok (.newarray .byte, 2) := by decide +kernel
theorem d_j52_16_3 : decode jdk_52_method_16_code 3 = .ok (.astore_n 3, 1) := by decide +kernel
theorem d_j52_16_4 : decode jdk_52_method_16_code 4 = .ok (.aload_n 0, 1) := by decide +kernel
theorem d_j52_16_5 : decode jdk_52_method_16_code 5 = .ok (.iload_n 1, 1) := by decide +kernel
theorem d_j52_16_6 : decode jdk_52_method_16_code 6 = .ok (.aload_n 3, 1) := by decide +kernel
theorem d_j52_16_7 : decode jdk_52_method_16_code 7 = .ok (.iconst 0, 1) := by decide +kernel
theorem d_j52_16_8 : decode jdk_52_method_16_code 8 = .ok (.iload_n 2, 1) := by decide +kernel
theorem d_j52_16_9 : decode jdk_52_method_16_code 9 = .ok (.invokestatic 115, 3) := by decide +kernel
theorem d_j52_21_0 : decode jdk_52_method_21_code 0 = .ok (.iconst 0, 1) := by decide +kernel
theorem d_j52_21_1 : decode jdk_52_method_21_code 1 = .ok (.istore 5, 2) := by decide +kernel
theorem d_j52_21_3 : decode jdk_52_method_21_code 3 = .ok (.iload 5, 2) := by decide +kernel
theorem d_j52_21_5 : decode jdk_52_method_21_code 5 = .ok (.iload 4, 2) := by decide +kernel
theorem d_j52_21_7 : decode jdk_52_method_21_code 7 = .ok (.if_icmp .ge 37, 3) := by decide +kernel
theorem d_j52_21_10 : decode jdk_52_method_21_code 10 = .ok (.aload_n 0, 1) := by decide +kernel
theorem d_j52_21_11 : decode jdk_52_method_21_code 11 = .ok (.iload_n 1, 1) := by decide +kernel
theorem d_j52_21_12 : decode jdk_52_method_21_code 12 = .ok (.caload, 1) := by decide +kernel
theorem d_j52_21_13 : decode jdk_52_method_21_code 13 = .ok (.istore 6, 2) := by decide +kernel
theorem d_j52_21_15 : decode jdk_52_method_21_code 15 = .ok (.iload 6, 2) := by decide +kernel
theorem d_j52_21_17 : decode jdk_52_method_21_code 17 = .ok (.sipush 255, 3) := by decide +kernel
theorem d_j52_21_20 : decode jdk_52_method_21_code 20 = .ok (.if_icmp .le 6, 3) := by decide +kernel
theorem d_j52_21_26 : decode jdk_52_method_21_code 26 = .ok (.aload_n 2, 1) := by decide +kernel
theorem d_j52_21_27 : decode jdk_52_method_21_code 27 = .ok (.iload_n 3, 1) := by decide +kernel
theorem d_j52_21_28 : decode jdk_52_method_21_code 28 = .ok (.iload 6, 2) := by decide +kernel
theorem d_j52_21_30 : decode jdk_52_method_21_code 30 = .ok (.i2b, 1) := by decide +kernel
theorem d_j52_21_31 : decode jdk_52_method_21_code 31 = .ok (.bastore, 1) := by decide +kernel
theorem d_j52_21_32 : decode jdk_52_method_21_code 32 = .ok (.iinc 1 1, 3) := by decide +kernel
theorem d_j52_21_35 : decode jdk_52_method_21_code 35 = .ok (.iinc 3 1, 3) := by decide +kernel
theorem d_j52_21_38 : decode jdk_52_method_21_code 38 = .ok (.iinc 5 1, 3) := by decide +kernel
theorem d_j52_21_41 : decode jdk_52_method_21_code 41 = .ok (.goto (-38), 3) := by decide +kernel
theorem d_j52_21_44 : decode jdk_52_method_21_code 44 = .ok (.iload 4, 2) := by decide +kernel
theorem d_j52_21_46 : decode jdk_52_method_21_code 46 = .ok (.ireturn, 1) := by decide +kernel
theorem d_j52_16_12 : decode jdk_52_method_16_code 12 = .ok (.istore 4, 2) := by decide +kernel
theorem d_j52_16_14 : decode jdk_52_method_16_code 14 = .ok (.iload 4, 2) := by decide +kernel
theorem d_j52_16_16 : decode jdk_52_method_16_code 16 = .ok (.iload_n 2, 1) := by decide +kernel
theorem d_j52_16_17 : decode jdk_52_method_16_code 17 = .ok (.if_icmp .eq 40, 3) := by decide +kernel
theorem d_j52_16_57 : decode jdk_52_method_16_code 57 = .ok (.aload_n 3, 1) := by decide +kernel
theorem d_j52_16_58 : decode jdk_52_method_16_code 58 = .ok (.areturn, 1) := by decide +kernel
theorem d_j42_149_39 : decode jdk_42_method_149_code 39 = .ok (.astore 5, 2) := by decide +kernel
theorem d_j42_149_41 : decode jdk_42_method_149_code 41 = .ok (.aload_n 0, 1) := by decide +kernel
theorem d_j42_149_42 : decode jdk_42_method_149_code 42 = .ok (.aload 5, 2) := by decide +kernel
theorem d_j42_149_44 : decode jdk_42_method_149_code 44 = .ok (.iload_n 3, 1) := by decide +kernel
theorem d_j42_149_45 : decode jdk_42_method_149_code 45 = .ok (.invokestatic 47, 3) := by decide +kernel
theorem d_j52_15_0 : decode jdk_52_method_15_code 0 = .ok (.iload_n 1, 1) := by decide +kernel
theorem d_j52_15_1 : decode jdk_52_method_15_code 1 = .ok (.aload_n 0, 1) := by decide +kernel
theorem d_j52_15_2 : decode jdk_52_method_15_code 2 = .ok (.arraylength, 1) := by decide +kernel
theorem d_j52_15_3 : decode jdk_52_method_15_code 3 = .ok (.isub, 1) := by decide +kernel
theorem d_j52_15_4 : decode jdk_52_method_15_code 4 = .ok (.bipush 31, 2) := by decide +kernel
theorem d_j52_15_6 : decode jdk_52_method_15_code 6 = .ok (.iushr, 1) := by decide +kernel
theorem d_j52_15_7 : decode jdk_52_method_15_code 7 = .ok (.i2b, 1) := by decide +kernel
theorem d_j52_15_8 : decode jdk_52_method_15_code 8 = .ok (.ireturn, 1) := by decide +kernel
theorem d_j42_149_48 : decode jdk_42_method_149_code 48 = .ok (.putfield 15, 3) := by decide +kernel
theorem d_j42_149_51 : decode jdk_42_method_149_code 51 = .ok (.aload_n 0, 1) := by decide +kernel
theorem d_j42_149_52 : decode jdk_42_method_149_code 52 = .ok (.aload 5, 2) := by decide +kernel
theorem d_j42_149_54 : decode jdk_42_method_149_code 54 = .ok (.putfield 9, 3) := by decide +kernel
theorem d_j42_149_57 : decode jdk_42_method_149_code 57 = .ok (.return_, 1) := by decide +kernel
theorem d_j42_3_9 : decode jdk_42_method_3_code 9 = .ok (.return_, 1) := by decide +kernel
theorem d_j42_66_0 : decode jdk_42_method_66_code 0 = .ok (.aload_n 0, 1) := by decide +kernel
theorem d_j42_66_1 : decode jdk_42_method_66_code 1 = .ok (.aload_n 1, 1) := by decide +kernel
theorem d_j42_66_2 : decode jdk_42_method_66_code 2 = .ok (.if_acmp .ne 5, 3) := by decide +kernel
theorem d_j42_66_5 : decode jdk_42_method_66_code 5 = .ok (.iconst 1, 1) := by decide +kernel
theorem d_j42_66_6 : decode jdk_42_method_66_code 6 = .ok (.ireturn, 1) := by decide +kernel
theorem d_j42_66_7 : decode jdk_42_method_66_code 7 = .ok (.aload_n 1, 1) := by decide +kernel
theorem d_j42_66_8 : decode jdk_42_method_66_code 8 = .ok (.instanceof 10, 3) := by decide +kernel
theorem d_j42_66_11 : decode jdk_42_method_66_code 11 = .ok (.ifCond .eq 43, 3) := by decide +kernel
theorem d_j42_66_14 : decode jdk_42_method_66_code 14 = .ok (.aload_n 1, 1) := by decide +kernel
theorem d_j42_66_15 : decode jdk_42_method_66_code 15 = .ok (.checkcast 10, 3) := by decide +kernel
theorem d_j42_66_18 : decode jdk_42_method_66_code 18 = .ok (.astore_n 2, 1) := by decide +kernel
theorem d_j42_66_19 : decode jdk_42_method_66_code 19 = .ok (.getstatic 38, 3) := by decide +kernel
theorem d_j42_66_22 : decode jdk_42_method_66_code 22 = .ok (.ifCond .eq 14, 3) := by decide +kernel
theorem d_j42_66_25 : decode jdk_42_method_66_code 25 = .ok (.aload_n 0, 1) := by decide +kernel
theorem d_j42_66_26 : decode jdk_42_method_66_code 26 = .ok (.getfield 15, 3) := by decide +kernel
theorem d_j42_66_29 : decode jdk_42_method_66_code 29 = .ok (.aload_n 2, 1) := by decide +kernel
theorem d_j42_66_30 : decode jdk_42_method_66_code 30 = .ok (.getfield 15, 3) := by decide +kernel
theorem d_j42_66_33 : decode jdk_42_method_66_code 33 = .ok (.if_icmp .ne 21, 3) := by decide +kernel
theorem d_j42_66_36 : decode jdk_42_method_66_code 36 = .ok (.aload_n 0, 1) := by decide +kernel
theorem d_j42_66_37 : decode jdk_42_method_66_code 37 = .ok (.getfield 9, 3) := by decide +kernel
theorem d_j42_66_40 : decode jdk_42_method_66_code 40 = .ok (.aload_n 2, 1) := by decide +kernel
theorem d_j42_66_41 : decode jdk_42_method_66_code 41 = .ok (.getfield 9, 3) := by decide +kernel
theorem d_j42_66_44 : decode jdk_42_method_66_code 44 = .ok (.invokestatic 541, 3) := by decide +kernel
theorem d_j43_13_0 : decode jdk_43_method_13_code 0 = .ok (.aload_n 0, 1) := by decide +kernel
theorem d_j43_13_1 : decode jdk_43_method_13_code 1 = .ok (.arraylength, 1) := by decide +kernel
theorem d_j43_13_2 : decode jdk_43_method_13_code 2 = .ok (.aload_n 1, 1) := by decide +kernel
theorem d_j43_13_3 : decode jdk_43_method_13_code 3 = .ok (.arraylength, 1) := by decide +kernel
theorem d_j43_13_4 : decode jdk_43_method_13_code 4 = .ok (.if_icmp .ne 30, 3) := by decide +kernel
theorem d_j43_13_7 : decode jdk_43_method_13_code 7 = .ok (.iconst 0, 1) := by decide +kernel
theorem d_j43_13_8 : decode jdk_43_method_13_code 8 = .ok (.istore_n 2, 1) := by decide +kernel
theorem d_j43_13_9 : decode jdk_43_method_13_code 9 = .ok (.iload_n 2, 1) := by decide +kernel
theorem d_j43_13_10 : decode jdk_43_method_13_code 10 = .ok (.aload_n 0, 1) := by decide +kernel
theorem d_j43_13_11 : decode jdk_43_method_13_code 11 = .ok (.arraylength, 1) := by decide +kernel
theorem d_j43_13_12 : decode jdk_43_method_13_code 12 = .ok (.if_icmp .ge 20, 3) := by decide +kernel
theorem d_j43_13_15 : decode jdk_43_method_13_code 15 = .ok (.aload_n 0, 1) := by decide +kernel
theorem d_j43_13_16 : decode jdk_43_method_13_code 16 = .ok (.iload_n 2, 1) := by decide +kernel
theorem d_j43_13_17 : decode jdk_43_method_13_code 17 = .ok (.baload, 1) := by decide +kernel
theorem d_j43_13_18 : decode jdk_43_method_13_code 18 = .ok (.aload_n 1, 1) := by decide +kernel
theorem d_j43_13_19 : decode jdk_43_method_13_code 19 = .ok (.iload_n 2, 1) := by decide +kernel
theorem d_j43_13_20 : decode jdk_43_method_13_code 20 = .ok (.baload, 1) := by decide +kernel
theorem d_j43_13_21 : decode jdk_43_method_13_code 21 = .ok (.if_icmp .eq 5, 3) := by decide +kernel
theorem d_j43_13_26 : decode jdk_43_method_13_code 26 = .ok (.iinc 2 1, 3) := by decide +kernel
theorem d_j43_13_29 : decode jdk_43_method_13_code 29 = .ok (.goto (-20), 3) := by decide +kernel
theorem d_j43_13_32 : decode jdk_43_method_13_code 32 = .ok (.iconst 1, 1) := by decide +kernel
theorem d_j43_13_33 : decode jdk_43_method_13_code 33 = .ok (.ireturn, 1) := by decide +kernel
theorem d_j42_66_47 : decode jdk_42_method_66_code 47 = .ok (.ifCond .eq 7, 3) := by decide +kernel
theorem d_j42_66_50 : decode jdk_42_method_66_code 50 = .ok (.iconst 1, 1) := by decide +kernel
theorem d_j42_66_51 : decode jdk_42_method_66_code 51 = .ok (.goto 4, 3) := by decide +kernel
theorem d_j42_66_55 : decode jdk_42_method_66_code 55 = .ok (.ireturn, 1) := by decide +kernel
abbrev mn0 : MethodName := ⟨"java/lang/AbstractStringBuilder", "<init>", "(I)V"⟩
abbrev mn1 : MethodName := ⟨"java/lang/StringBuilder", "<init>", "()V"⟩
abbrev mn2 : MethodName := ⟨"java/lang/Integer", "stringSize", "(I)I"⟩
abbrev mn3 : MethodName := ⟨"java/lang/AbstractStringBuilder", "ensureCapacityInternal", "(I)V"⟩
abbrev mn4 : MethodName := ⟨"java/lang/AbstractStringBuilder", "isLatin1", "()Z"⟩
abbrev mn5 : MethodName := ⟨"java/lang/Integer", "getChars", "(II[B)I"⟩
abbrev mn6 : MethodName := ⟨"java/lang/AbstractStringBuilder", "append", "(I)Ljava/lang/AbstractStringBuilder;"⟩
abbrev mn7 : MethodName := ⟨"java/lang/StringBuilder", "append", "(I)Ljava/lang/StringBuilder;"⟩
abbrev mn8 : MethodName := ⟨"java/lang/String", "coder", "()B"⟩
abbrev mn9 : MethodName := ⟨"java/lang/String", "length", "()I"⟩
abbrev mn10 : MethodName := ⟨"java/lang/AbstractStringBuilder", "inflateIfNeededFor", "(Ljava/lang/String;)V"⟩
abbrev mn11 : MethodName := ⟨"java/lang/String", "getBytes", "([BIB)V"⟩
abbrev mn12 : MethodName := ⟨"java/lang/AbstractStringBuilder", "putStringAt", "(ILjava/lang/String;)V"⟩
abbrev mn13 : MethodName := ⟨"java/lang/AbstractStringBuilder", "append", "(Ljava/lang/String;)Ljava/lang/AbstractStringBuilder;"⟩
abbrev mn14 : MethodName := ⟨"java/lang/StringBuilder", "append", "(Ljava/lang/String;)Ljava/lang/StringBuilder;"⟩
abbrev mn15 : MethodName := ⟨"java/lang/AbstractStringBuilder", "getValue", "()[B"⟩
abbrev mn16 : MethodName := ⟨"java/lang/AbstractStringBuilder", "length", "()I"⟩
abbrev mn17 : MethodName := ⟨"java/lang/StringBuilder", "length", "()I"⟩
abbrev mn18 : MethodName := ⟨"java/util/Arrays", "checkLength", "(II)V"⟩
abbrev mn19 : MethodName := ⟨"java/lang/Math", "min", "(II)I"⟩
abbrev mn20 : MethodName := ⟨"java/util/Arrays", "copyOfRangeByte", "([BII)[B"⟩
abbrev mn21 : MethodName := ⟨"java/util/Arrays", "copyOfRange", "([BII)[B"⟩
abbrev mn22 : MethodName := ⟨"java/lang/String", "<init>", "(Ljava/lang/AbstractStringBuilder;Ljava/lang/Void;)V"⟩
abbrev mn23 : MethodName := ⟨"java/lang/String", "<init>", "(Ljava/lang/StringBuilder;)V"⟩
abbrev mn24 : MethodName := ⟨"java/lang/StringBuilder", "toString", "()Ljava/lang/String;"⟩
abbrev mn25 : MethodName := ⟨"java/lang/Math", "max", "(II)I"⟩
abbrev mn26 : MethodName := ⟨"jdk/internal/util/ArraysSupport", "newLength", "(III)I"⟩
abbrev mn27 : MethodName := ⟨"java/lang/AbstractStringBuilder", "newCapacity", "(I)I"⟩
abbrev mn28 : MethodName := ⟨"java/util/Arrays", "copyOf", "([BI)[B"⟩
abbrev mn29 : MethodName := ⟨"com/example/faithful_doubles/faithfuldoubles/doubles/ArgumentMatcher", "counted", "(II)Ljava/lang/String;"⟩
abbrev mn30 : MethodName := ⟨"java/lang/StringUTF16", "compress", "([CI[BII)I"⟩
abbrev mn31 : MethodName := ⟨"java/lang/StringUTF16", "compress", "([CII)[B"⟩
abbrev mn32 : MethodName := ⟨"java/lang/StringUTF16", "coderFromArrayLen", "([BI)B"⟩
abbrev mn33 : MethodName := ⟨"java/lang/String", "<init>", "([CIILjava/lang/Void;)V"⟩
abbrev mn34 : MethodName := ⟨"java/lang/String", "<init>", "([C)V"⟩
abbrev mn35 : MethodName := ⟨"java/lang/StringLatin1", "equals", "([B[B)Z"⟩
abbrev mn36 : MethodName := ⟨"java/lang/String", "equals", "(Ljava/lang/Object;)Z"⟩
def Q_init_3 (Z : State) (a1 : Addr) (h0 : Heap) (v : Option Value) (h : Heap) : Prop := ∃ (b1 : Addr) (kc1 : ClassId), v = none ∧ Keep h0 h [a1] ∧ h0.size ≤ b1 ∧ Exa Z h a1 "java/lang/StringBuilder" ∧ Fld Z h a1 "java/lang/AbstractStringBuilder" "coder" "B" (.int 0) ∧ Fld Z h a1 "java/lang/AbstractStringBuilder" "count" "I" (.int 0) ∧ Fld Z h a1 "java/lang/AbstractStringBuilder" "value" "[B" (.ref b1) ∧ Ar Z h b1 kc1 .byte [.int 0, .int 0, .int 0, .int 0, .int 0, .int 0, .int 0, .int 0, .int 0, .int 0, .int 0, .int 0, .int 0, .int 0, .int 0, .int 0] ∧ Exa Z h b1 "[B"
def R_init_3 : Room := { frames := 1, cells := 1, slots := 16, locals := 12 }
theorem rm_init_3 {w : Bool} {Z : State} {a0 : Array Value} (hw : HW a0 Z) (Ts : List String) (a1 : Addr) (cs : Int32) (h0 : Heap) (f : Nat) (Zf : Z.heap.size ≤ f) (Z0 : f ≤ h0.size) (E_a1 : Exa Z h0 a1 "java/lang/StringBuilder") (F_value_a1 : Fld Z h0 a1 "java/lang/AbstractStringBuilder" "value" "[B" .null) (g_a1 : f ≤ a1) (F_coder_a1 : Fld Z h0 a1 "java/lang/AbstractStringBuilder" "coder" "B" (.int 0)) (F_count_a1 : Fld Z h0 a1 "java/lang/AbstractStringBuilder" "count" "I" (.int 0)) (S_cs : G_S_cs Z cs) (hcs : ¬ cs = 0) :
  Con w [] Z mn0 jdk_68_method_2_code 2 none R_init_3 Ts Ts f #[.ref a1, .int 16] h0 (Q_init_3 Z a1 h0) := by
 refine con_of f #[vR a1, vI 16] (plainFor_of_name pn_0) (fun m => rfl) Zf ?_
 intro C H hX0
 refine r_aloadN H 1 d_j68_2_0 ?_
 refine r_initO (W := 0) H 4 d_j68_2_1 (tw17 hw) (tw18 hw) (tw19 hw) ?_
 refine r_gets H 7 d_j68_2_4 (tw20 hw) S_cs ?_
 refine r_ifeqF H 10 d_j68_2_7 hcs ?_
 refine r_aloadN H 11 d_j68_2_10 ?_
 refine r_iloadN H 12 d_j68_2_11 ?_
 refine r_newP H 14 "[B" 16 d_j68_2_12 (tw22 hw) ?_
 intro h1 b1 kc1 g1 l1 K1 E1 A1
 change Ar Z h1 b1 kc1 .byte [.int 0, .int 0, .int 0, .int 0, .int 0, .int 0, .int 0, .int 0, .int 0, .int 0, .int 0, .int 0, .int 0, .int 0, .int 0, .int 0] at A1
 have q2 := (E_a1.keep K1)
 have q3 := (F_value_a1.keep K1 nin0)
 refine r_putf (ty := (.array .byte)) H 17 d_j68_2_14 (tw23 hw) q3 q2 (Or.inl (tw24 hw)) (tw6 hw) g_a1 ?_
 intro h4 W4 K4 E4 F4
 refine r_aloadN H 18 d_j68_2_17 ?_
 refine r_iconst H 19 0 d_j68_2_18 ?_
 have q5 := ((F_coder_a1.keep K1 nin0).other W4 (Or.inr (slot_ne (Or.inl (tw26 hw)) (Or.inl (tw24 hw)) (by decide) (t := .byte) (t' := (.array .byte)) (by decide) (by decide))))
 refine r_putn (v' := (.int 0)) (ty := .byte) H 22 d_j68_2_19 (tw25 hw) q5 E4 (Or.inl (tw26 hw)) (tw6 hw) g_a1 ?_
 intro h6 W6 K6 E6 F6
 refine r_goto H 38 d_j68_2_22 ?_
 have k7 : Keep h0 h1 [a1] := Keep.trans (Keep.refl h0 [a1]) K1 all0
 have k8 : Keep h0 h4 [a1] := Keep.trans k7 K4 (allS (Or.inl (List.mem_of_getElem? (i := 0) rfl)) all0)
 have k9 : Keep h0 h6 [a1] := Keep.trans k8 K6 (allS (Or.inl (List.mem_of_getElem? (i := 0) rfl)) all0)
 have q10 := (((F_count_a1.keep K1 nin0).other W4 (Or.inr (slot_ne (Or.inl (tw38 hw)) (Or.inl (tw24 hw)) (by decide) (t := .int) (t' := (.array .byte)) (by decide) (by decide)))).other W6 (Or.inr (slot_ne (Or.inl (tw38 hw)) (Or.inl (tw26 hw)) (by decide) (t := .int) (t' := .byte) (by decide) (by decide))))
 have q11 := (F4.other W6 (Or.inr (slot_ne (Or.inl (tw24 hw)) (Or.inl (tw26 hw)) (by decide) (t := (.array .byte)) (t' := .byte) (by decide) (by decide))))
 have q12 := ((A1.keep K4 (ninS (Ne.symm (Nat.ne_of_lt (Nat.lt_of_lt_of_le E_a1.lt (nlt nlr (Nat.le_of_eq g1.symm))))) nin0)).keep K6 (ninS (Ne.symm (Nat.ne_of_lt (Nat.lt_of_lt_of_le E_a1.lt (nlt nlr (Nat.le_of_eq g1.symm))))) nin0))
 have q13 := ((E1.keep K4).keep K6)
 exact r_return H d_j68_2_38 (⟨b1, kc1, rfl, k9, (nlt nlr (Nat.le_of_eq g1.symm)), E6, F6, q10, q11, q12, q13⟩)
def Q_init_2 (Z : State) (a1 : Addr) (h0 : Heap) (v : Option Value) (h : Heap) : Prop := ∃ (b1 : Addr) (kc2 : ClassId), v = none ∧ Keep h0 h [a1] ∧ h0.size ≤ b1 ∧ Exa Z h a1 "java/lang/StringBuilder" ∧ Fld Z h a1 "java/lang/AbstractStringBuilder" "coder" "B" (.int 0) ∧ Fld Z h a1 "java/lang/AbstractStringBuilder" "count" "I" (.int 0) ∧ Fld Z h a1 "java/lang/AbstractStringBuilder" "value" "[B" (.ref b1) ∧ Ar Z h b1 kc2 .byte [.int 0, .int 0, .int 0, .int 0, .int 0, .int 0, .int 0, .int 0, .int 0, .int 0, .int 0, .int 0, .int 0, .int 0, .int 0, .int 0] ∧ Exa Z h b1 "[B"
def R_init_2 : Room := { frames := 2, cells := 1, slots := 16, locals := 25 }
theorem rm_init_2 {w : Bool} {Z : State} {a0 : Array Value} (hw : HW a0 Z) (Ts : List String) (a1 : Addr) (cs : Int32) (h0 : Heap) (f : Nat) (Zf : Z.heap.size ≤ f) (Z0 : f ≤ h0.size) (g_a1 : f ≤ a1) (E_a1 : Exa Z h0 a1 "java/lang/StringBuilder") (F_value_a1 : Fld Z h0 a1 "java/lang/AbstractStringBuilder" "value" "[B" .null) (F_coder_a1 : Fld Z h0 a1 "java/lang/AbstractStringBuilder" "coder" "B" (.int 0)) (F_count_a1 : Fld Z h0 a1 "java/lang/AbstractStringBuilder" "count" "I" (.int 0)) (S_cs : G_S_cs Z cs) (hcs : ¬ cs = 0) :
  Con w [] Z mn1 jdk_67_method_1_code 1 none R_init_2 Ts Ts f #[.ref a1] h0 (Q_init_2 Z a1 h0) := by
 refine con_of f #[vR a1] (plainFor_of_name pn_1) (fun m => rfl) Zf ?_
 intro C H hX0
 refine r_aloadN H 1 d_j67_1_0 ?_
 refine r_bipush H 3 16 d_j67_1_1 ?_
 refine r_special (a := a1) (argsL := [.int 16]) (rest := []) (W := 0) H 6 d_j67_1_3 (tw11 hw) (tw12 hw) (tw15 hw) (tw16 hw) (lenOf pd_0 rfl) (rm_init_3 hw Ts a1 cs h0 f Zf Z0 E_a1 F_value_a1 g_a1 F_coder_a1 F_count_a1 S_cs hcs) ?_
 rintro _ hh11 ⟨b1, kc2, rfl, K3, g4, q5, q6, q7, q8, q9, q10⟩
 have k12 : Keep h0 hh11 [a1] := Keep.trans (Keep.refl h0 [a1]) K3 (allS (Or.inl (List.mem_of_getElem? (i := 0) rfl)) all0)
 exact r_return H d_j67_1_6 (⟨b1, kc2, rfl, k12, (nlt nlr g4), q5, q6, q7, q8, q9, q10⟩)
def Q_stringSize_6 (Z : State) (h0 : Heap) (v : Option Value) (h : Heap) : Prop := v = some (.int 1) ∧ h0 = h
def R_stringSize_6 : Room := { frames := 0, cells := 0, slots := 0, locals := 0 }
theorem rm_stringSize_6 {w : Bool} {Z : State} {a0 : Array Value} (hw : HW a0 Z) (Ts : List String) (i1 : Int32) (h0 : Heap) (f : Nat) (Zf : Z.heap.size ≤ f) (Z0 : f ≤ h0.size) (r_i1 : 0 ≤ i1.toInt ∧ i1.toInt ≤ 9) :
  Con w [] Z mn2 jdk_33_method_13_code 4 (some .int) R_stringSize_6 Ts Ts f #[.int i1] h0 (Q_stringSize_6 Z h0) := by
 refine con_of f #[vI i1, .unset, .unset, .unset] (plainFor_of_name pn_2) (fun m => rfl) Zf ?_
 intro C H hX0
 refine r_iconst H 1 1 d_j33_13_0 ?_
 refine r_istoreN H 2 #[vI i1, vI 1, .unset, .unset] d_j33_13_1 ?_
 refine r_iloadN H 3 d_j33_13_2 ?_
 refine r_ifltF H 6 d_j33_13_3 (by have := r_i1; have : (0 : Int32).toInt = 0 := (by decide); simp only [Int32.lt_iff_toInt_lt, ← Int32.toInt_inj]; omega) ?_
 refine r_iconst H 7 0 d_j33_13_6 ?_
 refine r_istoreN H 8 #[vI i1, vI 0, .unset, .unset] d_j33_13_7 ?_
 refine r_iloadN H 9 d_j33_13_8 ?_
 obtain ⟨p1, ep1, rp1⟩ : ∃ p : Int32, (-i1) = p ∧ -9 ≤ p.toInt ∧ p.toInt ≤ 0 := ⟨_, rfl, (by have := r_i1; have h1 := c_ineg i1; have h2 := rng32 (-i1); omega)⟩
 refine r_ineg H 10 p1 d_j33_13_9 ep1 ?_
 refine r_istoreN H 11 #[vI p1, vI 0, .unset, .unset] d_j33_13_10 ?_
 refine r_bipush H 13 (-10 : Int32) d_j33_13_11 ?_
 refine r_istoreN H 14 #[vI p1, vI 0, vI (-10), .unset] d_j33_13_13 ?_
 refine r_iconst H 15 1 d_j33_13_14 ?_
 refine r_istoreN H 16 #[vI p1, vI 0, vI (-10), vI 1] d_j33_13_15 ?_
 refine r_iloadN H 17 d_j33_13_16 ?_
 refine r_bipush H 19 10 d_j33_13_17 ?_
 refine r_icmpgeF H 22 d_j33_13_19 ?_
 refine r_iloadN H 23 d_j33_13_22 ?_
 refine r_iloadN H 24 d_j33_13_23 ?_
 refine r_icmpleF H 27 d_j33_13_24 (by have := rp1; have : (-10 : Int32).toInt = -10 := (by decide); simp only [Int32.lt_iff_toInt_lt, ← Int32.toInt_inj]; omega) ?_
 refine r_iloadN H 28 d_j33_13_27 ?_
 refine r_iloadN H 29 d_j33_13_28 ?_
 refine r_iadd H 30 1 d_j33_13_29 ?_
 subst ep1
 exact r_ireturn H d_j33_13_30 (⟨rfl, rfl⟩)
def Q_ensureCapacityInternal_7 (Z : State) (h0 : Heap) (v : Option Value) (h : Heap) : Prop := v = none ∧ h0 = h
def R_ensureCapacityInternal_7 : Room := { frames := 0, cells := 0, slots := 0, locals := 0 }
theorem rm_ensureCapacityInternal_7 {w : Bool} {Z : State} {a0 : Array Value} (hw : HW a0 Z) (Ts : List String) (a1 : Addr) (a2 : Addr) (c1 : ClassId) (h0 : Heap) (f : Nat) (Zf : Z.heap.size ≤ f) (Z0 : f ≤ h0.size) (F_value_a1 : Fld Z h0 a1 "java/lang/AbstractStringBuilder" "value" "[B" (.ref a2)) (A_a2 : Ar Z h0 a2 c1 .byte [.int 0, .int 0, .int 0, .int 0, .int 0, .int 0, .int 0, .int 0, .int 0, .int 0, .int 0, .int 0, .int 0, .int 0, .int 0, .int 0]) (F_coder_a1 : Fld Z h0 a1 "java/lang/AbstractStringBuilder" "coder" "B" (.int 0)) :
  Con w [] Z mn3 jdk_68_method_9_code 3 none R_ensureCapacityInternal_7 Ts Ts f #[.ref a1, .int 1] h0 (Q_ensureCapacityInternal_7 Z h0) := by
 refine con_of f #[vR a1, vI 1, .unset] (plainFor_of_name pn_0) (fun m => rfl) Zf ?_
 intro C H hX0
 refine r_aloadN H 1 d_j68_9_0 ?_
 refine r_getf H 4 d_j68_9_1 (tw23 hw) F_value_a1 ?_
 refine r_alen H 5 16 d_j68_9_4 A_a2 ?_
 refine r_aloadN H 6 d_j68_9_5 ?_
 refine r_getf H 9 d_j68_9_6 (tw25 hw) F_coder_a1 ?_
 refine r_ishr H 10 16 d_j68_9_9 ?_
 refine r_istoreN H 11 #[vR a1, vI 1, vI 16] d_j68_9_10 ?_
 refine r_iloadN H 12 d_j68_9_11 ?_
 refine r_iloadN H 13 d_j68_9_12 ?_
 refine r_isub H 14 (-15 : Int32) d_j68_9_13 ?_
 refine r_ifleT H 38 d_j68_9_14 ?_
 exact r_return H d_j68_9_38 (⟨rfl, rfl⟩)
def Q_isLatin1_8 (Z : State) (h0 : Heap) (v : Option Value) (h : Heap) : Prop := v = some (.int 1) ∧ h0 = h
def R_isLatin1_8 : Room := { frames := 0, cells := 0, slots := 0, locals := 0 }
theorem rm_isLatin1_8 {w : Bool} {Z : State} {a0 : Array Value} (hw : HW a0 Z) (Ts : List String) (a1 : Addr) (cs : Int32) (h0 : Heap) (f : Nat) (Zf : Z.heap.size ≤ f) (Z0 : f ≤ h0.size) (F_coder_a1 : Fld Z h0 a1 "java/lang/AbstractStringBuilder" "coder" "B" (.int 0)) (S_cs : G_S_cs Z cs) (hcs : ¬ cs = 0) :
  Con w [] Z mn4 jdk_68_method_68_code 1 (some .boolean) R_isLatin1_8 Ts Ts f #[.ref a1] h0 (Q_isLatin1_8 Z h0) := by
 refine con_of f #[vR a1] (plainFor_of_name pn_0) (fun m => rfl) Zf ?_
 intro C H hX0
 refine r_gets H 3 d_j68_68_0 (tw20 hw) S_cs ?_
 refine r_ifeqF H 6 d_j68_68_3 hcs ?_
 refine r_aloadN H 7 d_j68_68_6 ?_
 refine r_getf H 10 d_j68_68_7 (tw25 hw) F_coder_a1 ?_
 refine r_ifneF H 13 d_j68_68_10 ?_
 refine r_iconst H 14 1 d_j68_68_13 ?_
 refine r_goto H 18 d_j68_68_14 ?_
 exact r_nreturn (1 : Int32) H d_j68_68_18 (⟨rfl, rfl⟩)
def Q_getChars_9 (Z : State) (a1 : Addr) (i1 : Int32) (c1 : ClassId) (h0 : Heap) (v : Option Value) (h : Heap) : Prop := v = some (.int 0) ∧ Keep h0 h [a1] ∧ Ar Z h a1 c1 .byte [(.int ((48 : Int32) + i1)), .int 0, .int 0, .int 0, .int 0, .int 0, .int 0, .int 0, .int 0, .int 0, .int 0, .int 0, .int 0, .int 0, .int 0, .int 0] ∧ Exa Z h a1 "[B"
def R_getChars_9 : Room := { frames := 0, cells := 0, slots := 0, locals := 0 }
theorem rm_getChars_9 {w : Bool} {Z : State} {a0 : Array Value} (hw : HW a0 Z) (Ts : List String) (a1 : Addr) (i1 : Int32) (c1 : ClassId) (gDigitOnes : Addr) (kDigitOnes : ClassId) (h0 : Heap) (f : Nat) (Zf : Z.heap.size ≤ f) (Z0 : f ≤ h0.size) (A_a1 : Ar Z h0 a1 c1 .byte [.int 0, .int 0, .int 0, .int 0, .int 0, .int 0, .int 0, .int 0, .int 0, .int 0, .int 0, .int 0, .int 0, .int 0, .int 0, .int 0]) (g_a1 : f ≤ a1) (E_a1 : Exa Z h0 a1 "[B") (r_i1 : 0 ≤ i1.toInt ∧ i1.toInt ≤ 9) (S_DigitOnes : G_S_DigitOnes Z gDigitOnes) (A_DigitOnes : G_A_DigitOnes Z gDigitOnes kDigitOnes) :
  Con w [] Z mn5 jdk_33_method_12_code 7 (some .int) R_getChars_9 Ts Ts f #[.int i1, .int 1, .ref a1] h0 (Q_getChars_9 Z a1 i1 c1 h0) := by
 refine con_of f #[vI i1, vI 1, vR a1, .unset, .unset, .unset, .unset] (plainFor_of_name pn_2) (fun m => rfl) Zf ?_
 intro C H hX0
 refine r_iloadN H 1 d_j33_12_0 ?_
 refine r_istore H 3 #[vI i1, vI 1, vR a1, .unset, .unset, vI 1, .unset] d_j33_12_1 ?_
 refine r_iloadN H 4 d_j33_12_3 ?_
 refine r_ifgeT H 11 d_j33_12_4 (by have := r_i1; have : (0 : Int32).toInt = 0 := (by decide); simp only [Int32.lt_iff_toInt_lt, ← Int32.toInt_inj]; omega) ?_
 refine r_iconst H 12 0 d_j33_12_11 ?_
 refine r_istore H 14 #[vI i1, vI 1, vR a1, .unset, .unset, vI 1, vI 0] d_j33_12_12 ?_
 refine r_iload H 16 d_j33_12_14 ?_
 refine r_ifneF H 19 d_j33_12_16 ?_
 refine r_iloadN H 20 d_j33_12_19 ?_
 obtain ⟨p1, ep1, rp1⟩ : ∃ p : Int32, (-i1) = p ∧ -9 ≤ p.toInt ∧ p.toInt ≤ 0 := ⟨_, rfl, (by have := r_i1; have h1 := c_ineg i1; have h2 := rng32 (-i1); omega)⟩
 refine r_ineg H 21 p1 d_j33_12_20 ep1 ?_
 refine r_istoreN H 22 #[vI p1, vI 1, vR a1, .unset, .unset, vI 1, vI 0] d_j33_12_21 ?_
 refine r_iloadN H 23 d_j33_12_22 ?_
 refine r_bipush H 25 (-100 : Int32) d_j33_12_23 ?_
 refine r_icmpgtT H 72 d_j33_12_25 (by have := rp1; have : (-100 : Int32).toInt = -100 := (by decide); simp only [Int32.lt_iff_toInt_lt, ← Int32.toInt_inj]; omega) ?_
 refine r_aloadN H 73 d_j33_12_72 ?_
 refine r_iinc H 76 #[vI p1, vI 1, vR a1, .unset, .unset, vI 0, vI 0] 0 d_j33_12_73 ?_
 refine r_iload H 78 d_j33_12_76 ?_
 refine r_gets H 81 d_j33_12_78 (tw56 hw) S_DigitOnes ?_
 refine r_iloadN H 82 d_j33_12_81 ?_
 refine r_ineg H 83 i1 d_j33_12_82 (by rw [← ep1]; exact own_neg2 i1) ?_
 have q2 := (A_DigitOnes.ext hX0)
 obtain ⟨p3, ep3, rp3⟩ : ∃ p : Int32, ((48 : Int32) + i1) = p ∧ 48 ≤ p.toInt ∧ p.toInt ≤ 57 := ⟨_, rfl, (by have : (48 : Int32).toInt = 48 := (by decide); have := r_i1; have h1 := c_iadd (48 : Int32) i1; have h2 := rng32 ((48 : Int32) + i1); omega)⟩
 refine r_baload (hj := (by have := r_i1; rw [Int32.lt_iff_toInt_lt]; have : (0 : Int32).toInt = 0 := (by decide); omega)) (hv := (by rw [← ep3]; exact own_do i1 (by have := r_i1; omega))) H 84 p3 d_j33_12_83 q2 ?_
 refine r_bastore (hy := (nar_byte_id (by have := rp3; omega))) H 85 p3 d_j33_12_84 A_a1 g_a1 ?_
 intro h4 K4 A4
 change Ar Z h4 a1 c1 .byte [.int p3, .int 0, .int 0, .int 0, .int 0, .int 0, .int 0, .int 0, .int 0, .int 0, .int 0, .int 0, .int 0, .int 0, .int 0, .int 0] at A4
 refine r_iloadN H 86 d_j33_12_85 ?_
 refine r_bipush H 88 (-9 : Int32) d_j33_12_86 ?_
 refine r_icmpgeT (c := (by have := rp1; have : (-9 : Int32).toInt = -9 := (by decide); simp only [Int32.lt_iff_toInt_lt, ← Int32.toInt_inj]; omega)) H 104 d_j33_12_88 ?_
 refine r_iload H 106 d_j33_12_104 ?_
 refine r_ifeqT H 118 d_j33_12_106 ?_
 refine r_iload H 120 d_j33_12_118 ?_
 have k5 : Keep h0 h4 [a1] := Keep.trans (Keep.refl h0 [a1]) K4 (allS (Or.inl (List.mem_of_getElem? (i := 0) rfl)) all0)
 have q6 := (E_a1.keep K4)
 subst ep1 ep3
 exact r_ireturn H d_j33_12_120 (⟨rfl, k5, A4, q6⟩)
def Q_append_5 (Z : State) (a1 : Addr) (a2 : Addr) (i1 : Int32) (c1 : ClassId) (h0 : Heap) (v : Option Value) (h : Heap) : Prop := v = some (.ref a1) ∧ Keep h0 h [a1, a2] ∧ Exa Z h a1 "java/lang/StringBuilder" ∧ Fld Z h a1 "java/lang/AbstractStringBuilder" "coder" "B" (.int 0) ∧ Fld Z h a1 "java/lang/AbstractStringBuilder" "count" "I" (.int 1) ∧ Fld Z h a1 "java/lang/AbstractStringBuilder" "value" "[B" (.ref a2) ∧ Ar Z h a2 c1 .byte [(.int ((48 : Int32) + i1)), .int 0, .int 0, .int 0, .int 0, .int 0, .int 0, .int 0, .int 0, .int 0, .int 0, .int 0, .int 0, .int 0, .int 0, .int 0] ∧ Exa Z h a2 "[B"
def R_append_5 : Room := { frames := 1, cells := 0, slots := 0, locals := 18 }
theorem rm_append_5 {w : Bool} {Z : State} {a0 : Array Value} (hw : HW a0 Z) (Ts : List String) (a1 : Addr) (a2 : Addr) (i1 : Int32) (c1 : ClassId) (cs : Int32) (gDigitOnes : Addr) (kDigitOnes : ClassId) (h0 : Heap) (f : Nat) (Zf : Z.heap.size ≤ f) (Z0 : f ≤ h0.size) (F_count_a1 : Fld Z h0 a1 "java/lang/AbstractStringBuilder" "count" "I" (.int 0)) (F_value_a1 : Fld Z h0 a1 "java/lang/AbstractStringBuilder" "value" "[B" (.ref a2)) (A_a2 : Ar Z h0 a2 c1 .byte [.int 0, .int 0, .int 0, .int 0, .int 0, .int 0, .int 0, .int 0, .int 0, .int 0, .int 0, .int 0, .int 0, .int 0, .int 0, .int 0]) (F_coder_a1 : Fld Z h0 a1 "java/lang/AbstractStringBuilder" "coder" "B" (.int 0)) (E_a1 : Exa Z h0 a1 "java/lang/StringBuilder") (g_a2 : f ≤ a2) (E_a2 : Exa Z h0 a2 "[B") (g_a1 : f ≤ a1) (r_i1 : 0 ≤ i1.toInt ∧ i1.toInt ≤ 9) (S_cs : G_S_cs Z cs) (S_DigitOnes : G_S_DigitOnes Z gDigitOnes) (A_DigitOnes : G_A_DigitOnes Z gDigitOnes kDigitOnes) (hcs : ¬ cs = 0) :
  Con w [] Z mn6 jdk_68_method_32_code 4 (some (.object "java/lang/AbstractStringBuilder")) R_append_5 Ts Ts f #[.ref a1, .int i1] h0 (Q_append_5 Z a1 a2 i1 c1 h0) := by
 refine con_of f #[vR a1, vI i1, .unset, .unset] (plainFor_of_name pn_0) (fun m => rfl) Zf ?_
 intro C H hX0
 refine r_aloadN H 1 d_j68_32_0 ?_
 refine r_getf H 4 d_j68_32_1 (tw37 hw) F_count_a1 ?_
 refine r_istoreN H 5 #[vR a1, vI i1, vI 0, .unset] d_j68_32_4 ?_
 refine r_iloadN H 6 d_j68_32_5 ?_
 refine r_iloadN H 7 d_j68_32_6 ?_
 refine r_static (argsL := [.int i1]) (rest := [.int 0]) (W := 1) H 10 d_j68_32_7 (tw39 hw) (tw40 hw) (tw41 hw) (tw42 hw) (lenOf pd_2 rfl) (rm_stringSize_6 hw Ts i1 h0 f Zf Z0 r_i1) ?_
 rintro _ _ ⟨rfl, rfl⟩
 refine r_iadd H 11 1 d_j68_32_10 ?_
 refine r_istoreN H 12 #[vR a1, vI i1, vI 0, vI 1] d_j68_32_11 ?_
 refine r_aloadN H 13 d_j68_32_12 ?_
 refine r_iloadN H 14 d_j68_32_13 ?_
 refine r_private (a := a1) (argsL := [.int 1]) (rest := []) (W := 0) H 17 d_j68_32_14 (tw43 hw) (tw44 hw) (tw46 hw) (tw45 hw) (tw15 hw) (tw47 hw) E_a1 (lenOf pd_0 rfl) (rm_ensureCapacityInternal_7 hw Ts a1 a2 c1 h0 f Zf Z0 F_value_a1 A_a2 F_coder_a1) ?_
 rintro _ _ ⟨rfl, rfl⟩
 refine r_aloadN H 18 d_j68_32_17 ?_
 refine r_virtual (z := mn4) (a := a1) (argsL := []) (rest := []) (W := 0) H 21 d_j68_32_18 (tw48 hw) (tw49 hw) (nf_sel (tw51 hw)) (tw51 hw) (tw50 hw) (tw15 hw) (tw52 hw) E_a1 (lenOf pd_3 rfl) (rm_isLatin1_8 hw Ts a1 cs h0 f Zf Z0 F_coder_a1 S_cs hcs) ?_
 rintro _ _ ⟨rfl, rfl⟩
 refine r_ifeqF H 24 d_j68_32_21 (by decide) ?_
 refine r_iloadN H 25 d_j68_32_24 ?_
 refine r_iloadN H 26 d_j68_32_25 ?_
 refine r_aloadN H 27 d_j68_32_26 ?_
 refine r_getf H 30 d_j68_32_27 (tw23 hw) F_value_a1 ?_
 refine r_static (argsL := [.int i1, .int 1, .ref a2]) (rest := []) (W := 0) H 33 d_j68_32_30 (tw53 hw) (tw54 hw) (tw41 hw) (tw55 hw) (lenOf pd_4 rfl) (rm_getChars_9 hw Ts a2 i1 c1 gDigitOnes kDigitOnes h0 f Zf Z0 A_a2 g_a2 E_a2 r_i1 S_DigitOnes A_DigitOnes) ?_
 rintro _ hh7 ⟨rfl, K4, q5, q6⟩
 refine r_pop H 34 d_j68_32_33 ?_
 refine r_goto H 48 d_j68_32_34 ?_
 refine r_aloadN H 49 d_j68_32_48 ?_
 refine r_iloadN H 50 d_j68_32_49 ?_
 have q8 := (E_a1.keep K4)
 have q9 := (F_count_a1.keep K4 (ninS (ne_exa q8 q6 (by decide)) nin0))
 refine r_putf (ty := .int) H 53 d_j68_32_50 (tw37 hw) q9 q8 (Or.inl (tw38 hw)) (tw6 hw) g_a1 ?_
 intro h10 W10 K10 E10 F10
 refine r_aloadN H 54 d_j68_32_53 ?_
 have k11 : Keep h0 hh7 [a1, a2] := Keep.trans (Keep.refl h0 [a1, a2]) K4 (allS (Or.inl (List.mem_of_getElem? (i := 1) rfl)) all0)
 have k12 : Keep h0 h10 [a1, a2] := Keep.trans k11 K10 (allS (Or.inl (List.mem_of_getElem? (i := 0) rfl)) all0)
 have q13 := (q6.keep K10)
 have q14 := ((F_coder_a1.keep K4 (ninS (ne_exa E10 q13 (by decide)) nin0)).other W10 (Or.inr (slot_ne (Or.inl (tw26 hw)) (Or.inl (tw38 hw)) (by decide) (t := .byte) (t' := .int) (by decide) (by decide))))
 have q15 := ((F_value_a1.keep K4 (ninS (ne_exa E10 q13 (by decide)) nin0)).other W10 (Or.inr (slot_ne (Or.inl (tw24 hw)) (Or.inl (tw38 hw)) (by decide) (t := (.array .byte)) (t' := .int) (by decide) (by decide))))
 have q16 := (q5.keep K10 (ninS (ne_exa q13 E10 (by decide)) nin0))
 exact r_areturn H d_j68_32_54 (⟨rfl, k12, E10, q14, F10, q15, q16, q13⟩)
def Q_append_4 (Z : State) (a1 : Addr) (a2 : Addr) (i1 : Int32) (c1 : ClassId) (h0 : Heap) (v : Option Value) (h : Heap) : Prop := v = some (.ref a1) ∧ Keep h0 h [a1, a2] ∧ Exa Z h a1 "java/lang/StringBuilder" ∧ Fld Z h a1 "java/lang/AbstractStringBuilder" "coder" "B" (.int 0) ∧ Fld Z h a1 "java/lang/AbstractStringBuilder" "count" "I" (.int 1) ∧ Fld Z h a1 "java/lang/AbstractStringBuilder" "value" "[B" (.ref a2) ∧ Ar Z h a2 c1 .byte [(.int ((48 : Int32) + i1)), .int 0, .int 0, .int 0, .int 0, .int 0, .int 0, .int 0, .int 0, .int 0, .int 0, .int 0, .int 0, .int 0, .int 0, .int 0] ∧ Exa Z h a2 "[B"
def R_append_4 : Room := { frames := 2, cells := 0, slots := 0, locals := 33 }
theorem rm_append_4 {w : Bool} {Z : State} {a0 : Array Value} (hw : HW a0 Z) (Ts : List String) (a1 : Addr) (a2 : Addr) (i1 : Int32) (c1 : ClassId) (cs : Int32) (gDigitOnes : Addr) (kDigitOnes : ClassId) (h0 : Heap) (f : Nat) (Zf : Z.heap.size ≤ f) (Z0 : f ≤ h0.size) (g_a2 : f ≤ a2) (g_a1 : f ≤ a1) (F_count_a1 : Fld Z h0 a1 "java/lang/AbstractStringBuilder" "count" "I" (.int 0)) (F_value_a1 : Fld Z h0 a1 "java/lang/AbstractStringBuilder" "value" "[B" (.ref a2)) (A_a2 : Ar Z h0 a2 c1 .byte [.int 0, .int 0, .int 0, .int 0, .int 0, .int 0, .int 0, .int 0, .int 0, .int 0, .int 0, .int 0, .int 0, .int 0, .int 0, .int 0]) (F_coder_a1 : Fld Z h0 a1 "java/lang/AbstractStringBuilder" "coder" "B" (.int 0)) (E_a1 : Exa Z h0 a1 "java/lang/StringBuilder") (E_a2 : Exa Z h0 a2 "[B") (r_i1 : 0 ≤ i1.toInt ∧ i1.toInt ≤ 9) (S_cs : G_S_cs Z cs) (S_DigitOnes : G_S_DigitOnes Z gDigitOnes) (A_DigitOnes : G_A_DigitOnes Z gDigitOnes kDigitOnes) (hcs : ¬ cs = 0) :
  Con w [] Z mn7 jdk_67_method_15_code 2 (some (.object "java/lang/StringBuilder")) R_append_4 Ts Ts f #[.ref a1, .int i1] h0 (Q_append_4 Z a1 a2 i1 c1 h0) := by
 refine con_of f #[vR a1, vI i1] (plainFor_of_name pn_1) (fun m => rfl) Zf ?_
 intro C H hX0
 refine r_aloadN H 1 d_j67_15_0 ?_
 refine r_iloadN H 2 d_j67_15_1 ?_
 refine r_super (a := a1) (argsL := [.int i1]) (rest := []) (W := 0) H 5 d_j67_15_2 (tw32 hw) (same_self (tw35 hw) (tw46 hw) rfl (by decide)) (tw33 hw) (tw34 hw) (tw15 hw) (tw36 hw) (Ins.self E_a1) (lenOf pd_5 rfl) (rm_append_5 hw Ts a1 a2 i1 c1 cs gDigitOnes kDigitOnes h0 f Zf Z0 F_count_a1 F_value_a1 A_a2 F_coder_a1 E_a1 g_a2 E_a2 g_a1 r_i1 S_cs S_DigitOnes A_DigitOnes hcs) ?_
 rintro _ hh8 ⟨rfl, K1, q2, q3, q4, q5, q6, q7⟩
 refine r_pop H 6 d_j67_15_5 ?_
 refine r_aloadN H 7 d_j67_15_6 ?_
 have k9 : Keep h0 hh8 [a1, a2] := Keep.trans (Keep.refl h0 [a1, a2]) K1 (allS (Or.inl (List.mem_of_getElem? (i := 0) rfl)) (allS (Or.inl (List.mem_of_getElem? (i := 1) rfl)) all0))
 exact r_areturn H d_j67_15_7 (⟨rfl, k9, q2, q3, q4, q5, q6, q7⟩)
def Q_coder_13 (Z : State) (h0 : Heap) (v : Option Value) (h : Heap) : Prop := v = some (.int 0) ∧ h0 = h
def R_coder_13 : Room := { frames := 0, cells := 0, slots := 0, locals := 0 }
theorem rm_coder_13 {w : Bool} {Z : State} {a0 : Array Value} (hw : HW a0 Z) (Ts : List String) (a1 : Addr) (cs : Int32) (h0 : Heap) (f : Nat) (Zf : Z.heap.size ≤ f) (Z0 : f ≤ h0.size) (F_coder_a1 : Fld Z h0 a1 "java/lang/String" "coder" "B" (.int 0)) (S_cs : G_S_cs Z cs) (hcs : ¬ cs = 0) :
  Con w [] Z mn8 jdk_42_method_152_code 1 (some .byte) R_coder_13 Ts Ts f #[.ref a1] h0 (Q_coder_13 Z h0) := by
 refine con_of f #[vR a1] (plainFor_of_name pn_3) (fun m => rfl) Zf ?_
 intro C H hX0
 refine r_gets H 3 d_j42_152_0 (tw83 hw) S_cs ?_
 refine r_ifeqF H 6 d_j42_152_3 hcs ?_
 refine r_aloadN H 7 d_j42_152_6 ?_
 refine r_getf H 10 d_j42_152_7 (tw84 hw) F_coder_a1 ?_
 refine r_goto H 14 d_j42_152_10 ?_
 exact r_nreturn (0 : Int32) H d_j42_152_14 (⟨rfl, rfl⟩)
def Q_length_12 (Z : State) (h0 : Heap) (v : Option Value) (h : Heap) : Prop := v = some (.int 9) ∧ h0 = h
def R_length_12 : Room := { frames := 1, cells := 0, slots := 0, locals := 13 }
theorem rm_length_12 {w : Bool} {Z : State} {a0 : Array Value} (hw : HW a0 Z) (Ts : List String) (a1 : Addr) (a2 : Addr) (c1 : ClassId) (cs : Int32) (h0 : Heap) (f : Nat) (Zf : Z.heap.size ≤ f) (Z0 : f ≤ h0.size) (F_value_a1 : Fld Z h0 a1 "java/lang/String" "value" "[B" (.ref a2)) (A_a2 : Ar Z h0 a2 c1 .byte [.int 32, .int 109, .int 97, .int 116, .int 99, .int 104, .int 101, .int 114, .int 115]) (E_a1 : Exa Z h0 a1 "java/lang/String") (F_coder_a1 : Fld Z h0 a1 "java/lang/String" "coder" "B" (.int 0)) (S_cs : G_S_cs Z cs) (hcs : ¬ cs = 0) :
  Con w [] Z mn9 jdk_42_method_54_code 1 (some .int) R_length_12 Ts Ts f #[.ref a1] h0 (Q_length_12 Z h0) := by
 refine con_of f #[vR a1] (plainFor_of_name pn_3) (fun m => rfl) Zf ?_
 intro C H hX0
 refine r_aloadN H 1 d_j42_54_0 ?_
 refine r_getf H 4 d_j42_54_1 (tw77 hw) F_value_a1 ?_
 refine r_alen H 5 9 d_j42_54_4 A_a2 ?_
 refine r_aloadN H 6 d_j42_54_5 ?_
 refine r_virtual (z := mn8) (a := a1) (argsL := []) (rest := [.int 9]) (W := 1) H 9 d_j42_54_6 (tw78 hw) (tw79 hw) (nf_sel (tw81 hw)) (tw81 hw) (tw80 hw) (tw21 hw) (tw82 hw) E_a1 (lenOf pd_7 rfl) (rm_coder_13 hw Ts a1 cs h0 f Zf Z0 F_coder_a1 S_cs hcs) ?_
 rintro _ _ ⟨rfl, rfl⟩
 refine r_ishr H 10 9 d_j42_54_9 ?_
 exact r_ireturn H d_j42_54_10 (⟨rfl, rfl⟩)
def Q_ensureCapacityInternal_14 (Z : State) (h0 : Heap) (v : Option Value) (h : Heap) : Prop := v = none ∧ h0 = h
def R_ensureCapacityInternal_14 : Room := { frames := 0, cells := 0, slots := 0, locals := 0 }
theorem rm_ensureCapacityInternal_14 {w : Bool} {Z : State} {a0 : Array Value} (hw : HW a0 Z) (Ts : List String) (a1 : Addr) (a2 : Addr) (i1 : Int32) (c1 : ClassId) (h0 : Heap) (f : Nat) (Zf : Z.heap.size ≤ f) (Z0 : f ≤ h0.size) (F_value_a1 : Fld Z h0 a1 "java/lang/AbstractStringBuilder" "value" "[B" (.ref a2)) (A_a2 : Ar Z h0 a2 c1 .byte [.int i1, .int 0, .int 0, .int 0, .int 0, .int 0, .int 0, .int 0, .int 0, .int 0, .int 0, .int 0, .int 0, .int 0, .int 0, .int 0]) (F_coder_a1 : Fld Z h0 a1 "java/lang/AbstractStringBuilder" "coder" "B" (.int 0)) :
  Con w [] Z mn3 jdk_68_method_9_code 3 none R_ensureCapacityInternal_14 Ts Ts f #[.ref a1, .int 10] h0 (Q_ensureCapacityInternal_14 Z h0) := by
 refine con_of f #[vR a1, vI 10, .unset] (plainFor_of_name pn_0) (fun m => rfl) Zf ?_
 intro C H hX0
 refine r_aloadN H 1 d_j68_9_0 ?_
 refine r_getf H 4 d_j68_9_1 (tw23 hw) F_value_a1 ?_
 refine r_alen H 5 16 d_j68_9_4 A_a2 ?_
 refine r_aloadN H 6 d_j68_9_5 ?_
 refine r_getf H 9 d_j68_9_6 (tw25 hw) F_coder_a1 ?_
 refine r_ishr H 10 16 d_j68_9_9 ?_
 refine r_istoreN H 11 #[vR a1, vI 10, vI 16] d_j68_9_10 ?_
 refine r_iloadN H 12 d_j68_9_11 ?_
 refine r_iloadN H 13 d_j68_9_12 ?_
 refine r_isub H 14 (-6 : Int32) d_j68_9_13 ?_
 refine r_ifleT H 38 d_j68_9_14 ?_
 exact r_return H d_j68_9_38 (⟨rfl, rfl⟩)
def Q_inflateIfNeededFor_16 (Z : State) (h0 : Heap) (v : Option Value) (h : Heap) : Prop := v = none ∧ h0 = h
def R_inflateIfNeededFor_16 : Room := { frames := 1, cells := 0, slots := 0, locals := 13 }
theorem rm_inflateIfNeededFor_16 {w : Bool} {Z : State} {a0 : Array Value} (hw : HW a0 Z) (Ts : List String) (a1 : Addr) (a2 : Addr) (cs : Int32) (h0 : Heap) (f : Nat) (Zf : Z.heap.size ≤ f) (Z0 : f ≤ h0.size) (F_coder_a1 : Fld Z h0 a1 "java/lang/AbstractStringBuilder" "coder" "B" (.int 0)) (E_a2 : Exa Z h0 a2 "java/lang/String") (F_coder_a2 : Fld Z h0 a2 "java/lang/String" "coder" "B" (.int 0)) (S_cs : G_S_cs Z cs) (hcs : ¬ cs = 0) :
  Con w [] Z mn10 jdk_68_method_71_code 2 none R_inflateIfNeededFor_16 Ts Ts f #[.ref a1, .ref a2] h0 (Q_inflateIfNeededFor_16 Z h0) := by
 refine con_of f #[vR a1, vR a2] (plainFor_of_name pn_0) (fun m => rfl) Zf ?_
 intro C H hX0
 refine r_gets H 3 d_j68_71_0 (tw20 hw) S_cs ?_
 refine r_ifeqF H 6 d_j68_71_3 hcs ?_
 refine r_aloadN H 7 d_j68_71_6 ?_
 refine r_getf H 10 d_j68_71_7 (tw25 hw) F_coder_a1 ?_
 refine r_aloadN H 11 d_j68_71_10 ?_
 refine r_virtual (z := mn8) (a := a2) (argsL := []) (rest := [.int 0]) (W := 1) H 14 d_j68_71_11 (tw95 hw) (tw79 hw) (nf_sel (tw81 hw)) (tw81 hw) (tw80 hw) (tw21 hw) (tw82 hw) E_a2 (lenOf pd_7 rfl) (rm_coder_13 hw Ts a2 cs h0 f Zf Z0 F_coder_a2 S_cs hcs) ?_
 rintro _ _ ⟨rfl, rfl⟩
 refine r_icmpeqT H 21 d_j68_71_14 ?_
 exact r_return H d_j68_71_21 (⟨rfl, rfl⟩)
def Q_getBytes_17 (Z : State) (a2 : Addr) (i1 : Int32) (c1 : ClassId) (h0 : Heap) (v : Option Value) (h : Heap) : Prop := v = none ∧ Keep h0 h [a2] ∧ Ar Z h a2 c1 .byte [.int i1, .int 32, .int 109, .int 97, .int 116, .int 99, .int 104, .int 101, .int 114, .int 115, .int 0, .int 0, .int 0, .int 0, .int 0, .int 0] ∧ Exa Z h a2 "[B"
def R_getBytes_17 : Room := { frames := 1, cells := 0, slots := 0, locals := 18 }
theorem rm_getBytes_17 {w : Bool} {Z : State} {a0 : Array Value} (hw : HW a0 Z) (Ts : List String) (a1 : Addr) (a2 : Addr) (a3 : Addr) (i1 : Int32) (c1 : ClassId) (c2 : ClassId) (cs : Int32) (h0 : Heap) (f : Nat) (Zf : Z.heap.size ≤ f) (Z0 : f ≤ h0.size) (E_a1 : Exa Z h0 a1 "java/lang/String") (F_coder_a1 : Fld Z h0 a1 "java/lang/String" "coder" "B" (.int 0)) (F_value_a1 : Fld Z h0 a1 "java/lang/String" "value" "[B" (.ref a3)) (A_a3 : Ar Z h0 a3 c2 .byte [.int 32, .int 109, .int 97, .int 116, .int 99, .int 104, .int 101, .int 114, .int 115]) (A_a2 : Ar Z h0 a2 c1 .byte [.int i1, .int 0, .int 0, .int 0, .int 0, .int 0, .int 0, .int 0, .int 0, .int 0, .int 0, .int 0, .int 0, .int 0, .int 0, .int 0]) (g_a2 : f ≤ a2) (E_a2 : Exa Z h0 a2 "[B") (S_cs : G_S_cs Z cs) (hcs : ¬ cs = 0) :
  Con w [] Z mn11 jdk_42_method_147_code 4 none R_getBytes_17 Ts Ts f #[.ref a1, .ref a2, .int 1, .int 0] h0 (Q_getBytes_17 Z a2 i1 c1 h0) := by
 refine con_of f #[vR a1, vR a2, vI 1, vI 0] (plainFor_of_name pn_3) (fun m => rfl) Zf ?_
 intro C H hX0
 refine r_aloadN H 1 d_j42_147_0 ?_
 refine r_virtual (z := mn8) (a := a1) (argsL := []) (rest := []) (W := 0) H 4 d_j42_147_1 (tw78 hw) (tw79 hw) (nf_sel (tw81 hw)) (tw81 hw) (tw80 hw) (tw21 hw) (tw82 hw) E_a1 (lenOf pd_7 rfl) (rm_coder_13 hw Ts a1 cs h0 f Zf Z0 F_coder_a1 S_cs hcs) ?_
 rintro _ _ ⟨rfl, rfl⟩
 refine r_iloadN H 5 d_j42_147_4 ?_
 refine r_icmpneF H 8 d_j42_147_5 rfl (by decide) ?_
 refine r_aloadN H 9 d_j42_147_8 ?_
 refine r_getf H 12 d_j42_147_9 (tw77 hw) F_value_a1 ?_
 refine r_iconst H 13 0 d_j42_147_12 ?_
 refine r_aloadN H 14 d_j42_147_13 ?_
 refine r_iloadN H 15 d_j42_147_14 ?_
 refine r_iloadN H 16 d_j42_147_15 ?_
 refine r_ishl H 17 1 d_j42_147_16 ?_
 refine r_aloadN H 18 d_j42_147_17 ?_
 refine r_getf H 21 d_j42_147_18 (tw77 hw) F_value_a1 ?_
 refine r_alen H 22 9 d_j42_147_21 A_a3 ?_
 refine r_copy (W := 0) H 25 d_j42_147_22 (tw101 hw) (tw104 hw) (tw102 hw) (tw103 hw) A_a3 A_a2 g_a2 ?_
 intro h2 K2 A2
 change Ar Z h2 a2 c1 .byte [.int i1, .int 32, .int 109, .int 97, .int 116, .int 99, .int 104, .int 101, .int 114, .int 115, .int 0, .int 0, .int 0, .int 0, .int 0, .int 0] at A2
 refine r_goto H 43 d_j42_147_25 ?_
 have k3 : Keep h0 h2 [a2] := Keep.trans (Keep.refl h0 [a2]) K2 (allS (Or.inl (List.mem_of_getElem? (i := 0) rfl)) all0)
 have q4 := (E_a2.keep K2)
 exact r_return H d_j42_147_43 (⟨rfl, k3, A2, q4⟩)
def Q_putStringAt_15 (Z : State) (a3 : Addr) (i1 : Int32) (c1 : ClassId) (h0 : Heap) (v : Option Value) (h : Heap) : Prop := v = none ∧ Keep h0 h [a3] ∧ Ar Z h a3 c1 .byte [.int i1, .int 32, .int 109, .int 97, .int 116, .int 99, .int 104, .int 101, .int 114, .int 115, .int 0, .int 0, .int 0, .int 0, .int 0, .int 0] ∧ Exa Z h a3 "[B"
def R_putStringAt_15 : Room := { frames := 2, cells := 0, slots := 0, locals := 33 }
theorem rm_putStringAt_15 {w : Bool} {Z : State} {a0 : Array Value} (hw : HW a0 Z) (Ts : List String) (a1 : Addr) (a2 : Addr) (a3 : Addr) (a4 : Addr) (i1 : Int32) (c1 : ClassId) (c2 : ClassId) (cs : Int32) (h0 : Heap) (f : Nat) (Zf : Z.heap.size ≤ f) (Z0 : f ≤ h0.size) (F_coder_a1 : Fld Z h0 a1 "java/lang/AbstractStringBuilder" "coder" "B" (.int 0)) (E_a2 : Exa Z h0 a2 "java/lang/String") (F_coder_a2 : Fld Z h0 a2 "java/lang/String" "coder" "B" (.int 0)) (E_a1 : Exa Z h0 a1 "java/lang/StringBuilder") (F_value_a1 : Fld Z h0 a1 "java/lang/AbstractStringBuilder" "value" "[B" (.ref a3)) (g_a3 : f ≤ a3) (F_value_a2 : Fld Z h0 a2 "java/lang/String" "value" "[B" (.ref a4)) (A_a4 : Ar Z h0 a4 c2 .byte [.int 32, .int 109, .int 97, .int 116, .int 99, .int 104, .int 101, .int 114, .int 115]) (A_a3 : Ar Z h0 a3 c1 .byte [.int i1, .int 0, .int 0, .int 0, .int 0, .int 0, .int 0, .int 0, .int 0, .int 0, .int 0, .int 0, .int 0, .int 0, .int 0, .int 0]) (E_a3 : Exa Z h0 a3 "[B") (S_cs : G_S_cs Z cs) (hcs : ¬ cs = 0) :
  Con w [] Z mn12 jdk_68_method_73_code 3 none R_putStringAt_15 Ts Ts f #[.ref a1, .int 1, .ref a2] h0 (Q_putStringAt_15 Z a3 i1 c1 h0) := by
 refine con_of f #[vR a1, vI 1, vR a2] (plainFor_of_name pn_0) (fun m => rfl) Zf ?_
 intro C H hX0
 refine r_aloadN H 1 d_j68_73_0 ?_
 refine r_aloadN H 2 d_j68_73_1 ?_
 refine r_private (a := a1) (argsL := [.ref a2]) (rest := []) (W := 0) H 5 d_j68_73_2 (tw90 hw) (tw91 hw) (tw93 hw) (tw92 hw) (tw15 hw) (tw94 hw) E_a1 (lenOf pd_9 rfl) (rm_inflateIfNeededFor_16 hw Ts a1 a2 cs h0 f Zf Z0 F_coder_a1 E_a2 F_coder_a2 S_cs hcs) ?_
 rintro _ _ ⟨rfl, rfl⟩
 refine r_aloadN H 6 d_j68_73_5 ?_
 refine r_aloadN H 7 d_j68_73_6 ?_
 refine r_getf H 10 d_j68_73_7 (tw23 hw) F_value_a1 ?_
 refine r_iloadN H 11 d_j68_73_10 ?_
 refine r_aloadN H 12 d_j68_73_11 ?_
 refine r_getf H 15 d_j68_73_12 (tw25 hw) F_coder_a1 ?_
 refine r_virtual (z := mn11) (a := a2) (argsL := [.ref a3, .int 1, .int 0]) (rest := []) (W := 0) H 18 d_j68_73_15 (tw96 hw) (tw97 hw) (nf_sel (tw99 hw)) (tw99 hw) (tw98 hw) (tw21 hw) (tw100 hw) E_a2 (lenOf pd_10 rfl) (rm_getBytes_17 hw Ts a2 a3 a4 i1 c1 c2 cs h0 f Zf Z0 E_a2 F_coder_a2 F_value_a2 A_a4 A_a3 g_a3 E_a3 S_cs hcs) ?_
 rintro _ hh5 ⟨rfl, K2, q3, q4⟩
 have k6 : Keep h0 hh5 [a3] := Keep.trans (Keep.refl h0 [a3]) K2 (allS (Or.inl (List.mem_of_getElem? (i := 0) rfl)) all0)
 exact r_return H d_j68_73_18 (⟨rfl, k6, q3, q4⟩)
def Q_append_11 (Z : State) (a1 : Addr) (a3 : Addr) (i1 : Int32) (c1 : ClassId) (h0 : Heap) (v : Option Value) (h : Heap) : Prop := v = some (.ref a1) ∧ Keep h0 h [a1, a3] ∧ Exa Z h a1 "java/lang/StringBuilder" ∧ Fld Z h a1 "java/lang/AbstractStringBuilder" "coder" "B" (.int 0) ∧ Fld Z h a1 "java/lang/AbstractStringBuilder" "count" "I" (.int 10) ∧ Fld Z h a1 "java/lang/AbstractStringBuilder" "value" "[B" (.ref a3) ∧ Ar Z h a3 c1 .byte [.int i1, .int 32, .int 109, .int 97, .int 116, .int 99, .int 104, .int 101, .int 114, .int 115, .int 0, .int 0, .int 0, .int 0, .int 0, .int 0] ∧ Exa Z h a3 "[B"
def R_append_11 : Room := { frames := 3, cells := 0, slots := 0, locals := 47 }
theorem rm_append_11 {w : Bool} {Z : State} {a0 : Array Value} (hw : HW a0 Z) (Ts : List String) (a1 : Addr) (a2 : Addr) (a3 : Addr) (a4 : Addr) (i1 : Int32) (c1 : ClassId) (c2 : ClassId) (cs : Int32) (h0 : Heap) (f : Nat) (Zf : Z.heap.size ≤ f) (Z0 : f ≤ h0.size) (E_a2 : Exa Z h0 a2 "java/lang/String") (F_value_a2 : Fld Z h0 a2 "java/lang/String" "value" "[B" (.ref a4)) (A_a4 : Ar Z h0 a4 c2 .byte [.int 32, .int 109, .int 97, .int 116, .int 99, .int 104, .int 101, .int 114, .int 115]) (F_coder_a2 : Fld Z h0 a2 "java/lang/String" "coder" "B" (.int 0)) (F_count_a1 : Fld Z h0 a1 "java/lang/AbstractStringBuilder" "count" "I" (.int 1)) (F_value_a1 : Fld Z h0 a1 "java/lang/AbstractStringBuilder" "value" "[B" (.ref a3)) (A_a3 : Ar Z h0 a3 c1 .byte [.int i1, .int 0, .int 0, .int 0, .int 0, .int 0, .int 0, .int 0, .int 0, .int 0, .int 0, .int 0, .int 0, .int 0, .int 0, .int 0]) (F_coder_a1 : Fld Z h0 a1 "java/lang/AbstractStringBuilder" "coder" "B" (.int 0)) (E_a1 : Exa Z h0 a1 "java/lang/StringBuilder") (g_a3 : f ≤ a3) (E_a3 : Exa Z h0 a3 "[B") (g_a1 : f ≤ a1) (S_cs : G_S_cs Z cs) (hcs : ¬ cs = 0) :
  Con w [] Z mn13 jdk_68_method_22_code 3 (some (.object "java/lang/AbstractStringBuilder")) R_append_11 Ts Ts f #[.ref a1, .ref a2] h0 (Q_append_11 Z a1 a3 i1 c1 h0) := by
 refine con_of f #[vR a1, vR a2, .unset] (plainFor_of_name pn_0) (fun m => rfl) Zf ?_
 intro C H hX0
 refine r_aloadN H 1 d_j68_22_0 ?_
 refine r_ifnonnullT H 9 d_j68_22_1 ?_
 refine r_aloadN H 10 d_j68_22_9 ?_
 refine r_virtual (z := mn9) (a := a2) (argsL := []) (rest := []) (W := 0) H 13 d_j68_22_10 (tw72 hw) (tw73 hw) (nf_sel (tw75 hw)) (tw75 hw) (tw74 hw) (tw21 hw) (tw76 hw) E_a2 (lenOf pd_8 rfl) (rm_length_12 hw Ts a2 a4 c2 cs h0 f Zf Z0 F_value_a2 A_a4 E_a2 F_coder_a2 S_cs hcs) ?_
 rintro _ _ ⟨rfl, rfl⟩
 refine r_istoreN H 14 #[vR a1, vR a2, vI 9] d_j68_22_13 ?_
 refine r_aloadN H 15 d_j68_22_14 ?_
 refine r_aloadN H 16 d_j68_22_15 ?_
 refine r_getf H 19 d_j68_22_16 (tw37 hw) F_count_a1 ?_
 refine r_iloadN H 20 d_j68_22_19 ?_
 refine r_iadd H 21 10 d_j68_22_20 ?_
 refine r_private (a := a1) (argsL := [.int 10]) (rest := []) (W := 0) H 24 d_j68_22_21 (tw43 hw) (tw44 hw) (tw46 hw) (tw45 hw) (tw15 hw) (tw47 hw) E_a1 (lenOf pd_0 rfl) (rm_ensureCapacityInternal_14 hw Ts a1 a3 i1 c1 h0 f Zf Z0 F_value_a1 A_a3 F_coder_a1) ?_
 rintro _ _ ⟨rfl, rfl⟩
 refine r_aloadN H 25 d_j68_22_24 ?_
 refine r_aloadN H 26 d_j68_22_25 ?_
 refine r_getf H 29 d_j68_22_26 (tw37 hw) F_count_a1 ?_
 refine r_aloadN H 30 d_j68_22_29 ?_
 refine r_private (a := a1) (argsL := [.int 1, .ref a2]) (rest := []) (W := 0) H 33 d_j68_22_30 (tw85 hw) (tw86 hw) (tw88 hw) (tw87 hw) (tw15 hw) (tw89 hw) E_a1 (lenOf pd_11 rfl) (rm_putStringAt_15 hw Ts a1 a2 a3 a4 i1 c1 c2 cs h0 f Zf Z0 F_coder_a1 E_a2 F_coder_a2 E_a1 F_value_a1 g_a3 F_value_a2 A_a4 A_a3 E_a3 S_cs hcs) ?_
 rintro _ hh6 ⟨rfl, K3, q4, q5⟩
 refine r_aloadN H 34 d_j68_22_33 ?_
 refine r_dup H 35 d_j68_22_34 ?_
 have q7 := (E_a1.keep K3)
 have q8 := (F_count_a1.keep K3 (ninS (ne_exa q7 q5 (by decide)) nin0))
 refine r_getf H 38 d_j68_22_35 (tw37 hw) q8 ?_
 refine r_iloadN H 39 d_j68_22_38 ?_
 refine r_iadd H 40 10 d_j68_22_39 ?_
 refine r_putf (ty := .int) H 43 d_j68_22_40 (tw37 hw) q8 q7 (Or.inl (tw38 hw)) (tw6 hw) g_a1 ?_
 intro h9 W9 K9 E9 F9
 refine r_aloadN H 44 d_j68_22_43 ?_
 have k10 : Keep h0 hh6 [a1, a3] := Keep.trans (Keep.refl h0 [a1, a3]) K3 (allS (Or.inl (List.mem_of_getElem? (i := 1) rfl)) all0)
 have k11 : Keep h0 h9 [a1, a3] := Keep.trans k10 K9 (allS (Or.inl (List.mem_of_getElem? (i := 0) rfl)) all0)
 have q12 := (q5.keep K9)
 have q13 := ((F_coder_a1.keep K3 (ninS (ne_exa E9 q12 (by decide)) nin0)).other W9 (Or.inr (slot_ne (Or.inl (tw26 hw)) (Or.inl (tw38 hw)) (by decide) (t := .byte) (t' := .int) (by decide) (by decide))))
 have q14 := ((F_value_a1.keep K3 (ninS (ne_exa E9 q12 (by decide)) nin0)).other W9 (Or.inr (slot_ne (Or.inl (tw24 hw)) (Or.inl (tw38 hw)) (by decide) (t := (.array .byte)) (t' := .int) (by decide) (by decide))))
 have q15 := (q4.keep K9 (ninS (ne_exa q12 E9 (by decide)) nin0))
 exact r_areturn H d_j68_22_44 (⟨rfl, k11, E9, q13, F9, q14, q15, q12⟩)
def Q_append_10 (Z : State) (a1 : Addr) (a3 : Addr) (i1 : Int32) (c1 : ClassId) (h0 : Heap) (v : Option Value) (h : Heap) : Prop := v = some (.ref a1) ∧ Keep h0 h [a1, a3] ∧ Exa Z h a1 "java/lang/StringBuilder" ∧ Fld Z h a1 "java/lang/AbstractStringBuilder" "coder" "B" (.int 0) ∧ Fld Z h a1 "java/lang/AbstractStringBuilder" "count" "I" (.int 10) ∧ Fld Z h a1 "java/lang/AbstractStringBuilder" "value" "[B" (.ref a3) ∧ Ar Z h a3 c1 .byte [.int i1, .int 32, .int 109, .int 97, .int 116, .int 99, .int 104, .int 101, .int 114, .int 115, .int 0, .int 0, .int 0, .int 0, .int 0, .int 0] ∧ Exa Z h a3 "[B"
def R_append_10 : Room := { frames := 4, cells := 0, slots := 0, locals := 61 }
theorem rm_append_10 {w : Bool} {Z : State} {a0 : Array Value} (hw : HW a0 Z) (Ts : List String) (a1 : Addr) (a2 : Addr) (a3 : Addr) (a4 : Addr) (i1 : Int32) (c1 : ClassId) (c2 : ClassId) (cs : Int32) (h0 : Heap) (f : Nat) (Zf : Z.heap.size ≤ f) (Z0 : f ≤ h0.size) (g_a3 : f ≤ a3) (g_a1 : f ≤ a1) (E_a2 : Exa Z h0 a2 "java/lang/String") (F_value_a2 : Fld Z h0 a2 "java/lang/String" "value" "[B" (.ref a4)) (A_a4 : Ar Z h0 a4 c2 .byte [.int 32, .int 109, .int 97, .int 116, .int 99, .int 104, .int 101, .int 114, .int 115]) (F_coder_a2 : Fld Z h0 a2 "java/lang/String" "coder" "B" (.int 0)) (F_count_a1 : Fld Z h0 a1 "java/lang/AbstractStringBuilder" "count" "I" (.int 1)) (F_value_a1 : Fld Z h0 a1 "java/lang/AbstractStringBuilder" "value" "[B" (.ref a3)) (A_a3 : Ar Z h0 a3 c1 .byte [.int i1, .int 0, .int 0, .int 0, .int 0, .int 0, .int 0, .int 0, .int 0, .int 0, .int 0, .int 0, .int 0, .int 0, .int 0, .int 0]) (F_coder_a1 : Fld Z h0 a1 "java/lang/AbstractStringBuilder" "coder" "B" (.int 0)) (E_a1 : Exa Z h0 a1 "java/lang/StringBuilder") (E_a3 : Exa Z h0 a3 "[B") (S_cs : G_S_cs Z cs) (hcs : ¬ cs = 0) :
  Con w [] Z mn14 jdk_67_method_7_code 2 (some (.object "java/lang/StringBuilder")) R_append_10 Ts Ts f #[.ref a1, .ref a2] h0 (Q_append_10 Z a1 a3 i1 c1 h0) := by
 refine con_of f #[vR a1, vR a2] (plainFor_of_name pn_1) (fun m => rfl) Zf ?_
 intro C H hX0
 refine r_aloadN H 1 d_j67_7_0 ?_
 refine r_aloadN H 2 d_j67_7_1 ?_
 refine r_super (a := a1) (argsL := [.ref a2]) (rest := []) (W := 0) H 5 d_j67_7_2 (tw68 hw) (same_self (tw70 hw) (tw46 hw) rfl (by decide)) (tw69 hw) (tw34 hw) (tw15 hw) (tw71 hw) (Ins.self E_a1) (lenOf pd_12 rfl) (rm_append_11 hw Ts a1 a2 a3 a4 i1 c1 c2 cs h0 f Zf Z0 E_a2 F_value_a2 A_a4 F_coder_a2 F_count_a1 F_value_a1 A_a3 F_coder_a1 E_a1 g_a3 E_a3 g_a1 S_cs hcs) ?_
 rintro _ hh8 ⟨rfl, K1, q2, q3, q4, q5, q6, q7⟩
 refine r_pop H 6 d_j67_7_5 ?_
 refine r_aloadN H 7 d_j67_7_6 ?_
 have k9 : Keep h0 hh8 [a1, a3] := Keep.trans (Keep.refl h0 [a1, a3]) K1 (allS (Or.inl (List.mem_of_getElem? (i := 0) rfl)) (allS (Or.inl (List.mem_of_getElem? (i := 1) rfl)) all0))
 exact r_areturn H d_j67_7_7 (⟨rfl, k9, q2, q3, q4, q5, q6, q7⟩)
def Q_getValue_21 (Z : State) (a2 : Addr) (h0 : Heap) (v : Option Value) (h : Heap) : Prop := v = some (.ref a2) ∧ h0 = h
def R_getValue_21 : Room := { frames := 0, cells := 0, slots := 0, locals := 0 }
theorem rm_getValue_21 {w : Bool} {Z : State} {a0 : Array Value} (hw : HW a0 Z) (Ts : List String) (a1 : Addr) (a2 : Addr) (h0 : Heap) (f : Nat) (Zf : Z.heap.size ≤ f) (Z0 : f ≤ h0.size) (F_value_a1 : Fld Z h0 a1 "java/lang/AbstractStringBuilder" "value" "[B" (.ref a2)) :
  Con w [] Z mn15 jdk_68_method_64_code 1 (some (.array .byte)) R_getValue_21 Ts Ts f #[.ref a1] h0 (Q_getValue_21 Z a2 h0) := by
 refine con_of f #[vR a1] (plainFor_of_name pn_0) (fun m => rfl) Zf ?_
 intro C H hX0
 refine r_aloadN H 1 d_j68_64_0 ?_
 refine r_getf H 4 d_j68_64_1 (tw23 hw) F_value_a1 ?_
 exact r_areturn H d_j68_64_4 (⟨rfl, rfl⟩)
def Q_length_23 (Z : State) (h0 : Heap) (v : Option Value) (h : Heap) : Prop := v = some (.int 10) ∧ h0 = h
def R_length_23 : Room := { frames := 0, cells := 0, slots := 0, locals := 0 }
theorem rm_length_23 {w : Bool} {Z : State} {a0 : Array Value} (hw : HW a0 Z) (Ts : List String) (a1 : Addr) (h0 : Heap) (f : Nat) (Zf : Z.heap.size ≤ f) (Z0 : f ≤ h0.size) (F_count_a1 : Fld Z h0 a1 "java/lang/AbstractStringBuilder" "count" "I" (.int 10)) :
  Con w [] Z mn16 jdk_68_method_6_code 1 (some .int) R_length_23 Ts Ts f #[.ref a1] h0 (Q_length_23 Z h0) := by
 refine con_of f #[vR a1] (plainFor_of_name pn_0) (fun m => rfl) Zf ?_
 intro C H hX0
 refine r_aloadN H 1 d_j68_6_0 ?_
 refine r_getf H 4 d_j68_6_1 (tw37 hw) F_count_a1 ?_
 exact r_ireturn H d_j68_6_4 (⟨rfl, rfl⟩)
def Q_length_22 (Z : State) (h0 : Heap) (v : Option Value) (h : Heap) : Prop := v = some (.int 10) ∧ h0 = h
def R_length_22 : Room := { frames := 1, cells := 0, slots := 0, locals := 12 }
theorem rm_length_22 {w : Bool} {Z : State} {a0 : Array Value} (hw : HW a0 Z) (Ts : List String) (a1 : Addr) (h0 : Heap) (f : Nat) (Zf : Z.heap.size ≤ f) (Z0 : f ≤ h0.size) (F_count_a1 : Fld Z h0 a1 "java/lang/AbstractStringBuilder" "count" "I" (.int 10)) (E_a1 : Exa Z h0 a1 "java/lang/StringBuilder") :
  Con w [] Z mn17 jdk_67_method_93_code 1 (some .int) R_length_22 Ts Ts f #[.ref a1] h0 (Q_length_22 Z h0) := by
 refine con_of f #[vR a1] (plainFor_of_name pn_1) (fun m => rfl) Zf ?_
 intro C H hX0
 refine r_aloadN H 1 d_j67_93_0 ?_
 refine r_super (a := a1) (argsL := []) (rest := []) (W := 0) H 4 d_j67_93_1 (tw130 hw) (same_self (tw125 hw) (tw46 hw) rfl (by decide)) (tw126 hw) (tw34 hw) (tw15 hw) (tw131 hw) (Ins.self E_a1) (lenOf pd_8 rfl) (rm_length_23 hw Ts a1 h0 f Zf Z0 F_count_a1) ?_
 rintro _ _ ⟨rfl, rfl⟩
 exact r_ireturn H d_j67_93_4 (⟨rfl, rfl⟩)
def Q_checkLength_26 (Z : State) (h0 : Heap) (v : Option Value) (h : Heap) : Prop := v = none ∧ h0 = h
def R_checkLength_26 : Room := { frames := 0, cells := 0, slots := 0, locals := 0 }
theorem rm_checkLength_26 {w : Bool} {Z : State} {a0 : Array Value} (hw : HW a0 Z) (Ts : List String) (h0 : Heap) (f : Nat) (Zf : Z.heap.size ≤ f) (Z0 : f ≤ h0.size) :
  Con w [] Z mn18 jdk_65_method_131_code 2 none R_checkLength_26 Ts Ts f #[.int 0, .int 10] h0 (Q_checkLength_26 Z h0) := by
 refine con_of f #[vI 0, vI 10] (plainFor_of_name pn_4) (fun m => rfl) Zf ?_
 intro C H hX0
 refine r_iloadN H 1 d_j65_131_0 ?_
 refine r_iloadN H 2 d_j65_131_1 ?_
 refine r_icmpgeT H 37 d_j65_131_2 ?_
 exact r_return H d_j65_131_37 (⟨rfl, rfl⟩)
def Q_min_27 (Z : State) (h0 : Heap) (v : Option Value) (h : Heap) : Prop := v = some (.int 10) ∧ h0 = h
def R_min_27 : Room := { frames := 0, cells := 0, slots := 0, locals := 0 }
theorem rm_min_27 {w : Bool} {Z : State} {a0 : Array Value} (hw : HW a0 Z) (Ts : List String) (h0 : Heap) (f : Nat) (Zf : Z.heap.size ≤ f) (Z0 : f ≤ h0.size) :
  Con w [] Z mn19 jdk_29_method_69_code 2 (some .int) R_min_27 Ts Ts f #[.int 16, .int 10] h0 (Q_min_27 Z h0) := by
 refine con_of f #[vI 16, vI 10] (Jvm.Free.JP.mathPlain rfl (by decide +kernel)) (fun m => rfl) Zf ?_
 intro C H hX0
 refine r_iloadN H 1 d_j29_69_0 ?_
 refine r_iloadN H 2 d_j29_69_1 ?_
 refine r_icmpgtT H 9 d_j29_69_2 (by decide) ?_
 refine r_iloadN H 10 d_j29_69_9 ?_
 exact r_ireturn H d_j29_69_10 (⟨rfl, rfl⟩)
def Q_copyOfRangeByte_25 (Z : State) (i1 : Int32) (h0 : Heap) (v : Option Value) (h : Heap) : Prop := ∃ (b2 : Addr) (kc2 : ClassId), v = some (.ref b2) ∧ Keep h0 h [] ∧ h0.size ≤ b2 ∧ Ar Z h b2 kc2 .byte [.int i1, .int 32, .int 109, .int 97, .int 116, .int 99, .int 104, .int 101, .int 114, .int 115] ∧ Exa Z h b2 "[B"
def R_copyOfRangeByte_25 : Room := { frames := 1, cells := 1, slots := 10, locals := 18 }
theorem rm_copyOfRangeByte_25 {w : Bool} {Z : State} {a0 : Array Value} (hw : HW a0 Z) (Ts : List String) (a1 : Addr) (i1 : Int32) (c1 : ClassId) (h0 : Heap) (f : Nat) (Zf : Z.heap.size ≤ f) (Z0 : f ≤ h0.size) (A_a1 : Ar Z h0 a1 c1 .byte [.int i1, .int 32, .int 109, .int 97, .int 116, .int 99, .int 104, .int 101, .int 114, .int 115, .int 0, .int 0, .int 0, .int 0, .int 0, .int 0]) :
  Con w [] Z mn20 jdk_65_method_133_code 5 (some (.array .byte)) R_copyOfRangeByte_25 Ts Ts f #[.ref a1, .int 0, .int 10] h0 (Q_copyOfRangeByte_25 Z i1 h0) := by
 refine con_of f #[vR a1, vI 0, vI 10, .unset, .unset] (plainFor_of_name pn_4) (fun m => rfl) Zf ?_
 intro C H hX0
 refine r_iloadN H 1 d_j65_133_0 ?_
 refine r_iloadN H 2 d_j65_133_1 ?_
 refine r_static (argsL := [.int 0, .int 10]) (rest := []) (W := 0) H 5 d_j65_133_2 (tw140 hw) (tw141 hw) (tw135 hw) (tw142 hw) (lenOf pd_15 rfl) (rm_checkLength_26 hw Ts h0 f Zf Z0) ?_
 rintro _ _ ⟨rfl, rfl⟩
 refine r_iloadN H 6 d_j65_133_5 ?_
 refine r_iloadN H 7 d_j65_133_6 ?_
 refine r_isub H 8 10 d_j65_133_7 ?_
 refine r_istoreN H 9 #[vR a1, vI 0, vI 10, vI 10, .unset] d_j65_133_8 ?_
 refine r_iloadN H 10 d_j65_133_9 ?_
 refine r_newP H 12 "[B" 10 d_j65_133_10 (tw22 hw) ?_
 intro h2 b2 kc2 g2 l2 K2 E2 A2
 change Ar Z h2 b2 kc2 .byte [.int 0, .int 0, .int 0, .int 0, .int 0, .int 0, .int 0, .int 0, .int 0, .int 0] at A2
 refine r_astore H 14 #[vR a1, vI 0, vI 10, vI 10, vR b2] d_j65_133_12 ?_
 refine r_aloadN H 15 d_j65_133_14 ?_
 refine r_iloadN H 16 d_j65_133_15 ?_
 refine r_aload H 18 d_j65_133_16 ?_
 refine r_iconst H 19 0 d_j65_133_18 ?_
 refine r_aloadN H 20 d_j65_133_19 ?_
 have q3 := (A_a1.keep K2 nin0)
 refine r_alen H 21 16 d_j65_133_20 q3 ?_
 refine r_iloadN H 22 d_j65_133_21 ?_
 refine r_isub H 23 16 d_j65_133_22 ?_
 refine r_iloadN H 24 d_j65_133_23 ?_
 refine r_static (argsL := [.int 16, .int 10]) (rest := [.int 0, .ref b2, .int 0, .ref a1]) (W := 4) H 27 d_j65_133_24 (tw143 hw) (tw144 hw) (tw145 hw) (tw146 hw) (lenOf pd_16 rfl) (rm_min_27 hw Ts h2 f Zf (nlt Z0 K2.1)) ?_
 rintro _ _ ⟨rfl, rfl⟩
 refine r_copy (W := 0) H 30 d_j65_133_27 (tw147 hw) (tw104 hw) (tw102 hw) (tw103 hw) q3 A2 (nlt Z0 (Nat.le_of_eq g2.symm)) ?_
 intro h5 K5 A5
 change Ar Z h5 b2 kc2 .byte [.int i1, .int 32, .int 109, .int 97, .int 116, .int 99, .int 104, .int 101, .int 114, .int 115] at A5
 refine r_aload H 32 d_j65_133_30 ?_
 have k6 : Keep h0 h2 [] := Keep.trans (Keep.refl h0 []) K2 all0
 have k7 : Keep h0 h5 [] := Keep.trans k6 K5 (allS (Or.inr (nlt nlr (Nat.le_of_eq g2.symm))) all0)
 have q8 := (E2.keep K5)
 exact r_areturn H d_j65_133_32 (⟨b2, kc2, rfl, k7, (nlt nlr (Nat.le_of_eq g2.symm)), A5, q8⟩)
def Q_copyOfRange_24 (Z : State) (i1 : Int32) (h0 : Heap) (v : Option Value) (h : Heap) : Prop := ∃ (b1 : Addr) (kc2 : ClassId), v = some (.ref b1) ∧ Keep h0 h [] ∧ h0.size ≤ b1 ∧ Ar Z h b1 kc2 .byte [.int i1, .int 32, .int 109, .int 97, .int 116, .int 99, .int 104, .int 101, .int 114, .int 115] ∧ Exa Z h b1 "[B"
def R_copyOfRange_24 : Room := { frames := 2, cells := 1, slots := 10, locals := 34 }
theorem rm_copyOfRange_24 {w : Bool} {Z : State} {a0 : Array Value} (hw : HW a0 Z) (Ts : List String) (a1 : Addr) (i1 : Int32) (c1 : ClassId) (h0 : Heap) (f : Nat) (Zf : Z.heap.size ≤ f) (Z0 : f ≤ h0.size) (A_a1 : Ar Z h0 a1 c1 .byte [.int i1, .int 32, .int 109, .int 97, .int 116, .int 99, .int 104, .int 101, .int 114, .int 115, .int 0, .int 0, .int 0, .int 0, .int 0, .int 0]) :
  Con w [] Z mn21 jdk_65_method_132_code 3 (some (.array .byte)) R_copyOfRange_24 Ts Ts f #[.ref a1, .int 0, .int 10] h0 (Q_copyOfRange_24 Z i1 h0) := by
 refine con_of f #[vR a1, vI 0, vI 10] (plainFor_of_name pn_4) (fun m => rfl) Zf ?_
 intro C H hX0
 refine r_iloadN H 1 d_j65_132_0 ?_
 refine r_ifneF H 4 d_j65_132_1 ?_
 refine r_iloadN H 5 d_j65_132_4 ?_
 refine r_aloadN H 6 d_j65_132_5 ?_
 refine r_alen H 7 16 d_j65_132_6 A_a1 ?_
 refine r_icmpeqF H 10 d_j65_132_7 ?_
 refine r_aloadN H 11 d_j65_132_10 ?_
 refine r_iloadN H 12 d_j65_132_11 ?_
 refine r_iloadN H 13 d_j65_132_12 ?_
 refine r_static (argsL := [.ref a1, .int 0, .int 10]) (rest := []) (W := 0) H 16 d_j65_132_13 (tw137 hw) (tw138 hw) (tw135 hw) (tw139 hw) (lenOf pd_17 rfl) (rm_copyOfRangeByte_25 hw Ts a1 i1 c1 h0 f Zf Z0 A_a1) ?_
 rintro _ hh7 ⟨b1, kc2, rfl, K3, g4, q5, q6⟩
 have k8 : Keep h0 hh7 [] := Keep.trans (Keep.refl h0 []) K3 all0
 exact r_areturn H d_j65_132_16 (⟨b1, kc2, rfl, k8, (nlt nlr g4), q5, q6⟩)
def Q_init_20 (Z : State) (a1 : Addr) (i1 : Int32) (h0 : Heap) (v : Option Value) (h : Heap) : Prop := ∃ (b7 : Addr) (kc8 : ClassId), v = none ∧ Keep h0 h [a1] ∧ h0.size ≤ b7 ∧ Exa Z h a1 "java/lang/String" ∧ Fld Z h a1 "java/lang/String" "coder" "B" (.int 0) ∧ Fld Z h a1 "java/lang/String" "value" "[B" (.ref b7) ∧ Ar Z h b7 kc8 .byte [.int i1, .int 32, .int 109, .int 97, .int 116, .int 99, .int 104, .int 101, .int 114, .int 115] ∧ Exa Z h b7 "[B"
def R_init_20 : Room := { frames := 3, cells := 1, slots := 10, locals := 49 }
theorem rm_init_20 {w : Bool} {Z : State} {a0 : Array Value} (hw : HW a0 Z) (Ts : List String) (a1 : Addr) (a2 : Addr) (a3 : Addr) (i1 : Int32) (c1 : ClassId) (cs : Int32) (h0 : Heap) (f : Nat) (Zf : Z.heap.size ≤ f) (Z0 : f ≤ h0.size) (E_a2 : Exa Z h0 a2 "java/lang/StringBuilder") (F_value_a2 : Fld Z h0 a2 "java/lang/AbstractStringBuilder" "value" "[B" (.ref a3)) (F_count_a2 : Fld Z h0 a2 "java/lang/AbstractStringBuilder" "count" "I" (.int 10)) (F_coder_a2 : Fld Z h0 a2 "java/lang/AbstractStringBuilder" "coder" "B" (.int 0)) (E_a1 : Exa Z h0 a1 "java/lang/String") (F_coder_a1 : Fld Z h0 a1 "java/lang/String" "coder" "B" (.int 0)) (g_a1 : f ≤ a1) (A_a3 : Ar Z h0 a3 c1 .byte [.int i1, .int 32, .int 109, .int 97, .int 116, .int 99, .int 104, .int 101, .int 114, .int 115, .int 0, .int 0, .int 0, .int 0, .int 0, .int 0]) (E_a3 : Exa Z h0 a3 "[B") (F_value_a1 : Fld Z h0 a1 "java/lang/String" "value" "[B" .null) (S_cs : G_S_cs Z cs) (hcs : ¬ cs = 0) :
  Con w [] Z mn22 jdk_42_method_150_code 5 none R_init_20 Ts Ts f #[.ref a1, .ref a2, .null] h0 (Q_init_20 Z a1 i1 h0) := by
 refine con_of f #[vR a1, vR a2, .val .null, .unset, .unset] (plainFor_of_name pn_3) (fun m => rfl) Zf ?_
 intro C H hX0
 refine r_aloadN H 1 d_j42_150_0 ?_
 refine r_initO (W := 0) H 4 d_j42_150_1 (tw118 hw) (tw18 hw) (tw19 hw) ?_
 refine r_aloadN H 5 d_j42_150_4 ?_
 refine r_virtual (z := mn15) (a := a2) (argsL := []) (rest := []) (W := 0) H 8 d_j42_150_5 (tw119 hw) (tw120 hw) (nf_sel (tw122 hw)) (tw122 hw) (tw121 hw) (tw15 hw) (tw123 hw) E_a2 (lenOf pd_14 rfl) (rm_getValue_21 hw Ts a2 a3 h0 f Zf Z0 F_value_a2) ?_
 rintro _ _ ⟨rfl, rfl⟩
 refine r_astoreN H 9 #[vR a1, vR a2, .val .null, vR a3, .unset] d_j42_150_8 ?_
 refine r_aloadN H 10 d_j42_150_9 ?_
 refine r_virtual (z := mn17) (a := a2) (argsL := []) (rest := []) (W := 0) H 13 d_j42_150_10 (tw124 hw) (tw125 hw) (nf_by (tw46 hw) rfl) (tw127 hw) (tw128 hw) (tw7 hw) (tw129 hw) E_a2 (lenOf pd_8 rfl) (rm_length_22 hw Ts a2 h0 f Zf Z0 F_count_a2 E_a2) ?_
 rintro _ _ ⟨rfl, rfl⟩
 refine r_istore H 15 #[vR a1, vR a2, .val .null, vR a3, vI 10] d_j42_150_13 ?_
 refine r_aloadN H 16 d_j42_150_15 ?_
 refine r_virtual (z := mn4) (a := a2) (argsL := []) (rest := []) (W := 0) H 19 d_j42_150_16 (tw132 hw) (tw49 hw) (nf_sel (tw51 hw)) (tw51 hw) (tw50 hw) (tw15 hw) (tw52 hw) E_a2 (lenOf pd_3 rfl) (rm_isLatin1_8 hw Ts a2 cs h0 f Zf Z0 F_coder_a2 S_cs hcs) ?_
 rintro _ _ ⟨rfl, rfl⟩
 refine r_ifeqF H 22 d_j42_150_19 (by decide) ?_
 refine r_aloadN H 23 d_j42_150_22 ?_
 refine r_iconst H 24 0 d_j42_150_23 ?_
 refine r_putn (v' := (.int 0)) (ty := .byte) H 27 d_j42_150_24 (tw84 hw) F_coder_a1 E_a1 (Or.inr ⟨(tw60 hw), rfl, rfl⟩) (tw58 hw) g_a1 ?_
 intro h4 W4 K4 E4 F4
 refine r_aloadN H 28 d_j42_150_27 ?_
 refine r_aloadN H 29 d_j42_150_28 ?_
 refine r_iconst H 30 0 d_j42_150_29 ?_
 refine r_iload H 32 d_j42_150_30 ?_
 have q5 := (E_a3.keep K4)
 have q6 := (A_a3.keep K4 (ninS (ne_exa q5 E4 (by decide)) nin0))
 refine r_static (argsL := [.ref a3, .int 0, .int 10]) (rest := [.ref a1]) (W := 1) H 35 d_j42_150_32 (tw133 hw) (tw134 hw) (tw135 hw) (tw136 hw) (lenOf pd_17 rfl) (rm_copyOfRange_24 hw Ts a3 i1 c1 h4 f Zf (nlt Z0 K4.1) q6) ?_
 rintro _ hh13 ⟨b7, kc8, rfl, K9, g10, q11, q12⟩
 have q14 := (E4.keep K9)
 have q15 := ((F_value_a1.other W4 (Or.inr (slot_ne (Or.inr (tw59 hw)) (Or.inr (tw60 hw)) (by decide) (t := (.array .byte)) (t' := .byte) (by decide) (by decide)))).keep K9 nin0)
 refine r_putf (ty := (.array .byte)) H 38 d_j42_150_35 (tw77 hw) q15 q14 (Or.inr ⟨(tw59 hw), rfl, rfl⟩) (tw58 hw) g_a1 ?_
 intro h16 W16 K16 E16 F16
 refine r_goto H 97 d_j42_150_38 ?_
 have k17 : Keep h0 h4 [a1] := Keep.trans (Keep.refl h0 [a1]) K4 (allS (Or.inl (List.mem_of_getElem? (i := 0) rfl)) all0)
 have k18 : Keep h0 hh13 [a1] := Keep.trans k17 K9 all0
 have k19 : Keep h0 h16 [a1] := Keep.trans k18 K16 (allS (Or.inl (List.mem_of_getElem? (i := 0) rfl)) all0)
 have q20 := ((F4.keep K9 nin0).other W16 (Or.inr (slot_ne (Or.inr (tw60 hw)) (Or.inr (tw59 hw)) (by decide) (t := .byte) (t' := (.array .byte)) (by decide) (by decide))))
 have q21 := (q11.keep K16 (ninS (Ne.symm (Nat.ne_of_lt (Nat.lt_of_lt_of_le E_a1.lt (nlt K4.1 g10)))) nin0))
 have q22 := (q12.keep K16)
 exact r_return H d_j42_150_97 (⟨b7, kc8, rfl, k19, (nlt K4.1 g10), E16, q20, F16, q21, q22⟩)
def Q_init_19 (Z : State) (a1 : Addr) (i1 : Int32) (h0 : Heap) (v : Option Value) (h : Heap) : Prop := ∃ (b1 : Addr) (kc2 : ClassId), v = none ∧ Keep h0 h [a1] ∧ h0.size ≤ b1 ∧ Exa Z h a1 "java/lang/String" ∧ Fld Z h a1 "java/lang/String" "coder" "B" (.int 0) ∧ Fld Z h a1 "java/lang/String" "value" "[B" (.ref b1) ∧ Ar Z h b1 kc2 .byte [.int i1, .int 32, .int 109, .int 97, .int 116, .int 99, .int 104, .int 101, .int 114, .int 115] ∧ Exa Z h b1 "[B"
def R_init_19 : Room := { frames := 4, cells := 1, slots := 10, locals := 65 }
theorem rm_init_19 {w : Bool} {Z : State} {a0 : Array Value} (hw : HW a0 Z) (Ts : List String) (a1 : Addr) (a2 : Addr) (a3 : Addr) (i1 : Int32) (c1 : ClassId) (cs : Int32) (h0 : Heap) (f : Nat) (Zf : Z.heap.size ≤ f) (Z0 : f ≤ h0.size) (g_a1 : f ≤ a1) (E_a2 : Exa Z h0 a2 "java/lang/StringBuilder") (F_value_a2 : Fld Z h0 a2 "java/lang/AbstractStringBuilder" "value" "[B" (.ref a3)) (F_count_a2 : Fld Z h0 a2 "java/lang/AbstractStringBuilder" "count" "I" (.int 10)) (F_coder_a2 : Fld Z h0 a2 "java/lang/AbstractStringBuilder" "coder" "B" (.int 0)) (E_a1 : Exa Z h0 a1 "java/lang/String") (F_coder_a1 : Fld Z h0 a1 "java/lang/String" "coder" "B" (.int 0)) (A_a3 : Ar Z h0 a3 c1 .byte [.int i1, .int 32, .int 109, .int 97, .int 116, .int 99, .int 104, .int 101, .int 114, .int 115, .int 0, .int 0, .int 0, .int 0, .int 0, .int 0]) (E_a3 : Exa Z h0 a3 "[B") (F_value_a1 : Fld Z h0 a1 "java/lang/String" "value" "[B" .null) (S_cs : G_S_cs Z cs) (hcs : ¬ cs = 0) :
  Con w [] Z mn23 jdk_42_method_53_code 2 none R_init_19 Ts Ts f #[.ref a1, .ref a2] h0 (Q_init_19 Z a1 i1 h0) := by
 refine con_of f #[vR a1, vR a2] (plainFor_of_name pn_3) (fun m => rfl) Zf ?_
 intro C H hX0
 refine r_aloadN H 1 d_j42_53_0 ?_
 refine r_aloadN H 2 d_j42_53_1 ?_
 refine r_null H 3 d_j42_53_2 ?_
 refine r_special (a := a1) (argsL := [.ref a2, .null]) (rest := []) (W := 0) H 6 d_j42_53_3 (tw115 hw) (tw116 hw) (tw21 hw) (tw117 hw) (lenOf pd_18 rfl) (rm_init_20 hw Ts a1 a2 a3 i1 c1 cs h0 f Zf Z0 E_a2 F_value_a2 F_count_a2 F_coder_a2 E_a1 F_coder_a1 g_a1 A_a3 E_a3 F_value_a1 S_cs hcs) ?_
 rintro _ hh10 ⟨b1, kc2, rfl, K3, g4, q5, q6, q7, q8, q9⟩
 have k11 : Keep h0 hh10 [a1] := Keep.trans (Keep.refl h0 [a1]) K3 (allS (Or.inl (List.mem_of_getElem? (i := 0) rfl)) all0)
 exact r_return H d_j42_53_6 (⟨b1, kc2, rfl, k11, (nlt nlr g4), q5, q6, q7, q8, q9⟩)
def Q_toString_18 (Z : State) (i1 : Int32) (h0 : Heap) (v : Option Value) (h : Heap) : Prop := ∃ (b1 : Addr) (b8 : Addr) (kc9 : ClassId), v = some (.ref b1) ∧ Keep h0 h [] ∧ h0.size ≤ b1 ∧ h0.size ≤ b8 ∧ b1 < b8 ∧ Exa Z h b1 "java/lang/String" ∧ Fld Z h b1 "java/lang/String" "coder" "B" (.int 0) ∧ Fld Z h b1 "java/lang/String" "value" "[B" (.ref b8) ∧ Ar Z h b8 kc9 .byte [.int i1, .int 32, .int 109, .int 97, .int 116, .int 99, .int 104, .int 101, .int 114, .int 115] ∧ Exa Z h b8 "[B"
def R_toString_18 : Room := { frames := 5, cells := 2, slots := 14, locals := 79 }
theorem rm_toString_18 {w : Bool} {Z : State} {a0 : Array Value} (hw : HW a0 Z) (Ts : List String) (a1 : Addr) (a2 : Addr) (i1 : Int32) (c1 : ClassId) (cs : Int32) (h0 : Heap) (f : Nat) (Zf : Z.heap.size ≤ f) (Z0 : f ≤ h0.size) (E_a1 : Exa Z h0 a1 "java/lang/StringBuilder") (F_value_a1 : Fld Z h0 a1 "java/lang/AbstractStringBuilder" "value" "[B" (.ref a2)) (F_count_a1 : Fld Z h0 a1 "java/lang/AbstractStringBuilder" "count" "I" (.int 10)) (F_coder_a1 : Fld Z h0 a1 "java/lang/AbstractStringBuilder" "coder" "B" (.int 0)) (A_a2 : Ar Z h0 a2 c1 .byte [.int i1, .int 32, .int 109, .int 97, .int 116, .int 99, .int 104, .int 101, .int 114, .int 115, .int 0, .int 0, .int 0, .int 0, .int 0, .int 0]) (E_a2 : Exa Z h0 a2 "[B") (S_cs : G_S_cs Z cs) (hcs : ¬ cs = 0) :
  Con w [] Z mn24 jdk_67_method_42_code 1 (some (.object "java/lang/String")) R_toString_18 Ts Ts f #[.ref a1] h0 (Q_toString_18 Z i1 h0) := by
 refine con_of f #[vR a1] (plainFor_of_name pn_1) (fun m => rfl) Zf ?_
 intro C H hX0
 refine r_new H 3 d_j67_42_0 (tw110 hw) (tw58 hw) (tw21 hw) ?_
 intro h1 b1 g1 l1 K1 E1 D1
 refine r_dup H 4 d_j67_42_3 ?_
 refine r_aloadN H 5 d_j67_42_4 ?_
 have q2 := (E_a1.keep K1)
 have q3 := (F_value_a1.keep K1 nin0)
 have q4 := (F_count_a1.keep K1 nin0)
 have q5 := (F_coder_a1.keep K1 nin0)
 have q6 := (A_a2.keep K1 nin0)
 have q7 := (E_a2.keep K1)
 refine r_special (a := b1) (argsL := [.ref a1]) (rest := [.ref b1]) (W := 1) H 8 d_j67_42_5 (tw111 hw) (tw112 hw) (tw21 hw) (tw114 hw) (lenOf pd_19 rfl) (rm_init_19 hw Ts b1 a1 a2 i1 c1 cs h1 f Zf (nlt Z0 K1.1) (nlt Z0 (Nat.le_of_eq g1.symm)) q2 q3 q4 q5 E1 (show Fld Z h1 b1 "java/lang/String" "coder" "B" (.int 0) from D1 (Or.inr (tw60 hw)) (ty := .byte) (by decide)) q6 q7 (show Fld Z h1 b1 "java/lang/String" "value" "[B" .null from D1 (Or.inr (tw59 hw)) (ty := (.array .byte)) (by decide)) S_cs hcs) ?_
 rintro _ hh17 ⟨b8, kc9, rfl, K10, g11, q12, q13, q14, q15, q16⟩
 have k18 : Keep h0 h1 [] := Keep.trans (Keep.refl h0 []) K1 all0
 have k19 : Keep h0 hh17 [] := Keep.trans k18 K10 (allS (Or.inr (nlt nlr (Nat.le_of_eq g1.symm))) all0)
 exact r_areturn H d_j67_42_8 (⟨b1, b8, kc9, rfl, k19, (nlt nlr (Nat.le_of_eq g1.symm)), (nlt K1.1 g11), (Nat.lt_of_lt_of_le E1.lt (nlt nlr g11)), q12, q13, q14, q15, q16⟩)
def Q_length_30 (Z : State) (h0 : Heap) (v : Option Value) (h : Heap) : Prop := v = some (.int 10) ∧ h0 = h
def R_length_30 : Room := { frames := 1, cells := 0, slots := 0, locals := 13 }
theorem rm_length_30 {w : Bool} {Z : State} {a0 : Array Value} (hw : HW a0 Z) (Ts : List String) (a1 : Addr) (a2 : Addr) (i1 : Int32) (c1 : ClassId) (cs : Int32) (h0 : Heap) (f : Nat) (Zf : Z.heap.size ≤ f) (Z0 : f ≤ h0.size) (F_value_a1 : Fld Z h0 a1 "java/lang/String" "value" "[B" (.ref a2)) (A_a2 : Ar Z h0 a2 c1 .byte [.int i1, .int 32, .int 109, .int 97, .int 116, .int 99, .int 104, .int 101, .int 114, .int 115]) (E_a1 : Exa Z h0 a1 "java/lang/String") (F_coder_a1 : Fld Z h0 a1 "java/lang/String" "coder" "B" (.int 0)) (S_cs : G_S_cs Z cs) (hcs : ¬ cs = 0) :
  Con w [] Z mn9 jdk_42_method_54_code 1 (some .int) R_length_30 Ts Ts f #[.ref a1] h0 (Q_length_30 Z h0) := by
 refine con_of f #[vR a1] (plainFor_of_name pn_3) (fun m => rfl) Zf ?_
 intro C H hX0
 refine r_aloadN H 1 d_j42_54_0 ?_
 refine r_getf H 4 d_j42_54_1 (tw77 hw) F_value_a1 ?_
 refine r_alen H 5 10 d_j42_54_4 A_a2 ?_
 refine r_aloadN H 6 d_j42_54_5 ?_
 refine r_virtual (z := mn8) (a := a1) (argsL := []) (rest := [.int 10]) (W := 1) H 9 d_j42_54_6 (tw78 hw) (tw79 hw) (nf_sel (tw81 hw)) (tw81 hw) (tw80 hw) (tw21 hw) (tw82 hw) E_a1 (lenOf pd_7 rfl) (rm_coder_13 hw Ts a1 cs h0 f Zf Z0 F_coder_a1 S_cs hcs) ?_
 rintro _ _ ⟨rfl, rfl⟩
 refine r_ishr H 10 10 d_j42_54_9 ?_
 exact r_ireturn H d_j42_54_10 (⟨rfl, rfl⟩)
def Q_ensureCapacityInternal_31 (Z : State) (h0 : Heap) (v : Option Value) (h : Heap) : Prop := v = none ∧ h0 = h
def R_ensureCapacityInternal_31 : Room := { frames := 0, cells := 0, slots := 0, locals := 0 }
theorem rm_ensureCapacityInternal_31 {w : Bool} {Z : State} {a0 : Array Value} (hw : HW a0 Z) (Ts : List String) (a1 : Addr) (a2 : Addr) (c1 : ClassId) (h0 : Heap) (f : Nat) (Zf : Z.heap.size ≤ f) (Z0 : f ≤ h0.size) (F_value_a1 : Fld Z h0 a1 "java/lang/AbstractStringBuilder" "value" "[B" (.ref a2)) (A_a2 : Ar Z h0 a2 c1 .byte [.int 0, .int 0, .int 0, .int 0, .int 0, .int 0, .int 0, .int 0, .int 0, .int 0, .int 0, .int 0, .int 0, .int 0, .int 0, .int 0]) (F_coder_a1 : Fld Z h0 a1 "java/lang/AbstractStringBuilder" "coder" "B" (.int 0)) :
  Con w [] Z mn3 jdk_68_method_9_code 3 none R_ensureCapacityInternal_31 Ts Ts f #[.ref a1, .int 10] h0 (Q_ensureCapacityInternal_31 Z h0) := by
 refine con_of f #[vR a1, vI 10, .unset] (plainFor_of_name pn_0) (fun m => rfl) Zf ?_
 intro C H hX0
 refine r_aloadN H 1 d_j68_9_0 ?_
 refine r_getf H 4 d_j68_9_1 (tw23 hw) F_value_a1 ?_
 refine r_alen H 5 16 d_j68_9_4 A_a2 ?_
 refine r_aloadN H 6 d_j68_9_5 ?_
 refine r_getf H 9 d_j68_9_6 (tw25 hw) F_coder_a1 ?_
 refine r_ishr H 10 16 d_j68_9_9 ?_
 refine r_istoreN H 11 #[vR a1, vI 10, vI 16] d_j68_9_10 ?_
 refine r_iloadN H 12 d_j68_9_11 ?_
 refine r_iloadN H 13 d_j68_9_12 ?_
 refine r_isub H 14 (-6 : Int32) d_j68_9_13 ?_
 refine r_ifleT H 38 d_j68_9_14 ?_
 exact r_return H d_j68_9_38 (⟨rfl, rfl⟩)
def Q_getBytes_33 (Z : State) (a2 : Addr) (i1 : Int32) (c1 : ClassId) (h0 : Heap) (v : Option Value) (h : Heap) : Prop := v = none ∧ Keep h0 h [a2] ∧ Ar Z h a2 c1 .byte [.int i1, .int 32, .int 109, .int 97, .int 116, .int 99, .int 104, .int 101, .int 114, .int 115, .int 0, .int 0, .int 0, .int 0, .int 0, .int 0] ∧ Exa Z h a2 "[B"
def R_getBytes_33 : Room := { frames := 1, cells := 0, slots := 0, locals := 18 }
theorem rm_getBytes_33 {w : Bool} {Z : State} {a0 : Array Value} (hw : HW a0 Z) (Ts : List String) (a1 : Addr) (a2 : Addr) (a3 : Addr) (i1 : Int32) (c1 : ClassId) (c2 : ClassId) (cs : Int32) (h0 : Heap) (f : Nat) (Zf : Z.heap.size ≤ f) (Z0 : f ≤ h0.size) (E_a1 : Exa Z h0 a1 "java/lang/String") (F_coder_a1 : Fld Z h0 a1 "java/lang/String" "coder" "B" (.int 0)) (F_value_a1 : Fld Z h0 a1 "java/lang/String" "value" "[B" (.ref a3)) (A_a3 : Ar Z h0 a3 c2 .byte [.int i1, .int 32, .int 109, .int 97, .int 116, .int 99, .int 104, .int 101, .int 114, .int 115]) (A_a2 : Ar Z h0 a2 c1 .byte [.int 0, .int 0, .int 0, .int 0, .int 0, .int 0, .int 0, .int 0, .int 0, .int 0, .int 0, .int 0, .int 0, .int 0, .int 0, .int 0]) (g_a2 : f ≤ a2) (E_a2 : Exa Z h0 a2 "[B") (S_cs : G_S_cs Z cs) (hcs : ¬ cs = 0) :
  Con w [] Z mn11 jdk_42_method_147_code 4 none R_getBytes_33 Ts Ts f #[.ref a1, .ref a2, .int 0, .int 0] h0 (Q_getBytes_33 Z a2 i1 c1 h0) := by
 refine con_of f #[vR a1, vR a2, vI 0, vI 0] (plainFor_of_name pn_3) (fun m => rfl) Zf ?_
 intro C H hX0
 refine r_aloadN H 1 d_j42_147_0 ?_
 refine r_virtual (z := mn8) (a := a1) (argsL := []) (rest := []) (W := 0) H 4 d_j42_147_1 (tw78 hw) (tw79 hw) (nf_sel (tw81 hw)) (tw81 hw) (tw80 hw) (tw21 hw) (tw82 hw) E_a1 (lenOf pd_7 rfl) (rm_coder_13 hw Ts a1 cs h0 f Zf Z0 F_coder_a1 S_cs hcs) ?_
 rintro _ _ ⟨rfl, rfl⟩
 refine r_iloadN H 5 d_j42_147_4 ?_
 refine r_icmpneF H 8 d_j42_147_5 rfl (by decide) ?_
 refine r_aloadN H 9 d_j42_147_8 ?_
 refine r_getf H 12 d_j42_147_9 (tw77 hw) F_value_a1 ?_
 refine r_iconst H 13 0 d_j42_147_12 ?_
 refine r_aloadN H 14 d_j42_147_13 ?_
 refine r_iloadN H 15 d_j42_147_14 ?_
 refine r_iloadN H 16 d_j42_147_15 ?_
 refine r_ishl H 17 0 d_j42_147_16 ?_
 refine r_aloadN H 18 d_j42_147_17 ?_
 refine r_getf H 21 d_j42_147_18 (tw77 hw) F_value_a1 ?_
 refine r_alen H 22 10 d_j42_147_21 A_a3 ?_
 refine r_copy (W := 0) H 25 d_j42_147_22 (tw101 hw) (tw104 hw) (tw102 hw) (tw103 hw) A_a3 A_a2 g_a2 ?_
 intro h2 K2 A2
 change Ar Z h2 a2 c1 .byte [.int i1, .int 32, .int 109, .int 97, .int 116, .int 99, .int 104, .int 101, .int 114, .int 115, .int 0, .int 0, .int 0, .int 0, .int 0, .int 0] at A2
 refine r_goto H 43 d_j42_147_25 ?_
 have k3 : Keep h0 h2 [a2] := Keep.trans (Keep.refl h0 [a2]) K2 (allS (Or.inl (List.mem_of_getElem? (i := 0) rfl)) all0)
 have q4 := (E_a2.keep K2)
 exact r_return H d_j42_147_43 (⟨rfl, k3, A2, q4⟩)
def Q_putStringAt_32 (Z : State) (a3 : Addr) (i1 : Int32) (c1 : ClassId) (h0 : Heap) (v : Option Value) (h : Heap) : Prop := v = none ∧ Keep h0 h [a3] ∧ Ar Z h a3 c1 .byte [.int i1, .int 32, .int 109, .int 97, .int 116, .int 99, .int 104, .int 101, .int 114, .int 115, .int 0, .int 0, .int 0, .int 0, .int 0, .int 0] ∧ Exa Z h a3 "[B"
def R_putStringAt_32 : Room := { frames := 2, cells := 0, slots := 0, locals := 33 }
theorem rm_putStringAt_32 {w : Bool} {Z : State} {a0 : Array Value} (hw : HW a0 Z) (Ts : List String) (a1 : Addr) (a2 : Addr) (a3 : Addr) (a4 : Addr) (i1 : Int32) (c1 : ClassId) (c2 : ClassId) (cs : Int32) (h0 : Heap) (f : Nat) (Zf : Z.heap.size ≤ f) (Z0 : f ≤ h0.size) (F_coder_a1 : Fld Z h0 a1 "java/lang/AbstractStringBuilder" "coder" "B" (.int 0)) (E_a2 : Exa Z h0 a2 "java/lang/String") (F_coder_a2 : Fld Z h0 a2 "java/lang/String" "coder" "B" (.int 0)) (E_a1 : Exa Z h0 a1 "java/lang/StringBuilder") (F_value_a1 : Fld Z h0 a1 "java/lang/AbstractStringBuilder" "value" "[B" (.ref a3)) (g_a3 : f ≤ a3) (F_value_a2 : Fld Z h0 a2 "java/lang/String" "value" "[B" (.ref a4)) (A_a4 : Ar Z h0 a4 c2 .byte [.int i1, .int 32, .int 109, .int 97, .int 116, .int 99, .int 104, .int 101, .int 114, .int 115]) (A_a3 : Ar Z h0 a3 c1 .byte [.int 0, .int 0, .int 0, .int 0, .int 0, .int 0, .int 0, .int 0, .int 0, .int 0, .int 0, .int 0, .int 0, .int 0, .int 0, .int 0]) (E_a3 : Exa Z h0 a3 "[B") (S_cs : G_S_cs Z cs) (hcs : ¬ cs = 0) :
  Con w [] Z mn12 jdk_68_method_73_code 3 none R_putStringAt_32 Ts Ts f #[.ref a1, .int 0, .ref a2] h0 (Q_putStringAt_32 Z a3 i1 c1 h0) := by
 refine con_of f #[vR a1, vI 0, vR a2] (plainFor_of_name pn_0) (fun m => rfl) Zf ?_
 intro C H hX0
 refine r_aloadN H 1 d_j68_73_0 ?_
 refine r_aloadN H 2 d_j68_73_1 ?_
 refine r_private (a := a1) (argsL := [.ref a2]) (rest := []) (W := 0) H 5 d_j68_73_2 (tw90 hw) (tw91 hw) (tw93 hw) (tw92 hw) (tw15 hw) (tw94 hw) E_a1 (lenOf pd_9 rfl) (rm_inflateIfNeededFor_16 hw Ts a1 a2 cs h0 f Zf Z0 F_coder_a1 E_a2 F_coder_a2 S_cs hcs) ?_
 rintro _ _ ⟨rfl, rfl⟩
 refine r_aloadN H 6 d_j68_73_5 ?_
 refine r_aloadN H 7 d_j68_73_6 ?_
 refine r_getf H 10 d_j68_73_7 (tw23 hw) F_value_a1 ?_
 refine r_iloadN H 11 d_j68_73_10 ?_
 refine r_aloadN H 12 d_j68_73_11 ?_
 refine r_getf H 15 d_j68_73_12 (tw25 hw) F_coder_a1 ?_
 refine r_virtual (z := mn11) (a := a2) (argsL := [.ref a3, .int 0, .int 0]) (rest := []) (W := 0) H 18 d_j68_73_15 (tw96 hw) (tw97 hw) (nf_sel (tw99 hw)) (tw99 hw) (tw98 hw) (tw21 hw) (tw100 hw) E_a2 (lenOf pd_10 rfl) (rm_getBytes_33 hw Ts a2 a3 a4 i1 c1 c2 cs h0 f Zf Z0 E_a2 F_coder_a2 F_value_a2 A_a4 A_a3 g_a3 E_a3 S_cs hcs) ?_
 rintro _ hh5 ⟨rfl, K2, q3, q4⟩
 have k6 : Keep h0 hh5 [a3] := Keep.trans (Keep.refl h0 [a3]) K2 (allS (Or.inl (List.mem_of_getElem? (i := 0) rfl)) all0)
 exact r_return H d_j68_73_18 (⟨rfl, k6, q3, q4⟩)
def Q_append_29 (Z : State) (a1 : Addr) (a3 : Addr) (i1 : Int32) (c1 : ClassId) (h0 : Heap) (v : Option Value) (h : Heap) : Prop := v = some (.ref a1) ∧ Keep h0 h [a1, a3] ∧ Exa Z h a1 "java/lang/StringBuilder" ∧ Fld Z h a1 "java/lang/AbstractStringBuilder" "coder" "B" (.int 0) ∧ Fld Z h a1 "java/lang/AbstractStringBuilder" "count" "I" (.int 10) ∧ Fld Z h a1 "java/lang/AbstractStringBuilder" "value" "[B" (.ref a3) ∧ Ar Z h a3 c1 .byte [.int i1, .int 32, .int 109, .int 97, .int 116, .int 99, .int 104, .int 101, .int 114, .int 115, .int 0, .int 0, .int 0, .int 0, .int 0, .int 0] ∧ Exa Z h a3 "[B"
def R_append_29 : Room := { frames := 3, cells := 0, slots := 0, locals := 47 }
theorem rm_append_29 {w : Bool} {Z : State} {a0 : Array Value} (hw : HW a0 Z) (Ts : List String) (a1 : Addr) (a2 : Addr) (a3 : Addr) (a4 : Addr) (i1 : Int32) (c1 : ClassId) (c2 : ClassId) (cs : Int32) (h0 : Heap) (f : Nat) (Zf : Z.heap.size ≤ f) (Z0 : f ≤ h0.size) (E_a2 : Exa Z h0 a2 "java/lang/String") (F_value_a2 : Fld Z h0 a2 "java/lang/String" "value" "[B" (.ref a4)) (A_a4 : Ar Z h0 a4 c2 .byte [.int i1, .int 32, .int 109, .int 97, .int 116, .int 99, .int 104, .int 101, .int 114, .int 115]) (F_coder_a2 : Fld Z h0 a2 "java/lang/String" "coder" "B" (.int 0)) (F_count_a1 : Fld Z h0 a1 "java/lang/AbstractStringBuilder" "count" "I" (.int 0)) (F_value_a1 : Fld Z h0 a1 "java/lang/AbstractStringBuilder" "value" "[B" (.ref a3)) (A_a3 : Ar Z h0 a3 c1 .byte [.int 0, .int 0, .int 0, .int 0, .int 0, .int 0, .int 0, .int 0, .int 0, .int 0, .int 0, .int 0, .int 0, .int 0, .int 0, .int 0]) (F_coder_a1 : Fld Z h0 a1 "java/lang/AbstractStringBuilder" "coder" "B" (.int 0)) (E_a1 : Exa Z h0 a1 "java/lang/StringBuilder") (g_a3 : f ≤ a3) (E_a3 : Exa Z h0 a3 "[B") (g_a1 : f ≤ a1) (S_cs : G_S_cs Z cs) (hcs : ¬ cs = 0) :
  Con w [] Z mn13 jdk_68_method_22_code 3 (some (.object "java/lang/AbstractStringBuilder")) R_append_29 Ts Ts f #[.ref a1, .ref a2] h0 (Q_append_29 Z a1 a3 i1 c1 h0) := by
 refine con_of f #[vR a1, vR a2, .unset] (plainFor_of_name pn_0) (fun m => rfl) Zf ?_
 intro C H hX0
 refine r_aloadN H 1 d_j68_22_0 ?_
 refine r_ifnonnullT H 9 d_j68_22_1 ?_
 refine r_aloadN H 10 d_j68_22_9 ?_
 refine r_virtual (z := mn9) (a := a2) (argsL := []) (rest := []) (W := 0) H 13 d_j68_22_10 (tw72 hw) (tw73 hw) (nf_sel (tw75 hw)) (tw75 hw) (tw74 hw) (tw21 hw) (tw76 hw) E_a2 (lenOf pd_8 rfl) (rm_length_30 hw Ts a2 a4 i1 c2 cs h0 f Zf Z0 F_value_a2 A_a4 E_a2 F_coder_a2 S_cs hcs) ?_
 rintro _ _ ⟨rfl, rfl⟩
 refine r_istoreN H 14 #[vR a1, vR a2, vI 10] d_j68_22_13 ?_
 refine r_aloadN H 15 d_j68_22_14 ?_
 refine r_aloadN H 16 d_j68_22_15 ?_
 refine r_getf H 19 d_j68_22_16 (tw37 hw) F_count_a1 ?_
 refine r_iloadN H 20 d_j68_22_19 ?_
 refine r_iadd H 21 10 d_j68_22_20 ?_
 refine r_private (a := a1) (argsL := [.int 10]) (rest := []) (W := 0) H 24 d_j68_22_21 (tw43 hw) (tw44 hw) (tw46 hw) (tw45 hw) (tw15 hw) (tw47 hw) E_a1 (lenOf pd_0 rfl) (rm_ensureCapacityInternal_31 hw Ts a1 a3 c1 h0 f Zf Z0 F_value_a1 A_a3 F_coder_a1) ?_
 rintro _ _ ⟨rfl, rfl⟩
 refine r_aloadN H 25 d_j68_22_24 ?_
 refine r_aloadN H 26 d_j68_22_25 ?_
 refine r_getf H 29 d_j68_22_26 (tw37 hw) F_count_a1 ?_
 refine r_aloadN H 30 d_j68_22_29 ?_
 refine r_private (a := a1) (argsL := [.int 0, .ref a2]) (rest := []) (W := 0) H 33 d_j68_22_30 (tw85 hw) (tw86 hw) (tw88 hw) (tw87 hw) (tw15 hw) (tw89 hw) E_a1 (lenOf pd_11 rfl) (rm_putStringAt_32 hw Ts a1 a2 a3 a4 i1 c1 c2 cs h0 f Zf Z0 F_coder_a1 E_a2 F_coder_a2 E_a1 F_value_a1 g_a3 F_value_a2 A_a4 A_a3 E_a3 S_cs hcs) ?_
 rintro _ hh6 ⟨rfl, K3, q4, q5⟩
 refine r_aloadN H 34 d_j68_22_33 ?_
 refine r_dup H 35 d_j68_22_34 ?_
 have q7 := (E_a1.keep K3)
 have q8 := (F_count_a1.keep K3 (ninS (ne_exa q7 q5 (by decide)) nin0))
 refine r_getf H 38 d_j68_22_35 (tw37 hw) q8 ?_
 refine r_iloadN H 39 d_j68_22_38 ?_
 refine r_iadd H 40 10 d_j68_22_39 ?_
 refine r_putf (ty := .int) H 43 d_j68_22_40 (tw37 hw) q8 q7 (Or.inl (tw38 hw)) (tw6 hw) g_a1 ?_
 intro h9 W9 K9 E9 F9
 refine r_aloadN H 44 d_j68_22_43 ?_
 have k10 : Keep h0 hh6 [a1, a3] := Keep.trans (Keep.refl h0 [a1, a3]) K3 (allS (Or.inl (List.mem_of_getElem? (i := 1) rfl)) all0)
 have k11 : Keep h0 h9 [a1, a3] := Keep.trans k10 K9 (allS (Or.inl (List.mem_of_getElem? (i := 0) rfl)) all0)
 have q12 := (q5.keep K9)
 have q13 := ((F_coder_a1.keep K3 (ninS (ne_exa E9 q12 (by decide)) nin0)).other W9 (Or.inr (slot_ne (Or.inl (tw26 hw)) (Or.inl (tw38 hw)) (by decide) (t := .byte) (t' := .int) (by decide) (by decide))))
 have q14 := ((F_value_a1.keep K3 (ninS (ne_exa E9 q12 (by decide)) nin0)).other W9 (Or.inr (slot_ne (Or.inl (tw24 hw)) (Or.inl (tw38 hw)) (by decide) (t := (.array .byte)) (t' := .int) (by decide) (by decide))))
 have q15 := (q4.keep K9 (ninS (ne_exa q12 E9 (by decide)) nin0))
 exact r_areturn H d_j68_22_44 (⟨rfl, k11, E9, q13, F9, q14, q15, q12⟩)
def Q_append_28 (Z : State) (a1 : Addr) (a3 : Addr) (i1 : Int32) (c1 : ClassId) (h0 : Heap) (v : Option Value) (h : Heap) : Prop := v = some (.ref a1) ∧ Keep h0 h [a1, a3] ∧ Exa Z h a1 "java/lang/StringBuilder" ∧ Fld Z h a1 "java/lang/AbstractStringBuilder" "coder" "B" (.int 0) ∧ Fld Z h a1 "java/lang/AbstractStringBuilder" "count" "I" (.int 10) ∧ Fld Z h a1 "java/lang/AbstractStringBuilder" "value" "[B" (.ref a3) ∧ Ar Z h a3 c1 .byte [.int i1, .int 32, .int 109, .int 97, .int 116, .int 99, .int 104, .int 101, .int 114, .int 115, .int 0, .int 0, .int 0, .int 0, .int 0, .int 0] ∧ Exa Z h a3 "[B"
def R_append_28 : Room := { frames := 4, cells := 0, slots := 0, locals := 61 }
theorem rm_append_28 {w : Bool} {Z : State} {a0 : Array Value} (hw : HW a0 Z) (Ts : List String) (a1 : Addr) (a2 : Addr) (a3 : Addr) (a4 : Addr) (i1 : Int32) (c1 : ClassId) (c2 : ClassId) (cs : Int32) (h0 : Heap) (f : Nat) (Zf : Z.heap.size ≤ f) (Z0 : f ≤ h0.size) (g_a3 : f ≤ a3) (g_a1 : f ≤ a1) (E_a2 : Exa Z h0 a2 "java/lang/String") (F_value_a2 : Fld Z h0 a2 "java/lang/String" "value" "[B" (.ref a4)) (A_a4 : Ar Z h0 a4 c2 .byte [.int i1, .int 32, .int 109, .int 97, .int 116, .int 99, .int 104, .int 101, .int 114, .int 115]) (F_coder_a2 : Fld Z h0 a2 "java/lang/String" "coder" "B" (.int 0)) (F_count_a1 : Fld Z h0 a1 "java/lang/AbstractStringBuilder" "count" "I" (.int 0)) (F_value_a1 : Fld Z h0 a1 "java/lang/AbstractStringBuilder" "value" "[B" (.ref a3)) (A_a3 : Ar Z h0 a3 c1 .byte [.int 0, .int 0, .int 0, .int 0, .int 0, .int 0, .int 0, .int 0, .int 0, .int 0, .int 0, .int 0, .int 0, .int 0, .int 0, .int 0]) (F_coder_a1 : Fld Z h0 a1 "java/lang/AbstractStringBuilder" "coder" "B" (.int 0)) (E_a1 : Exa Z h0 a1 "java/lang/StringBuilder") (E_a3 : Exa Z h0 a3 "[B") (S_cs : G_S_cs Z cs) (hcs : ¬ cs = 0) :
  Con w [] Z mn14 jdk_67_method_7_code 2 (some (.object "java/lang/StringBuilder")) R_append_28 Ts Ts f #[.ref a1, .ref a2] h0 (Q_append_28 Z a1 a3 i1 c1 h0) := by
 refine con_of f #[vR a1, vR a2] (plainFor_of_name pn_1) (fun m => rfl) Zf ?_
 intro C H hX0
 refine r_aloadN H 1 d_j67_7_0 ?_
 refine r_aloadN H 2 d_j67_7_1 ?_
 refine r_super (a := a1) (argsL := [.ref a2]) (rest := []) (W := 0) H 5 d_j67_7_2 (tw68 hw) (same_self (tw70 hw) (tw46 hw) rfl (by decide)) (tw69 hw) (tw34 hw) (tw15 hw) (tw71 hw) (Ins.self E_a1) (lenOf pd_12 rfl) (rm_append_29 hw Ts a1 a2 a3 a4 i1 c1 c2 cs h0 f Zf Z0 E_a2 F_value_a2 A_a4 F_coder_a2 F_count_a1 F_value_a1 A_a3 F_coder_a1 E_a1 g_a3 E_a3 g_a1 S_cs hcs) ?_
 rintro _ hh8 ⟨rfl, K1, q2, q3, q4, q5, q6, q7⟩
 refine r_pop H 6 d_j67_7_5 ?_
 refine r_aloadN H 7 d_j67_7_6 ?_
 have k9 : Keep h0 hh8 [a1, a3] := Keep.trans (Keep.refl h0 [a1, a3]) K1 (allS (Or.inl (List.mem_of_getElem? (i := 0) rfl)) (allS (Or.inl (List.mem_of_getElem? (i := 1) rfl)) all0))
 exact r_areturn H d_j67_7_7 (⟨rfl, k9, q2, q3, q4, q5, q6, q7⟩)
def Q_length_36 (Z : State) (h0 : Heap) (v : Option Value) (h : Heap) : Prop := v = some (.int 11) ∧ h0 = h
def R_length_36 : Room := { frames := 1, cells := 0, slots := 0, locals := 13 }
theorem rm_length_36 {w : Bool} {Z : State} {a0 : Array Value} (hw : HW a0 Z) (Ts : List String) (a1 : Addr) (a2 : Addr) (c1 : ClassId) (cs : Int32) (h0 : Heap) (f : Nat) (Zf : Z.heap.size ≤ f) (Z0 : f ≤ h0.size) (F_value_a1 : Fld Z h0 a1 "java/lang/String" "value" "[B" (.ref a2)) (A_a2 : Ar Z h0 a2 c1 .byte [.int 32, .int 101, .int 120, .int 112, .int 101, .int 99, .int 116, .int 101, .int 100, .int 44, .int 32]) (E_a1 : Exa Z h0 a1 "java/lang/String") (F_coder_a1 : Fld Z h0 a1 "java/lang/String" "coder" "B" (.int 0)) (S_cs : G_S_cs Z cs) (hcs : ¬ cs = 0) :
  Con w [] Z mn9 jdk_42_method_54_code 1 (some .int) R_length_36 Ts Ts f #[.ref a1] h0 (Q_length_36 Z h0) := by
 refine con_of f #[vR a1] (plainFor_of_name pn_3) (fun m => rfl) Zf ?_
 intro C H hX0
 refine r_aloadN H 1 d_j42_54_0 ?_
 refine r_getf H 4 d_j42_54_1 (tw77 hw) F_value_a1 ?_
 refine r_alen H 5 11 d_j42_54_4 A_a2 ?_
 refine r_aloadN H 6 d_j42_54_5 ?_
 refine r_virtual (z := mn8) (a := a1) (argsL := []) (rest := [.int 11]) (W := 1) H 9 d_j42_54_6 (tw78 hw) (tw79 hw) (nf_sel (tw81 hw)) (tw81 hw) (tw80 hw) (tw21 hw) (tw82 hw) E_a1 (lenOf pd_7 rfl) (rm_coder_13 hw Ts a1 cs h0 f Zf Z0 F_coder_a1 S_cs hcs) ?_
 rintro _ _ ⟨rfl, rfl⟩
 refine r_ishr H 10 11 d_j42_54_9 ?_
 exact r_ireturn H d_j42_54_10 (⟨rfl, rfl⟩)
def Q_max_40 (Z : State) (h0 : Heap) (v : Option Value) (h : Heap) : Prop := v = some (.int 18) ∧ h0 = h
def R_max_40 : Room := { frames := 0, cells := 0, slots := 0, locals := 0 }
theorem rm_max_40 {w : Bool} {Z : State} {a0 : Array Value} (hw : HW a0 Z) (Ts : List String) (h0 : Heap) (f : Nat) (Zf : Z.heap.size ≤ f) (Z0 : f ≤ h0.size) :
  Con w [] Z mn25 jdk_29_method_65_code 2 (some .int) R_max_40 Ts Ts f #[.int 5, .int 18] h0 (Q_max_40 Z h0) := by
 refine con_of f #[vI 5, vI 18] (Jvm.Free.JP.mathPlain rfl (by decide +kernel)) (fun m => rfl) Zf ?_
 intro C H hX0
 refine r_iloadN H 1 d_j29_65_0 ?_
 refine r_iloadN H 2 d_j29_65_1 ?_
 refine r_icmpltT H 9 d_j29_65_2 ?_
 refine r_iloadN H 10 d_j29_65_9 ?_
 exact r_ireturn H d_j29_65_10 (⟨rfl, rfl⟩)
def Q_newLength_39 (Z : State) (h0 : Heap) (v : Option Value) (h : Heap) : Prop := v = some (.int 34) ∧ h0 = h
def R_newLength_39 : Room := { frames := 1, cells := 0, slots := 0, locals := 14 }
theorem rm_newLength_39 {w : Bool} {Z : State} {a0 : Array Value} (hw : HW a0 Z) (Ts : List String) (h0 : Heap) (f : Nat) (Zf : Z.heap.size ≤ f) (Z0 : f ≤ h0.size) :
  Con w [] Z mn26 jdk_48_method_27_code 4 (some .int) R_newLength_39 Ts Ts f #[.int 16, .int 5, .int 18] h0 (Q_newLength_39 Z h0) := by
 refine con_of f #[vI 16, vI 5, vI 18, .unset] (plainFor_of_name pn_5) (fun m => rfl) Zf ?_
 intro C H hX0
 refine r_iloadN H 1 d_j48_27_0 ?_
 refine r_iloadN H 2 d_j48_27_1 ?_
 refine r_iloadN H 3 d_j48_27_2 ?_
 refine r_static (argsL := [.int 5, .int 18]) (rest := [.int 16]) (W := 1) H 6 d_j48_27_3 (tw158 hw) (tw159 hw) (tw145 hw) (tw160 hw) (lenOf pd_16 rfl) (rm_max_40 hw Ts h0 f Zf Z0) ?_
 rintro _ _ ⟨rfl, rfl⟩
 refine r_iadd H 7 34 d_j48_27_6 ?_
 refine r_istoreN H 8 #[vI 16, vI 5, vI 18, vI 34] d_j48_27_7 ?_
 refine r_iconst H 9 0 d_j48_27_8 ?_
 refine r_iloadN H 10 d_j48_27_9 ?_
 refine r_icmpgeF H 13 d_j48_27_10 ?_
 refine r_iloadN H 14 d_j48_27_13 ?_
 refine r_ldcI H 16 d_j48_27_14 (tw161 hw) ?_
 refine r_icmpgtF H 19 d_j48_27_16 ?_
 refine r_iloadN H 20 d_j48_27_19 ?_
 exact r_ireturn H d_j48_27_20 (⟨rfl, rfl⟩)
def Q_newCapacity_38 (Z : State) (h0 : Heap) (v : Option Value) (h : Heap) : Prop := v = some (.int 34) ∧ h0 = h
def R_newCapacity_38 : Room := { frames := 2, cells := 0, slots := 0, locals := 29 }
theorem rm_newCapacity_38 {w : Bool} {Z : State} {a0 : Array Value} (hw : HW a0 Z) (Ts : List String) (a1 : Addr) (a2 : Addr) (i1 : Int32) (c1 : ClassId) (h0 : Heap) (f : Nat) (Zf : Z.heap.size ≤ f) (Z0 : f ≤ h0.size) (F_value_a1 : Fld Z h0 a1 "java/lang/AbstractStringBuilder" "value" "[B" (.ref a2)) (A_a2 : Ar Z h0 a2 c1 .byte [.int i1, .int 32, .int 109, .int 97, .int 116, .int 99, .int 104, .int 101, .int 114, .int 115, .int 0, .int 0, .int 0, .int 0, .int 0, .int 0]) (F_coder_a1 : Fld Z h0 a1 "java/lang/AbstractStringBuilder" "coder" "B" (.int 0)) :
  Con w [] Z mn27 jdk_68_method_10_code 6 (some .int) R_newCapacity_38 Ts Ts f #[.ref a1, .int 21] h0 (Q_newCapacity_38 Z h0) := by
 refine con_of f #[vR a1, vI 21, .unset, .unset, .unset, .unset] (plainFor_of_name pn_0) (fun m => rfl) Zf ?_
 intro C H hX0
 refine r_aloadN H 1 d_j68_10_0 ?_
 refine r_getf H 4 d_j68_10_1 (tw23 hw) F_value_a1 ?_
 refine r_alen H 5 16 d_j68_10_4 A_a2 ?_
 refine r_istoreN H 6 #[vR a1, vI 21, vI 16, .unset, .unset, .unset] d_j68_10_5 ?_
 refine r_iloadN H 7 d_j68_10_6 ?_
 refine r_aloadN H 8 d_j68_10_7 ?_
 refine r_getf H 11 d_j68_10_8 (tw25 hw) F_coder_a1 ?_
 refine r_ishl H 12 21 d_j68_10_11 ?_
 refine r_istoreN H 13 #[vR a1, vI 21, vI 16, vI 21, .unset, .unset] d_j68_10_12 ?_
 refine r_iloadN H 14 d_j68_10_13 ?_
 refine r_iloadN H 15 d_j68_10_14 ?_
 refine r_isub H 16 5 d_j68_10_15 ?_
 refine r_istore H 18 #[vR a1, vI 21, vI 16, vI 21, vI 5, .unset] d_j68_10_16 ?_
 refine r_iloadN H 19 d_j68_10_18 ?_
 refine r_iload H 21 d_j68_10_19 ?_
 refine r_iloadN H 22 d_j68_10_21 ?_
 refine r_iconst H 23 2 d_j68_10_22 ?_
 refine r_aloadN H 24 d_j68_10_23 ?_
 refine r_getf H 27 d_j68_10_24 (tw25 hw) F_coder_a1 ?_
 refine r_ishl H 28 2 d_j68_10_27 ?_
 refine r_iadd H 29 18 d_j68_10_28 ?_
 refine r_static (argsL := [.int 16, .int 5, .int 18]) (rest := []) (W := 0) H 32 d_j68_10_29 (tw154 hw) (tw155 hw) (tw156 hw) (tw157 hw) (lenOf pd_21 rfl) (rm_newLength_39 hw Ts h0 f Zf Z0) ?_
 rintro _ _ ⟨rfl, rfl⟩
 refine r_istore H 34 #[vR a1, vI 21, vI 16, vI 21, vI 5, vI 34] d_j68_10_32 ?_
 refine r_iload H 36 d_j68_10_34 ?_
 refine r_ldcI H 38 d_j68_10_36 (tw162 hw) ?_
 refine r_icmpneT H 51 d_j68_10_38 (by decide) (by decide) (by decide) ?_
 refine r_iload H 53 d_j68_10_51 ?_
 refine r_aloadN H 54 d_j68_10_53 ?_
 refine r_getf H 57 d_j68_10_54 (tw25 hw) F_coder_a1 ?_
 refine r_ishr H 58 34 d_j68_10_57 ?_
 exact r_ireturn H d_j68_10_58 (⟨rfl, rfl⟩)
def Q_min_42 (Z : State) (h0 : Heap) (v : Option Value) (h : Heap) : Prop := v = some (.int 16) ∧ h0 = h
def R_min_42 : Room := { frames := 0, cells := 0, slots := 0, locals := 0 }
theorem rm_min_42 {w : Bool} {Z : State} {a0 : Array Value} (hw : HW a0 Z) (Ts : List String) (h0 : Heap) (f : Nat) (Zf : Z.heap.size ≤ f) (Z0 : f ≤ h0.size) :
  Con w [] Z mn19 jdk_29_method_69_code 2 (some .int) R_min_42 Ts Ts f #[.int 16, .int 34] h0 (Q_min_42 Z h0) := by
 refine con_of f #[vI 16, vI 34] (Jvm.Free.JP.mathPlain rfl (by decide +kernel)) (fun m => rfl) Zf ?_
 intro C H hX0
 refine r_iloadN H 1 d_j29_69_0 ?_
 refine r_iloadN H 2 d_j29_69_1 ?_
 refine r_icmpgtF H 5 d_j29_69_2 ?_
 refine r_iloadN H 6 d_j29_69_5 ?_
 refine r_goto H 10 d_j29_69_6 ?_
 exact r_ireturn H d_j29_69_10 (⟨rfl, rfl⟩)
def Q_copyOf_41 (Z : State) (i1 : Int32) (h0 : Heap) (v : Option Value) (h : Heap) : Prop := ∃ (b1 : Addr) (kc1 : ClassId), v = some (.ref b1) ∧ Keep h0 h [] ∧ h0.size ≤ b1 ∧ Ar Z h b1 kc1 .byte [.int i1, .int 32, .int 109, .int 97, .int 116, .int 99, .int 104, .int 101, .int 114, .int 115, .int 0, .int 0, .int 0, .int 0, .int 0, .int 0, .int 0, .int 0, .int 0, .int 0, .int 0, .int 0, .int 0, .int 0, .int 0, .int 0, .int 0, .int 0, .int 0, .int 0, .int 0, .int 0, .int 0, .int 0] ∧ Exa Z h b1 "[B"
def R_copyOf_41 : Room := { frames := 1, cells := 1, slots := 34, locals := 18 }
theorem rm_copyOf_41 {w : Bool} {Z : State} {a0 : Array Value} (hw : HW a0 Z) (Ts : List String) (a1 : Addr) (i1 : Int32) (c1 : ClassId) (h0 : Heap) (f : Nat) (Zf : Z.heap.size ≤ f) (Z0 : f ≤ h0.size) (A_a1 : Ar Z h0 a1 c1 .byte [.int i1, .int 32, .int 109, .int 97, .int 116, .int 99, .int 104, .int 101, .int 114, .int 115, .int 0, .int 0, .int 0, .int 0, .int 0, .int 0]) :
  Con w [] Z mn28 jdk_65_method_121_code 3 (some (.array .byte)) R_copyOf_41 Ts Ts f #[.ref a1, .int 34] h0 (Q_copyOf_41 Z i1 h0) := by
 refine con_of f #[vR a1, vI 34, .unset] (plainFor_of_name pn_4) (fun m => rfl) Zf ?_
 intro C H hX0
 refine r_iloadN H 1 d_j65_121_0 ?_
 refine r_aloadN H 2 d_j65_121_1 ?_
 refine r_alen H 3 16 d_j65_121_2 A_a1 ?_
 refine r_icmpneT H 14 d_j65_121_3 (by decide) (by decide) (by decide) ?_
 refine r_iloadN H 15 d_j65_121_14 ?_
 refine r_newP H 17 "[B" 34 d_j65_121_15 (tw22 hw) ?_
 intro h1 b1 kc1 g1 l1 K1 E1 A1
 change Ar Z h1 b1 kc1 .byte [.int 0, .int 0, .int 0, .int 0, .int 0, .int 0, .int 0, .int 0, .int 0, .int 0, .int 0, .int 0, .int 0, .int 0, .int 0, .int 0, .int 0, .int 0, .int 0, .int 0, .int 0, .int 0, .int 0, .int 0, .int 0, .int 0, .int 0, .int 0, .int 0, .int 0, .int 0, .int 0, .int 0, .int 0] at A1
 refine r_astoreN H 18 #[vR a1, vI 34, vR b1] d_j65_121_17 ?_
 refine r_aloadN H 19 d_j65_121_18 ?_
 refine r_iconst H 20 0 d_j65_121_19 ?_
 refine r_aloadN H 21 d_j65_121_20 ?_
 refine r_iconst H 22 0 d_j65_121_21 ?_
 refine r_aloadN H 23 d_j65_121_22 ?_
 have q2 := (A_a1.keep K1 nin0)
 refine r_alen H 24 16 d_j65_121_23 q2 ?_
 refine r_iloadN H 25 d_j65_121_24 ?_
 refine r_static (argsL := [.int 16, .int 34]) (rest := [.int 0, .ref b1, .int 0, .ref a1]) (W := 4) H 28 d_j65_121_25 (tw143 hw) (tw144 hw) (tw145 hw) (tw146 hw) (lenOf pd_16 rfl) (rm_min_42 hw Ts h1 f Zf (nlt Z0 K1.1)) ?_
 rintro _ _ ⟨rfl, rfl⟩
 refine r_copy (W := 0) H 31 d_j65_121_28 (tw147 hw) (tw104 hw) (tw102 hw) (tw103 hw) q2 A1 (nlt Z0 (Nat.le_of_eq g1.symm)) ?_
 intro h4 K4 A4
 change Ar Z h4 b1 kc1 .byte [.int i1, .int 32, .int 109, .int 97, .int 116, .int 99, .int 104, .int 101, .int 114, .int 115, .int 0, .int 0, .int 0, .int 0, .int 0, .int 0, .int 0, .int 0, .int 0, .int 0, .int 0, .int 0, .int 0, .int 0, .int 0, .int 0, .int 0, .int 0, .int 0, .int 0, .int 0, .int 0, .int 0, .int 0] at A4
 refine r_aloadN H 32 d_j65_121_31 ?_
 have k5 : Keep h0 h1 [] := Keep.trans (Keep.refl h0 []) K1 all0
 have k6 : Keep h0 h4 [] := Keep.trans k5 K4 (allS (Or.inr (nlt nlr (Nat.le_of_eq g1.symm))) all0)
 have q7 := (E1.keep K4)
 exact r_areturn H d_j65_121_32 (⟨b1, kc1, rfl, k6, (nlt nlr (Nat.le_of_eq g1.symm)), A4, q7⟩)
def Q_ensureCapacityInternal_37 (Z : State) (a1 : Addr) (i1 : Int32) (h0 : Heap) (v : Option Value) (h : Heap) : Prop := ∃ (b2 : Addr) (kc3 : ClassId), v = none ∧ Keep h0 h [a1] ∧ h0.size ≤ b2 ∧ Exa Z h a1 "java/lang/StringBuilder" ∧ Fld Z h a1 "java/lang/AbstractStringBuilder" "coder" "B" (.int 0) ∧ Fld Z h a1 "java/lang/AbstractStringBuilder" "count" "I" (.int 10) ∧ Fld Z h a1 "java/lang/AbstractStringBuilder" "value" "[B" (.ref b2) ∧ Ar Z h b2 kc3 .byte [.int i1, .int 32, .int 109, .int 97, .int 116, .int 99, .int 104, .int 101, .int 114, .int 115, .int 0, .int 0, .int 0, .int 0, .int 0, .int 0, .int 0, .int 0, .int 0, .int 0, .int 0, .int 0, .int 0, .int 0, .int 0, .int 0, .int 0, .int 0, .int 0, .int 0, .int 0, .int 0, .int 0, .int 0] ∧ Exa Z h b2 "[B"
def R_ensureCapacityInternal_37 : Room := { frames := 3, cells := 1, slots := 34, locals := 48 }
theorem rm_ensureCapacityInternal_37 {w : Bool} {Z : State} {a0 : Array Value} (hw : HW a0 Z) (Ts : List String) (a1 : Addr) (a2 : Addr) (i1 : Int32) (c1 : ClassId) (h0 : Heap) (f : Nat) (Zf : Z.heap.size ≤ f) (Z0 : f ≤ h0.size) (F_value_a1 : Fld Z h0 a1 "java/lang/AbstractStringBuilder" "value" "[B" (.ref a2)) (A_a2 : Ar Z h0 a2 c1 .byte [.int i1, .int 32, .int 109, .int 97, .int 116, .int 99, .int 104, .int 101, .int 114, .int 115, .int 0, .int 0, .int 0, .int 0, .int 0, .int 0]) (F_coder_a1 : Fld Z h0 a1 "java/lang/AbstractStringBuilder" "coder" "B" (.int 0)) (E_a1 : Exa Z h0 a1 "java/lang/StringBuilder") (g_a1 : f ≤ a1) (F_count_a1 : Fld Z h0 a1 "java/lang/AbstractStringBuilder" "count" "I" (.int 10)) :
  Con w [] Z mn3 jdk_68_method_9_code 3 none R_ensureCapacityInternal_37 Ts Ts f #[.ref a1, .int 21] h0 (Q_ensureCapacityInternal_37 Z a1 i1 h0) := by
 refine con_of f #[vR a1, vI 21, .unset] (plainFor_of_name pn_0) (fun m => rfl) Zf ?_
 intro C H hX0
 refine r_aloadN H 1 d_j68_9_0 ?_
 refine r_getf H 4 d_j68_9_1 (tw23 hw) F_value_a1 ?_
 refine r_alen H 5 16 d_j68_9_4 A_a2 ?_
 refine r_aloadN H 6 d_j68_9_5 ?_
 refine r_getf H 9 d_j68_9_6 (tw25 hw) F_coder_a1 ?_
 refine r_ishr H 10 16 d_j68_9_9 ?_
 refine r_istoreN H 11 #[vR a1, vI 21, vI 16] d_j68_9_10 ?_
 refine r_iloadN H 12 d_j68_9_11 ?_
 refine r_iloadN H 13 d_j68_9_12 ?_
 refine r_isub H 14 5 d_j68_9_13 ?_
 refine r_ifleF H 17 d_j68_9_14 ?_
 refine r_aloadN H 18 d_j68_9_17 ?_
 refine r_aloadN H 19 d_j68_9_18 ?_
 refine r_getf H 22 d_j68_9_19 (tw23 hw) F_value_a1 ?_
 refine r_aloadN H 23 d_j68_9_22 ?_
 refine r_iloadN H 24 d_j68_9_23 ?_
 refine r_private (a := a1) (argsL := [.int 21]) (rest := [.ref a2, .ref a1]) (W := 2) H 27 d_j68_9_24 (tw149 hw) (tw150 hw) (tw152 hw) (tw151 hw) (tw15 hw) (tw153 hw) E_a1 (lenOf pd_2 rfl) (rm_newCapacity_38 hw Ts a1 a2 i1 c1 h0 f Zf Z0 F_value_a1 A_a2 F_coder_a1) ?_
 rintro _ _ ⟨rfl, rfl⟩
 refine r_aloadN H 28 d_j68_9_27 ?_
 refine r_getf H 31 d_j68_9_28 (tw25 hw) F_coder_a1 ?_
 refine r_ishl H 32 34 d_j68_9_31 ?_
 refine r_static (argsL := [.ref a2, .int 34]) (rest := [.ref a1]) (W := 1) H 35 d_j68_9_32 (tw163 hw) (tw164 hw) (tw135 hw) (tw165 hw) (lenOf pd_22 rfl) (rm_copyOf_41 hw Ts a2 i1 c1 h0 f Zf Z0 A_a2) ?_
 rintro _ hh8 ⟨b2, kc3, rfl, K4, g5, q6, q7⟩
 have q9 := (E_a1.keep K4)
 have q10 := (F_value_a1.keep K4 nin0)
 refine r_putf (ty := (.array .byte)) H 38 d_j68_9_35 (tw23 hw) q10 q9 (Or.inl (tw24 hw)) (tw6 hw) g_a1 ?_
 intro h11 W11 K11 E11 F11
 have k12 : Keep h0 hh8 [a1] := Keep.trans (Keep.refl h0 [a1]) K4 all0
 have k13 : Keep h0 h11 [a1] := Keep.trans k12 K11 (allS (Or.inl (List.mem_of_getElem? (i := 0) rfl)) all0)
 have q14 := ((F_coder_a1.keep K4 nin0).other W11 (Or.inr (slot_ne (Or.inl (tw26 hw)) (Or.inl (tw24 hw)) (by decide) (t := .byte) (t' := (.array .byte)) (by decide) (by decide))))
 have q15 := ((F_count_a1.keep K4 nin0).other W11 (Or.inr (slot_ne (Or.inl (tw38 hw)) (Or.inl (tw24 hw)) (by decide) (t := .int) (t' := (.array .byte)) (by decide) (by decide))))
 have q16 := (q6.keep K11 (ninS (Ne.symm (Nat.ne_of_lt (Nat.lt_of_lt_of_le F_value_a1.lt (nlt nlr g5)))) nin0))
 have q17 := (q7.keep K11)
 exact r_return H d_j68_9_38 (⟨b2, kc3, rfl, k13, (nlt nlr g5), E11, q14, q15, F11, q16, q17⟩)
def Q_getBytes_44 (Z : State) (a2 : Addr) (i1 : Int32) (c1 : ClassId) (h0 : Heap) (v : Option Value) (h : Heap) : Prop := v = none ∧ Keep h0 h [a2] ∧ Ar Z h a2 c1 .byte [.int i1, .int 32, .int 109, .int 97, .int 116, .int 99, .int 104, .int 101, .int 114, .int 115, .int 32, .int 101, .int 120, .int 112, .int 101, .int 99, .int 116, .int 101, .int 100, .int 44, .int 32, .int 0, .int 0, .int 0, .int 0, .int 0, .int 0, .int 0, .int 0, .int 0, .int 0, .int 0, .int 0, .int 0] ∧ Exa Z h a2 "[B"
def R_getBytes_44 : Room := { frames := 1, cells := 0, slots := 0, locals := 18 }
theorem rm_getBytes_44 {w : Bool} {Z : State} {a0 : Array Value} (hw : HW a0 Z) (Ts : List String) (a1 : Addr) (a2 : Addr) (a3 : Addr) (i1 : Int32) (c1 : ClassId) (c2 : ClassId) (cs : Int32) (h0 : Heap) (f : Nat) (Zf : Z.heap.size ≤ f) (Z0 : f ≤ h0.size) (E_a1 : Exa Z h0 a1 "java/lang/String") (F_coder_a1 : Fld Z h0 a1 "java/lang/String" "coder" "B" (.int 0)) (F_value_a1 : Fld Z h0 a1 "java/lang/String" "value" "[B" (.ref a3)) (A_a3 : Ar Z h0 a3 c2 .byte [.int 32, .int 101, .int 120, .int 112, .int 101, .int 99, .int 116, .int 101, .int 100, .int 44, .int 32]) (A_a2 : Ar Z h0 a2 c1 .byte [.int i1, .int 32, .int 109, .int 97, .int 116, .int 99, .int 104, .int 101, .int 114, .int 115, .int 0, .int 0, .int 0, .int 0, .int 0, .int 0, .int 0, .int 0, .int 0, .int 0, .int 0, .int 0, .int 0, .int 0, .int 0, .int 0, .int 0, .int 0, .int 0, .int 0, .int 0, .int 0, .int 0, .int 0]) (g_a2 : f ≤ a2) (E_a2 : Exa Z h0 a2 "[B") (S_cs : G_S_cs Z cs) (hcs : ¬ cs = 0) :
  Con w [] Z mn11 jdk_42_method_147_code 4 none R_getBytes_44 Ts Ts f #[.ref a1, .ref a2, .int 10, .int 0] h0 (Q_getBytes_44 Z a2 i1 c1 h0) := by
 refine con_of f #[vR a1, vR a2, vI 10, vI 0] (plainFor_of_name pn_3) (fun m => rfl) Zf ?_
 intro C H hX0
 refine r_aloadN H 1 d_j42_147_0 ?_
 refine r_virtual (z := mn8) (a := a1) (argsL := []) (rest := []) (W := 0) H 4 d_j42_147_1 (tw78 hw) (tw79 hw) (nf_sel (tw81 hw)) (tw81 hw) (tw80 hw) (tw21 hw) (tw82 hw) E_a1 (lenOf pd_7 rfl) (rm_coder_13 hw Ts a1 cs h0 f Zf Z0 F_coder_a1 S_cs hcs) ?_
 rintro _ _ ⟨rfl, rfl⟩
 refine r_iloadN H 5 d_j42_147_4 ?_
 refine r_icmpneF H 8 d_j42_147_5 rfl (by decide) ?_
 refine r_aloadN H 9 d_j42_147_8 ?_
 refine r_getf H 12 d_j42_147_9 (tw77 hw) F_value_a1 ?_
 refine r_iconst H 13 0 d_j42_147_12 ?_
 refine r_aloadN H 14 d_j42_147_13 ?_
 refine r_iloadN H 15 d_j42_147_14 ?_
 refine r_iloadN H 16 d_j42_147_15 ?_
 refine r_ishl H 17 10 d_j42_147_16 ?_
 refine r_aloadN H 18 d_j42_147_17 ?_
 refine r_getf H 21 d_j42_147_18 (tw77 hw) F_value_a1 ?_
 refine r_alen H 22 11 d_j42_147_21 A_a3 ?_
 refine r_copy (W := 0) H 25 d_j42_147_22 (tw101 hw) (tw104 hw) (tw102 hw) (tw103 hw) A_a3 A_a2 g_a2 ?_
 intro h2 K2 A2
 change Ar Z h2 a2 c1 .byte [.int i1, .int 32, .int 109, .int 97, .int 116, .int 99, .int 104, .int 101, .int 114, .int 115, .int 32, .int 101, .int 120, .int 112, .int 101, .int 99, .int 116, .int 101, .int 100, .int 44, .int 32, .int 0, .int 0, .int 0, .int 0, .int 0, .int 0, .int 0, .int 0, .int 0, .int 0, .int 0, .int 0, .int 0] at A2
 refine r_goto H 43 d_j42_147_25 ?_
 have k3 : Keep h0 h2 [a2] := Keep.trans (Keep.refl h0 [a2]) K2 (allS (Or.inl (List.mem_of_getElem? (i := 0) rfl)) all0)
 have q4 := (E_a2.keep K2)
 exact r_return H d_j42_147_43 (⟨rfl, k3, A2, q4⟩)
def Q_putStringAt_43 (Z : State) (a3 : Addr) (i1 : Int32) (c1 : ClassId) (h0 : Heap) (v : Option Value) (h : Heap) : Prop := v = none ∧ Keep h0 h [a3] ∧ Ar Z h a3 c1 .byte [.int i1, .int 32, .int 109, .int 97, .int 116, .int 99, .int 104, .int 101, .int 114, .int 115, .int 32, .int 101, .int 120, .int 112, .int 101, .int 99, .int 116, .int 101, .int 100, .int 44, .int 32, .int 0, .int 0, .int 0, .int 0, .int 0, .int 0, .int 0, .int 0, .int 0, .int 0, .int 0, .int 0, .int 0] ∧ Exa Z h a3 "[B"
def R_putStringAt_43 : Room := { frames := 2, cells := 0, slots := 0, locals := 33 }
theorem rm_putStringAt_43 {w : Bool} {Z : State} {a0 : Array Value} (hw : HW a0 Z) (Ts : List String) (a1 : Addr) (a2 : Addr) (a3 : Addr) (a4 : Addr) (i1 : Int32) (c1 : ClassId) (c2 : ClassId) (cs : Int32) (h0 : Heap) (f : Nat) (Zf : Z.heap.size ≤ f) (Z0 : f ≤ h0.size) (F_coder_a1 : Fld Z h0 a1 "java/lang/AbstractStringBuilder" "coder" "B" (.int 0)) (E_a2 : Exa Z h0 a2 "java/lang/String") (F_coder_a2 : Fld Z h0 a2 "java/lang/String" "coder" "B" (.int 0)) (E_a1 : Exa Z h0 a1 "java/lang/StringBuilder") (F_value_a1 : Fld Z h0 a1 "java/lang/AbstractStringBuilder" "value" "[B" (.ref a3)) (g_a3 : f ≤ a3) (F_value_a2 : Fld Z h0 a2 "java/lang/String" "value" "[B" (.ref a4)) (A_a4 : Ar Z h0 a4 c2 .byte [.int 32, .int 101, .int 120, .int 112, .int 101, .int 99, .int 116, .int 101, .int 100, .int 44, .int 32]) (A_a3 : Ar Z h0 a3 c1 .byte [.int i1, .int 32, .int 109, .int 97, .int 116, .int 99, .int 104, .int 101, .int 114, .int 115, .int 0, .int 0, .int 0, .int 0, .int 0, .int 0, .int 0, .int 0, .int 0, .int 0, .int 0, .int 0, .int 0, .int 0, .int 0, .int 0, .int 0, .int 0, .int 0, .int 0, .int 0, .int 0, .int 0, .int 0]) (E_a3 : Exa Z h0 a3 "[B") (S_cs : G_S_cs Z cs) (hcs : ¬ cs = 0) :
  Con w [] Z mn12 jdk_68_method_73_code 3 none R_putStringAt_43 Ts Ts f #[.ref a1, .int 10, .ref a2] h0 (Q_putStringAt_43 Z a3 i1 c1 h0) := by
 refine con_of f #[vR a1, vI 10, vR a2] (plainFor_of_name pn_0) (fun m => rfl) Zf ?_
 intro C H hX0
 refine r_aloadN H 1 d_j68_73_0 ?_
 refine r_aloadN H 2 d_j68_73_1 ?_
 refine r_private (a := a1) (argsL := [.ref a2]) (rest := []) (W := 0) H 5 d_j68_73_2 (tw90 hw) (tw91 hw) (tw93 hw) (tw92 hw) (tw15 hw) (tw94 hw) E_a1 (lenOf pd_9 rfl) (rm_inflateIfNeededFor_16 hw Ts a1 a2 cs h0 f Zf Z0 F_coder_a1 E_a2 F_coder_a2 S_cs hcs) ?_
 rintro _ _ ⟨rfl, rfl⟩
 refine r_aloadN H 6 d_j68_73_5 ?_
 refine r_aloadN H 7 d_j68_73_6 ?_
 refine r_getf H 10 d_j68_73_7 (tw23 hw) F_value_a1 ?_
 refine r_iloadN H 11 d_j68_73_10 ?_
 refine r_aloadN H 12 d_j68_73_11 ?_
 refine r_getf H 15 d_j68_73_12 (tw25 hw) F_coder_a1 ?_
 refine r_virtual (z := mn11) (a := a2) (argsL := [.ref a3, .int 10, .int 0]) (rest := []) (W := 0) H 18 d_j68_73_15 (tw96 hw) (tw97 hw) (nf_sel (tw99 hw)) (tw99 hw) (tw98 hw) (tw21 hw) (tw100 hw) E_a2 (lenOf pd_10 rfl) (rm_getBytes_44 hw Ts a2 a3 a4 i1 c1 c2 cs h0 f Zf Z0 E_a2 F_coder_a2 F_value_a2 A_a4 A_a3 g_a3 E_a3 S_cs hcs) ?_
 rintro _ hh5 ⟨rfl, K2, q3, q4⟩
 have k6 : Keep h0 hh5 [a3] := Keep.trans (Keep.refl h0 [a3]) K2 (allS (Or.inl (List.mem_of_getElem? (i := 0) rfl)) all0)
 exact r_return H d_j68_73_18 (⟨rfl, k6, q3, q4⟩)
def Q_append_35 (Z : State) (a1 : Addr) (i1 : Int32) (h0 : Heap) (v : Option Value) (h : Heap) : Prop := ∃ (b2 : Addr) (kc3 : ClassId), v = some (.ref a1) ∧ Keep h0 h [a1] ∧ h0.size ≤ b2 ∧ Exa Z h a1 "java/lang/StringBuilder" ∧ Fld Z h a1 "java/lang/AbstractStringBuilder" "coder" "B" (.int 0) ∧ Fld Z h a1 "java/lang/AbstractStringBuilder" "count" "I" (.int 21) ∧ Fld Z h a1 "java/lang/AbstractStringBuilder" "value" "[B" (.ref b2) ∧ Ar Z h b2 kc3 .byte [.int i1, .int 32, .int 109, .int 97, .int 116, .int 99, .int 104, .int 101, .int 114, .int 115, .int 32, .int 101, .int 120, .int 112, .int 101, .int 99, .int 116, .int 101, .int 100, .int 44, .int 32, .int 0, .int 0, .int 0, .int 0, .int 0, .int 0, .int 0, .int 0, .int 0, .int 0, .int 0, .int 0, .int 0] ∧ Exa Z h b2 "[B"
def R_append_35 : Room := { frames := 4, cells := 1, slots := 34, locals := 62 }
theorem rm_append_35 {w : Bool} {Z : State} {a0 : Array Value} (hw : HW a0 Z) (Ts : List String) (a1 : Addr) (a2 : Addr) (a3 : Addr) (a4 : Addr) (i1 : Int32) (c1 : ClassId) (c2 : ClassId) (cs : Int32) (h0 : Heap) (f : Nat) (Zf : Z.heap.size ≤ f) (Z0 : f ≤ h0.size) (E_a2 : Exa Z h0 a2 "java/lang/String") (F_value_a2 : Fld Z h0 a2 "java/lang/String" "value" "[B" (.ref a4)) (A_a4 : Ar Z h0 a4 c2 .byte [.int 32, .int 101, .int 120, .int 112, .int 101, .int 99, .int 116, .int 101, .int 100, .int 44, .int 32]) (F_coder_a2 : Fld Z h0 a2 "java/lang/String" "coder" "B" (.int 0)) (F_count_a1 : Fld Z h0 a1 "java/lang/AbstractStringBuilder" "count" "I" (.int 10)) (g_a1 : f ≤ a1) (F_value_a1 : Fld Z h0 a1 "java/lang/AbstractStringBuilder" "value" "[B" (.ref a3)) (A_a3 : Ar Z h0 a3 c1 .byte [.int i1, .int 32, .int 109, .int 97, .int 116, .int 99, .int 104, .int 101, .int 114, .int 115, .int 0, .int 0, .int 0, .int 0, .int 0, .int 0]) (F_coder_a1 : Fld Z h0 a1 "java/lang/AbstractStringBuilder" "coder" "B" (.int 0)) (E_a1 : Exa Z h0 a1 "java/lang/StringBuilder") (S_cs : G_S_cs Z cs) (hcs : ¬ cs = 0) :
  Con w [] Z mn13 jdk_68_method_22_code 3 (some (.object "java/lang/AbstractStringBuilder")) R_append_35 Ts Ts f #[.ref a1, .ref a2] h0 (Q_append_35 Z a1 i1 h0) := by
 refine con_of f #[vR a1, vR a2, .unset] (plainFor_of_name pn_0) (fun m => rfl) Zf ?_
 intro C H hX0
 refine r_aloadN H 1 d_j68_22_0 ?_
 refine r_ifnonnullT H 9 d_j68_22_1 ?_
 refine r_aloadN H 10 d_j68_22_9 ?_
 refine r_virtual (z := mn9) (a := a2) (argsL := []) (rest := []) (W := 0) H 13 d_j68_22_10 (tw72 hw) (tw73 hw) (nf_sel (tw75 hw)) (tw75 hw) (tw74 hw) (tw21 hw) (tw76 hw) E_a2 (lenOf pd_8 rfl) (rm_length_36 hw Ts a2 a4 c2 cs h0 f Zf Z0 F_value_a2 A_a4 E_a2 F_coder_a2 S_cs hcs) ?_
 rintro _ _ ⟨rfl, rfl⟩
 refine r_istoreN H 14 #[vR a1, vR a2, vI 11] d_j68_22_13 ?_
 refine r_aloadN H 15 d_j68_22_14 ?_
 refine r_aloadN H 16 d_j68_22_15 ?_
 refine r_getf H 19 d_j68_22_16 (tw37 hw) F_count_a1 ?_
 refine r_iloadN H 20 d_j68_22_19 ?_
 refine r_iadd H 21 21 d_j68_22_20 ?_
 refine r_private (a := a1) (argsL := [.int 21]) (rest := []) (W := 0) H 24 d_j68_22_21 (tw43 hw) (tw44 hw) (tw46 hw) (tw45 hw) (tw15 hw) (tw47 hw) E_a1 (lenOf pd_0 rfl) (rm_ensureCapacityInternal_37 hw Ts a1 a3 i1 c1 h0 f Zf Z0 F_value_a1 A_a3 F_coder_a1 E_a1 g_a1 F_count_a1) ?_
 rintro _ hh12 ⟨b2, kc3, rfl, K4, g5, q6, q7, q8, q9, q10, q11⟩
 refine r_aloadN H 25 d_j68_22_24 ?_
 refine r_aloadN H 26 d_j68_22_25 ?_
 refine r_getf H 29 d_j68_22_26 (tw37 hw) q8 ?_
 refine r_aloadN H 30 d_j68_22_29 ?_
 have q13 := (E_a2.keep K4)
 have q14 := (F_coder_a2.keep K4 (ninS (ne_exa q13 q6 (by decide)) nin0))
 have q15 := (F_value_a2.keep K4 (ninS (ne_exa q13 q6 (by decide)) nin0))
 have q16 := (A_a4.keep K4 (ninS (Ne.symm (ne_ar E_a1 (tw6 hw) A_a4)) nin0))
 refine r_private (a := a1) (argsL := [.int 10, .ref a2]) (rest := []) (W := 0) H 33 d_j68_22_30 (tw85 hw) (tw86 hw) (tw88 hw) (tw87 hw) (tw15 hw) (tw89 hw) q6 (lenOf pd_11 rfl) (rm_putStringAt_43 hw Ts a1 a2 b2 a4 i1 kc3 c2 cs hh12 f Zf (nlt Z0 K4.1) q7 q13 q14 q6 q9 (nlt Z0 g5) q15 q16 q10 q11 S_cs hcs) ?_
 rintro _ hh20 ⟨rfl, K17, q18, q19⟩
 refine r_aloadN H 34 d_j68_22_33 ?_
 refine r_dup H 35 d_j68_22_34 ?_
 have q21 := (q8.keep K17 (ninS (Nat.ne_of_lt (Nat.lt_of_lt_of_le F_count_a1.lt (nlt nlr g5))) nin0))
 refine r_getf H 38 d_j68_22_35 (tw37 hw) q21 ?_
 refine r_iloadN H 39 d_j68_22_38 ?_
 refine r_iadd H 40 21 d_j68_22_39 ?_
 have q22 := (q6.keep K17)
 refine r_putf (ty := .int) H 43 d_j68_22_40 (tw37 hw) q21 q22 (Or.inl (tw38 hw)) (tw6 hw) g_a1 ?_
 intro h23 W23 K23 E23 F23
 refine r_aloadN H 44 d_j68_22_43 ?_
 have k24 : Keep h0 hh12 [a1] := Keep.trans (Keep.refl h0 [a1]) K4 (allS (Or.inl (List.mem_of_getElem? (i := 0) rfl)) all0)
 have k25 : Keep h0 hh20 [a1] := Keep.trans k24 K17 (allS (Or.inr (nlt nlr g5)) all0)
 have k26 : Keep h0 h23 [a1] := Keep.trans k25 K23 (allS (Or.inl (List.mem_of_getElem? (i := 0) rfl)) all0)
 have q27 := ((q7.keep K17 (ninS (Nat.ne_of_lt (Nat.lt_of_lt_of_le F_count_a1.lt (nlt nlr g5))) nin0)).other W23 (Or.inr (slot_ne (Or.inl (tw26 hw)) (Or.inl (tw38 hw)) (by decide) (t := .byte) (t' := .int) (by decide) (by decide))))
 have q28 := ((q9.keep K17 (ninS (Nat.ne_of_lt (Nat.lt_of_lt_of_le F_count_a1.lt (nlt nlr g5))) nin0)).other W23 (Or.inr (slot_ne (Or.inl (tw24 hw)) (Or.inl (tw38 hw)) (by decide) (t := (.array .byte)) (t' := .int) (by decide) (by decide))))
 have q29 := (q18.keep K23 (ninS (Ne.symm (Nat.ne_of_lt (Nat.lt_of_lt_of_le F_count_a1.lt (nlt nlr g5)))) nin0))
 have q30 := (q19.keep K23)
 exact r_areturn H d_j68_22_44 (⟨b2, kc3, rfl, k26, (nlt nlr g5), E23, q27, F23, q28, q29, q30⟩)
def Q_append_34 (Z : State) (a1 : Addr) (i1 : Int32) (h0 : Heap) (v : Option Value) (h : Heap) : Prop := ∃ (b1 : Addr) (kc2 : ClassId), v = some (.ref a1) ∧ Keep h0 h [a1] ∧ h0.size ≤ b1 ∧ Exa Z h a1 "java/lang/StringBuilder" ∧ Fld Z h a1 "java/lang/AbstractStringBuilder" "coder" "B" (.int 0) ∧ Fld Z h a1 "java/lang/AbstractStringBuilder" "count" "I" (.int 21) ∧ Fld Z h a1 "java/lang/AbstractStringBuilder" "value" "[B" (.ref b1) ∧ Ar Z h b1 kc2 .byte [.int i1, .int 32, .int 109, .int 97, .int 116, .int 99, .int 104, .int 101, .int 114, .int 115, .int 32, .int 101, .int 120, .int 112, .int 101, .int 99, .int 116, .int 101, .int 100, .int 44, .int 32, .int 0, .int 0, .int 0, .int 0, .int 0, .int 0, .int 0, .int 0, .int 0, .int 0, .int 0, .int 0, .int 0] ∧ Exa Z h b1 "[B"
def R_append_34 : Room := { frames := 5, cells := 1, slots := 34, locals := 76 }
theorem rm_append_34 {w : Bool} {Z : State} {a0 : Array Value} (hw : HW a0 Z) (Ts : List String) (a1 : Addr) (a2 : Addr) (a3 : Addr) (a4 : Addr) (i1 : Int32) (c1 : ClassId) (c2 : ClassId) (cs : Int32) (h0 : Heap) (f : Nat) (Zf : Z.heap.size ≤ f) (Z0 : f ≤ h0.size) (g_a1 : f ≤ a1) (E_a2 : Exa Z h0 a2 "java/lang/String") (F_value_a2 : Fld Z h0 a2 "java/lang/String" "value" "[B" (.ref a4)) (A_a4 : Ar Z h0 a4 c2 .byte [.int 32, .int 101, .int 120, .int 112, .int 101, .int 99, .int 116, .int 101, .int 100, .int 44, .int 32]) (F_coder_a2 : Fld Z h0 a2 "java/lang/String" "coder" "B" (.int 0)) (F_count_a1 : Fld Z h0 a1 "java/lang/AbstractStringBuilder" "count" "I" (.int 10)) (F_value_a1 : Fld Z h0 a1 "java/lang/AbstractStringBuilder" "value" "[B" (.ref a3)) (A_a3 : Ar Z h0 a3 c1 .byte [.int i1, .int 32, .int 109, .int 97, .int 116, .int 99, .int 104, .int 101, .int 114, .int 115, .int 0, .int 0, .int 0, .int 0, .int 0, .int 0]) (F_coder_a1 : Fld Z h0 a1 "java/lang/AbstractStringBuilder" "coder" "B" (.int 0)) (E_a1 : Exa Z h0 a1 "java/lang/StringBuilder") (S_cs : G_S_cs Z cs) (hcs : ¬ cs = 0) :
  Con w [] Z mn14 jdk_67_method_7_code 2 (some (.object "java/lang/StringBuilder")) R_append_34 Ts Ts f #[.ref a1, .ref a2] h0 (Q_append_34 Z a1 i1 h0) := by
 refine con_of f #[vR a1, vR a2] (plainFor_of_name pn_1) (fun m => rfl) Zf ?_
 intro C H hX0
 refine r_aloadN H 1 d_j67_7_0 ?_
 refine r_aloadN H 2 d_j67_7_1 ?_
 refine r_super (a := a1) (argsL := [.ref a2]) (rest := []) (W := 0) H 5 d_j67_7_2 (tw68 hw) (same_self (tw70 hw) (tw46 hw) rfl (by decide)) (tw69 hw) (tw34 hw) (tw15 hw) (tw71 hw) (Ins.self E_a1) (lenOf pd_12 rfl) (rm_append_35 hw Ts a1 a2 a3 a4 i1 c1 c2 cs h0 f Zf Z0 E_a2 F_value_a2 A_a4 F_coder_a2 F_count_a1 g_a1 F_value_a1 A_a3 F_coder_a1 E_a1 S_cs hcs) ?_
 rintro _ hh11 ⟨b1, kc2, rfl, K3, g4, q5, q6, q7, q8, q9, q10⟩
 refine r_pop H 6 d_j67_7_5 ?_
 refine r_aloadN H 7 d_j67_7_6 ?_
 have k12 : Keep h0 hh11 [a1] := Keep.trans (Keep.refl h0 [a1]) K3 (allS (Or.inl (List.mem_of_getElem? (i := 0) rfl)) all0)
 exact r_areturn H d_j67_7_7 (⟨b1, kc2, rfl, k12, (nlt nlr g4), q5, q6, q7, q8, q9, q10⟩)
def Q_ensureCapacityInternal_47 (Z : State) (h0 : Heap) (v : Option Value) (h : Heap) : Prop := v = none ∧ h0 = h
def R_ensureCapacityInternal_47 : Room := { frames := 0, cells := 0, slots := 0, locals := 0 }
theorem rm_ensureCapacityInternal_47 {w : Bool} {Z : State} {a0 : Array Value} (hw : HW a0 Z) (Ts : List String) (a1 : Addr) (a2 : Addr) (i1 : Int32) (c1 : ClassId) (h0 : Heap) (f : Nat) (Zf : Z.heap.size ≤ f) (Z0 : f ≤ h0.size) (F_value_a1 : Fld Z h0 a1 "java/lang/AbstractStringBuilder" "value" "[B" (.ref a2)) (A_a2 : Ar Z h0 a2 c1 .byte [.int i1, .int 32, .int 109, .int 97, .int 116, .int 99, .int 104, .int 101, .int 114, .int 115, .int 32, .int 101, .int 120, .int 112, .int 101, .int 99, .int 116, .int 101, .int 100, .int 44, .int 32, .int 0, .int 0, .int 0, .int 0, .int 0, .int 0, .int 0, .int 0, .int 0, .int 0, .int 0, .int 0, .int 0]) (F_coder_a1 : Fld Z h0 a1 "java/lang/AbstractStringBuilder" "coder" "B" (.int 0)) :
  Con w [] Z mn3 jdk_68_method_9_code 3 none R_ensureCapacityInternal_47 Ts Ts f #[.ref a1, .int 22] h0 (Q_ensureCapacityInternal_47 Z h0) := by
 refine con_of f #[vR a1, vI 22, .unset] (plainFor_of_name pn_0) (fun m => rfl) Zf ?_
 intro C H hX0
 refine r_aloadN H 1 d_j68_9_0 ?_
 refine r_getf H 4 d_j68_9_1 (tw23 hw) F_value_a1 ?_
 refine r_alen H 5 34 d_j68_9_4 A_a2 ?_
 refine r_aloadN H 6 d_j68_9_5 ?_
 refine r_getf H 9 d_j68_9_6 (tw25 hw) F_coder_a1 ?_
 refine r_ishr H 10 34 d_j68_9_9 ?_
 refine r_istoreN H 11 #[vR a1, vI 22, vI 34] d_j68_9_10 ?_
 refine r_iloadN H 12 d_j68_9_11 ?_
 refine r_iloadN H 13 d_j68_9_12 ?_
 refine r_isub H 14 (-12 : Int32) d_j68_9_13 ?_
 refine r_ifleT H 38 d_j68_9_14 ?_
 exact r_return H d_j68_9_38 (⟨rfl, rfl⟩)
def Q_getChars_48 (Z : State) (a1 : Addr) (i1 : Int32) (i2 : Int32) (c1 : ClassId) (h0 : Heap) (v : Option Value) (h : Heap) : Prop := v = some (.int 21) ∧ Keep h0 h [a1] ∧ Ar Z h a1 c1 .byte [.int i2, .int 32, .int 109, .int 97, .int 116, .int 99, .int 104, .int 101, .int 114, .int 115, .int 32, .int 101, .int 120, .int 112, .int 101, .int 99, .int 116, .int 101, .int 100, .int 44, .int 32, (.int ((48 : Int32) + i1)), .int 0, .int 0, .int 0, .int 0, .int 0, .int 0, .int 0, .int 0, .int 0, .int 0, .int 0, .int 0] ∧ Exa Z h a1 "[B"
def R_getChars_48 : Room := { frames := 0, cells := 0, slots := 0, locals := 0 }
theorem rm_getChars_48 {w : Bool} {Z : State} {a0 : Array Value} (hw : HW a0 Z) (Ts : List String) (a1 : Addr) (i1 : Int32) (i2 : Int32) (c1 : ClassId) (gDigitOnes : Addr) (kDigitOnes : ClassId) (h0 : Heap) (f : Nat) (Zf : Z.heap.size ≤ f) (Z0 : f ≤ h0.size) (A_a1 : Ar Z h0 a1 c1 .byte [.int i2, .int 32, .int 109, .int 97, .int 116, .int 99, .int 104, .int 101, .int 114, .int 115, .int 32, .int 101, .int 120, .int 112, .int 101, .int 99, .int 116, .int 101, .int 100, .int 44, .int 32, .int 0, .int 0, .int 0, .int 0, .int 0, .int 0, .int 0, .int 0, .int 0, .int 0, .int 0, .int 0, .int 0]) (g_a1 : f ≤ a1) (E_a1 : Exa Z h0 a1 "[B") (r_i1 : 0 ≤ i1.toInt ∧ i1.toInt ≤ 9) (S_DigitOnes : G_S_DigitOnes Z gDigitOnes) (A_DigitOnes : G_A_DigitOnes Z gDigitOnes kDigitOnes) :
  Con w [] Z mn5 jdk_33_method_12_code 7 (some .int) R_getChars_48 Ts Ts f #[.int i1, .int 22, .ref a1] h0 (Q_getChars_48 Z a1 i1 i2 c1 h0) := by
 refine con_of f #[vI i1, vI 22, vR a1, .unset, .unset, .unset, .unset] (plainFor_of_name pn_2) (fun m => rfl) Zf ?_
 intro C H hX0
 refine r_iloadN H 1 d_j33_12_0 ?_
 refine r_istore H 3 #[vI i1, vI 22, vR a1, .unset, .unset, vI 22, .unset] d_j33_12_1 ?_
 refine r_iloadN H 4 d_j33_12_3 ?_
 refine r_ifgeT H 11 d_j33_12_4 (by have := r_i1; have : (0 : Int32).toInt = 0 := (by decide); simp only [Int32.lt_iff_toInt_lt, ← Int32.toInt_inj]; omega) ?_
 refine r_iconst H 12 0 d_j33_12_11 ?_
 refine r_istore H 14 #[vI i1, vI 22, vR a1, .unset, .unset, vI 22, vI 0] d_j33_12_12 ?_
 refine r_iload H 16 d_j33_12_14 ?_
 refine r_ifneF H 19 d_j33_12_16 ?_
 refine r_iloadN H 20 d_j33_12_19 ?_
 obtain ⟨p1, ep1, rp1⟩ : ∃ p : Int32, (-i1) = p ∧ -9 ≤ p.toInt ∧ p.toInt ≤ 0 := ⟨_, rfl, (by have := r_i1; have h1 := c_ineg i1; have h2 := rng32 (-i1); omega)⟩
 refine r_ineg H 21 p1 d_j33_12_20 ep1 ?_
 refine r_istoreN H 22 #[vI p1, vI 22, vR a1, .unset, .unset, vI 22, vI 0] d_j33_12_21 ?_
 refine r_iloadN H 23 d_j33_12_22 ?_
 refine r_bipush H 25 (-100 : Int32) d_j33_12_23 ?_
 refine r_icmpgtT H 72 d_j33_12_25 (by have := rp1; have : (-100 : Int32).toInt = -100 := (by decide); simp only [Int32.lt_iff_toInt_lt, ← Int32.toInt_inj]; omega) ?_
 refine r_aloadN H 73 d_j33_12_72 ?_
 refine r_iinc H 76 #[vI p1, vI 22, vR a1, .unset, .unset, vI 21, vI 0] 21 d_j33_12_73 ?_
 refine r_iload H 78 d_j33_12_76 ?_
 refine r_gets H 81 d_j33_12_78 (tw56 hw) S_DigitOnes ?_
 refine r_iloadN H 82 d_j33_12_81 ?_
 refine r_ineg H 83 i1 d_j33_12_82 (by rw [← ep1]; exact own_neg2 i1) ?_
 have q2 := (A_DigitOnes.ext hX0)
 obtain ⟨p3, ep3, rp3⟩ : ∃ p : Int32, ((48 : Int32) + i1) = p ∧ 48 ≤ p.toInt ∧ p.toInt ≤ 57 := ⟨_, rfl, (by have : (48 : Int32).toInt = 48 := (by decide); have := r_i1; have h1 := c_iadd (48 : Int32) i1; have h2 := rng32 ((48 : Int32) + i1); omega)⟩
 refine r_baload (hj := (by have := r_i1; rw [Int32.lt_iff_toInt_lt]; have : (0 : Int32).toInt = 0 := (by decide); omega)) (hv := (by rw [← ep3]; exact own_do i1 (by have := r_i1; omega))) H 84 p3 d_j33_12_83 q2 ?_
 refine r_bastore (hy := (nar_byte_id (by have := rp3; omega))) H 85 p3 d_j33_12_84 A_a1 g_a1 ?_
 intro h4 K4 A4
 change Ar Z h4 a1 c1 .byte [.int i2, .int 32, .int 109, .int 97, .int 116, .int 99, .int 104, .int 101, .int 114, .int 115, .int 32, .int 101, .int 120, .int 112, .int 101, .int 99, .int 116, .int 101, .int 100, .int 44, .int 32, .int p3, .int 0, .int 0, .int 0, .int 0, .int 0, .int 0, .int 0, .int 0, .int 0, .int 0, .int 0, .int 0] at A4
 refine r_iloadN H 86 d_j33_12_85 ?_
 refine r_bipush H 88 (-9 : Int32) d_j33_12_86 ?_
 refine r_icmpgeT (c := (by have := rp1; have : (-9 : Int32).toInt = -9 := (by decide); simp only [Int32.lt_iff_toInt_lt, ← Int32.toInt_inj]; omega)) H 104 d_j33_12_88 ?_
 refine r_iload H 106 d_j33_12_104 ?_
 refine r_ifeqT H 118 d_j33_12_106 ?_
 refine r_iload H 120 d_j33_12_118 ?_
 have k5 : Keep h0 h4 [a1] := Keep.trans (Keep.refl h0 [a1]) K4 (allS (Or.inl (List.mem_of_getElem? (i := 0) rfl)) all0)
 have q6 := (E_a1.keep K4)
 subst ep1 ep3
 exact r_ireturn H d_j33_12_120 (⟨rfl, k5, A4, q6⟩)
def Q_append_46 (Z : State) (a1 : Addr) (a2 : Addr) (i1 : Int32) (i2 : Int32) (c1 : ClassId) (h0 : Heap) (v : Option Value) (h : Heap) : Prop := v = some (.ref a1) ∧ Keep h0 h [a1, a2] ∧ Exa Z h a1 "java/lang/StringBuilder" ∧ Fld Z h a1 "java/lang/AbstractStringBuilder" "coder" "B" (.int 0) ∧ Fld Z h a1 "java/lang/AbstractStringBuilder" "count" "I" (.int 22) ∧ Fld Z h a1 "java/lang/AbstractStringBuilder" "value" "[B" (.ref a2) ∧ Ar Z h a2 c1 .byte [.int i2, .int 32, .int 109, .int 97, .int 116, .int 99, .int 104, .int 101, .int 114, .int 115, .int 32, .int 101, .int 120, .int 112, .int 101, .int 99, .int 116, .int 101, .int 100, .int 44, .int 32, (.int ((48 : Int32) + i1)), .int 0, .int 0, .int 0, .int 0, .int 0, .int 0, .int 0, .int 0, .int 0, .int 0, .int 0, .int 0] ∧ Exa Z h a2 "[B"
def R_append_46 : Room := { frames := 1, cells := 0, slots := 0, locals := 18 }
theorem rm_append_46 {w : Bool} {Z : State} {a0 : Array Value} (hw : HW a0 Z) (Ts : List String) (a1 : Addr) (a2 : Addr) (i1 : Int32) (i2 : Int32) (c1 : ClassId) (cs : Int32) (gDigitOnes : Addr) (kDigitOnes : ClassId) (h0 : Heap) (f : Nat) (Zf : Z.heap.size ≤ f) (Z0 : f ≤ h0.size) (F_count_a1 : Fld Z h0 a1 "java/lang/AbstractStringBuilder" "count" "I" (.int 21)) (F_value_a1 : Fld Z h0 a1 "java/lang/AbstractStringBuilder" "value" "[B" (.ref a2)) (A_a2 : Ar Z h0 a2 c1 .byte [.int i2, .int 32, .int 109, .int 97, .int 116, .int 99, .int 104, .int 101, .int 114, .int 115, .int 32, .int 101, .int 120, .int 112, .int 101, .int 99, .int 116, .int 101, .int 100, .int 44, .int 32, .int 0, .int 0, .int 0, .int 0, .int 0, .int 0, .int 0, .int 0, .int 0, .int 0, .int 0, .int 0, .int 0]) (F_coder_a1 : Fld Z h0 a1 "java/lang/AbstractStringBuilder" "coder" "B" (.int 0)) (E_a1 : Exa Z h0 a1 "java/lang/StringBuilder") (g_a2 : f ≤ a2) (E_a2 : Exa Z h0 a2 "[B") (g_a1 : f ≤ a1) (r_i1 : 0 ≤ i1.toInt ∧ i1.toInt ≤ 9) (S_cs : G_S_cs Z cs) (S_DigitOnes : G_S_DigitOnes Z gDigitOnes) (A_DigitOnes : G_A_DigitOnes Z gDigitOnes kDigitOnes) (hcs : ¬ cs = 0) :
  Con w [] Z mn6 jdk_68_method_32_code 4 (some (.object "java/lang/AbstractStringBuilder")) R_append_46 Ts Ts f #[.ref a1, .int i1] h0 (Q_append_46 Z a1 a2 i1 i2 c1 h0) := by
 refine con_of f #[vR a1, vI i1, .unset, .unset] (plainFor_of_name pn_0) (fun m => rfl) Zf ?_
 intro C H hX0
 refine r_aloadN H 1 d_j68_32_0 ?_
 refine r_getf H 4 d_j68_32_1 (tw37 hw) F_count_a1 ?_
 refine r_istoreN H 5 #[vR a1, vI i1, vI 21, .unset] d_j68_32_4 ?_
 refine r_iloadN H 6 d_j68_32_5 ?_
 refine r_iloadN H 7 d_j68_32_6 ?_
 refine r_static (argsL := [.int i1]) (rest := [.int 21]) (W := 1) H 10 d_j68_32_7 (tw39 hw) (tw40 hw) (tw41 hw) (tw42 hw) (lenOf pd_2 rfl) (rm_stringSize_6 hw Ts i1 h0 f Zf Z0 r_i1) ?_
 rintro _ _ ⟨rfl, rfl⟩
 refine r_iadd H 11 22 d_j68_32_10 ?_
 refine r_istoreN H 12 #[vR a1, vI i1, vI 21, vI 22] d_j68_32_11 ?_
 refine r_aloadN H 13 d_j68_32_12 ?_
 refine r_iloadN H 14 d_j68_32_13 ?_
 refine r_private (a := a1) (argsL := [.int 22]) (rest := []) (W := 0) H 17 d_j68_32_14 (tw43 hw) (tw44 hw) (tw46 hw) (tw45 hw) (tw15 hw) (tw47 hw) E_a1 (lenOf pd_0 rfl) (rm_ensureCapacityInternal_47 hw Ts a1 a2 i2 c1 h0 f Zf Z0 F_value_a1 A_a2 F_coder_a1) ?_
 rintro _ _ ⟨rfl, rfl⟩
 refine r_aloadN H 18 d_j68_32_17 ?_
 refine r_virtual (z := mn4) (a := a1) (argsL := []) (rest := []) (W := 0) H 21 d_j68_32_18 (tw48 hw) (tw49 hw) (nf_sel (tw51 hw)) (tw51 hw) (tw50 hw) (tw15 hw) (tw52 hw) E_a1 (lenOf pd_3 rfl) (rm_isLatin1_8 hw Ts a1 cs h0 f Zf Z0 F_coder_a1 S_cs hcs) ?_
 rintro _ _ ⟨rfl, rfl⟩
 refine r_ifeqF H 24 d_j68_32_21 (by decide) ?_
 refine r_iloadN H 25 d_j68_32_24 ?_
 refine r_iloadN H 26 d_j68_32_25 ?_
 refine r_aloadN H 27 d_j68_32_26 ?_
 refine r_getf H 30 d_j68_32_27 (tw23 hw) F_value_a1 ?_
 refine r_static (argsL := [.int i1, .int 22, .ref a2]) (rest := []) (W := 0) H 33 d_j68_32_30 (tw53 hw) (tw54 hw) (tw41 hw) (tw55 hw) (lenOf pd_4 rfl) (rm_getChars_48 hw Ts a2 i1 i2 c1 gDigitOnes kDigitOnes h0 f Zf Z0 A_a2 g_a2 E_a2 r_i1 S_DigitOnes A_DigitOnes) ?_
 rintro _ hh7 ⟨rfl, K4, q5, q6⟩
 refine r_pop H 34 d_j68_32_33 ?_
 refine r_goto H 48 d_j68_32_34 ?_
 refine r_aloadN H 49 d_j68_32_48 ?_
 refine r_iloadN H 50 d_j68_32_49 ?_
 have q8 := (E_a1.keep K4)
 have q9 := (F_count_a1.keep K4 (ninS (ne_exa q8 q6 (by decide)) nin0))
 refine r_putf (ty := .int) H 53 d_j68_32_50 (tw37 hw) q9 q8 (Or.inl (tw38 hw)) (tw6 hw) g_a1 ?_
 intro h10 W10 K10 E10 F10
 refine r_aloadN H 54 d_j68_32_53 ?_
 have k11 : Keep h0 hh7 [a1, a2] := Keep.trans (Keep.refl h0 [a1, a2]) K4 (allS (Or.inl (List.mem_of_getElem? (i := 1) rfl)) all0)
 have k12 : Keep h0 h10 [a1, a2] := Keep.trans k11 K10 (allS (Or.inl (List.mem_of_getElem? (i := 0) rfl)) all0)
 have q13 := (q6.keep K10)
 have q14 := ((F_coder_a1.keep K4 (ninS (ne_exa E10 q13 (by decide)) nin0)).other W10 (Or.inr (slot_ne (Or.inl (tw26 hw)) (Or.inl (tw38 hw)) (by decide) (t := .byte) (t' := .int) (by decide) (by decide))))
 have q15 := ((F_value_a1.keep K4 (ninS (ne_exa E10 q13 (by decide)) nin0)).other W10 (Or.inr (slot_ne (Or.inl (tw24 hw)) (Or.inl (tw38 hw)) (by decide) (t := (.array .byte)) (t' := .int) (by decide) (by decide))))
 have q16 := (q5.keep K10 (ninS (ne_exa q13 E10 (by decide)) nin0))
 exact r_areturn H d_j68_32_54 (⟨rfl, k12, E10, q14, F10, q15, q16, q13⟩)
def Q_append_45 (Z : State) (a1 : Addr) (a2 : Addr) (i1 : Int32) (i2 : Int32) (c1 : ClassId) (h0 : Heap) (v : Option Value) (h : Heap) : Prop := v = some (.ref a1) ∧ Keep h0 h [a1, a2] ∧ Exa Z h a1 "java/lang/StringBuilder" ∧ Fld Z h a1 "java/lang/AbstractStringBuilder" "coder" "B" (.int 0) ∧ Fld Z h a1 "java/lang/AbstractStringBuilder" "count" "I" (.int 22) ∧ Fld Z h a1 "java/lang/AbstractStringBuilder" "value" "[B" (.ref a2) ∧ Ar Z h a2 c1 .byte [.int i2, .int 32, .int 109, .int 97, .int 116, .int 99, .int 104, .int 101, .int 114, .int 115, .int 32, .int 101, .int 120, .int 112, .int 101, .int 99, .int 116, .int 101, .int 100, .int 44, .int 32, (.int ((48 : Int32) + i1)), .int 0, .int 0, .int 0, .int 0, .int 0, .int 0, .int 0, .int 0, .int 0, .int 0, .int 0, .int 0] ∧ Exa Z h a2 "[B"
def R_append_45 : Room := { frames := 2, cells := 0, slots := 0, locals := 33 }
theorem rm_append_45 {w : Bool} {Z : State} {a0 : Array Value} (hw : HW a0 Z) (Ts : List String) (a1 : Addr) (a2 : Addr) (i1 : Int32) (i2 : Int32) (c1 : ClassId) (cs : Int32) (gDigitOnes : Addr) (kDigitOnes : ClassId) (h0 : Heap) (f : Nat) (Zf : Z.heap.size ≤ f) (Z0 : f ≤ h0.size) (g_a2 : f ≤ a2) (g_a1 : f ≤ a1) (F_count_a1 : Fld Z h0 a1 "java/lang/AbstractStringBuilder" "count" "I" (.int 21)) (F_value_a1 : Fld Z h0 a1 "java/lang/AbstractStringBuilder" "value" "[B" (.ref a2)) (A_a2 : Ar Z h0 a2 c1 .byte [.int i2, .int 32, .int 109, .int 97, .int 116, .int 99, .int 104, .int 101, .int 114, .int 115, .int 32, .int 101, .int 120, .int 112, .int 101, .int 99, .int 116, .int 101, .int 100, .int 44, .int 32, .int 0, .int 0, .int 0, .int 0, .int 0, .int 0, .int 0, .int 0, .int 0, .int 0, .int 0, .int 0, .int 0]) (F_coder_a1 : Fld Z h0 a1 "java/lang/AbstractStringBuilder" "coder" "B" (.int 0)) (E_a1 : Exa Z h0 a1 "java/lang/StringBuilder") (E_a2 : Exa Z h0 a2 "[B") (r_i1 : 0 ≤ i1.toInt ∧ i1.toInt ≤ 9) (S_cs : G_S_cs Z cs) (S_DigitOnes : G_S_DigitOnes Z gDigitOnes) (A_DigitOnes : G_A_DigitOnes Z gDigitOnes kDigitOnes) (hcs : ¬ cs = 0) :
  Con w [] Z mn7 jdk_67_method_15_code 2 (some (.object "java/lang/StringBuilder")) R_append_45 Ts Ts f #[.ref a1, .int i1] h0 (Q_append_45 Z a1 a2 i1 i2 c1 h0) := by
 refine con_of f #[vR a1, vI i1] (plainFor_of_name pn_1) (fun m => rfl) Zf ?_
 intro C H hX0
 refine r_aloadN H 1 d_j67_15_0 ?_
 refine r_iloadN H 2 d_j67_15_1 ?_
 refine r_super (a := a1) (argsL := [.int i1]) (rest := []) (W := 0) H 5 d_j67_15_2 (tw32 hw) (same_self (tw35 hw) (tw46 hw) rfl (by decide)) (tw33 hw) (tw34 hw) (tw15 hw) (tw36 hw) (Ins.self E_a1) (lenOf pd_5 rfl) (rm_append_46 hw Ts a1 a2 i1 i2 c1 cs gDigitOnes kDigitOnes h0 f Zf Z0 F_count_a1 F_value_a1 A_a2 F_coder_a1 E_a1 g_a2 E_a2 g_a1 r_i1 S_cs S_DigitOnes A_DigitOnes hcs) ?_
 rintro _ hh8 ⟨rfl, K1, q2, q3, q4, q5, q6, q7⟩
 refine r_pop H 6 d_j67_15_5 ?_
 refine r_aloadN H 7 d_j67_15_6 ?_
 have k9 : Keep h0 hh8 [a1, a2] := Keep.trans (Keep.refl h0 [a1, a2]) K1 (allS (Or.inl (List.mem_of_getElem? (i := 0) rfl)) (allS (Or.inl (List.mem_of_getElem? (i := 1) rfl)) all0))
 exact r_areturn H d_j67_15_7 (⟨rfl, k9, q2, q3, q4, q5, q6, q7⟩)
def Q_length_51 (Z : State) (h0 : Heap) (v : Option Value) (h : Heap) : Prop := v = some (.int 10) ∧ h0 = h
def R_length_51 : Room := { frames := 1, cells := 0, slots := 0, locals := 13 }
theorem rm_length_51 {w : Bool} {Z : State} {a0 : Array Value} (hw : HW a0 Z) (Ts : List String) (a1 : Addr) (a2 : Addr) (c1 : ClassId) (cs : Int32) (h0 : Heap) (f : Nat) (Zf : Z.heap.size ≤ f) (Z0 : f ≤ h0.size) (F_value_a1 : Fld Z h0 a1 "java/lang/String" "value" "[B" (.ref a2)) (A_a2 : Ar Z h0 a2 c1 .byte [.int 32, .int 114, .int 101, .int 99, .int 111, .int 114, .int 100, .int 101, .int 100, .int 46]) (E_a1 : Exa Z h0 a1 "java/lang/String") (F_coder_a1 : Fld Z h0 a1 "java/lang/String" "coder" "B" (.int 0)) (S_cs : G_S_cs Z cs) (hcs : ¬ cs = 0) :
  Con w [] Z mn9 jdk_42_method_54_code 1 (some .int) R_length_51 Ts Ts f #[.ref a1] h0 (Q_length_51 Z h0) := by
 refine con_of f #[vR a1] (plainFor_of_name pn_3) (fun m => rfl) Zf ?_
 intro C H hX0
 refine r_aloadN H 1 d_j42_54_0 ?_
 refine r_getf H 4 d_j42_54_1 (tw77 hw) F_value_a1 ?_
 refine r_alen H 5 10 d_j42_54_4 A_a2 ?_
 refine r_aloadN H 6 d_j42_54_5 ?_
 refine r_virtual (z := mn8) (a := a1) (argsL := []) (rest := [.int 10]) (W := 1) H 9 d_j42_54_6 (tw78 hw) (tw79 hw) (nf_sel (tw81 hw)) (tw81 hw) (tw80 hw) (tw21 hw) (tw82 hw) E_a1 (lenOf pd_7 rfl) (rm_coder_13 hw Ts a1 cs h0 f Zf Z0 F_coder_a1 S_cs hcs) ?_
 rintro _ _ ⟨rfl, rfl⟩
 refine r_ishr H 10 10 d_j42_54_9 ?_
 exact r_ireturn H d_j42_54_10 (⟨rfl, rfl⟩)
def Q_ensureCapacityInternal_52 (Z : State) (h0 : Heap) (v : Option Value) (h : Heap) : Prop := v = none ∧ h0 = h
def R_ensureCapacityInternal_52 : Room := { frames := 0, cells := 0, slots := 0, locals := 0 }
theorem rm_ensureCapacityInternal_52 {w : Bool} {Z : State} {a0 : Array Value} (hw : HW a0 Z) (Ts : List String) (a1 : Addr) (a2 : Addr) (i1 : Int32) (i2 : Int32) (c1 : ClassId) (h0 : Heap) (f : Nat) (Zf : Z.heap.size ≤ f) (Z0 : f ≤ h0.size) (F_value_a1 : Fld Z h0 a1 "java/lang/AbstractStringBuilder" "value" "[B" (.ref a2)) (A_a2 : Ar Z h0 a2 c1 .byte [.int i1, .int 32, .int 109, .int 97, .int 116, .int 99, .int 104, .int 101, .int 114, .int 115, .int 32, .int 101, .int 120, .int 112, .int 101, .int 99, .int 116, .int 101, .int 100, .int 44, .int 32, .int i2, .int 0, .int 0, .int 0, .int 0, .int 0, .int 0, .int 0, .int 0, .int 0, .int 0, .int 0, .int 0]) (F_coder_a1 : Fld Z h0 a1 "java/lang/AbstractStringBuilder" "coder" "B" (.int 0)) :
  Con w [] Z mn3 jdk_68_method_9_code 3 none R_ensureCapacityInternal_52 Ts Ts f #[.ref a1, .int 32] h0 (Q_ensureCapacityInternal_52 Z h0) := by
 refine con_of f #[vR a1, vI 32, .unset] (plainFor_of_name pn_0) (fun m => rfl) Zf ?_
 intro C H hX0
 refine r_aloadN H 1 d_j68_9_0 ?_
 refine r_getf H 4 d_j68_9_1 (tw23 hw) F_value_a1 ?_
 refine r_alen H 5 34 d_j68_9_4 A_a2 ?_
 refine r_aloadN H 6 d_j68_9_5 ?_
 refine r_getf H 9 d_j68_9_6 (tw25 hw) F_coder_a1 ?_
 refine r_ishr H 10 34 d_j68_9_9 ?_
 refine r_istoreN H 11 #[vR a1, vI 32, vI 34] d_j68_9_10 ?_
 refine r_iloadN H 12 d_j68_9_11 ?_
 refine r_iloadN H 13 d_j68_9_12 ?_
 refine r_isub H 14 (-2 : Int32) d_j68_9_13 ?_
 refine r_ifleT H 38 d_j68_9_14 ?_
 exact r_return H d_j68_9_38 (⟨rfl, rfl⟩)
def Q_getBytes_54 (Z : State) (a2 : Addr) (i1 : Int32) (i2 : Int32) (c1 : ClassId) (h0 : Heap) (v : Option Value) (h : Heap) : Prop := v = none ∧ Keep h0 h [a2] ∧ Ar Z h a2 c1 .byte [.int i1, .int 32, .int 109, .int 97, .int 116, .int 99, .int 104, .int 101, .int 114, .int 115, .int 32, .int 101, .int 120, .int 112, .int 101, .int 99, .int 116, .int 101, .int 100, .int 44, .int 32, .int i2, .int 32, .int 114, .int 101, .int 99, .int 111, .int 114, .int 100, .int 101, .int 100, .int 46, .int 0, .int 0] ∧ Exa Z h a2 "[B"
def R_getBytes_54 : Room := { frames := 1, cells := 0, slots := 0, locals := 18 }
theorem rm_getBytes_54 {w : Bool} {Z : State} {a0 : Array Value} (hw : HW a0 Z) (Ts : List String) (a1 : Addr) (a2 : Addr) (a3 : Addr) (i1 : Int32) (i2 : Int32) (c1 : ClassId) (c2 : ClassId) (cs : Int32) (h0 : Heap) (f : Nat) (Zf : Z.heap.size ≤ f) (Z0 : f ≤ h0.size) (E_a1 : Exa Z h0 a1 "java/lang/String") (F_coder_a1 : Fld Z h0 a1 "java/lang/String" "coder" "B" (.int 0)) (F_value_a1 : Fld Z h0 a1 "java/lang/String" "value" "[B" (.ref a3)) (A_a3 : Ar Z h0 a3 c2 .byte [.int 32, .int 114, .int 101, .int 99, .int 111, .int 114, .int 100, .int 101, .int 100, .int 46]) (A_a2 : Ar Z h0 a2 c1 .byte [.int i1, .int 32, .int 109, .int 97, .int 116, .int 99, .int 104, .int 101, .int 114, .int 115, .int 32, .int 101, .int 120, .int 112, .int 101, .int 99, .int 116, .int 101, .int 100, .int 44, .int 32, .int i2, .int 0, .int 0, .int 0, .int 0, .int 0, .int 0, .int 0, .int 0, .int 0, .int 0, .int 0, .int 0]) (g_a2 : f ≤ a2) (E_a2 : Exa Z h0 a2 "[B") (S_cs : G_S_cs Z cs) (hcs : ¬ cs = 0) :
  Con w [] Z mn11 jdk_42_method_147_code 4 none R_getBytes_54 Ts Ts f #[.ref a1, .ref a2, .int 22, .int 0] h0 (Q_getBytes_54 Z a2 i1 i2 c1 h0) := by
 refine con_of f #[vR a1, vR a2, vI 22, vI 0] (plainFor_of_name pn_3) (fun m => rfl) Zf ?_
 intro C H hX0
 refine r_aloadN H 1 d_j42_147_0 ?_
 refine r_virtual (z := mn8) (a := a1) (argsL := []) (rest := []) (W := 0) H 4 d_j42_147_1 (tw78 hw) (tw79 hw) (nf_sel (tw81 hw)) (tw81 hw) (tw80 hw) (tw21 hw) (tw82 hw) E_a1 (lenOf pd_7 rfl) (rm_coder_13 hw Ts a1 cs h0 f Zf Z0 F_coder_a1 S_cs hcs) ?_
 rintro _ _ ⟨rfl, rfl⟩
 refine r_iloadN H 5 d_j42_147_4 ?_
 refine r_icmpneF H 8 d_j42_147_5 rfl (by decide) ?_
 refine r_aloadN H 9 d_j42_147_8 ?_
 refine r_getf H 12 d_j42_147_9 (tw77 hw) F_value_a1 ?_
 refine r_iconst H 13 0 d_j42_147_12 ?_
 refine r_aloadN H 14 d_j42_147_13 ?_
 refine r_iloadN H 15 d_j42_147_14 ?_
 refine r_iloadN H 16 d_j42_147_15 ?_
 refine r_ishl H 17 22 d_j42_147_16 ?_
 refine r_aloadN H 18 d_j42_147_17 ?_
 refine r_getf H 21 d_j42_147_18 (tw77 hw) F_value_a1 ?_
 refine r_alen H 22 10 d_j42_147_21 A_a3 ?_
 refine r_copy (W := 0) H 25 d_j42_147_22 (tw101 hw) (tw104 hw) (tw102 hw) (tw103 hw) A_a3 A_a2 g_a2 ?_
 intro h2 K2 A2
 change Ar Z h2 a2 c1 .byte [.int i1, .int 32, .int 109, .int 97, .int 116, .int 99, .int 104, .int 101, .int 114, .int 115, .int 32, .int 101, .int 120, .int 112, .int 101, .int 99, .int 116, .int 101, .int 100, .int 44, .int 32, .int i2, .int 32, .int 114, .int 101, .int 99, .int 111, .int 114, .int 100, .int 101, .int 100, .int 46, .int 0, .int 0] at A2
 refine r_goto H 43 d_j42_147_25 ?_
 have k3 : Keep h0 h2 [a2] := Keep.trans (Keep.refl h0 [a2]) K2 (allS (Or.inl (List.mem_of_getElem? (i := 0) rfl)) all0)
 have q4 := (E_a2.keep K2)
 exact r_return H d_j42_147_43 (⟨rfl, k3, A2, q4⟩)
def Q_putStringAt_53 (Z : State) (a3 : Addr) (i1 : Int32) (i2 : Int32) (c1 : ClassId) (h0 : Heap) (v : Option Value) (h : Heap) : Prop := v = none ∧ Keep h0 h [a3] ∧ Ar Z h a3 c1 .byte [.int i1, .int 32, .int 109, .int 97, .int 116, .int 99, .int 104, .int 101, .int 114, .int 115, .int 32, .int 101, .int 120, .int 112, .int 101, .int 99, .int 116, .int 101, .int 100, .int 44, .int 32, .int i2, .int 32, .int 114, .int 101, .int 99, .int 111, .int 114, .int 100, .int 101, .int 100, .int 46, .int 0, .int 0] ∧ Exa Z h a3 "[B"
def R_putStringAt_53 : Room := { frames := 2, cells := 0, slots := 0, locals := 33 }
theorem rm_putStringAt_53 {w : Bool} {Z : State} {a0 : Array Value} (hw : HW a0 Z) (Ts : List String) (a1 : Addr) (a2 : Addr) (a3 : Addr) (a4 : Addr) (i1 : Int32) (i2 : Int32) (c1 : ClassId) (c2 : ClassId) (cs : Int32) (h0 : Heap) (f : Nat) (Zf : Z.heap.size ≤ f) (Z0 : f ≤ h0.size) (F_coder_a1 : Fld Z h0 a1 "java/lang/AbstractStringBuilder" "coder" "B" (.int 0)) (E_a2 : Exa Z h0 a2 "java/lang/String") (F_coder_a2 : Fld Z h0 a2 "java/lang/String" "coder" "B" (.int 0)) (E_a1 : Exa Z h0 a1 "java/lang/StringBuilder") (F_value_a1 : Fld Z h0 a1 "java/lang/AbstractStringBuilder" "value" "[B" (.ref a3)) (g_a3 : f ≤ a3) (F_value_a2 : Fld Z h0 a2 "java/lang/String" "value" "[B" (.ref a4)) (A_a4 : Ar Z h0 a4 c2 .byte [.int 32, .int 114, .int 101, .int 99, .int 111, .int 114, .int 100, .int 101, .int 100, .int 46]) (A_a3 : Ar Z h0 a3 c1 .byte [.int i1, .int 32, .int 109, .int 97, .int 116, .int 99, .int 104, .int 101, .int 114, .int 115, .int 32, .int 101, .int 120, .int 112, .int 101, .int 99, .int 116, .int 101, .int 100, .int 44, .int 32, .int i2, .int 0, .int 0, .int 0, .int 0, .int 0, .int 0, .int 0, .int 0, .int 0, .int 0, .int 0, .int 0]) (E_a3 : Exa Z h0 a3 "[B") (S_cs : G_S_cs Z cs) (hcs : ¬ cs = 0) :
  Con w [] Z mn12 jdk_68_method_73_code 3 none R_putStringAt_53 Ts Ts f #[.ref a1, .int 22, .ref a2] h0 (Q_putStringAt_53 Z a3 i1 i2 c1 h0) := by
 refine con_of f #[vR a1, vI 22, vR a2] (plainFor_of_name pn_0) (fun m => rfl) Zf ?_
 intro C H hX0
 refine r_aloadN H 1 d_j68_73_0 ?_
 refine r_aloadN H 2 d_j68_73_1 ?_
 refine r_private (a := a1) (argsL := [.ref a2]) (rest := []) (W := 0) H 5 d_j68_73_2 (tw90 hw) (tw91 hw) (tw93 hw) (tw92 hw) (tw15 hw) (tw94 hw) E_a1 (lenOf pd_9 rfl) (rm_inflateIfNeededFor_16 hw Ts a1 a2 cs h0 f Zf Z0 F_coder_a1 E_a2 F_coder_a2 S_cs hcs) ?_
 rintro _ _ ⟨rfl, rfl⟩
 refine r_aloadN H 6 d_j68_73_5 ?_
 refine r_aloadN H 7 d_j68_73_6 ?_
 refine r_getf H 10 d_j68_73_7 (tw23 hw) F_value_a1 ?_
 refine r_iloadN H 11 d_j68_73_10 ?_
 refine r_aloadN H 12 d_j68_73_11 ?_
 refine r_getf H 15 d_j68_73_12 (tw25 hw) F_coder_a1 ?_
 refine r_virtual (z := mn11) (a := a2) (argsL := [.ref a3, .int 22, .int 0]) (rest := []) (W := 0) H 18 d_j68_73_15 (tw96 hw) (tw97 hw) (nf_sel (tw99 hw)) (tw99 hw) (tw98 hw) (tw21 hw) (tw100 hw) E_a2 (lenOf pd_10 rfl) (rm_getBytes_54 hw Ts a2 a3 a4 i1 i2 c1 c2 cs h0 f Zf Z0 E_a2 F_coder_a2 F_value_a2 A_a4 A_a3 g_a3 E_a3 S_cs hcs) ?_
 rintro _ hh5 ⟨rfl, K2, q3, q4⟩
 have k6 : Keep h0 hh5 [a3] := Keep.trans (Keep.refl h0 [a3]) K2 (allS (Or.inl (List.mem_of_getElem? (i := 0) rfl)) all0)
 exact r_return H d_j68_73_18 (⟨rfl, k6, q3, q4⟩)
def Q_append_50 (Z : State) (a1 : Addr) (a3 : Addr) (i1 : Int32) (i2 : Int32) (c1 : ClassId) (h0 : Heap) (v : Option Value) (h : Heap) : Prop := v = some (.ref a1) ∧ Keep h0 h [a1, a3] ∧ Exa Z h a1 "java/lang/StringBuilder" ∧ Fld Z h a1 "java/lang/AbstractStringBuilder" "coder" "B" (.int 0) ∧ Fld Z h a1 "java/lang/AbstractStringBuilder" "count" "I" (.int 32) ∧ Fld Z h a1 "java/lang/AbstractStringBuilder" "value" "[B" (.ref a3) ∧ Ar Z h a3 c1 .byte [.int i1, .int 32, .int 109, .int 97, .int 116, .int 99, .int 104, .int 101, .int 114, .int 115, .int 32, .int 101, .int 120, .int 112, .int 101, .int 99, .int 116, .int 101, .int 100, .int 44, .int 32, .int i2, .int 32, .int 114, .int 101, .int 99, .int 111, .int 114, .int 100, .int 101, .int 100, .int 46, .int 0, .int 0] ∧ Exa Z h a3 "[B"
def R_append_50 : Room := { frames := 3, cells := 0, slots := 0, locals := 47 }
theorem rm_append_50 {w : Bool} {Z : State} {a0 : Array Value} (hw : HW a0 Z) (Ts : List String) (a1 : Addr) (a2 : Addr) (a3 : Addr) (a4 : Addr) (i1 : Int32) (i2 : Int32) (c1 : ClassId) (c2 : ClassId) (cs : Int32) (h0 : Heap) (f : Nat) (Zf : Z.heap.size ≤ f) (Z0 : f ≤ h0.size) (E_a2 : Exa Z h0 a2 "java/lang/String") (F_value_a2 : Fld Z h0 a2 "java/lang/String" "value" "[B" (.ref a4)) (A_a4 : Ar Z h0 a4 c2 .byte [.int 32, .int 114, .int 101, .int 99, .int 111, .int 114, .int 100, .int 101, .int 100, .int 46]) (F_coder_a2 : Fld Z h0 a2 "java/lang/String" "coder" "B" (.int 0)) (F_count_a1 : Fld Z h0 a1 "java/lang/AbstractStringBuilder" "count" "I" (.int 22)) (F_value_a1 : Fld Z h0 a1 "java/lang/AbstractStringBuilder" "value" "[B" (.ref a3)) (A_a3 : Ar Z h0 a3 c1 .byte [.int i1, .int 32, .int 109, .int 97, .int 116, .int 99, .int 104, .int 101, .int 114, .int 115, .int 32, .int 101, .int 120, .int 112, .int 101, .int 99, .int 116, .int 101, .int 100, .int 44, .int 32, .int i2, .int 0, .int 0, .int 0, .int 0, .int 0, .int 0, .int 0, .int 0, .int 0, .int 0, .int 0, .int 0]) (F_coder_a1 : Fld Z h0 a1 "java/lang/AbstractStringBuilder" "coder" "B" (.int 0)) (E_a1 : Exa Z h0 a1 "java/lang/StringBuilder") (g_a3 : f ≤ a3) (E_a3 : Exa Z h0 a3 "[B") (g_a1 : f ≤ a1) (S_cs : G_S_cs Z cs) (hcs : ¬ cs = 0) :
  Con w [] Z mn13 jdk_68_method_22_code 3 (some (.object "java/lang/AbstractStringBuilder")) R_append_50 Ts Ts f #[.ref a1, .ref a2] h0 (Q_append_50 Z a1 a3 i1 i2 c1 h0) := by
 refine con_of f #[vR a1, vR a2, .unset] (plainFor_of_name pn_0) (fun m => rfl) Zf ?_
 intro C H hX0
 refine r_aloadN H 1 d_j68_22_0 ?_
 refine r_ifnonnullT H 9 d_j68_22_1 ?_
 refine r_aloadN H 10 d_j68_22_9 ?_
 refine r_virtual (z := mn9) (a := a2) (argsL := []) (rest := []) (W := 0) H 13 d_j68_22_10 (tw72 hw) (tw73 hw) (nf_sel (tw75 hw)) (tw75 hw) (tw74 hw) (tw21 hw) (tw76 hw) E_a2 (lenOf pd_8 rfl) (rm_length_51 hw Ts a2 a4 c2 cs h0 f Zf Z0 F_value_a2 A_a4 E_a2 F_coder_a2 S_cs hcs) ?_
 rintro _ _ ⟨rfl, rfl⟩
 refine r_istoreN H 14 #[vR a1, vR a2, vI 10] d_j68_22_13 ?_
 refine r_aloadN H 15 d_j68_22_14 ?_
 refine r_aloadN H 16 d_j68_22_15 ?_
 refine r_getf H 19 d_j68_22_16 (tw37 hw) F_count_a1 ?_
 refine r_iloadN H 20 d_j68_22_19 ?_
 refine r_iadd H 21 32 d_j68_22_20 ?_
 refine r_private (a := a1) (argsL := [.int 32]) (rest := []) (W := 0) H 24 d_j68_22_21 (tw43 hw) (tw44 hw) (tw46 hw) (tw45 hw) (tw15 hw) (tw47 hw) E_a1 (lenOf pd_0 rfl) (rm_ensureCapacityInternal_52 hw Ts a1 a3 i1 i2 c1 h0 f Zf Z0 F_value_a1 A_a3 F_coder_a1) ?_
 rintro _ _ ⟨rfl, rfl⟩
 refine r_aloadN H 25 d_j68_22_24 ?_
 refine r_aloadN H 26 d_j68_22_25 ?_
 refine r_getf H 29 d_j68_22_26 (tw37 hw) F_count_a1 ?_
 refine r_aloadN H 30 d_j68_22_29 ?_
 refine r_private (a := a1) (argsL := [.int 22, .ref a2]) (rest := []) (W := 0) H 33 d_j68_22_30 (tw85 hw) (tw86 hw) (tw88 hw) (tw87 hw) (tw15 hw) (tw89 hw) E_a1 (lenOf pd_11 rfl) (rm_putStringAt_53 hw Ts a1 a2 a3 a4 i1 i2 c1 c2 cs h0 f Zf Z0 F_coder_a1 E_a2 F_coder_a2 E_a1 F_value_a1 g_a3 F_value_a2 A_a4 A_a3 E_a3 S_cs hcs) ?_
 rintro _ hh6 ⟨rfl, K3, q4, q5⟩
 refine r_aloadN H 34 d_j68_22_33 ?_
 refine r_dup H 35 d_j68_22_34 ?_
 have q7 := (E_a1.keep K3)
 have q8 := (F_count_a1.keep K3 (ninS (ne_exa q7 q5 (by decide)) nin0))
 refine r_getf H 38 d_j68_22_35 (tw37 hw) q8 ?_
 refine r_iloadN H 39 d_j68_22_38 ?_
 refine r_iadd H 40 32 d_j68_22_39 ?_
 refine r_putf (ty := .int) H 43 d_j68_22_40 (tw37 hw) q8 q7 (Or.inl (tw38 hw)) (tw6 hw) g_a1 ?_
 intro h9 W9 K9 E9 F9
 refine r_aloadN H 44 d_j68_22_43 ?_
 have k10 : Keep h0 hh6 [a1, a3] := Keep.trans (Keep.refl h0 [a1, a3]) K3 (allS (Or.inl (List.mem_of_getElem? (i := 1) rfl)) all0)
 have k11 : Keep h0 h9 [a1, a3] := Keep.trans k10 K9 (allS (Or.inl (List.mem_of_getElem? (i := 0) rfl)) all0)
 have q12 := (q5.keep K9)
 have q13 := ((F_coder_a1.keep K3 (ninS (ne_exa E9 q12 (by decide)) nin0)).other W9 (Or.inr (slot_ne (Or.inl (tw26 hw)) (Or.inl (tw38 hw)) (by decide) (t := .byte) (t' := .int) (by decide) (by decide))))
 have q14 := ((F_value_a1.keep K3 (ninS (ne_exa E9 q12 (by decide)) nin0)).other W9 (Or.inr (slot_ne (Or.inl (tw24 hw)) (Or.inl (tw38 hw)) (by decide) (t := (.array .byte)) (t' := .int) (by decide) (by decide))))
 have q15 := (q4.keep K9 (ninS (ne_exa q12 E9 (by decide)) nin0))
 exact r_areturn H d_j68_22_44 (⟨rfl, k11, E9, q13, F9, q14, q15, q12⟩)
def Q_append_49 (Z : State) (a1 : Addr) (a3 : Addr) (i1 : Int32) (i2 : Int32) (c1 : ClassId) (h0 : Heap) (v : Option Value) (h : Heap) : Prop := v = some (.ref a1) ∧ Keep h0 h [a1, a3] ∧ Exa Z h a1 "java/lang/StringBuilder" ∧ Fld Z h a1 "java/lang/AbstractStringBuilder" "coder" "B" (.int 0) ∧ Fld Z h a1 "java/lang/AbstractStringBuilder" "count" "I" (.int 32) ∧ Fld Z h a1 "java/lang/AbstractStringBuilder" "value" "[B" (.ref a3) ∧ Ar Z h a3 c1 .byte [.int i1, .int 32, .int 109, .int 97, .int 116, .int 99, .int 104, .int 101, .int 114, .int 115, .int 32, .int 101, .int 120, .int 112, .int 101, .int 99, .int 116, .int 101, .int 100, .int 44, .int 32, .int i2, .int 32, .int 114, .int 101, .int 99, .int 111, .int 114, .int 100, .int 101, .int 100, .int 46, .int 0, .int 0] ∧ Exa Z h a3 "[B"
def R_append_49 : Room := { frames := 4, cells := 0, slots := 0, locals := 61 }
theorem rm_append_49 {w : Bool} {Z : State} {a0 : Array Value} (hw : HW a0 Z) (Ts : List String) (a1 : Addr) (a2 : Addr) (a3 : Addr) (a4 : Addr) (i1 : Int32) (i2 : Int32) (c1 : ClassId) (c2 : ClassId) (cs : Int32) (h0 : Heap) (f : Nat) (Zf : Z.heap.size ≤ f) (Z0 : f ≤ h0.size) (g_a3 : f ≤ a3) (g_a1 : f ≤ a1) (E_a2 : Exa Z h0 a2 "java/lang/String") (F_value_a2 : Fld Z h0 a2 "java/lang/String" "value" "[B" (.ref a4)) (A_a4 : Ar Z h0 a4 c2 .byte [.int 32, .int 114, .int 101, .int 99, .int 111, .int 114, .int 100, .int 101, .int 100, .int 46]) (F_coder_a2 : Fld Z h0 a2 "java/lang/String" "coder" "B" (.int 0)) (F_count_a1 : Fld Z h0 a1 "java/lang/AbstractStringBuilder" "count" "I" (.int 22)) (F_value_a1 : Fld Z h0 a1 "java/lang/AbstractStringBuilder" "value" "[B" (.ref a3)) (A_a3 : Ar Z h0 a3 c1 .byte [.int i1, .int 32, .int 109, .int 97, .int 116, .int 99, .int 104, .int 101, .int 114, .int 115, .int 32, .int 101, .int 120, .int 112, .int 101, .int 99, .int 116, .int 101, .int 100, .int 44, .int 32, .int i2, .int 0, .int 0, .int 0, .int 0, .int 0, .int 0, .int 0, .int 0, .int 0, .int 0, .int 0, .int 0]) (F_coder_a1 : Fld Z h0 a1 "java/lang/AbstractStringBuilder" "coder" "B" (.int 0)) (E_a1 : Exa Z h0 a1 "java/lang/StringBuilder") (E_a3 : Exa Z h0 a3 "[B") (S_cs : G_S_cs Z cs) (hcs : ¬ cs = 0) :
  Con w [] Z mn14 jdk_67_method_7_code 2 (some (.object "java/lang/StringBuilder")) R_append_49 Ts Ts f #[.ref a1, .ref a2] h0 (Q_append_49 Z a1 a3 i1 i2 c1 h0) := by
 refine con_of f #[vR a1, vR a2] (plainFor_of_name pn_1) (fun m => rfl) Zf ?_
 intro C H hX0
 refine r_aloadN H 1 d_j67_7_0 ?_
 refine r_aloadN H 2 d_j67_7_1 ?_
 refine r_super (a := a1) (argsL := [.ref a2]) (rest := []) (W := 0) H 5 d_j67_7_2 (tw68 hw) (same_self (tw70 hw) (tw46 hw) rfl (by decide)) (tw69 hw) (tw34 hw) (tw15 hw) (tw71 hw) (Ins.self E_a1) (lenOf pd_12 rfl) (rm_append_50 hw Ts a1 a2 a3 a4 i1 i2 c1 c2 cs h0 f Zf Z0 E_a2 F_value_a2 A_a4 F_coder_a2 F_count_a1 F_value_a1 A_a3 F_coder_a1 E_a1 g_a3 E_a3 g_a1 S_cs hcs) ?_
 rintro _ hh8 ⟨rfl, K1, q2, q3, q4, q5, q6, q7⟩
 refine r_pop H 6 d_j67_7_5 ?_
 refine r_aloadN H 7 d_j67_7_6 ?_
 have k9 : Keep h0 hh8 [a1, a3] := Keep.trans (Keep.refl h0 [a1, a3]) K1 (allS (Or.inl (List.mem_of_getElem? (i := 0) rfl)) (allS (Or.inl (List.mem_of_getElem? (i := 1) rfl)) all0))
 exact r_areturn H d_j67_7_7 (⟨rfl, k9, q2, q3, q4, q5, q6, q7⟩)
def Q_length_59 (Z : State) (h0 : Heap) (v : Option Value) (h : Heap) : Prop := v = some (.int 32) ∧ h0 = h
def R_length_59 : Room := { frames := 0, cells := 0, slots := 0, locals := 0 }
theorem rm_length_59 {w : Bool} {Z : State} {a0 : Array Value} (hw : HW a0 Z) (Ts : List String) (a1 : Addr) (h0 : Heap) (f : Nat) (Zf : Z.heap.size ≤ f) (Z0 : f ≤ h0.size) (F_count_a1 : Fld Z h0 a1 "java/lang/AbstractStringBuilder" "count" "I" (.int 32)) :
  Con w [] Z mn16 jdk_68_method_6_code 1 (some .int) R_length_59 Ts Ts f #[.ref a1] h0 (Q_length_59 Z h0) := by
 refine con_of f #[vR a1] (plainFor_of_name pn_0) (fun m => rfl) Zf ?_
 intro C H hX0
 refine r_aloadN H 1 d_j68_6_0 ?_
 refine r_getf H 4 d_j68_6_1 (tw37 hw) F_count_a1 ?_
 exact r_ireturn H d_j68_6_4 (⟨rfl, rfl⟩)
def Q_length_58 (Z : State) (h0 : Heap) (v : Option Value) (h : Heap) : Prop := v = some (.int 32) ∧ h0 = h
def R_length_58 : Room := { frames := 1, cells := 0, slots := 0, locals := 12 }
theorem rm_length_58 {w : Bool} {Z : State} {a0 : Array Value} (hw : HW a0 Z) (Ts : List String) (a1 : Addr) (h0 : Heap) (f : Nat) (Zf : Z.heap.size ≤ f) (Z0 : f ≤ h0.size) (F_count_a1 : Fld Z h0 a1 "java/lang/AbstractStringBuilder" "count" "I" (.int 32)) (E_a1 : Exa Z h0 a1 "java/lang/StringBuilder") :
  Con w [] Z mn17 jdk_67_method_93_code 1 (some .int) R_length_58 Ts Ts f #[.ref a1] h0 (Q_length_58 Z h0) := by
 refine con_of f #[vR a1] (plainFor_of_name pn_1) (fun m => rfl) Zf ?_
 intro C H hX0
 refine r_aloadN H 1 d_j67_93_0 ?_
 refine r_super (a := a1) (argsL := []) (rest := []) (W := 0) H 4 d_j67_93_1 (tw130 hw) (same_self (tw125 hw) (tw46 hw) rfl (by decide)) (tw126 hw) (tw34 hw) (tw15 hw) (tw131 hw) (Ins.self E_a1) (lenOf pd_8 rfl) (rm_length_59 hw Ts a1 h0 f Zf Z0 F_count_a1) ?_
 rintro _ _ ⟨rfl, rfl⟩
 exact r_ireturn H d_j67_93_4 (⟨rfl, rfl⟩)
def Q_checkLength_62 (Z : State) (h0 : Heap) (v : Option Value) (h : Heap) : Prop := v = none ∧ h0 = h
def R_checkLength_62 : Room := { frames := 0, cells := 0, slots := 0, locals := 0 }
theorem rm_checkLength_62 {w : Bool} {Z : State} {a0 : Array Value} (hw : HW a0 Z) (Ts : List String) (h0 : Heap) (f : Nat) (Zf : Z.heap.size ≤ f) (Z0 : f ≤ h0.size) :
  Con w [] Z mn18 jdk_65_method_131_code 2 none R_checkLength_62 Ts Ts f #[.int 0, .int 32] h0 (Q_checkLength_62 Z h0) := by
 refine con_of f #[vI 0, vI 32] (plainFor_of_name pn_4) (fun m => rfl) Zf ?_
 intro C H hX0
 refine r_iloadN H 1 d_j65_131_0 ?_
 refine r_iloadN H 2 d_j65_131_1 ?_
 refine r_icmpgeT H 37 d_j65_131_2 ?_
 exact r_return H d_j65_131_37 (⟨rfl, rfl⟩)
def Q_min_63 (Z : State) (h0 : Heap) (v : Option Value) (h : Heap) : Prop := v = some (.int 32) ∧ h0 = h
def R_min_63 : Room := { frames := 0, cells := 0, slots := 0, locals := 0 }
theorem rm_min_63 {w : Bool} {Z : State} {a0 : Array Value} (hw : HW a0 Z) (Ts : List String) (h0 : Heap) (f : Nat) (Zf : Z.heap.size ≤ f) (Z0 : f ≤ h0.size) :
  Con w [] Z mn19 jdk_29_method_69_code 2 (some .int) R_min_63 Ts Ts f #[.int 34, .int 32] h0 (Q_min_63 Z h0) := by
 refine con_of f #[vI 34, vI 32] (Jvm.Free.JP.mathPlain rfl (by decide +kernel)) (fun m => rfl) Zf ?_
 intro C H hX0
 refine r_iloadN H 1 d_j29_69_0 ?_
 refine r_iloadN H 2 d_j29_69_1 ?_
 refine r_icmpgtT H 9 d_j29_69_2 (by decide) ?_
 refine r_iloadN H 10 d_j29_69_9 ?_
 exact r_ireturn H d_j29_69_10 (⟨rfl, rfl⟩)
def Q_copyOfRangeByte_61 (Z : State) (i1 : Int32) (i2 : Int32) (h0 : Heap) (v : Option Value) (h : Heap) : Prop := ∃ (b2 : Addr) (kc2 : ClassId), v = some (.ref b2) ∧ Keep h0 h [] ∧ h0.size ≤ b2 ∧ Ar Z h b2 kc2 .byte [.int i1, .int 32, .int 109, .int 97, .int 116, .int 99, .int 104, .int 101, .int 114, .int 115, .int 32, .int 101, .int 120, .int 112, .int 101, .int 99, .int 116, .int 101, .int 100, .int 44, .int 32, .int i2, .int 32, .int 114, .int 101, .int 99, .int 111, .int 114, .int 100, .int 101, .int 100, .int 46] ∧ Exa Z h b2 "[B"
def R_copyOfRangeByte_61 : Room := { frames := 1, cells := 1, slots := 32, locals := 18 }
theorem rm_copyOfRangeByte_61 {w : Bool} {Z : State} {a0 : Array Value} (hw : HW a0 Z) (Ts : List String) (a1 : Addr) (i1 : Int32) (i2 : Int32) (c1 : ClassId) (h0 : Heap) (f : Nat) (Zf : Z.heap.size ≤ f) (Z0 : f ≤ h0.size) (A_a1 : Ar Z h0 a1 c1 .byte [.int i1, .int 32, .int 109, .int 97, .int 116, .int 99, .int 104, .int 101, .int 114, .int 115, .int 32, .int 101, .int 120, .int 112, .int 101, .int 99, .int 116, .int 101, .int 100, .int 44, .int 32, .int i2, .int 32, .int 114, .int 101, .int 99, .int 111, .int 114, .int 100, .int 101, .int 100, .int 46, .int 0, .int 0]) :
  Con w [] Z mn20 jdk_65_method_133_code 5 (some (.array .byte)) R_copyOfRangeByte_61 Ts Ts f #[.ref a1, .int 0, .int 32] h0 (Q_copyOfRangeByte_61 Z i1 i2 h0) := by
 refine con_of f #[vR a1, vI 0, vI 32, .unset, .unset] (plainFor_of_name pn_4) (fun m => rfl) Zf ?_
 intro C H hX0
 refine r_iloadN H 1 d_j65_133_0 ?_
 refine r_iloadN H 2 d_j65_133_1 ?_
 refine r_static (argsL := [.int 0, .int 32]) (rest := []) (W := 0) H 5 d_j65_133_2 (tw140 hw) (tw141 hw) (tw135 hw) (tw142 hw) (lenOf pd_15 rfl) (rm_checkLength_62 hw Ts h0 f Zf Z0) ?_
 rintro _ _ ⟨rfl, rfl⟩
 refine r_iloadN H 6 d_j65_133_5 ?_
 refine r_iloadN H 7 d_j65_133_6 ?_
 refine r_isub H 8 32 d_j65_133_7 ?_
 refine r_istoreN H 9 #[vR a1, vI 0, vI 32, vI 32, .unset] d_j65_133_8 ?_
 refine r_iloadN H 10 d_j65_133_9 ?_
 refine r_newP H 12 "[B" 32 d_j65_133_10 (tw22 hw) ?_
 intro h2 b2 kc2 g2 l2 K2 E2 A2
 change Ar Z h2 b2 kc2 .byte [.int 0, .int 0, .int 0, .int 0, .int 0, .int 0, .int 0, .int 0, .int 0, .int 0, .int 0, .int 0, .int 0, .int 0, .int 0, .int 0, .int 0, .int 0, .int 0, .int 0, .int 0, .int 0, .int 0, .int 0, .int 0, .int 0, .int 0, .int 0, .int 0, .int 0, .int 0, .int 0] at A2
 refine r_astore H 14 #[vR a1, vI 0, vI 32, vI 32, vR b2] d_j65_133_12 ?_
 refine r_aloadN H 15 d_j65_133_14 ?_
 refine r_iloadN H 16 d_j65_133_15 ?_
 refine r_aload H 18 d_j65_133_16 ?_
 refine r_iconst H 19 0 d_j65_133_18 ?_
 refine r_aloadN H 20 d_j65_133_19 ?_
 have q3 := (A_a1.keep K2 nin0)
 refine r_alen H 21 34 d_j65_133_20 q3 ?_
 refine r_iloadN H 22 d_j65_133_21 ?_
 refine r_isub H 23 34 d_j65_133_22 ?_
 refine r_iloadN H 24 d_j65_133_23 ?_
 refine r_static (argsL := [.int 34, .int 32]) (rest := [.int 0, .ref b2, .int 0, .ref a1]) (W := 4) H 27 d_j65_133_24 (tw143 hw) (tw144 hw) (tw145 hw) (tw146 hw) (lenOf pd_16 rfl) (rm_min_63 hw Ts h2 f Zf (nlt Z0 K2.1)) ?_
 rintro _ _ ⟨rfl, rfl⟩
 refine r_copy (W := 0) H 30 d_j65_133_27 (tw147 hw) (tw104 hw) (tw102 hw) (tw103 hw) q3 A2 (nlt Z0 (Nat.le_of_eq g2.symm)) ?_
 intro h5 K5 A5
 change Ar Z h5 b2 kc2 .byte [.int i1, .int 32, .int 109, .int 97, .int 116, .int 99, .int 104, .int 101, .int 114, .int 115, .int 32, .int 101, .int 120, .int 112, .int 101, .int 99, .int 116, .int 101, .int 100, .int 44, .int 32, .int i2, .int 32, .int 114, .int 101, .int 99, .int 111, .int 114, .int 100, .int 101, .int 100, .int 46] at A5
 refine r_aload H 32 d_j65_133_30 ?_
 have k6 : Keep h0 h2 [] := Keep.trans (Keep.refl h0 []) K2 all0
 have k7 : Keep h0 h5 [] := Keep.trans k6 K5 (allS (Or.inr (nlt nlr (Nat.le_of_eq g2.symm))) all0)
 have q8 := (E2.keep K5)
 exact r_areturn H d_j65_133_32 (⟨b2, kc2, rfl, k7, (nlt nlr (Nat.le_of_eq g2.symm)), A5, q8⟩)
def Q_copyOfRange_60 (Z : State) (i1 : Int32) (i2 : Int32) (h0 : Heap) (v : Option Value) (h : Heap) : Prop := ∃ (b1 : Addr) (kc2 : ClassId), v = some (.ref b1) ∧ Keep h0 h [] ∧ h0.size ≤ b1 ∧ Ar Z h b1 kc2 .byte [.int i1, .int 32, .int 109, .int 97, .int 116, .int 99, .int 104, .int 101, .int 114, .int 115, .int 32, .int 101, .int 120, .int 112, .int 101, .int 99, .int 116, .int 101, .int 100, .int 44, .int 32, .int i2, .int 32, .int 114, .int 101, .int 99, .int 111, .int 114, .int 100, .int 101, .int 100, .int 46] ∧ Exa Z h b1 "[B"
def R_copyOfRange_60 : Room := { frames := 2, cells := 1, slots := 32, locals := 34 }
theorem rm_copyOfRange_60 {w : Bool} {Z : State} {a0 : Array Value} (hw : HW a0 Z) (Ts : List String) (a1 : Addr) (i1 : Int32) (i2 : Int32) (c1 : ClassId) (h0 : Heap) (f : Nat) (Zf : Z.heap.size ≤ f) (Z0 : f ≤ h0.size) (A_a1 : Ar Z h0 a1 c1 .byte [.int i1, .int 32, .int 109, .int 97, .int 116, .int 99, .int 104, .int 101, .int 114, .int 115, .int 32, .int 101, .int 120, .int 112, .int 101, .int 99, .int 116, .int 101, .int 100, .int 44, .int 32, .int i2, .int 32, .int 114, .int 101, .int 99, .int 111, .int 114, .int 100, .int 101, .int 100, .int 46, .int 0, .int 0]) :
  Con w [] Z mn21 jdk_65_method_132_code 3 (some (.array .byte)) R_copyOfRange_60 Ts Ts f #[.ref a1, .int 0, .int 32] h0 (Q_copyOfRange_60 Z i1 i2 h0) := by
 refine con_of f #[vR a1, vI 0, vI 32] (plainFor_of_name pn_4) (fun m => rfl) Zf ?_
 intro C H hX0
 refine r_iloadN H 1 d_j65_132_0 ?_
 refine r_ifneF H 4 d_j65_132_1 ?_
 refine r_iloadN H 5 d_j65_132_4 ?_
 refine r_aloadN H 6 d_j65_132_5 ?_
 refine r_alen H 7 34 d_j65_132_6 A_a1 ?_
 refine r_icmpeqF H 10 d_j65_132_7 ?_
 refine r_aloadN H 11 d_j65_132_10 ?_
 refine r_iloadN H 12 d_j65_132_11 ?_
 refine r_iloadN H 13 d_j65_132_12 ?_
 refine r_static (argsL := [.ref a1, .int 0, .int 32]) (rest := []) (W := 0) H 16 d_j65_132_13 (tw137 hw) (tw138 hw) (tw135 hw) (tw139 hw) (lenOf pd_17 rfl) (rm_copyOfRangeByte_61 hw Ts a1 i1 i2 c1 h0 f Zf Z0 A_a1) ?_
 rintro _ hh7 ⟨b1, kc2, rfl, K3, g4, q5, q6⟩
 have k8 : Keep h0 hh7 [] := Keep.trans (Keep.refl h0 []) K3 all0
 exact r_areturn H d_j65_132_16 (⟨b1, kc2, rfl, k8, (nlt nlr g4), q5, q6⟩)
def Q_init_57 (Z : State) (a1 : Addr) (i1 : Int32) (i2 : Int32) (h0 : Heap) (v : Option Value) (h : Heap) : Prop := ∃ (b7 : Addr) (kc8 : ClassId), v = none ∧ Keep h0 h [a1] ∧ h0.size ≤ b7 ∧ Exa Z h a1 "java/lang/String" ∧ Fld Z h a1 "java/lang/String" "coder" "B" (.int 0) ∧ Fld Z h a1 "java/lang/String" "value" "[B" (.ref b7) ∧ Ar Z h b7 kc8 .byte [.int i1, .int 32, .int 109, .int 97, .int 116, .int 99, .int 104, .int 101, .int 114, .int 115, .int 32, .int 101, .int 120, .int 112, .int 101, .int 99, .int 116, .int 101, .int 100, .int 44, .int 32, .int i2, .int 32, .int 114, .int 101, .int 99, .int 111, .int 114, .int 100, .int 101, .int 100, .int 46] ∧ Exa Z h b7 "[B"
def R_init_57 : Room := { frames := 3, cells := 1, slots := 32, locals := 49 }
theorem rm_init_57 {w : Bool} {Z : State} {a0 : Array Value} (hw : HW a0 Z) (Ts : List String) (a1 : Addr) (a2 : Addr) (a3 : Addr) (i1 : Int32) (i2 : Int32) (c1 : ClassId) (cs : Int32) (h0 : Heap) (f : Nat) (Zf : Z.heap.size ≤ f) (Z0 : f ≤ h0.size) (E_a2 : Exa Z h0 a2 "java/lang/StringBuilder") (F_value_a2 : Fld Z h0 a2 "java/lang/AbstractStringBuilder" "value" "[B" (.ref a3)) (F_count_a2 : Fld Z h0 a2 "java/lang/AbstractStringBuilder" "count" "I" (.int 32)) (F_coder_a2 : Fld Z h0 a2 "java/lang/AbstractStringBuilder" "coder" "B" (.int 0)) (E_a1 : Exa Z h0 a1 "java/lang/String") (F_coder_a1 : Fld Z h0 a1 "java/lang/String" "coder" "B" (.int 0)) (g_a1 : f ≤ a1) (A_a3 : Ar Z h0 a3 c1 .byte [.int i1, .int 32, .int 109, .int 97, .int 116, .int 99, .int 104, .int 101, .int 114, .int 115, .int 32, .int 101, .int 120, .int 112, .int 101, .int 99, .int 116, .int 101, .int 100, .int 44, .int 32, .int i2, .int 32, .int 114, .int 101, .int 99, .int 111, .int 114, .int 100, .int 101, .int 100, .int 46, .int 0, .int 0]) (E_a3 : Exa Z h0 a3 "[B") (F_value_a1 : Fld Z h0 a1 "java/lang/String" "value" "[B" .null) (S_cs : G_S_cs Z cs) (hcs : ¬ cs = 0) :
  Con w [] Z mn22 jdk_42_method_150_code 5 none R_init_57 Ts Ts f #[.ref a1, .ref a2, .null] h0 (Q_init_57 Z a1 i1 i2 h0) := by
 refine con_of f #[vR a1, vR a2, .val .null, .unset, .unset] (plainFor_of_name pn_3) (fun m => rfl) Zf ?_
 intro C H hX0
 refine r_aloadN H 1 d_j42_150_0 ?_
 refine r_initO (W := 0) H 4 d_j42_150_1 (tw118 hw) (tw18 hw) (tw19 hw) ?_
 refine r_aloadN H 5 d_j42_150_4 ?_
 refine r_virtual (z := mn15) (a := a2) (argsL := []) (rest := []) (W := 0) H 8 d_j42_150_5 (tw119 hw) (tw120 hw) (nf_sel (tw122 hw)) (tw122 hw) (tw121 hw) (tw15 hw) (tw123 hw) E_a2 (lenOf pd_14 rfl) (rm_getValue_21 hw Ts a2 a3 h0 f Zf Z0 F_value_a2) ?_
 rintro _ _ ⟨rfl, rfl⟩
 refine r_astoreN H 9 #[vR a1, vR a2, .val .null, vR a3, .unset] d_j42_150_8 ?_
 refine r_aloadN H 10 d_j42_150_9 ?_
 refine r_virtual (z := mn17) (a := a2) (argsL := []) (rest := []) (W := 0) H 13 d_j42_150_10 (tw124 hw) (tw125 hw) (nf_by (tw46 hw) rfl) (tw127 hw) (tw128 hw) (tw7 hw) (tw129 hw) E_a2 (lenOf pd_8 rfl) (rm_length_58 hw Ts a2 h0 f Zf Z0 F_count_a2 E_a2) ?_
 rintro _ _ ⟨rfl, rfl⟩
 refine r_istore H 15 #[vR a1, vR a2, .val .null, vR a3, vI 32] d_j42_150_13 ?_
 refine r_aloadN H 16 d_j42_150_15 ?_
 refine r_virtual (z := mn4) (a := a2) (argsL := []) (rest := []) (W := 0) H 19 d_j42_150_16 (tw132 hw) (tw49 hw) (nf_sel (tw51 hw)) (tw51 hw) (tw50 hw) (tw15 hw) (tw52 hw) E_a2 (lenOf pd_3 rfl) (rm_isLatin1_8 hw Ts a2 cs h0 f Zf Z0 F_coder_a2 S_cs hcs) ?_
 rintro _ _ ⟨rfl, rfl⟩
 refine r_ifeqF H 22 d_j42_150_19 (by decide) ?_
 refine r_aloadN H 23 d_j42_150_22 ?_
 refine r_iconst H 24 0 d_j42_150_23 ?_
 refine r_putn (v' := (.int 0)) (ty := .byte) H 27 d_j42_150_24 (tw84 hw) F_coder_a1 E_a1 (Or.inr ⟨(tw60 hw), rfl, rfl⟩) (tw58 hw) g_a1 ?_
 intro h4 W4 K4 E4 F4
 refine r_aloadN H 28 d_j42_150_27 ?_
 refine r_aloadN H 29 d_j42_150_28 ?_
 refine r_iconst H 30 0 d_j42_150_29 ?_
 refine r_iload H 32 d_j42_150_30 ?_
 have q5 := (E_a3.keep K4)
 have q6 := (A_a3.keep K4 (ninS (ne_exa q5 E4 (by decide)) nin0))
 refine r_static (argsL := [.ref a3, .int 0, .int 32]) (rest := [.ref a1]) (W := 1) H 35 d_j42_150_32 (tw133 hw) (tw134 hw) (tw135 hw) (tw136 hw) (lenOf pd_17 rfl) (rm_copyOfRange_60 hw Ts a3 i1 i2 c1 h4 f Zf (nlt Z0 K4.1) q6) ?_
 rintro _ hh13 ⟨b7, kc8, rfl, K9, g10, q11, q12⟩
 have q14 := (E4.keep K9)
 have q15 := ((F_value_a1.other W4 (Or.inr (slot_ne (Or.inr (tw59 hw)) (Or.inr (tw60 hw)) (by decide) (t := (.array .byte)) (t' := .byte) (by decide) (by decide)))).keep K9 nin0)
 refine r_putf (ty := (.array .byte)) H 38 d_j42_150_35 (tw77 hw) q15 q14 (Or.inr ⟨(tw59 hw), rfl, rfl⟩) (tw58 hw) g_a1 ?_
 intro h16 W16 K16 E16 F16
 refine r_goto H 97 d_j42_150_38 ?_
 have k17 : Keep h0 h4 [a1] := Keep.trans (Keep.refl h0 [a1]) K4 (allS (Or.inl (List.mem_of_getElem? (i := 0) rfl)) all0)
 have k18 : Keep h0 hh13 [a1] := Keep.trans k17 K9 all0
 have k19 : Keep h0 h16 [a1] := Keep.trans k18 K16 (allS (Or.inl (List.mem_of_getElem? (i := 0) rfl)) all0)
 have q20 := ((F4.keep K9 nin0).other W16 (Or.inr (slot_ne (Or.inr (tw60 hw)) (Or.inr (tw59 hw)) (by decide) (t := .byte) (t' := (.array .byte)) (by decide) (by decide))))
 have q21 := (q11.keep K16 (ninS (Ne.symm (Nat.ne_of_lt (Nat.lt_of_lt_of_le E_a1.lt (nlt K4.1 g10)))) nin0))
 have q22 := (q12.keep K16)
 exact r_return H d_j42_150_97 (⟨b7, kc8, rfl, k19, (nlt K4.1 g10), E16, q20, F16, q21, q22⟩)
def Q_init_56 (Z : State) (a1 : Addr) (i1 : Int32) (i2 : Int32) (h0 : Heap) (v : Option Value) (h : Heap) : Prop := ∃ (b1 : Addr) (kc2 : ClassId), v = none ∧ Keep h0 h [a1] ∧ h0.size ≤ b1 ∧ Exa Z h a1 "java/lang/String" ∧ Fld Z h a1 "java/lang/String" "coder" "B" (.int 0) ∧ Fld Z h a1 "java/lang/String" "value" "[B" (.ref b1) ∧ Ar Z h b1 kc2 .byte [.int i1, .int 32, .int 109, .int 97, .int 116, .int 99, .int 104, .int 101, .int 114, .int 115, .int 32, .int 101, .int 120, .int 112, .int 101, .int 99, .int 116, .int 101, .int 100, .int 44, .int 32, .int i2, .int 32, .int 114, .int 101, .int 99, .int 111, .int 114, .int 100, .int 101, .int 100, .int 46] ∧ Exa Z h b1 "[B"
def R_init_56 : Room := { frames := 4, cells := 1, slots := 32, locals := 65 }
theorem rm_init_56 {w : Bool} {Z : State} {a0 : Array Value} (hw : HW a0 Z) (Ts : List String) (a1 : Addr) (a2 : Addr) (a3 : Addr) (i1 : Int32) (i2 : Int32) (c1 : ClassId) (cs : Int32) (h0 : Heap) (f : Nat) (Zf : Z.heap.size ≤ f) (Z0 : f ≤ h0.size) (g_a1 : f ≤ a1) (E_a2 : Exa Z h0 a2 "java/lang/StringBuilder") (F_value_a2 : Fld Z h0 a2 "java/lang/AbstractStringBuilder" "value" "[B" (.ref a3)) (F_count_a2 : Fld Z h0 a2 "java/lang/AbstractStringBuilder" "count" "I" (.int 32)) (F_coder_a2 : Fld Z h0 a2 "java/lang/AbstractStringBuilder" "coder" "B" (.int 0)) (E_a1 : Exa Z h0 a1 "java/lang/String") (F_coder_a1 : Fld Z h0 a1 "java/lang/String" "coder" "B" (.int 0)) (A_a3 : Ar Z h0 a3 c1 .byte [.int i1, .int 32, .int 109, .int 97, .int 116, .int 99, .int 104, .int 101, .int 114, .int 115, .int 32, .int 101, .int 120, .int 112, .int 101, .int 99, .int 116, .int 101, .int 100, .int 44, .int 32, .int i2, .int 32, .int 114, .int 101, .int 99, .int 111, .int 114, .int 100, .int 101, .int 100, .int 46, .int 0, .int 0]) (E_a3 : Exa Z h0 a3 "[B") (F_value_a1 : Fld Z h0 a1 "java/lang/String" "value" "[B" .null) (S_cs : G_S_cs Z cs) (hcs : ¬ cs = 0) :
  Con w [] Z mn23 jdk_42_method_53_code 2 none R_init_56 Ts Ts f #[.ref a1, .ref a2] h0 (Q_init_56 Z a1 i1 i2 h0) := by
 refine con_of f #[vR a1, vR a2] (plainFor_of_name pn_3) (fun m => rfl) Zf ?_
 intro C H hX0
 refine r_aloadN H 1 d_j42_53_0 ?_
 refine r_aloadN H 2 d_j42_53_1 ?_
 refine r_null H 3 d_j42_53_2 ?_
 refine r_special (a := a1) (argsL := [.ref a2, .null]) (rest := []) (W := 0) H 6 d_j42_53_3 (tw115 hw) (tw116 hw) (tw21 hw) (tw117 hw) (lenOf pd_18 rfl) (rm_init_57 hw Ts a1 a2 a3 i1 i2 c1 cs h0 f Zf Z0 E_a2 F_value_a2 F_count_a2 F_coder_a2 E_a1 F_coder_a1 g_a1 A_a3 E_a3 F_value_a1 S_cs hcs) ?_
 rintro _ hh10 ⟨b1, kc2, rfl, K3, g4, q5, q6, q7, q8, q9⟩
 have k11 : Keep h0 hh10 [a1] := Keep.trans (Keep.refl h0 [a1]) K3 (allS (Or.inl (List.mem_of_getElem? (i := 0) rfl)) all0)
 exact r_return H d_j42_53_6 (⟨b1, kc2, rfl, k11, (nlt nlr g4), q5, q6, q7, q8, q9⟩)
def Q_toString_55 (Z : State) (i1 : Int32) (i2 : Int32) (h0 : Heap) (v : Option Value) (h : Heap) : Prop := ∃ (b1 : Addr) (b8 : Addr) (kc9 : ClassId), v = some (.ref b1) ∧ Keep h0 h [] ∧ h0.size ≤ b1 ∧ h0.size ≤ b8 ∧ b1 < b8 ∧ Exa Z h b1 "java/lang/String" ∧ Fld Z h b1 "java/lang/String" "coder" "B" (.int 0) ∧ Fld Z h b1 "java/lang/String" "value" "[B" (.ref b8) ∧ Ar Z h b8 kc9 .byte [.int i1, .int 32, .int 109, .int 97, .int 116, .int 99, .int 104, .int 101, .int 114, .int 115, .int 32, .int 101, .int 120, .int 112, .int 101, .int 99, .int 116, .int 101, .int 100, .int 44, .int 32, .int i2, .int 32, .int 114, .int 101, .int 99, .int 111, .int 114, .int 100, .int 101, .int 100, .int 46] ∧ Exa Z h b8 "[B"
def R_toString_55 : Room := { frames := 5, cells := 2, slots := 36, locals := 79 }
theorem rm_toString_55 {w : Bool} {Z : State} {a0 : Array Value} (hw : HW a0 Z) (Ts : List String) (a1 : Addr) (a2 : Addr) (i1 : Int32) (i2 : Int32) (c1 : ClassId) (cs : Int32) (h0 : Heap) (f : Nat) (Zf : Z.heap.size ≤ f) (Z0 : f ≤ h0.size) (E_a1 : Exa Z h0 a1 "java/lang/StringBuilder") (F_value_a1 : Fld Z h0 a1 "java/lang/AbstractStringBuilder" "value" "[B" (.ref a2)) (F_count_a1 : Fld Z h0 a1 "java/lang/AbstractStringBuilder" "count" "I" (.int 32)) (F_coder_a1 : Fld Z h0 a1 "java/lang/AbstractStringBuilder" "coder" "B" (.int 0)) (A_a2 : Ar Z h0 a2 c1 .byte [.int i1, .int 32, .int 109, .int 97, .int 116, .int 99, .int 104, .int 101, .int 114, .int 115, .int 32, .int 101, .int 120, .int 112, .int 101, .int 99, .int 116, .int 101, .int 100, .int 44, .int 32, .int i2, .int 32, .int 114, .int 101, .int 99, .int 111, .int 114, .int 100, .int 101, .int 100, .int 46, .int 0, .int 0]) (E_a2 : Exa Z h0 a2 "[B") (S_cs : G_S_cs Z cs) (hcs : ¬ cs = 0) :
  Con w [] Z mn24 jdk_67_method_42_code 1 (some (.object "java/lang/String")) R_toString_55 Ts Ts f #[.ref a1] h0 (Q_toString_55 Z i1 i2 h0) := by
 refine con_of f #[vR a1] (plainFor_of_name pn_1) (fun m => rfl) Zf ?_
 intro C H hX0
 refine r_new H 3 d_j67_42_0 (tw110 hw) (tw58 hw) (tw21 hw) ?_
 intro h1 b1 g1 l1 K1 E1 D1
 refine r_dup H 4 d_j67_42_3 ?_
 refine r_aloadN H 5 d_j67_42_4 ?_
 have q2 := (E_a1.keep K1)
 have q3 := (F_value_a1.keep K1 nin0)
 have q4 := (F_count_a1.keep K1 nin0)
 have q5 := (F_coder_a1.keep K1 nin0)
 have q6 := (A_a2.keep K1 nin0)
 have q7 := (E_a2.keep K1)
 refine r_special (a := b1) (argsL := [.ref a1]) (rest := [.ref b1]) (W := 1) H 8 d_j67_42_5 (tw111 hw) (tw112 hw) (tw21 hw) (tw114 hw) (lenOf pd_19 rfl) (rm_init_56 hw Ts b1 a1 a2 i1 i2 c1 cs h1 f Zf (nlt Z0 K1.1) (nlt Z0 (Nat.le_of_eq g1.symm)) q2 q3 q4 q5 E1 (show Fld Z h1 b1 "java/lang/String" "coder" "B" (.int 0) from D1 (Or.inr (tw60 hw)) (ty := .byte) (by decide)) q6 q7 (show Fld Z h1 b1 "java/lang/String" "value" "[B" .null from D1 (Or.inr (tw59 hw)) (ty := (.array .byte)) (by decide)) S_cs hcs) ?_
 rintro _ hh17 ⟨b8, kc9, rfl, K10, g11, q12, q13, q14, q15, q16⟩
 have k18 : Keep h0 h1 [] := Keep.trans (Keep.refl h0 []) K1 all0
 have k19 : Keep h0 hh17 [] := Keep.trans k18 K10 (allS (Or.inr (nlt nlr (Nat.le_of_eq g1.symm))) all0)
 exact r_areturn H d_j67_42_8 (⟨b1, b8, kc9, rfl, k19, (nlt nlr (Nat.le_of_eq g1.symm)), (nlt K1.1 g11), (Nat.lt_of_lt_of_le E1.lt (nlt nlr g11)), q12, q13, q14, q15, q16⟩)
def Q_length_66 (Z : State) (h0 : Heap) (v : Option Value) (h : Heap) : Prop := v = some (.int 9) ∧ h0 = h
def R_length_66 : Room := { frames := 1, cells := 0, slots := 0, locals := 13 }
theorem rm_length_66 {w : Bool} {Z : State} {a0 : Array Value} (hw : HW a0 Z) (Ts : List String) (a1 : Addr) (a2 : Addr) (c1 : ClassId) (cs : Int32) (h0 : Heap) (f : Nat) (Zf : Z.heap.size ≤ f) (Z0 : f ≤ h0.size) (F_value_a1 : Fld Z h0 a1 "java/lang/String" "value" "[B" (.ref a2)) (A_a2 : Ar Z h0 a2 c1 .byte [.int 49, .int 32, .int 109, .int 97, .int 116, .int 99, .int 104, .int 101, .int 114]) (E_a1 : Exa Z h0 a1 "java/lang/String") (F_coder_a1 : Fld Z h0 a1 "java/lang/String" "coder" "B" (.int 0)) (S_cs : G_S_cs Z cs) (hcs : ¬ cs = 0) :
  Con w [] Z mn9 jdk_42_method_54_code 1 (some .int) R_length_66 Ts Ts f #[.ref a1] h0 (Q_length_66 Z h0) := by
 refine con_of f #[vR a1] (plainFor_of_name pn_3) (fun m => rfl) Zf ?_
 intro C H hX0
 refine r_aloadN H 1 d_j42_54_0 ?_
 refine r_getf H 4 d_j42_54_1 (tw77 hw) F_value_a1 ?_
 refine r_alen H 5 9 d_j42_54_4 A_a2 ?_
 refine r_aloadN H 6 d_j42_54_5 ?_
 refine r_virtual (z := mn8) (a := a1) (argsL := []) (rest := [.int 9]) (W := 1) H 9 d_j42_54_6 (tw78 hw) (tw79 hw) (nf_sel (tw81 hw)) (tw81 hw) (tw80 hw) (tw21 hw) (tw82 hw) E_a1 (lenOf pd_7 rfl) (rm_coder_13 hw Ts a1 cs h0 f Zf Z0 F_coder_a1 S_cs hcs) ?_
 rintro _ _ ⟨rfl, rfl⟩
 refine r_ishr H 10 9 d_j42_54_9 ?_
 exact r_ireturn H d_j42_54_10 (⟨rfl, rfl⟩)
def Q_ensureCapacityInternal_67 (Z : State) (h0 : Heap) (v : Option Value) (h : Heap) : Prop := v = none ∧ h0 = h
def R_ensureCapacityInternal_67 : Room := { frames := 0, cells := 0, slots := 0, locals := 0 }
theorem rm_ensureCapacityInternal_67 {w : Bool} {Z : State} {a0 : Array Value} (hw : HW a0 Z) (Ts : List String) (a1 : Addr) (a2 : Addr) (c1 : ClassId) (h0 : Heap) (f : Nat) (Zf : Z.heap.size ≤ f) (Z0 : f ≤ h0.size) (F_value_a1 : Fld Z h0 a1 "java/lang/AbstractStringBuilder" "value" "[B" (.ref a2)) (A_a2 : Ar Z h0 a2 c1 .byte [.int 0, .int 0, .int 0, .int 0, .int 0, .int 0, .int 0, .int 0, .int 0, .int 0, .int 0, .int 0, .int 0, .int 0, .int 0, .int 0]) (F_coder_a1 : Fld Z h0 a1 "java/lang/AbstractStringBuilder" "coder" "B" (.int 0)) :
  Con w [] Z mn3 jdk_68_method_9_code 3 none R_ensureCapacityInternal_67 Ts Ts f #[.ref a1, .int 9] h0 (Q_ensureCapacityInternal_67 Z h0) := by
 refine con_of f #[vR a1, vI 9, .unset] (plainFor_of_name pn_0) (fun m => rfl) Zf ?_
 intro C H hX0
 refine r_aloadN H 1 d_j68_9_0 ?_
 refine r_getf H 4 d_j68_9_1 (tw23 hw) F_value_a1 ?_
 refine r_alen H 5 16 d_j68_9_4 A_a2 ?_
 refine r_aloadN H 6 d_j68_9_5 ?_
 refine r_getf H 9 d_j68_9_6 (tw25 hw) F_coder_a1 ?_
 refine r_ishr H 10 16 d_j68_9_9 ?_
 refine r_istoreN H 11 #[vR a1, vI 9, vI 16] d_j68_9_10 ?_
 refine r_iloadN H 12 d_j68_9_11 ?_
 refine r_iloadN H 13 d_j68_9_12 ?_
 refine r_isub H 14 (-7 : Int32) d_j68_9_13 ?_
 refine r_ifleT H 38 d_j68_9_14 ?_
 exact r_return H d_j68_9_38 (⟨rfl, rfl⟩)
def Q_getBytes_69 (Z : State) (a2 : Addr) (c1 : ClassId) (h0 : Heap) (v : Option Value) (h : Heap) : Prop := v = none ∧ Keep h0 h [a2] ∧ Ar Z h a2 c1 .byte [.int 49, .int 32, .int 109, .int 97, .int 116, .int 99, .int 104, .int 101, .int 114, .int 0, .int 0, .int 0, .int 0, .int 0, .int 0, .int 0] ∧ Exa Z h a2 "[B"
def R_getBytes_69 : Room := { frames := 1, cells := 0, slots := 0, locals := 18 }
theorem rm_getBytes_69 {w : Bool} {Z : State} {a0 : Array Value} (hw : HW a0 Z) (Ts : List String) (a1 : Addr) (a2 : Addr) (a3 : Addr) (c1 : ClassId) (c2 : ClassId) (cs : Int32) (h0 : Heap) (f : Nat) (Zf : Z.heap.size ≤ f) (Z0 : f ≤ h0.size) (E_a1 : Exa Z h0 a1 "java/lang/String") (F_coder_a1 : Fld Z h0 a1 "java/lang/String" "coder" "B" (.int 0)) (F_value_a1 : Fld Z h0 a1 "java/lang/String" "value" "[B" (.ref a3)) (A_a3 : Ar Z h0 a3 c2 .byte [.int 49, .int 32, .int 109, .int 97, .int 116, .int 99, .int 104, .int 101, .int 114]) (A_a2 : Ar Z h0 a2 c1 .byte [.int 0, .int 0, .int 0, .int 0, .int 0, .int 0, .int 0, .int 0, .int 0, .int 0, .int 0, .int 0, .int 0, .int 0, .int 0, .int 0]) (g_a2 : f ≤ a2) (E_a2 : Exa Z h0 a2 "[B") (S_cs : G_S_cs Z cs) (hcs : ¬ cs = 0) :
  Con w [] Z mn11 jdk_42_method_147_code 4 none R_getBytes_69 Ts Ts f #[.ref a1, .ref a2, .int 0, .int 0] h0 (Q_getBytes_69 Z a2 c1 h0) := by
 refine con_of f #[vR a1, vR a2, vI 0, vI 0] (plainFor_of_name pn_3) (fun m => rfl) Zf ?_
 intro C H hX0
 refine r_aloadN H 1 d_j42_147_0 ?_
 refine r_virtual (z := mn8) (a := a1) (argsL := []) (rest := []) (W := 0) H 4 d_j42_147_1 (tw78 hw) (tw79 hw) (nf_sel (tw81 hw)) (tw81 hw) (tw80 hw) (tw21 hw) (tw82 hw) E_a1 (lenOf pd_7 rfl) (rm_coder_13 hw Ts a1 cs h0 f Zf Z0 F_coder_a1 S_cs hcs) ?_
 rintro _ _ ⟨rfl, rfl⟩
 refine r_iloadN H 5 d_j42_147_4 ?_
 refine r_icmpneF H 8 d_j42_147_5 rfl (by decide) ?_
 refine r_aloadN H 9 d_j42_147_8 ?_
 refine r_getf H 12 d_j42_147_9 (tw77 hw) F_value_a1 ?_
 refine r_iconst H 13 0 d_j42_147_12 ?_
 refine r_aloadN H 14 d_j42_147_13 ?_
 refine r_iloadN H 15 d_j42_147_14 ?_
 refine r_iloadN H 16 d_j42_147_15 ?_
 refine r_ishl H 17 0 d_j42_147_16 ?_
 refine r_aloadN H 18 d_j42_147_17 ?_
 refine r_getf H 21 d_j42_147_18 (tw77 hw) F_value_a1 ?_
 refine r_alen H 22 9 d_j42_147_21 A_a3 ?_
 refine r_copy (W := 0) H 25 d_j42_147_22 (tw101 hw) (tw104 hw) (tw102 hw) (tw103 hw) A_a3 A_a2 g_a2 ?_
 intro h2 K2 A2
 change Ar Z h2 a2 c1 .byte [.int 49, .int 32, .int 109, .int 97, .int 116, .int 99, .int 104, .int 101, .int 114, .int 0, .int 0, .int 0, .int 0, .int 0, .int 0, .int 0] at A2
 refine r_goto H 43 d_j42_147_25 ?_
 have k3 : Keep h0 h2 [a2] := Keep.trans (Keep.refl h0 [a2]) K2 (allS (Or.inl (List.mem_of_getElem? (i := 0) rfl)) all0)
 have q4 := (E_a2.keep K2)
 exact r_return H d_j42_147_43 (⟨rfl, k3, A2, q4⟩)
def Q_putStringAt_68 (Z : State) (a3 : Addr) (c1 : ClassId) (h0 : Heap) (v : Option Value) (h : Heap) : Prop := v = none ∧ Keep h0 h [a3] ∧ Ar Z h a3 c1 .byte [.int 49, .int 32, .int 109, .int 97, .int 116, .int 99, .int 104, .int 101, .int 114, .int 0, .int 0, .int 0, .int 0, .int 0, .int 0, .int 0] ∧ Exa Z h a3 "[B"
def R_putStringAt_68 : Room := { frames := 2, cells := 0, slots := 0, locals := 33 }
theorem rm_putStringAt_68 {w : Bool} {Z : State} {a0 : Array Value} (hw : HW a0 Z) (Ts : List String) (a1 : Addr) (a2 : Addr) (a3 : Addr) (a4 : Addr) (c1 : ClassId) (c2 : ClassId) (cs : Int32) (h0 : Heap) (f : Nat) (Zf : Z.heap.size ≤ f) (Z0 : f ≤ h0.size) (F_coder_a1 : Fld Z h0 a1 "java/lang/AbstractStringBuilder" "coder" "B" (.int 0)) (E_a2 : Exa Z h0 a2 "java/lang/String") (F_coder_a2 : Fld Z h0 a2 "java/lang/String" "coder" "B" (.int 0)) (E_a1 : Exa Z h0 a1 "java/lang/StringBuilder") (F_value_a1 : Fld Z h0 a1 "java/lang/AbstractStringBuilder" "value" "[B" (.ref a3)) (g_a3 : f ≤ a3) (F_value_a2 : Fld Z h0 a2 "java/lang/String" "value" "[B" (.ref a4)) (A_a4 : Ar Z h0 a4 c2 .byte [.int 49, .int 32, .int 109, .int 97, .int 116, .int 99, .int 104, .int 101, .int 114]) (A_a3 : Ar Z h0 a3 c1 .byte [.int 0, .int 0, .int 0, .int 0, .int 0, .int 0, .int 0, .int 0, .int 0, .int 0, .int 0, .int 0, .int 0, .int 0, .int 0, .int 0]) (E_a3 : Exa Z h0 a3 "[B") (S_cs : G_S_cs Z cs) (hcs : ¬ cs = 0) :
  Con w [] Z mn12 jdk_68_method_73_code 3 none R_putStringAt_68 Ts Ts f #[.ref a1, .int 0, .ref a2] h0 (Q_putStringAt_68 Z a3 c1 h0) := by
 refine con_of f #[vR a1, vI 0, vR a2] (plainFor_of_name pn_0) (fun m => rfl) Zf ?_
 intro C H hX0
 refine r_aloadN H 1 d_j68_73_0 ?_
 refine r_aloadN H 2 d_j68_73_1 ?_
 refine r_private (a := a1) (argsL := [.ref a2]) (rest := []) (W := 0) H 5 d_j68_73_2 (tw90 hw) (tw91 hw) (tw93 hw) (tw92 hw) (tw15 hw) (tw94 hw) E_a1 (lenOf pd_9 rfl) (rm_inflateIfNeededFor_16 hw Ts a1 a2 cs h0 f Zf Z0 F_coder_a1 E_a2 F_coder_a2 S_cs hcs) ?_
 rintro _ _ ⟨rfl, rfl⟩
 refine r_aloadN H 6 d_j68_73_5 ?_
 refine r_aloadN H 7 d_j68_73_6 ?_
 refine r_getf H 10 d_j68_73_7 (tw23 hw) F_value_a1 ?_
 refine r_iloadN H 11 d_j68_73_10 ?_
 refine r_aloadN H 12 d_j68_73_11 ?_
 refine r_getf H 15 d_j68_73_12 (tw25 hw) F_coder_a1 ?_
 refine r_virtual (z := mn11) (a := a2) (argsL := [.ref a3, .int 0, .int 0]) (rest := []) (W := 0) H 18 d_j68_73_15 (tw96 hw) (tw97 hw) (nf_sel (tw99 hw)) (tw99 hw) (tw98 hw) (tw21 hw) (tw100 hw) E_a2 (lenOf pd_10 rfl) (rm_getBytes_69 hw Ts a2 a3 a4 c1 c2 cs h0 f Zf Z0 E_a2 F_coder_a2 F_value_a2 A_a4 A_a3 g_a3 E_a3 S_cs hcs) ?_
 rintro _ hh5 ⟨rfl, K2, q3, q4⟩
 have k6 : Keep h0 hh5 [a3] := Keep.trans (Keep.refl h0 [a3]) K2 (allS (Or.inl (List.mem_of_getElem? (i := 0) rfl)) all0)
 exact r_return H d_j68_73_18 (⟨rfl, k6, q3, q4⟩)
def Q_append_65 (Z : State) (a1 : Addr) (a3 : Addr) (c1 : ClassId) (h0 : Heap) (v : Option Value) (h : Heap) : Prop := v = some (.ref a1) ∧ Keep h0 h [a1, a3] ∧ Exa Z h a1 "java/lang/StringBuilder" ∧ Fld Z h a1 "java/lang/AbstractStringBuilder" "coder" "B" (.int 0) ∧ Fld Z h a1 "java/lang/AbstractStringBuilder" "count" "I" (.int 9) ∧ Fld Z h a1 "java/lang/AbstractStringBuilder" "value" "[B" (.ref a3) ∧ Ar Z h a3 c1 .byte [.int 49, .int 32, .int 109, .int 97, .int 116, .int 99, .int 104, .int 101, .int 114, .int 0, .int 0, .int 0, .int 0, .int 0, .int 0, .int 0] ∧ Exa Z h a3 "[B"
def R_append_65 : Room := { frames := 3, cells := 0, slots := 0, locals := 47 }
theorem rm_append_65 {w : Bool} {Z : State} {a0 : Array Value} (hw : HW a0 Z) (Ts : List String) (a1 : Addr) (a2 : Addr) (a3 : Addr) (a4 : Addr) (c1 : ClassId) (c2 : ClassId) (cs : Int32) (h0 : Heap) (f : Nat) (Zf : Z.heap.size ≤ f) (Z0 : f ≤ h0.size) (E_a2 : Exa Z h0 a2 "java/lang/String") (F_value_a2 : Fld Z h0 a2 "java/lang/String" "value" "[B" (.ref a4)) (A_a4 : Ar Z h0 a4 c2 .byte [.int 49, .int 32, .int 109, .int 97, .int 116, .int 99, .int 104, .int 101, .int 114]) (F_coder_a2 : Fld Z h0 a2 "java/lang/String" "coder" "B" (.int 0)) (F_count_a1 : Fld Z h0 a1 "java/lang/AbstractStringBuilder" "count" "I" (.int 0)) (F_value_a1 : Fld Z h0 a1 "java/lang/AbstractStringBuilder" "value" "[B" (.ref a3)) (A_a3 : Ar Z h0 a3 c1 .byte [.int 0, .int 0, .int 0, .int 0, .int 0, .int 0, .int 0, .int 0, .int 0, .int 0, .int 0, .int 0, .int 0, .int 0, .int 0, .int 0]) (F_coder_a1 : Fld Z h0 a1 "java/lang/AbstractStringBuilder" "coder" "B" (.int 0)) (E_a1 : Exa Z h0 a1 "java/lang/StringBuilder") (g_a3 : f ≤ a3) (E_a3 : Exa Z h0 a3 "[B") (g_a1 : f ≤ a1) (S_cs : G_S_cs Z cs) (hcs : ¬ cs = 0) :
  Con w [] Z mn13 jdk_68_method_22_code 3 (some (.object "java/lang/AbstractStringBuilder")) R_append_65 Ts Ts f #[.ref a1, .ref a2] h0 (Q_append_65 Z a1 a3 c1 h0) := by
 refine con_of f #[vR a1, vR a2, .unset] (plainFor_of_name pn_0) (fun m => rfl) Zf ?_
 intro C H hX0
 refine r_aloadN H 1 d_j68_22_0 ?_
 refine r_ifnonnullT H 9 d_j68_22_1 ?_
 refine r_aloadN H 10 d_j68_22_9 ?_
 refine r_virtual (z := mn9) (a := a2) (argsL := []) (rest := []) (W := 0) H 13 d_j68_22_10 (tw72 hw) (tw73 hw) (nf_sel (tw75 hw)) (tw75 hw) (tw74 hw) (tw21 hw) (tw76 hw) E_a2 (lenOf pd_8 rfl) (rm_length_66 hw Ts a2 a4 c2 cs h0 f Zf Z0 F_value_a2 A_a4 E_a2 F_coder_a2 S_cs hcs) ?_
 rintro _ _ ⟨rfl, rfl⟩
 refine r_istoreN H 14 #[vR a1, vR a2, vI 9] d_j68_22_13 ?_
 refine r_aloadN H 15 d_j68_22_14 ?_
 refine r_aloadN H 16 d_j68_22_15 ?_
 refine r_getf H 19 d_j68_22_16 (tw37 hw) F_count_a1 ?_
 refine r_iloadN H 20 d_j68_22_19 ?_
 refine r_iadd H 21 9 d_j68_22_20 ?_
 refine r_private (a := a1) (argsL := [.int 9]) (rest := []) (W := 0) H 24 d_j68_22_21 (tw43 hw) (tw44 hw) (tw46 hw) (tw45 hw) (tw15 hw) (tw47 hw) E_a1 (lenOf pd_0 rfl) (rm_ensureCapacityInternal_67 hw Ts a1 a3 c1 h0 f Zf Z0 F_value_a1 A_a3 F_coder_a1) ?_
 rintro _ _ ⟨rfl, rfl⟩
 refine r_aloadN H 25 d_j68_22_24 ?_
 refine r_aloadN H 26 d_j68_22_25 ?_
 refine r_getf H 29 d_j68_22_26 (tw37 hw) F_count_a1 ?_
 refine r_aloadN H 30 d_j68_22_29 ?_
 refine r_private (a := a1) (argsL := [.int 0, .ref a2]) (rest := []) (W := 0) H 33 d_j68_22_30 (tw85 hw) (tw86 hw) (tw88 hw) (tw87 hw) (tw15 hw) (tw89 hw) E_a1 (lenOf pd_11 rfl) (rm_putStringAt_68 hw Ts a1 a2 a3 a4 c1 c2 cs h0 f Zf Z0 F_coder_a1 E_a2 F_coder_a2 E_a1 F_value_a1 g_a3 F_value_a2 A_a4 A_a3 E_a3 S_cs hcs) ?_
 rintro _ hh6 ⟨rfl, K3, q4, q5⟩
 refine r_aloadN H 34 d_j68_22_33 ?_
 refine r_dup H 35 d_j68_22_34 ?_
 have q7 := (E_a1.keep K3)
 have q8 := (F_count_a1.keep K3 (ninS (ne_exa q7 q5 (by decide)) nin0))
 refine r_getf H 38 d_j68_22_35 (tw37 hw) q8 ?_
 refine r_iloadN H 39 d_j68_22_38 ?_
 refine r_iadd H 40 9 d_j68_22_39 ?_
 refine r_putf (ty := .int) H 43 d_j68_22_40 (tw37 hw) q8 q7 (Or.inl (tw38 hw)) (tw6 hw) g_a1 ?_
 intro h9 W9 K9 E9 F9
 refine r_aloadN H 44 d_j68_22_43 ?_
 have k10 : Keep h0 hh6 [a1, a3] := Keep.trans (Keep.refl h0 [a1, a3]) K3 (allS (Or.inl (List.mem_of_getElem? (i := 1) rfl)) all0)
 have k11 : Keep h0 h9 [a1, a3] := Keep.trans k10 K9 (allS (Or.inl (List.mem_of_getElem? (i := 0) rfl)) all0)
 have q12 := (q5.keep K9)
 have q13 := ((F_coder_a1.keep K3 (ninS (ne_exa E9 q12 (by decide)) nin0)).other W9 (Or.inr (slot_ne (Or.inl (tw26 hw)) (Or.inl (tw38 hw)) (by decide) (t := .byte) (t' := .int) (by decide) (by decide))))
 have q14 := ((F_value_a1.keep K3 (ninS (ne_exa E9 q12 (by decide)) nin0)).other W9 (Or.inr (slot_ne (Or.inl (tw24 hw)) (Or.inl (tw38 hw)) (by decide) (t := (.array .byte)) (t' := .int) (by decide) (by decide))))
 have q15 := (q4.keep K9 (ninS (ne_exa q12 E9 (by decide)) nin0))
 exact r_areturn H d_j68_22_44 (⟨rfl, k11, E9, q13, F9, q14, q15, q12⟩)
def Q_append_64 (Z : State) (a1 : Addr) (a3 : Addr) (c1 : ClassId) (h0 : Heap) (v : Option Value) (h : Heap) : Prop := v = some (.ref a1) ∧ Keep h0 h [a1, a3] ∧ Exa Z h a1 "java/lang/StringBuilder" ∧ Fld Z h a1 "java/lang/AbstractStringBuilder" "coder" "B" (.int 0) ∧ Fld Z h a1 "java/lang/AbstractStringBuilder" "count" "I" (.int 9) ∧ Fld Z h a1 "java/lang/AbstractStringBuilder" "value" "[B" (.ref a3) ∧ Ar Z h a3 c1 .byte [.int 49, .int 32, .int 109, .int 97, .int 116, .int 99, .int 104, .int 101, .int 114, .int 0, .int 0, .int 0, .int 0, .int 0, .int 0, .int 0] ∧ Exa Z h a3 "[B"
def R_append_64 : Room := { frames := 4, cells := 0, slots := 0, locals := 61 }
theorem rm_append_64 {w : Bool} {Z : State} {a0 : Array Value} (hw : HW a0 Z) (Ts : List String) (a1 : Addr) (a2 : Addr) (a3 : Addr) (a4 : Addr) (c1 : ClassId) (c2 : ClassId) (cs : Int32) (h0 : Heap) (f : Nat) (Zf : Z.heap.size ≤ f) (Z0 : f ≤ h0.size) (g_a3 : f ≤ a3) (g_a1 : f ≤ a1) (E_a2 : Exa Z h0 a2 "java/lang/String") (F_value_a2 : Fld Z h0 a2 "java/lang/String" "value" "[B" (.ref a4)) (A_a4 : Ar Z h0 a4 c2 .byte [.int 49, .int 32, .int 109, .int 97, .int 116, .int 99, .int 104, .int 101, .int 114]) (F_coder_a2 : Fld Z h0 a2 "java/lang/String" "coder" "B" (.int 0)) (F_count_a1 : Fld Z h0 a1 "java/lang/AbstractStringBuilder" "count" "I" (.int 0)) (F_value_a1 : Fld Z h0 a1 "java/lang/AbstractStringBuilder" "value" "[B" (.ref a3)) (A_a3 : Ar Z h0 a3 c1 .byte [.int 0, .int 0, .int 0, .int 0, .int 0, .int 0, .int 0, .int 0, .int 0, .int 0, .int 0, .int 0, .int 0, .int 0, .int 0, .int 0]) (F_coder_a1 : Fld Z h0 a1 "java/lang/AbstractStringBuilder" "coder" "B" (.int 0)) (E_a1 : Exa Z h0 a1 "java/lang/StringBuilder") (E_a3 : Exa Z h0 a3 "[B") (S_cs : G_S_cs Z cs) (hcs : ¬ cs = 0) :
  Con w [] Z mn14 jdk_67_method_7_code 2 (some (.object "java/lang/StringBuilder")) R_append_64 Ts Ts f #[.ref a1, .ref a2] h0 (Q_append_64 Z a1 a3 c1 h0) := by
 refine con_of f #[vR a1, vR a2] (plainFor_of_name pn_1) (fun m => rfl) Zf ?_
 intro C H hX0
 refine r_aloadN H 1 d_j67_7_0 ?_
 refine r_aloadN H 2 d_j67_7_1 ?_
 refine r_super (a := a1) (argsL := [.ref a2]) (rest := []) (W := 0) H 5 d_j67_7_2 (tw68 hw) (same_self (tw70 hw) (tw46 hw) rfl (by decide)) (tw69 hw) (tw34 hw) (tw15 hw) (tw71 hw) (Ins.self E_a1) (lenOf pd_12 rfl) (rm_append_65 hw Ts a1 a2 a3 a4 c1 c2 cs h0 f Zf Z0 E_a2 F_value_a2 A_a4 F_coder_a2 F_count_a1 F_value_a1 A_a3 F_coder_a1 E_a1 g_a3 E_a3 g_a1 S_cs hcs) ?_
 rintro _ hh8 ⟨rfl, K1, q2, q3, q4, q5, q6, q7⟩
 refine r_pop H 6 d_j67_7_5 ?_
 refine r_aloadN H 7 d_j67_7_6 ?_
 have k9 : Keep h0 hh8 [a1, a3] := Keep.trans (Keep.refl h0 [a1, a3]) K1 (allS (Or.inl (List.mem_of_getElem? (i := 0) rfl)) (allS (Or.inl (List.mem_of_getElem? (i := 1) rfl)) all0))
 exact r_areturn H d_j67_7_7 (⟨rfl, k9, q2, q3, q4, q5, q6, q7⟩)
def Q_max_75 (Z : State) (h0 : Heap) (v : Option Value) (h : Heap) : Prop := v = some (.int 18) ∧ h0 = h
def R_max_75 : Room := { frames := 0, cells := 0, slots := 0, locals := 0 }
theorem rm_max_75 {w : Bool} {Z : State} {a0 : Array Value} (hw : HW a0 Z) (Ts : List String) (h0 : Heap) (f : Nat) (Zf : Z.heap.size ≤ f) (Z0 : f ≤ h0.size) :
  Con w [] Z mn25 jdk_29_method_65_code 2 (some .int) R_max_75 Ts Ts f #[.int 4, .int 18] h0 (Q_max_75 Z h0) := by
 refine con_of f #[vI 4, vI 18] (Jvm.Free.JP.mathPlain rfl (by decide +kernel)) (fun m => rfl) Zf ?_
 intro C H hX0
 refine r_iloadN H 1 d_j29_65_0 ?_
 refine r_iloadN H 2 d_j29_65_1 ?_
 refine r_icmpltT H 9 d_j29_65_2 ?_
 refine r_iloadN H 10 d_j29_65_9 ?_
 exact r_ireturn H d_j29_65_10 (⟨rfl, rfl⟩)
def Q_newLength_74 (Z : State) (h0 : Heap) (v : Option Value) (h : Heap) : Prop := v = some (.int 34) ∧ h0 = h
def R_newLength_74 : Room := { frames := 1, cells := 0, slots := 0, locals := 14 }
theorem rm_newLength_74 {w : Bool} {Z : State} {a0 : Array Value} (hw : HW a0 Z) (Ts : List String) (h0 : Heap) (f : Nat) (Zf : Z.heap.size ≤ f) (Z0 : f ≤ h0.size) :
  Con w [] Z mn26 jdk_48_method_27_code 4 (some .int) R_newLength_74 Ts Ts f #[.int 16, .int 4, .int 18] h0 (Q_newLength_74 Z h0) := by
 refine con_of f #[vI 16, vI 4, vI 18, .unset] (plainFor_of_name pn_5) (fun m => rfl) Zf ?_
 intro C H hX0
 refine r_iloadN H 1 d_j48_27_0 ?_
 refine r_iloadN H 2 d_j48_27_1 ?_
 refine r_iloadN H 3 d_j48_27_2 ?_
 refine r_static (argsL := [.int 4, .int 18]) (rest := [.int 16]) (W := 1) H 6 d_j48_27_3 (tw158 hw) (tw159 hw) (tw145 hw) (tw160 hw) (lenOf pd_16 rfl) (rm_max_75 hw Ts h0 f Zf Z0) ?_
 rintro _ _ ⟨rfl, rfl⟩
 refine r_iadd H 7 34 d_j48_27_6 ?_
 refine r_istoreN H 8 #[vI 16, vI 4, vI 18, vI 34] d_j48_27_7 ?_
 refine r_iconst H 9 0 d_j48_27_8 ?_
 refine r_iloadN H 10 d_j48_27_9 ?_
 refine r_icmpgeF H 13 d_j48_27_10 ?_
 refine r_iloadN H 14 d_j48_27_13 ?_
 refine r_ldcI H 16 d_j48_27_14 (tw161 hw) ?_
 refine r_icmpgtF H 19 d_j48_27_16 ?_
 refine r_iloadN H 20 d_j48_27_19 ?_
 exact r_ireturn H d_j48_27_20 (⟨rfl, rfl⟩)
def Q_newCapacity_73 (Z : State) (h0 : Heap) (v : Option Value) (h : Heap) : Prop := v = some (.int 34) ∧ h0 = h
def R_newCapacity_73 : Room := { frames := 2, cells := 0, slots := 0, locals := 29 }
theorem rm_newCapacity_73 {w : Bool} {Z : State} {a0 : Array Value} (hw : HW a0 Z) (Ts : List String) (a1 : Addr) (a2 : Addr) (c1 : ClassId) (h0 : Heap) (f : Nat) (Zf : Z.heap.size ≤ f) (Z0 : f ≤ h0.size) (F_value_a1 : Fld Z h0 a1 "java/lang/AbstractStringBuilder" "value" "[B" (.ref a2)) (A_a2 : Ar Z h0 a2 c1 .byte [.int 49, .int 32, .int 109, .int 97, .int 116, .int 99, .int 104, .int 101, .int 114, .int 0, .int 0, .int 0, .int 0, .int 0, .int 0, .int 0]) (F_coder_a1 : Fld Z h0 a1 "java/lang/AbstractStringBuilder" "coder" "B" (.int 0)) :
  Con w [] Z mn27 jdk_68_method_10_code 6 (some .int) R_newCapacity_73 Ts Ts f #[.ref a1, .int 20] h0 (Q_newCapacity_73 Z h0) := by
 refine con_of f #[vR a1, vI 20, .unset, .unset, .unset, .unset] (plainFor_of_name pn_0) (fun m => rfl) Zf ?_
 intro C H hX0
 refine r_aloadN H 1 d_j68_10_0 ?_
 refine r_getf H 4 d_j68_10_1 (tw23 hw) F_value_a1 ?_
 refine r_alen H 5 16 d_j68_10_4 A_a2 ?_
 refine r_istoreN H 6 #[vR a1, vI 20, vI 16, .unset, .unset, .unset] d_j68_10_5 ?_
 refine r_iloadN H 7 d_j68_10_6 ?_
 refine r_aloadN H 8 d_j68_10_7 ?_
 refine r_getf H 11 d_j68_10_8 (tw25 hw) F_coder_a1 ?_
 refine r_ishl H 12 20 d_j68_10_11 ?_
 refine r_istoreN H 13 #[vR a1, vI 20, vI 16, vI 20, .unset, .unset] d_j68_10_12 ?_
 refine r_iloadN H 14 d_j68_10_13 ?_
 refine r_iloadN H 15 d_j68_10_14 ?_
 refine r_isub H 16 4 d_j68_10_15 ?_
 refine r_istore H 18 #[vR a1, vI 20, vI 16, vI 20, vI 4, .unset] d_j68_10_16 ?_
 refine r_iloadN H 19 d_j68_10_18 ?_
 refine r_iload H 21 d_j68_10_19 ?_
 refine r_iloadN H 22 d_j68_10_21 ?_
 refine r_iconst H 23 2 d_j68_10_22 ?_
 refine r_aloadN H 24 d_j68_10_23 ?_
 refine r_getf H 27 d_j68_10_24 (tw25 hw) F_coder_a1 ?_
 refine r_ishl H 28 2 d_j68_10_27 ?_
 refine r_iadd H 29 18 d_j68_10_28 ?_
 refine r_static (argsL := [.int 16, .int 4, .int 18]) (rest := []) (W := 0) H 32 d_j68_10_29 (tw154 hw) (tw155 hw) (tw156 hw) (tw157 hw) (lenOf pd_21 rfl) (rm_newLength_74 hw Ts h0 f Zf Z0) ?_
 rintro _ _ ⟨rfl, rfl⟩
 refine r_istore H 34 #[vR a1, vI 20, vI 16, vI 20, vI 4, vI 34] d_j68_10_32 ?_
 refine r_iload H 36 d_j68_10_34 ?_
 refine r_ldcI H 38 d_j68_10_36 (tw162 hw) ?_
 refine r_icmpneT H 51 d_j68_10_38 (by decide) (by decide) (by decide) ?_
 refine r_iload H 53 d_j68_10_51 ?_
 refine r_aloadN H 54 d_j68_10_53 ?_
 refine r_getf H 57 d_j68_10_54 (tw25 hw) F_coder_a1 ?_
 refine r_ishr H 58 34 d_j68_10_57 ?_
 exact r_ireturn H d_j68_10_58 (⟨rfl, rfl⟩)
def Q_copyOf_76 (Z : State) (h0 : Heap) (v : Option Value) (h : Heap) : Prop := ∃ (b1 : Addr) (kc1 : ClassId), v = some (.ref b1) ∧ Keep h0 h [] ∧ h0.size ≤ b1 ∧ Ar Z h b1 kc1 .byte [.int 49, .int 32, .int 109, .int 97, .int 116, .int 99, .int 104, .int 101, .int 114, .int 0, .int 0, .int 0, .int 0, .int 0, .int 0, .int 0, .int 0, .int 0, .int 0, .int 0, .int 0, .int 0, .int 0, .int 0, .int 0, .int 0, .int 0, .int 0, .int 0, .int 0, .int 0, .int 0, .int 0, .int 0] ∧ Exa Z h b1 "[B"
def R_copyOf_76 : Room := { frames := 1, cells := 1, slots := 34, locals := 18 }
theorem rm_copyOf_76 {w : Bool} {Z : State} {a0 : Array Value} (hw : HW a0 Z) (Ts : List String) (a1 : Addr) (c1 : ClassId) (h0 : Heap) (f : Nat) (Zf : Z.heap.size ≤ f) (Z0 : f ≤ h0.size) (A_a1 : Ar Z h0 a1 c1 .byte [.int 49, .int 32, .int 109, .int 97, .int 116, .int 99, .int 104, .int 101, .int 114, .int 0, .int 0, .int 0, .int 0, .int 0, .int 0, .int 0]) :
  Con w [] Z mn28 jdk_65_method_121_code 3 (some (.array .byte)) R_copyOf_76 Ts Ts f #[.ref a1, .int 34] h0 (Q_copyOf_76 Z h0) := by
 refine con_of f #[vR a1, vI 34, .unset] (plainFor_of_name pn_4) (fun m => rfl) Zf ?_
 intro C H hX0
 refine r_iloadN H 1 d_j65_121_0 ?_
 refine r_aloadN H 2 d_j65_121_1 ?_
 refine r_alen H 3 16 d_j65_121_2 A_a1 ?_
 refine r_icmpneT H 14 d_j65_121_3 (by decide) (by decide) (by decide) ?_
 refine r_iloadN H 15 d_j65_121_14 ?_
 refine r_newP H 17 "[B" 34 d_j65_121_15 (tw22 hw) ?_
 intro h1 b1 kc1 g1 l1 K1 E1 A1
 change Ar Z h1 b1 kc1 .byte [.int 0, .int 0, .int 0, .int 0, .int 0, .int 0, .int 0, .int 0, .int 0, .int 0, .int 0, .int 0, .int 0, .int 0, .int 0, .int 0, .int 0, .int 0, .int 0, .int 0, .int 0, .int 0, .int 0, .int 0, .int 0, .int 0, .int 0, .int 0, .int 0, .int 0, .int 0, .int 0, .int 0, .int 0] at A1
 refine r_astoreN H 18 #[vR a1, vI 34, vR b1] d_j65_121_17 ?_
 refine r_aloadN H 19 d_j65_121_18 ?_
 refine r_iconst H 20 0 d_j65_121_19 ?_
 refine r_aloadN H 21 d_j65_121_20 ?_
 refine r_iconst H 22 0 d_j65_121_21 ?_
 refine r_aloadN H 23 d_j65_121_22 ?_
 have q2 := (A_a1.keep K1 nin0)
 refine r_alen H 24 16 d_j65_121_23 q2 ?_
 refine r_iloadN H 25 d_j65_121_24 ?_
 refine r_static (argsL := [.int 16, .int 34]) (rest := [.int 0, .ref b1, .int 0, .ref a1]) (W := 4) H 28 d_j65_121_25 (tw143 hw) (tw144 hw) (tw145 hw) (tw146 hw) (lenOf pd_16 rfl) (rm_min_42 hw Ts h1 f Zf (nlt Z0 K1.1)) ?_
 rintro _ _ ⟨rfl, rfl⟩
 refine r_copy (W := 0) H 31 d_j65_121_28 (tw147 hw) (tw104 hw) (tw102 hw) (tw103 hw) q2 A1 (nlt Z0 (Nat.le_of_eq g1.symm)) ?_
 intro h4 K4 A4
 change Ar Z h4 b1 kc1 .byte [.int 49, .int 32, .int 109, .int 97, .int 116, .int 99, .int 104, .int 101, .int 114, .int 0, .int 0, .int 0, .int 0, .int 0, .int 0, .int 0, .int 0, .int 0, .int 0, .int 0, .int 0, .int 0, .int 0, .int 0, .int 0, .int 0, .int 0, .int 0, .int 0, .int 0, .int 0, .int 0, .int 0, .int 0] at A4
 refine r_aloadN H 32 d_j65_121_31 ?_
 have k5 : Keep h0 h1 [] := Keep.trans (Keep.refl h0 []) K1 all0
 have k6 : Keep h0 h4 [] := Keep.trans k5 K4 (allS (Or.inr (nlt nlr (Nat.le_of_eq g1.symm))) all0)
 have q7 := (E1.keep K4)
 exact r_areturn H d_j65_121_32 (⟨b1, kc1, rfl, k6, (nlt nlr (Nat.le_of_eq g1.symm)), A4, q7⟩)
def Q_ensureCapacityInternal_72 (Z : State) (a1 : Addr) (h0 : Heap) (v : Option Value) (h : Heap) : Prop := ∃ (b2 : Addr) (kc3 : ClassId), v = none ∧ Keep h0 h [a1] ∧ h0.size ≤ b2 ∧ Exa Z h a1 "java/lang/StringBuilder" ∧ Fld Z h a1 "java/lang/AbstractStringBuilder" "coder" "B" (.int 0) ∧ Fld Z h a1 "java/lang/AbstractStringBuilder" "count" "I" (.int 9) ∧ Fld Z h a1 "java/lang/AbstractStringBuilder" "value" "[B" (.ref b2) ∧ Ar Z h b2 kc3 .byte [.int 49, .int 32, .int 109, .int 97, .int 116, .int 99, .int 104, .int 101, .int 114, .int 0, .int 0, .int 0, .int 0, .int 0, .int 0, .int 0, .int 0, .int 0, .int 0, .int 0, .int 0, .int 0, .int 0, .int 0, .int 0, .int 0, .int 0, .int 0, .int 0, .int 0, .int 0, .int 0, .int 0, .int 0] ∧ Exa Z h b2 "[B"
def R_ensureCapacityInternal_72 : Room := { frames := 3, cells := 1, slots := 34, locals := 48 }
theorem rm_ensureCapacityInternal_72 {w : Bool} {Z : State} {a0 : Array Value} (hw : HW a0 Z) (Ts : List String) (a1 : Addr) (a2 : Addr) (c1 : ClassId) (h0 : Heap) (f : Nat) (Zf : Z.heap.size ≤ f) (Z0 : f ≤ h0.size) (F_value_a1 : Fld Z h0 a1 "java/lang/AbstractStringBuilder" "value" "[B" (.ref a2)) (A_a2 : Ar Z h0 a2 c1 .byte [.int 49, .int 32, .int 109, .int 97, .int 116, .int 99, .int 104, .int 101, .int 114, .int 0, .int 0, .int 0, .int 0, .int 0, .int 0, .int 0]) (F_coder_a1 : Fld Z h0 a1 "java/lang/AbstractStringBuilder" "coder" "B" (.int 0)) (E_a1 : Exa Z h0 a1 "java/lang/StringBuilder") (g_a1 : f ≤ a1) (F_count_a1 : Fld Z h0 a1 "java/lang/AbstractStringBuilder" "count" "I" (.int 9)) :
  Con w [] Z mn3 jdk_68_method_9_code 3 none R_ensureCapacityInternal_72 Ts Ts f #[.ref a1, .int 20] h0 (Q_ensureCapacityInternal_72 Z a1 h0) := by
 refine con_of f #[vR a1, vI 20, .unset] (plainFor_of_name pn_0) (fun m => rfl) Zf ?_
 intro C H hX0
 refine r_aloadN H 1 d_j68_9_0 ?_
 refine r_getf H 4 d_j68_9_1 (tw23 hw) F_value_a1 ?_
 refine r_alen H 5 16 d_j68_9_4 A_a2 ?_
 refine r_aloadN H 6 d_j68_9_5 ?_
 refine r_getf H 9 d_j68_9_6 (tw25 hw) F_coder_a1 ?_
 refine r_ishr H 10 16 d_j68_9_9 ?_
 refine r_istoreN H 11 #[vR a1, vI 20, vI 16] d_j68_9_10 ?_
 refine r_iloadN H 12 d_j68_9_11 ?_
 refine r_iloadN H 13 d_j68_9_12 ?_
 refine r_isub H 14 4 d_j68_9_13 ?_
 refine r_ifleF H 17 d_j68_9_14 ?_
 refine r_aloadN H 18 d_j68_9_17 ?_
 refine r_aloadN H 19 d_j68_9_18 ?_
 refine r_getf H 22 d_j68_9_19 (tw23 hw) F_value_a1 ?_
 refine r_aloadN H 23 d_j68_9_22 ?_
 refine r_iloadN H 24 d_j68_9_23 ?_
 refine r_private (a := a1) (argsL := [.int 20]) (rest := [.ref a2, .ref a1]) (W := 2) H 27 d_j68_9_24 (tw149 hw) (tw150 hw) (tw152 hw) (tw151 hw) (tw15 hw) (tw153 hw) E_a1 (lenOf pd_2 rfl) (rm_newCapacity_73 hw Ts a1 a2 c1 h0 f Zf Z0 F_value_a1 A_a2 F_coder_a1) ?_
 rintro _ _ ⟨rfl, rfl⟩
 refine r_aloadN H 28 d_j68_9_27 ?_
 refine r_getf H 31 d_j68_9_28 (tw25 hw) F_coder_a1 ?_
 refine r_ishl H 32 34 d_j68_9_31 ?_
 refine r_static (argsL := [.ref a2, .int 34]) (rest := [.ref a1]) (W := 1) H 35 d_j68_9_32 (tw163 hw) (tw164 hw) (tw135 hw) (tw165 hw) (lenOf pd_22 rfl) (rm_copyOf_76 hw Ts a2 c1 h0 f Zf Z0 A_a2) ?_
 rintro _ hh8 ⟨b2, kc3, rfl, K4, g5, q6, q7⟩
 have q9 := (E_a1.keep K4)
 have q10 := (F_value_a1.keep K4 nin0)
 refine r_putf (ty := (.array .byte)) H 38 d_j68_9_35 (tw23 hw) q10 q9 (Or.inl (tw24 hw)) (tw6 hw) g_a1 ?_
 intro h11 W11 K11 E11 F11
 have k12 : Keep h0 hh8 [a1] := Keep.trans (Keep.refl h0 [a1]) K4 all0
 have k13 : Keep h0 h11 [a1] := Keep.trans k12 K11 (allS (Or.inl (List.mem_of_getElem? (i := 0) rfl)) all0)
 have q14 := ((F_coder_a1.keep K4 nin0).other W11 (Or.inr (slot_ne (Or.inl (tw26 hw)) (Or.inl (tw24 hw)) (by decide) (t := .byte) (t' := (.array .byte)) (by decide) (by decide))))
 have q15 := ((F_count_a1.keep K4 nin0).other W11 (Or.inr (slot_ne (Or.inl (tw38 hw)) (Or.inl (tw24 hw)) (by decide) (t := .int) (t' := (.array .byte)) (by decide) (by decide))))
 have q16 := (q6.keep K11 (ninS (Ne.symm (Nat.ne_of_lt (Nat.lt_of_lt_of_le F_value_a1.lt (nlt nlr g5)))) nin0))
 have q17 := (q7.keep K11)
 exact r_return H d_j68_9_38 (⟨b2, kc3, rfl, k13, (nlt nlr g5), E11, q14, q15, F11, q16, q17⟩)
def Q_getBytes_78 (Z : State) (a2 : Addr) (c1 : ClassId) (h0 : Heap) (v : Option Value) (h : Heap) : Prop := v = none ∧ Keep h0 h [a2] ∧ Ar Z h a2 c1 .byte [.int 49, .int 32, .int 109, .int 97, .int 116, .int 99, .int 104, .int 101, .int 114, .int 32, .int 101, .int 120, .int 112, .int 101, .int 99, .int 116, .int 101, .int 100, .int 44, .int 32, .int 0, .int 0, .int 0, .int 0, .int 0, .int 0, .int 0, .int 0, .int 0, .int 0, .int 0, .int 0, .int 0, .int 0] ∧ Exa Z h a2 "[B"
def R_getBytes_78 : Room := { frames := 1, cells := 0, slots := 0, locals := 18 }
theorem rm_getBytes_78 {w : Bool} {Z : State} {a0 : Array Value} (hw : HW a0 Z) (Ts : List String) (a1 : Addr) (a2 : Addr) (a3 : Addr) (c1 : ClassId) (c2 : ClassId) (cs : Int32) (h0 : Heap) (f : Nat) (Zf : Z.heap.size ≤ f) (Z0 : f ≤ h0.size) (E_a1 : Exa Z h0 a1 "java/lang/String") (F_coder_a1 : Fld Z h0 a1 "java/lang/String" "coder" "B" (.int 0)) (F_value_a1 : Fld Z h0 a1 "java/lang/String" "value" "[B" (.ref a3)) (A_a3 : Ar Z h0 a3 c2 .byte [.int 32, .int 101, .int 120, .int 112, .int 101, .int 99, .int 116, .int 101, .int 100, .int 44, .int 32]) (A_a2 : Ar Z h0 a2 c1 .byte [.int 49, .int 32, .int 109, .int 97, .int 116, .int 99, .int 104, .int 101, .int 114, .int 0, .int 0, .int 0, .int 0, .int 0, .int 0, .int 0, .int 0, .int 0, .int 0, .int 0, .int 0, .int 0, .int 0, .int 0, .int 0, .int 0, .int 0, .int 0, .int 0, .int 0, .int 0, .int 0, .int 0, .int 0]) (g_a2 : f ≤ a2) (E_a2 : Exa Z h0 a2 "[B") (S_cs : G_S_cs Z cs) (hcs : ¬ cs = 0) :
  Con w [] Z mn11 jdk_42_method_147_code 4 none R_getBytes_78 Ts Ts f #[.ref a1, .ref a2, .int 9, .int 0] h0 (Q_getBytes_78 Z a2 c1 h0) := by
 refine con_of f #[vR a1, vR a2, vI 9, vI 0] (plainFor_of_name pn_3) (fun m => rfl) Zf ?_
 intro C H hX0
 refine r_aloadN H 1 d_j42_147_0 ?_
 refine r_virtual (z := mn8) (a := a1) (argsL := []) (rest := []) (W := 0) H 4 d_j42_147_1 (tw78 hw) (tw79 hw) (nf_sel (tw81 hw)) (tw81 hw) (tw80 hw) (tw21 hw) (tw82 hw) E_a1 (lenOf pd_7 rfl) (rm_coder_13 hw Ts a1 cs h0 f Zf Z0 F_coder_a1 S_cs hcs) ?_
 rintro _ _ ⟨rfl, rfl⟩
 refine r_iloadN H 5 d_j42_147_4 ?_
 refine r_icmpneF H 8 d_j42_147_5 rfl (by decide) ?_
 refine r_aloadN H 9 d_j42_147_8 ?_
 refine r_getf H 12 d_j42_147_9 (tw77 hw) F_value_a1 ?_
 refine r_iconst H 13 0 d_j42_147_12 ?_
 refine r_aloadN H 14 d_j42_147_13 ?_
 refine r_iloadN H 15 d_j42_147_14 ?_
 refine r_iloadN H 16 d_j42_147_15 ?_
 refine r_ishl H 17 9 d_j42_147_16 ?_
 refine r_aloadN H 18 d_j42_147_17 ?_
 refine r_getf H 21 d_j42_147_18 (tw77 hw) F_value_a1 ?_
 refine r_alen H 22 11 d_j42_147_21 A_a3 ?_
 refine r_copy (W := 0) H 25 d_j42_147_22 (tw101 hw) (tw104 hw) (tw102 hw) (tw103 hw) A_a3 A_a2 g_a2 ?_
 intro h2 K2 A2
 change Ar Z h2 a2 c1 .byte [.int 49, .int 32, .int 109, .int 97, .int 116, .int 99, .int 104, .int 101, .int 114, .int 32, .int 101, .int 120, .int 112, .int 101, .int 99, .int 116, .int 101, .int 100, .int 44, .int 32, .int 0, .int 0, .int 0, .int 0, .int 0, .int 0, .int 0, .int 0, .int 0, .int 0, .int 0, .int 0, .int 0, .int 0] at A2
 refine r_goto H 43 d_j42_147_25 ?_
 have k3 : Keep h0 h2 [a2] := Keep.trans (Keep.refl h0 [a2]) K2 (allS (Or.inl (List.mem_of_getElem? (i := 0) rfl)) all0)
 have q4 := (E_a2.keep K2)
 exact r_return H d_j42_147_43 (⟨rfl, k3, A2, q4⟩)
def Q_putStringAt_77 (Z : State) (a3 : Addr) (c1 : ClassId) (h0 : Heap) (v : Option Value) (h : Heap) : Prop := v = none ∧ Keep h0 h [a3] ∧ Ar Z h a3 c1 .byte [.int 49, .int 32, .int 109, .int 97, .int 116, .int 99, .int 104, .int 101, .int 114, .int 32, .int 101, .int 120, .int 112, .int 101, .int 99, .int 116, .int 101, .int 100, .int 44, .int 32, .int 0, .int 0, .int 0, .int 0, .int 0, .int 0, .int 0, .int 0, .int 0, .int 0, .int 0, .int 0, .int 0, .int 0] ∧ Exa Z h a3 "[B"
def R_putStringAt_77 : Room := { frames := 2, cells := 0, slots := 0, locals := 33 }
theorem rm_putStringAt_77 {w : Bool} {Z : State} {a0 : Array Value} (hw : HW a0 Z) (Ts : List String) (a1 : Addr) (a2 : Addr) (a3 : Addr) (a4 : Addr) (c1 : ClassId) (c2 : ClassId) (cs : Int32) (h0 : Heap) (f : Nat) (Zf : Z.heap.size ≤ f) (Z0 : f ≤ h0.size) (F_coder_a1 : Fld Z h0 a1 "java/lang/AbstractStringBuilder" "coder" "B" (.int 0)) (E_a2 : Exa Z h0 a2 "java/lang/String") (F_coder_a2 : Fld Z h0 a2 "java/lang/String" "coder" "B" (.int 0)) (E_a1 : Exa Z h0 a1 "java/lang/StringBuilder") (F_value_a1 : Fld Z h0 a1 "java/lang/AbstractStringBuilder" "value" "[B" (.ref a3)) (g_a3 : f ≤ a3) (F_value_a2 : Fld Z h0 a2 "java/lang/String" "value" "[B" (.ref a4)) (A_a4 : Ar Z h0 a4 c2 .byte [.int 32, .int 101, .int 120, .int 112, .int 101, .int 99, .int 116, .int 101, .int 100, .int 44, .int 32]) (A_a3 : Ar Z h0 a3 c1 .byte [.int 49, .int 32, .int 109, .int 97, .int 116, .int 99, .int 104, .int 101, .int 114, .int 0, .int 0, .int 0, .int 0, .int 0, .int 0, .int 0, .int 0, .int 0, .int 0, .int 0, .int 0, .int 0, .int 0, .int 0, .int 0, .int 0, .int 0, .int 0, .int 0, .int 0, .int 0, .int 0, .int 0, .int 0]) (E_a3 : Exa Z h0 a3 "[B") (S_cs : G_S_cs Z cs) (hcs : ¬ cs = 0) :
  Con w [] Z mn12 jdk_68_method_73_code 3 none R_putStringAt_77 Ts Ts f #[.ref a1, .int 9, .ref a2] h0 (Q_putStringAt_77 Z a3 c1 h0) := by
 refine con_of f #[vR a1, vI 9, vR a2] (plainFor_of_name pn_0) (fun m => rfl) Zf ?_
 intro C H hX0
 refine r_aloadN H 1 d_j68_73_0 ?_
 refine r_aloadN H 2 d_j68_73_1 ?_
 refine r_private (a := a1) (argsL := [.ref a2]) (rest := []) (W := 0) H 5 d_j68_73_2 (tw90 hw) (tw91 hw) (tw93 hw) (tw92 hw) (tw15 hw) (tw94 hw) E_a1 (lenOf pd_9 rfl) (rm_inflateIfNeededFor_16 hw Ts a1 a2 cs h0 f Zf Z0 F_coder_a1 E_a2 F_coder_a2 S_cs hcs) ?_
 rintro _ _ ⟨rfl, rfl⟩
 refine r_aloadN H 6 d_j68_73_5 ?_
 refine r_aloadN H 7 d_j68_73_6 ?_
 refine r_getf H 10 d_j68_73_7 (tw23 hw) F_value_a1 ?_
 refine r_iloadN H 11 d_j68_73_10 ?_
 refine r_aloadN H 12 d_j68_73_11 ?_
 refine r_getf H 15 d_j68_73_12 (tw25 hw) F_coder_a1 ?_
 refine r_virtual (z := mn11) (a := a2) (argsL := [.ref a3, .int 9, .int 0]) (rest := []) (W := 0) H 18 d_j68_73_15 (tw96 hw) (tw97 hw) (nf_sel (tw99 hw)) (tw99 hw) (tw98 hw) (tw21 hw) (tw100 hw) E_a2 (lenOf pd_10 rfl) (rm_getBytes_78 hw Ts a2 a3 a4 c1 c2 cs h0 f Zf Z0 E_a2 F_coder_a2 F_value_a2 A_a4 A_a3 g_a3 E_a3 S_cs hcs) ?_
 rintro _ hh5 ⟨rfl, K2, q3, q4⟩
 have k6 : Keep h0 hh5 [a3] := Keep.trans (Keep.refl h0 [a3]) K2 (allS (Or.inl (List.mem_of_getElem? (i := 0) rfl)) all0)
 exact r_return H d_j68_73_18 (⟨rfl, k6, q3, q4⟩)
def Q_append_71 (Z : State) (a1 : Addr) (h0 : Heap) (v : Option Value) (h : Heap) : Prop := ∃ (b2 : Addr) (kc3 : ClassId), v = some (.ref a1) ∧ Keep h0 h [a1] ∧ h0.size ≤ b2 ∧ Exa Z h a1 "java/lang/StringBuilder" ∧ Fld Z h a1 "java/lang/AbstractStringBuilder" "coder" "B" (.int 0) ∧ Fld Z h a1 "java/lang/AbstractStringBuilder" "count" "I" (.int 20) ∧ Fld Z h a1 "java/lang/AbstractStringBuilder" "value" "[B" (.ref b2) ∧ Ar Z h b2 kc3 .byte [.int 49, .int 32, .int 109, .int 97, .int 116, .int 99, .int 104, .int 101, .int 114, .int 32, .int 101, .int 120, .int 112, .int 101, .int 99, .int 116, .int 101, .int 100, .int 44, .int 32, .int 0, .int 0, .int 0, .int 0, .int 0, .int 0, .int 0, .int 0, .int 0, .int 0, .int 0, .int 0, .int 0, .int 0] ∧ Exa Z h b2 "[B"
def R_append_71 : Room := { frames := 4, cells := 1, slots := 34, locals := 62 }
theorem rm_append_71 {w : Bool} {Z : State} {a0 : Array Value} (hw : HW a0 Z) (Ts : List String) (a1 : Addr) (a2 : Addr) (a3 : Addr) (a4 : Addr) (c1 : ClassId) (c2 : ClassId) (cs : Int32) (h0 : Heap) (f : Nat) (Zf : Z.heap.size ≤ f) (Z0 : f ≤ h0.size) (E_a2 : Exa Z h0 a2 "java/lang/String") (F_value_a2 : Fld Z h0 a2 "java/lang/String" "value" "[B" (.ref a4)) (A_a4 : Ar Z h0 a4 c2 .byte [.int 32, .int 101, .int 120, .int 112, .int 101, .int 99, .int 116, .int 101, .int 100, .int 44, .int 32]) (F_coder_a2 : Fld Z h0 a2 "java/lang/String" "coder" "B" (.int 0)) (F_count_a1 : Fld Z h0 a1 "java/lang/AbstractStringBuilder" "count" "I" (.int 9)) (g_a1 : f ≤ a1) (F_value_a1 : Fld Z h0 a1 "java/lang/AbstractStringBuilder" "value" "[B" (.ref a3)) (A_a3 : Ar Z h0 a3 c1 .byte [.int 49, .int 32, .int 109, .int 97, .int 116, .int 99, .int 104, .int 101, .int 114, .int 0, .int 0, .int 0, .int 0, .int 0, .int 0, .int 0]) (F_coder_a1 : Fld Z h0 a1 "java/lang/AbstractStringBuilder" "coder" "B" (.int 0)) (E_a1 : Exa Z h0 a1 "java/lang/StringBuilder") (S_cs : G_S_cs Z cs) (hcs : ¬ cs = 0) :
  Con w [] Z mn13 jdk_68_method_22_code 3 (some (.object "java/lang/AbstractStringBuilder")) R_append_71 Ts Ts f #[.ref a1, .ref a2] h0 (Q_append_71 Z a1 h0) := by
 refine con_of f #[vR a1, vR a2, .unset] (plainFor_of_name pn_0) (fun m => rfl) Zf ?_
 intro C H hX0
 refine r_aloadN H 1 d_j68_22_0 ?_
 refine r_ifnonnullT H 9 d_j68_22_1 ?_
 refine r_aloadN H 10 d_j68_22_9 ?_
 refine r_virtual (z := mn9) (a := a2) (argsL := []) (rest := []) (W := 0) H 13 d_j68_22_10 (tw72 hw) (tw73 hw) (nf_sel (tw75 hw)) (tw75 hw) (tw74 hw) (tw21 hw) (tw76 hw) E_a2 (lenOf pd_8 rfl) (rm_length_36 hw Ts a2 a4 c2 cs h0 f Zf Z0 F_value_a2 A_a4 E_a2 F_coder_a2 S_cs hcs) ?_
 rintro _ _ ⟨rfl, rfl⟩
 refine r_istoreN H 14 #[vR a1, vR a2, vI 11] d_j68_22_13 ?_
 refine r_aloadN H 15 d_j68_22_14 ?_
 refine r_aloadN H 16 d_j68_22_15 ?_
 refine r_getf H 19 d_j68_22_16 (tw37 hw) F_count_a1 ?_
 refine r_iloadN H 20 d_j68_22_19 ?_
 refine r_iadd H 21 20 d_j68_22_20 ?_
 refine r_private (a := a1) (argsL := [.int 20]) (rest := []) (W := 0) H 24 d_j68_22_21 (tw43 hw) (tw44 hw) (tw46 hw) (tw45 hw) (tw15 hw) (tw47 hw) E_a1 (lenOf pd_0 rfl) (rm_ensureCapacityInternal_72 hw Ts a1 a3 c1 h0 f Zf Z0 F_value_a1 A_a3 F_coder_a1 E_a1 g_a1 F_count_a1) ?_
 rintro _ hh12 ⟨b2, kc3, rfl, K4, g5, q6, q7, q8, q9, q10, q11⟩
 refine r_aloadN H 25 d_j68_22_24 ?_
 refine r_aloadN H 26 d_j68_22_25 ?_
 refine r_getf H 29 d_j68_22_26 (tw37 hw) q8 ?_
 refine r_aloadN H 30 d_j68_22_29 ?_
 have q13 := (E_a2.keep K4)
 have q14 := (F_coder_a2.keep K4 (ninS (ne_exa q13 q6 (by decide)) nin0))
 have q15 := (F_value_a2.keep K4 (ninS (ne_exa q13 q6 (by decide)) nin0))
 have q16 := (A_a4.keep K4 (ninS (Ne.symm (ne_ar E_a1 (tw6 hw) A_a4)) nin0))
 refine r_private (a := a1) (argsL := [.int 9, .ref a2]) (rest := []) (W := 0) H 33 d_j68_22_30 (tw85 hw) (tw86 hw) (tw88 hw) (tw87 hw) (tw15 hw) (tw89 hw) q6 (lenOf pd_11 rfl) (rm_putStringAt_77 hw Ts a1 a2 b2 a4 kc3 c2 cs hh12 f Zf (nlt Z0 K4.1) q7 q13 q14 q6 q9 (nlt Z0 g5) q15 q16 q10 q11 S_cs hcs) ?_
 rintro _ hh20 ⟨rfl, K17, q18, q19⟩
 refine r_aloadN H 34 d_j68_22_33 ?_
 refine r_dup H 35 d_j68_22_34 ?_
 have q21 := (q8.keep K17 (ninS (Nat.ne_of_lt (Nat.lt_of_lt_of_le F_count_a1.lt (nlt nlr g5))) nin0))
 refine r_getf H 38 d_j68_22_35 (tw37 hw) q21 ?_
 refine r_iloadN H 39 d_j68_22_38 ?_
 refine r_iadd H 40 20 d_j68_22_39 ?_
 have q22 := (q6.keep K17)
 refine r_putf (ty := .int) H 43 d_j68_22_40 (tw37 hw) q21 q22 (Or.inl (tw38 hw)) (tw6 hw) g_a1 ?_
 intro h23 W23 K23 E23 F23
 refine r_aloadN H 44 d_j68_22_43 ?_
 have k24 : Keep h0 hh12 [a1] := Keep.trans (Keep.refl h0 [a1]) K4 (allS (Or.inl (List.mem_of_getElem? (i := 0) rfl)) all0)
 have k25 : Keep h0 hh20 [a1] := Keep.trans k24 K17 (allS (Or.inr (nlt nlr g5)) all0)
 have k26 : Keep h0 h23 [a1] := Keep.trans k25 K23 (allS (Or.inl (List.mem_of_getElem? (i := 0) rfl)) all0)
 have q27 := ((q7.keep K17 (ninS (Nat.ne_of_lt (Nat.lt_of_lt_of_le F_count_a1.lt (nlt nlr g5))) nin0)).other W23 (Or.inr (slot_ne (Or.inl (tw26 hw)) (Or.inl (tw38 hw)) (by decide) (t := .byte) (t' := .int) (by decide) (by decide))))
 have q28 := ((q9.keep K17 (ninS (Nat.ne_of_lt (Nat.lt_of_lt_of_le F_count_a1.lt (nlt nlr g5))) nin0)).other W23 (Or.inr (slot_ne (Or.inl (tw24 hw)) (Or.inl (tw38 hw)) (by decide) (t := (.array .byte)) (t' := .int) (by decide) (by decide))))
 have q29 := (q18.keep K23 (ninS (Ne.symm (Nat.ne_of_lt (Nat.lt_of_lt_of_le F_count_a1.lt (nlt nlr g5)))) nin0))
 have q30 := (q19.keep K23)
 exact r_areturn H d_j68_22_44 (⟨b2, kc3, rfl, k26, (nlt nlr g5), E23, q27, F23, q28, q29, q30⟩)
def Q_append_70 (Z : State) (a1 : Addr) (h0 : Heap) (v : Option Value) (h : Heap) : Prop := ∃ (b1 : Addr) (kc2 : ClassId), v = some (.ref a1) ∧ Keep h0 h [a1] ∧ h0.size ≤ b1 ∧ Exa Z h a1 "java/lang/StringBuilder" ∧ Fld Z h a1 "java/lang/AbstractStringBuilder" "coder" "B" (.int 0) ∧ Fld Z h a1 "java/lang/AbstractStringBuilder" "count" "I" (.int 20) ∧ Fld Z h a1 "java/lang/AbstractStringBuilder" "value" "[B" (.ref b1) ∧ Ar Z h b1 kc2 .byte [.int 49, .int 32, .int 109, .int 97, .int 116, .int 99, .int 104, .int 101, .int 114, .int 32, .int 101, .int 120, .int 112, .int 101, .int 99, .int 116, .int 101, .int 100, .int 44, .int 32, .int 0, .int 0, .int 0, .int 0, .int 0, .int 0, .int 0, .int 0, .int 0, .int 0, .int 0, .int 0, .int 0, .int 0] ∧ Exa Z h b1 "[B"
def R_append_70 : Room := { frames := 5, cells := 1, slots := 34, locals := 76 }
theorem rm_append_70 {w : Bool} {Z : State} {a0 : Array Value} (hw : HW a0 Z) (Ts : List String) (a1 : Addr) (a2 : Addr) (a3 : Addr) (a4 : Addr) (c1 : ClassId) (c2 : ClassId) (cs : Int32) (h0 : Heap) (f : Nat) (Zf : Z.heap.size ≤ f) (Z0 : f ≤ h0.size) (g_a1 : f ≤ a1) (E_a2 : Exa Z h0 a2 "java/lang/String") (F_value_a2 : Fld Z h0 a2 "java/lang/String" "value" "[B" (.ref a4)) (A_a4 : Ar Z h0 a4 c2 .byte [.int 32, .int 101, .int 120, .int 112, .int 101, .int 99, .int 116, .int 101, .int 100, .int 44, .int 32]) (F_coder_a2 : Fld Z h0 a2 "java/lang/String" "coder" "B" (.int 0)) (F_count_a1 : Fld Z h0 a1 "java/lang/AbstractStringBuilder" "count" "I" (.int 9)) (F_value_a1 : Fld Z h0 a1 "java/lang/AbstractStringBuilder" "value" "[B" (.ref a3)) (A_a3 : Ar Z h0 a3 c1 .byte [.int 49, .int 32, .int 109, .int 97, .int 116, .int 99, .int 104, .int 101, .int 114, .int 0, .int 0, .int 0, .int 0, .int 0, .int 0, .int 0]) (F_coder_a1 : Fld Z h0 a1 "java/lang/AbstractStringBuilder" "coder" "B" (.int 0)) (E_a1 : Exa Z h0 a1 "java/lang/StringBuilder") (S_cs : G_S_cs Z cs) (hcs : ¬ cs = 0) :
  Con w [] Z mn14 jdk_67_method_7_code 2 (some (.object "java/lang/StringBuilder")) R_append_70 Ts Ts f #[.ref a1, .ref a2] h0 (Q_append_70 Z a1 h0) := by
 refine con_of f #[vR a1, vR a2] (plainFor_of_name pn_1) (fun m => rfl) Zf ?_
 intro C H hX0
 refine r_aloadN H 1 d_j67_7_0 ?_
 refine r_aloadN H 2 d_j67_7_1 ?_
 refine r_super (a := a1) (argsL := [.ref a2]) (rest := []) (W := 0) H 5 d_j67_7_2 (tw68 hw) (same_self (tw70 hw) (tw46 hw) rfl (by decide)) (tw69 hw) (tw34 hw) (tw15 hw) (tw71 hw) (Ins.self E_a1) (lenOf pd_12 rfl) (rm_append_71 hw Ts a1 a2 a3 a4 c1 c2 cs h0 f Zf Z0 E_a2 F_value_a2 A_a4 F_coder_a2 F_count_a1 g_a1 F_value_a1 A_a3 F_coder_a1 E_a1 S_cs hcs) ?_
 rintro _ hh11 ⟨b1, kc2, rfl, K3, g4, q5, q6, q7, q8, q9, q10⟩
 refine r_pop H 6 d_j67_7_5 ?_
 refine r_aloadN H 7 d_j67_7_6 ?_
 have k12 : Keep h0 hh11 [a1] := Keep.trans (Keep.refl h0 [a1]) K3 (allS (Or.inl (List.mem_of_getElem? (i := 0) rfl)) all0)
 exact r_areturn H d_j67_7_7 (⟨b1, kc2, rfl, k12, (nlt nlr g4), q5, q6, q7, q8, q9, q10⟩)
def Q_ensureCapacityInternal_81 (Z : State) (h0 : Heap) (v : Option Value) (h : Heap) : Prop := v = none ∧ h0 = h
def R_ensureCapacityInternal_81 : Room := { frames := 0, cells := 0, slots := 0, locals := 0 }
theorem rm_ensureCapacityInternal_81 {w : Bool} {Z : State} {a0 : Array Value} (hw : HW a0 Z) (Ts : List String) (a1 : Addr) (a2 : Addr) (c1 : ClassId) (h0 : Heap) (f : Nat) (Zf : Z.heap.size ≤ f) (Z0 : f ≤ h0.size) (F_value_a1 : Fld Z h0 a1 "java/lang/AbstractStringBuilder" "value" "[B" (.ref a2)) (A_a2 : Ar Z h0 a2 c1 .byte [.int 49, .int 32, .int 109, .int 97, .int 116, .int 99, .int 104, .int 101, .int 114, .int 32, .int 101, .int 120, .int 112, .int 101, .int 99, .int 116, .int 101, .int 100, .int 44, .int 32, .int 0, .int 0, .int 0, .int 0, .int 0, .int 0, .int 0, .int 0, .int 0, .int 0, .int 0, .int 0, .int 0, .int 0]) (F_coder_a1 : Fld Z h0 a1 "java/lang/AbstractStringBuilder" "coder" "B" (.int 0)) :
  Con w [] Z mn3 jdk_68_method_9_code 3 none R_ensureCapacityInternal_81 Ts Ts f #[.ref a1, .int 21] h0 (Q_ensureCapacityInternal_81 Z h0) := by
 refine con_of f #[vR a1, vI 21, .unset] (plainFor_of_name pn_0) (fun m => rfl) Zf ?_
 intro C H hX0
 refine r_aloadN H 1 d_j68_9_0 ?_
 refine r_getf H 4 d_j68_9_1 (tw23 hw) F_value_a1 ?_
 refine r_alen H 5 34 d_j68_9_4 A_a2 ?_
 refine r_aloadN H 6 d_j68_9_5 ?_
 refine r_getf H 9 d_j68_9_6 (tw25 hw) F_coder_a1 ?_
 refine r_ishr H 10 34 d_j68_9_9 ?_
 refine r_istoreN H 11 #[vR a1, vI 21, vI 34] d_j68_9_10 ?_
 refine r_iloadN H 12 d_j68_9_11 ?_
 refine r_iloadN H 13 d_j68_9_12 ?_
 refine r_isub H 14 (-13 : Int32) d_j68_9_13 ?_
 refine r_ifleT H 38 d_j68_9_14 ?_
 exact r_return H d_j68_9_38 (⟨rfl, rfl⟩)
def Q_getChars_82 (Z : State) (a1 : Addr) (i1 : Int32) (c1 : ClassId) (h0 : Heap) (v : Option Value) (h : Heap) : Prop := v = some (.int 20) ∧ Keep h0 h [a1] ∧ Ar Z h a1 c1 .byte [.int 49, .int 32, .int 109, .int 97, .int 116, .int 99, .int 104, .int 101, .int 114, .int 32, .int 101, .int 120, .int 112, .int 101, .int 99, .int 116, .int 101, .int 100, .int 44, .int 32, (.int ((48 : Int32) + i1)), .int 0, .int 0, .int 0, .int 0, .int 0, .int 0, .int 0, .int 0, .int 0, .int 0, .int 0, .int 0, .int 0] ∧ Exa Z h a1 "[B"
def R_getChars_82 : Room := { frames := 0, cells := 0, slots := 0, locals := 0 }
theorem rm_getChars_82 {w : Bool} {Z : State} {a0 : Array Value} (hw : HW a0 Z) (Ts : List String) (a1 : Addr) (i1 : Int32) (c1 : ClassId) (gDigitOnes : Addr) (kDigitOnes : ClassId) (h0 : Heap) (f : Nat) (Zf : Z.heap.size ≤ f) (Z0 : f ≤ h0.size) (A_a1 : Ar Z h0 a1 c1 .byte [.int 49, .int 32, .int 109, .int 97, .int 116, .int 99, .int 104, .int 101, .int 114, .int 32, .int 101, .int 120, .int 112, .int 101, .int 99, .int 116, .int 101, .int 100, .int 44, .int 32, .int 0, .int 0, .int 0, .int 0, .int 0, .int 0, .int 0, .int 0, .int 0, .int 0, .int 0, .int 0, .int 0, .int 0]) (g_a1 : f ≤ a1) (E_a1 : Exa Z h0 a1 "[B") (r_i1 : 0 ≤ i1.toInt ∧ i1.toInt ≤ 9) (S_DigitOnes : G_S_DigitOnes Z gDigitOnes) (A_DigitOnes : G_A_DigitOnes Z gDigitOnes kDigitOnes) :
  Con w [] Z mn5 jdk_33_method_12_code 7 (some .int) R_getChars_82 Ts Ts f #[.int i1, .int 21, .ref a1] h0 (Q_getChars_82 Z a1 i1 c1 h0) := by
 refine con_of f #[vI i1, vI 21, vR a1, .unset, .unset, .unset, .unset] (plainFor_of_name pn_2) (fun m => rfl) Zf ?_
 intro C H hX0
 refine r_iloadN H 1 d_j33_12_0 ?_
 refine r_istore H 3 #[vI i1, vI 21, vR a1, .unset, .unset, vI 21, .unset] d_j33_12_1 ?_
 refine r_iloadN H 4 d_j33_12_3 ?_
 refine r_ifgeT H 11 d_j33_12_4 (by have := r_i1; have : (0 : Int32).toInt = 0 := (by decide); simp only [Int32.lt_iff_toInt_lt, ← Int32.toInt_inj]; omega) ?_
 refine r_iconst H 12 0 d_j33_12_11 ?_
 refine r_istore H 14 #[vI i1, vI 21, vR a1, .unset, .unset, vI 21, vI 0] d_j33_12_12 ?_
 refine r_iload H 16 d_j33_12_14 ?_
 refine r_ifneF H 19 d_j33_12_16 ?_
 refine r_iloadN H 20 d_j33_12_19 ?_
 obtain ⟨p1, ep1, rp1⟩ : ∃ p : Int32, (-i1) = p ∧ -9 ≤ p.toInt ∧ p.toInt ≤ 0 := ⟨_, rfl, (by have := r_i1; have h1 := c_ineg i1; have h2 := rng32 (-i1); omega)⟩
 refine r_ineg H 21 p1 d_j33_12_20 ep1 ?_
 refine r_istoreN H 22 #[vI p1, vI 21, vR a1, .unset, .unset, vI 21, vI 0] d_j33_12_21 ?_
 refine r_iloadN H 23 d_j33_12_22 ?_
 refine r_bipush H 25 (-100 : Int32) d_j33_12_23 ?_
 refine r_icmpgtT H 72 d_j33_12_25 (by have := rp1; have : (-100 : Int32).toInt = -100 := (by decide); simp only [Int32.lt_iff_toInt_lt, ← Int32.toInt_inj]; omega) ?_
 refine r_aloadN H 73 d_j33_12_72 ?_
 refine r_iinc H 76 #[vI p1, vI 21, vR a1, .unset, .unset, vI 20, vI 0] 20 d_j33_12_73 ?_
 refine r_iload H 78 d_j33_12_76 ?_
 refine r_gets H 81 d_j33_12_78 (tw56 hw) S_DigitOnes ?_
 refine r_iloadN H 82 d_j33_12_81 ?_
 refine r_ineg H 83 i1 d_j33_12_82 (by rw [← ep1]; exact own_neg2 i1) ?_
 have q2 := (A_DigitOnes.ext hX0)
 obtain ⟨p3, ep3, rp3⟩ : ∃ p : Int32, ((48 : Int32) + i1) = p ∧ 48 ≤ p.toInt ∧ p.toInt ≤ 57 := ⟨_, rfl, (by have : (48 : Int32).toInt = 48 := (by decide); have := r_i1; have h1 := c_iadd (48 : Int32) i1; have h2 := rng32 ((48 : Int32) + i1); omega)⟩
 refine r_baload (hj := (by have := r_i1; rw [Int32.lt_iff_toInt_lt]; have : (0 : Int32).toInt = 0 := (by decide); omega)) (hv := (by rw [← ep3]; exact own_do i1 (by have := r_i1; omega))) H 84 p3 d_j33_12_83 q2 ?_
 refine r_bastore (hy := (nar_byte_id (by have := rp3; omega))) H 85 p3 d_j33_12_84 A_a1 g_a1 ?_
 intro h4 K4 A4
 change Ar Z h4 a1 c1 .byte [.int 49, .int 32, .int 109, .int 97, .int 116, .int 99, .int 104, .int 101, .int 114, .int 32, .int 101, .int 120, .int 112, .int 101, .int 99, .int 116, .int 101, .int 100, .int 44, .int 32, .int p3, .int 0, .int 0, .int 0, .int 0, .int 0, .int 0, .int 0, .int 0, .int 0, .int 0, .int 0, .int 0, .int 0] at A4
 refine r_iloadN H 86 d_j33_12_85 ?_
 refine r_bipush H 88 (-9 : Int32) d_j33_12_86 ?_
 refine r_icmpgeT (c := (by have := rp1; have : (-9 : Int32).toInt = -9 := (by decide); simp only [Int32.lt_iff_toInt_lt, ← Int32.toInt_inj]; omega)) H 104 d_j33_12_88 ?_
 refine r_iload H 106 d_j33_12_104 ?_
 refine r_ifeqT H 118 d_j33_12_106 ?_
 refine r_iload H 120 d_j33_12_118 ?_
 have k5 : Keep h0 h4 [a1] := Keep.trans (Keep.refl h0 [a1]) K4 (allS (Or.inl (List.mem_of_getElem? (i := 0) rfl)) all0)
 have q6 := (E_a1.keep K4)
 subst ep1 ep3
 exact r_ireturn H d_j33_12_120 (⟨rfl, k5, A4, q6⟩)
def Q_append_80 (Z : State) (a1 : Addr) (a2 : Addr) (i1 : Int32) (c1 : ClassId) (h0 : Heap) (v : Option Value) (h : Heap) : Prop := v = some (.ref a1) ∧ Keep h0 h [a1, a2] ∧ Exa Z h a1 "java/lang/StringBuilder" ∧ Fld Z h a1 "java/lang/AbstractStringBuilder" "coder" "B" (.int 0) ∧ Fld Z h a1 "java/lang/AbstractStringBuilder" "count" "I" (.int 21) ∧ Fld Z h a1 "java/lang/AbstractStringBuilder" "value" "[B" (.ref a2) ∧ Ar Z h a2 c1 .byte [.int 49, .int 32, .int 109, .int 97, .int 116, .int 99, .int 104, .int 101, .int 114, .int 32, .int 101, .int 120, .int 112, .int 101, .int 99, .int 116, .int 101, .int 100, .int 44, .int 32, (.int ((48 : Int32) + i1)), .int 0, .int 0, .int 0, .int 0, .int 0, .int 0, .int 0, .int 0, .int 0, .int 0, .int 0, .int 0, .int 0] ∧ Exa Z h a2 "[B"
def R_append_80 : Room := { frames := 1, cells := 0, slots := 0, locals := 18 }
theorem rm_append_80 {w : Bool} {Z : State} {a0 : Array Value} (hw : HW a0 Z) (Ts : List String) (a1 : Addr) (a2 : Addr) (i1 : Int32) (c1 : ClassId) (cs : Int32) (gDigitOnes : Addr) (kDigitOnes : ClassId) (h0 : Heap) (f : Nat) (Zf : Z.heap.size ≤ f) (Z0 : f ≤ h0.size) (F_count_a1 : Fld Z h0 a1 "java/lang/AbstractStringBuilder" "count" "I" (.int 20)) (F_value_a1 : Fld Z h0 a1 "java/lang/AbstractStringBuilder" "value" "[B" (.ref a2)) (A_a2 : Ar Z h0 a2 c1 .byte [.int 49, .int 32, .int 109, .int 97, .int 116, .int 99, .int 104, .int 101, .int 114, .int 32, .int 101, .int 120, .int 112, .int 101, .int 99, .int 116, .int 101, .int 100, .int 44, .int 32, .int 0, .int 0, .int 0, .int 0, .int 0, .int 0, .int 0, .int 0, .int 0, .int 0, .int 0, .int 0, .int 0, .int 0]) (F_coder_a1 : Fld Z h0 a1 "java/lang/AbstractStringBuilder" "coder" "B" (.int 0)) (E_a1 : Exa Z h0 a1 "java/lang/StringBuilder") (g_a2 : f ≤ a2) (E_a2 : Exa Z h0 a2 "[B") (g_a1 : f ≤ a1) (r_i1 : 0 ≤ i1.toInt ∧ i1.toInt ≤ 9) (S_cs : G_S_cs Z cs) (S_DigitOnes : G_S_DigitOnes Z gDigitOnes) (A_DigitOnes : G_A_DigitOnes Z gDigitOnes kDigitOnes) (hcs : ¬ cs = 0) :
  Con w [] Z mn6 jdk_68_method_32_code 4 (some (.object "java/lang/AbstractStringBuilder")) R_append_80 Ts Ts f #[.ref a1, .int i1] h0 (Q_append_80 Z a1 a2 i1 c1 h0) := by
 refine con_of f #[vR a1, vI i1, .unset, .unset] (plainFor_of_name pn_0) (fun m => rfl) Zf ?_
 intro C H hX0
 refine r_aloadN H 1 d_j68_32_0 ?_
 refine r_getf H 4 d_j68_32_1 (tw37 hw) F_count_a1 ?_
 refine r_istoreN H 5 #[vR a1, vI i1, vI 20, .unset] d_j68_32_4 ?_
 refine r_iloadN H 6 d_j68_32_5 ?_
 refine r_iloadN H 7 d_j68_32_6 ?_
 refine r_static (argsL := [.int i1]) (rest := [.int 20]) (W := 1) H 10 d_j68_32_7 (tw39 hw) (tw40 hw) (tw41 hw) (tw42 hw) (lenOf pd_2 rfl) (rm_stringSize_6 hw Ts i1 h0 f Zf Z0 r_i1) ?_
 rintro _ _ ⟨rfl, rfl⟩
 refine r_iadd H 11 21 d_j68_32_10 ?_
 refine r_istoreN H 12 #[vR a1, vI i1, vI 20, vI 21] d_j68_32_11 ?_
 refine r_aloadN H 13 d_j68_32_12 ?_
 refine r_iloadN H 14 d_j68_32_13 ?_
 refine r_private (a := a1) (argsL := [.int 21]) (rest := []) (W := 0) H 17 d_j68_32_14 (tw43 hw) (tw44 hw) (tw46 hw) (tw45 hw) (tw15 hw) (tw47 hw) E_a1 (lenOf pd_0 rfl) (rm_ensureCapacityInternal_81 hw Ts a1 a2 c1 h0 f Zf Z0 F_value_a1 A_a2 F_coder_a1) ?_
 rintro _ _ ⟨rfl, rfl⟩
 refine r_aloadN H 18 d_j68_32_17 ?_
 refine r_virtual (z := mn4) (a := a1) (argsL := []) (rest := []) (W := 0) H 21 d_j68_32_18 (tw48 hw) (tw49 hw) (nf_sel (tw51 hw)) (tw51 hw) (tw50 hw) (tw15 hw) (tw52 hw) E_a1 (lenOf pd_3 rfl) (rm_isLatin1_8 hw Ts a1 cs h0 f Zf Z0 F_coder_a1 S_cs hcs) ?_
 rintro _ _ ⟨rfl, rfl⟩
 refine r_ifeqF H 24 d_j68_32_21 (by decide) ?_
 refine r_iloadN H 25 d_j68_32_24 ?_
 refine r_iloadN H 26 d_j68_32_25 ?_
 refine r_aloadN H 27 d_j68_32_26 ?_
 refine r_getf H 30 d_j68_32_27 (tw23 hw) F_value_a1 ?_
 refine r_static (argsL := [.int i1, .int 21, .ref a2]) (rest := []) (W := 0) H 33 d_j68_32_30 (tw53 hw) (tw54 hw) (tw41 hw) (tw55 hw) (lenOf pd_4 rfl) (rm_getChars_82 hw Ts a2 i1 c1 gDigitOnes kDigitOnes h0 f Zf Z0 A_a2 g_a2 E_a2 r_i1 S_DigitOnes A_DigitOnes) ?_
 rintro _ hh7 ⟨rfl, K4, q5, q6⟩
 refine r_pop H 34 d_j68_32_33 ?_
 refine r_goto H 48 d_j68_32_34 ?_
 refine r_aloadN H 49 d_j68_32_48 ?_
 refine r_iloadN H 50 d_j68_32_49 ?_
 have q8 := (E_a1.keep K4)
 have q9 := (F_count_a1.keep K4 (ninS (ne_exa q8 q6 (by decide)) nin0))
 refine r_putf (ty := .int) H 53 d_j68_32_50 (tw37 hw) q9 q8 (Or.inl (tw38 hw)) (tw6 hw) g_a1 ?_
 intro h10 W10 K10 E10 F10
 refine r_aloadN H 54 d_j68_32_53 ?_
 have k11 : Keep h0 hh7 [a1, a2] := Keep.trans (Keep.refl h0 [a1, a2]) K4 (allS (Or.inl (List.mem_of_getElem? (i := 1) rfl)) all0)
 have k12 : Keep h0 h10 [a1, a2] := Keep.trans k11 K10 (allS (Or.inl (List.mem_of_getElem? (i := 0) rfl)) all0)
 have q13 := (q6.keep K10)
 have q14 := ((F_coder_a1.keep K4 (ninS (ne_exa E10 q13 (by decide)) nin0)).other W10 (Or.inr (slot_ne (Or.inl (tw26 hw)) (Or.inl (tw38 hw)) (by decide) (t := .byte) (t' := .int) (by decide) (by decide))))
 have q15 := ((F_value_a1.keep K4 (ninS (ne_exa E10 q13 (by decide)) nin0)).other W10 (Or.inr (slot_ne (Or.inl (tw24 hw)) (Or.inl (tw38 hw)) (by decide) (t := (.array .byte)) (t' := .int) (by decide) (by decide))))
 have q16 := (q5.keep K10 (ninS (ne_exa q13 E10 (by decide)) nin0))
 exact r_areturn H d_j68_32_54 (⟨rfl, k12, E10, q14, F10, q15, q16, q13⟩)
def Q_append_79 (Z : State) (a1 : Addr) (a2 : Addr) (i1 : Int32) (c1 : ClassId) (h0 : Heap) (v : Option Value) (h : Heap) : Prop := v = some (.ref a1) ∧ Keep h0 h [a1, a2] ∧ Exa Z h a1 "java/lang/StringBuilder" ∧ Fld Z h a1 "java/lang/AbstractStringBuilder" "coder" "B" (.int 0) ∧ Fld Z h a1 "java/lang/AbstractStringBuilder" "count" "I" (.int 21) ∧ Fld Z h a1 "java/lang/AbstractStringBuilder" "value" "[B" (.ref a2) ∧ Ar Z h a2 c1 .byte [.int 49, .int 32, .int 109, .int 97, .int 116, .int 99, .int 104, .int 101, .int 114, .int 32, .int 101, .int 120, .int 112, .int 101, .int 99, .int 116, .int 101, .int 100, .int 44, .int 32, (.int ((48 : Int32) + i1)), .int 0, .int 0, .int 0, .int 0, .int 0, .int 0, .int 0, .int 0, .int 0, .int 0, .int 0, .int 0, .int 0] ∧ Exa Z h a2 "[B"
def R_append_79 : Room := { frames := 2, cells := 0, slots := 0, locals := 33 }
theorem rm_append_79 {w : Bool} {Z : State} {a0 : Array Value} (hw : HW a0 Z) (Ts : List String) (a1 : Addr) (a2 : Addr) (i1 : Int32) (c1 : ClassId) (cs : Int32) (gDigitOnes : Addr) (kDigitOnes : ClassId) (h0 : Heap) (f : Nat) (Zf : Z.heap.size ≤ f) (Z0 : f ≤ h0.size) (g_a2 : f ≤ a2) (g_a1 : f ≤ a1) (F_count_a1 : Fld Z h0 a1 "java/lang/AbstractStringBuilder" "count" "I" (.int 20)) (F_value_a1 : Fld Z h0 a1 "java/lang/AbstractStringBuilder" "value" "[B" (.ref a2)) (A_a2 : Ar Z h0 a2 c1 .byte [.int 49, .int 32, .int 109, .int 97, .int 116, .int 99, .int 104, .int 101, .int 114, .int 32, .int 101, .int 120, .int 112, .int 101, .int 99, .int 116, .int 101, .int 100, .int 44, .int 32, .int 0, .int 0, .int 0, .int 0, .int 0, .int 0, .int 0, .int 0, .int 0, .int 0, .int 0, .int 0, .int 0, .int 0]) (F_coder_a1 : Fld Z h0 a1 "java/lang/AbstractStringBuilder" "coder" "B" (.int 0)) (E_a1 : Exa Z h0 a1 "java/lang/StringBuilder") (E_a2 : Exa Z h0 a2 "[B") (r_i1 : 0 ≤ i1.toInt ∧ i1.toInt ≤ 9) (S_cs : G_S_cs Z cs) (S_DigitOnes : G_S_DigitOnes Z gDigitOnes) (A_DigitOnes : G_A_DigitOnes Z gDigitOnes kDigitOnes) (hcs : ¬ cs = 0) :
  Con w [] Z mn7 jdk_67_method_15_code 2 (some (.object "java/lang/StringBuilder")) R_append_79 Ts Ts f #[.ref a1, .int i1] h0 (Q_append_79 Z a1 a2 i1 c1 h0) := by
 refine con_of f #[vR a1, vI i1] (plainFor_of_name pn_1) (fun m => rfl) Zf ?_
 intro C H hX0
 refine r_aloadN H 1 d_j67_15_0 ?_
 refine r_iloadN H 2 d_j67_15_1 ?_
 refine r_super (a := a1) (argsL := [.int i1]) (rest := []) (W := 0) H 5 d_j67_15_2 (tw32 hw) (same_self (tw35 hw) (tw46 hw) rfl (by decide)) (tw33 hw) (tw34 hw) (tw15 hw) (tw36 hw) (Ins.self E_a1) (lenOf pd_5 rfl) (rm_append_80 hw Ts a1 a2 i1 c1 cs gDigitOnes kDigitOnes h0 f Zf Z0 F_count_a1 F_value_a1 A_a2 F_coder_a1 E_a1 g_a2 E_a2 g_a1 r_i1 S_cs S_DigitOnes A_DigitOnes hcs) ?_
 rintro _ hh8 ⟨rfl, K1, q2, q3, q4, q5, q6, q7⟩
 refine r_pop H 6 d_j67_15_5 ?_
 refine r_aloadN H 7 d_j67_15_6 ?_
 have k9 : Keep h0 hh8 [a1, a2] := Keep.trans (Keep.refl h0 [a1, a2]) K1 (allS (Or.inl (List.mem_of_getElem? (i := 0) rfl)) (allS (Or.inl (List.mem_of_getElem? (i := 1) rfl)) all0))
 exact r_areturn H d_j67_15_7 (⟨rfl, k9, q2, q3, q4, q5, q6, q7⟩)
def Q_ensureCapacityInternal_85 (Z : State) (h0 : Heap) (v : Option Value) (h : Heap) : Prop := v = none ∧ h0 = h
def R_ensureCapacityInternal_85 : Room := { frames := 0, cells := 0, slots := 0, locals := 0 }
theorem rm_ensureCapacityInternal_85 {w : Bool} {Z : State} {a0 : Array Value} (hw : HW a0 Z) (Ts : List String) (a1 : Addr) (a2 : Addr) (i1 : Int32) (c1 : ClassId) (h0 : Heap) (f : Nat) (Zf : Z.heap.size ≤ f) (Z0 : f ≤ h0.size) (F_value_a1 : Fld Z h0 a1 "java/lang/AbstractStringBuilder" "value" "[B" (.ref a2)) (A_a2 : Ar Z h0 a2 c1 .byte [.int 49, .int 32, .int 109, .int 97, .int 116, .int 99, .int 104, .int 101, .int 114, .int 32, .int 101, .int 120, .int 112, .int 101, .int 99, .int 116, .int 101, .int 100, .int 44, .int 32, .int i1, .int 0, .int 0, .int 0, .int 0, .int 0, .int 0, .int 0, .int 0, .int 0, .int 0, .int 0, .int 0, .int 0]) (F_coder_a1 : Fld Z h0 a1 "java/lang/AbstractStringBuilder" "coder" "B" (.int 0)) :
  Con w [] Z mn3 jdk_68_method_9_code 3 none R_ensureCapacityInternal_85 Ts Ts f #[.ref a1, .int 31] h0 (Q_ensureCapacityInternal_85 Z h0) := by
 refine con_of f #[vR a1, vI 31, .unset] (plainFor_of_name pn_0) (fun m => rfl) Zf ?_
 intro C H hX0
 refine r_aloadN H 1 d_j68_9_0 ?_
 refine r_getf H 4 d_j68_9_1 (tw23 hw) F_value_a1 ?_
 refine r_alen H 5 34 d_j68_9_4 A_a2 ?_
 refine r_aloadN H 6 d_j68_9_5 ?_
 refine r_getf H 9 d_j68_9_6 (tw25 hw) F_coder_a1 ?_
 refine r_ishr H 10 34 d_j68_9_9 ?_
 refine r_istoreN H 11 #[vR a1, vI 31, vI 34] d_j68_9_10 ?_
 refine r_iloadN H 12 d_j68_9_11 ?_
 refine r_iloadN H 13 d_j68_9_12 ?_
 refine r_isub H 14 (-3 : Int32) d_j68_9_13 ?_
 refine r_ifleT H 38 d_j68_9_14 ?_
 exact r_return H d_j68_9_38 (⟨rfl, rfl⟩)
def Q_getBytes_87 (Z : State) (a2 : Addr) (i1 : Int32) (c1 : ClassId) (h0 : Heap) (v : Option Value) (h : Heap) : Prop := v = none ∧ Keep h0 h [a2] ∧ Ar Z h a2 c1 .byte [.int 49, .int 32, .int 109, .int 97, .int 116, .int 99, .int 104, .int 101, .int 114, .int 32, .int 101, .int 120, .int 112, .int 101, .int 99, .int 116, .int 101, .int 100, .int 44, .int 32, .int i1, .int 32, .int 114, .int 101, .int 99, .int 111, .int 114, .int 100, .int 101, .int 100, .int 46, .int 0, .int 0, .int 0] ∧ Exa Z h a2 "[B"
def R_getBytes_87 : Room := { frames := 1, cells := 0, slots := 0, locals := 18 }
theorem rm_getBytes_87 {w : Bool} {Z : State} {a0 : Array Value} (hw : HW a0 Z) (Ts : List String) (a1 : Addr) (a2 : Addr) (a3 : Addr) (i1 : Int32) (c1 : ClassId) (c2 : ClassId) (cs : Int32) (h0 : Heap) (f : Nat) (Zf : Z.heap.size ≤ f) (Z0 : f ≤ h0.size) (E_a1 : Exa Z h0 a1 "java/lang/String") (F_coder_a1 : Fld Z h0 a1 "java/lang/String" "coder" "B" (.int 0)) (F_value_a1 : Fld Z h0 a1 "java/lang/String" "value" "[B" (.ref a3)) (A_a3 : Ar Z h0 a3 c2 .byte [.int 32, .int 114, .int 101, .int 99, .int 111, .int 114, .int 100, .int 101, .int 100, .int 46]) (A_a2 : Ar Z h0 a2 c1 .byte [.int 49, .int 32, .int 109, .int 97, .int 116, .int 99, .int 104, .int 101, .int 114, .int 32, .int 101, .int 120, .int 112, .int 101, .int 99, .int 116, .int 101, .int 100, .int 44, .int 32, .int i1, .int 0, .int 0, .int 0, .int 0, .int 0, .int 0, .int 0, .int 0, .int 0, .int 0, .int 0, .int 0, .int 0]) (g_a2 : f ≤ a2) (E_a2 : Exa Z h0 a2 "[B") (S_cs : G_S_cs Z cs) (hcs : ¬ cs = 0) :
  Con w [] Z mn11 jdk_42_method_147_code 4 none R_getBytes_87 Ts Ts f #[.ref a1, .ref a2, .int 21, .int 0] h0 (Q_getBytes_87 Z a2 i1 c1 h0) := by
 refine con_of f #[vR a1, vR a2, vI 21, vI 0] (plainFor_of_name pn_3) (fun m => rfl) Zf ?_
 intro C H hX0
 refine r_aloadN H 1 d_j42_147_0 ?_
 refine r_virtual (z := mn8) (a := a1) (argsL := []) (rest := []) (W := 0) H 4 d_j42_147_1 (tw78 hw) (tw79 hw) (nf_sel (tw81 hw)) (tw81 hw) (tw80 hw) (tw21 hw) (tw82 hw) E_a1 (lenOf pd_7 rfl) (rm_coder_13 hw Ts a1 cs h0 f Zf Z0 F_coder_a1 S_cs hcs) ?_
 rintro _ _ ⟨rfl, rfl⟩
 refine r_iloadN H 5 d_j42_147_4 ?_
 refine r_icmpneF H 8 d_j42_147_5 rfl (by decide) ?_
 refine r_aloadN H 9 d_j42_147_8 ?_
 refine r_getf H 12 d_j42_147_9 (tw77 hw) F_value_a1 ?_
 refine r_iconst H 13 0 d_j42_147_12 ?_
 refine r_aloadN H 14 d_j42_147_13 ?_
 refine r_iloadN H 15 d_j42_147_14 ?_
 refine r_iloadN H 16 d_j42_147_15 ?_
 refine r_ishl H 17 21 d_j42_147_16 ?_
 refine r_aloadN H 18 d_j42_147_17 ?_
 refine r_getf H 21 d_j42_147_18 (tw77 hw) F_value_a1 ?_
 refine r_alen H 22 10 d_j42_147_21 A_a3 ?_
 refine r_copy (W := 0) H 25 d_j42_147_22 (tw101 hw) (tw104 hw) (tw102 hw) (tw103 hw) A_a3 A_a2 g_a2 ?_
 intro h2 K2 A2
 change Ar Z h2 a2 c1 .byte [.int 49, .int 32, .int 109, .int 97, .int 116, .int 99, .int 104, .int 101, .int 114, .int 32, .int 101, .int 120, .int 112, .int 101, .int 99, .int 116, .int 101, .int 100, .int 44, .int 32, .int i1, .int 32, .int 114, .int 101, .int 99, .int 111, .int 114, .int 100, .int 101, .int 100, .int 46, .int 0, .int 0, .int 0] at A2
 refine r_goto H 43 d_j42_147_25 ?_
 have k3 : Keep h0 h2 [a2] := Keep.trans (Keep.refl h0 [a2]) K2 (allS (Or.inl (List.mem_of_getElem? (i := 0) rfl)) all0)
 have q4 := (E_a2.keep K2)
 exact r_return H d_j42_147_43 (⟨rfl, k3, A2, q4⟩)
def Q_putStringAt_86 (Z : State) (a3 : Addr) (i1 : Int32) (c1 : ClassId) (h0 : Heap) (v : Option Value) (h : Heap) : Prop := v = none ∧ Keep h0 h [a3] ∧ Ar Z h a3 c1 .byte [.int 49, .int 32, .int 109, .int 97, .int 116, .int 99, .int 104, .int 101, .int 114, .int 32, .int 101, .int 120, .int 112, .int 101, .int 99, .int 116, .int 101, .int 100, .int 44, .int 32, .int i1, .int 32, .int 114, .int 101, .int 99, .int 111, .int 114, .int 100, .int 101, .int 100, .int 46, .int 0, .int 0, .int 0] ∧ Exa Z h a3 "[B"
def R_putStringAt_86 : Room := { frames := 2, cells := 0, slots := 0, locals := 33 }
theorem rm_putStringAt_86 {w : Bool} {Z : State} {a0 : Array Value} (hw : HW a0 Z) (Ts : List String) (a1 : Addr) (a2 : Addr) (a3 : Addr) (a4 : Addr) (i1 : Int32) (c1 : ClassId) (c2 : ClassId) (cs : Int32) (h0 : Heap) (f : Nat) (Zf : Z.heap.size ≤ f) (Z0 : f ≤ h0.size) (F_coder_a1 : Fld Z h0 a1 "java/lang/AbstractStringBuilder" "coder" "B" (.int 0)) (E_a2 : Exa Z h0 a2 "java/lang/String") (F_coder_a2 : Fld Z h0 a2 "java/lang/String" "coder" "B" (.int 0)) (E_a1 : Exa Z h0 a1 "java/lang/StringBuilder") (F_value_a1 : Fld Z h0 a1 "java/lang/AbstractStringBuilder" "value" "[B" (.ref a3)) (g_a3 : f ≤ a3) (F_value_a2 : Fld Z h0 a2 "java/lang/String" "value" "[B" (.ref a4)) (A_a4 : Ar Z h0 a4 c2 .byte [.int 32, .int 114, .int 101, .int 99, .int 111, .int 114, .int 100, .int 101, .int 100, .int 46]) (A_a3 : Ar Z h0 a3 c1 .byte [.int 49, .int 32, .int 109, .int 97, .int 116, .int 99, .int 104, .int 101, .int 114, .int 32, .int 101, .int 120, .int 112, .int 101, .int 99, .int 116, .int 101, .int 100, .int 44, .int 32, .int i1, .int 0, .int 0, .int 0, .int 0, .int 0, .int 0, .int 0, .int 0, .int 0, .int 0, .int 0, .int 0, .int 0]) (E_a3 : Exa Z h0 a3 "[B") (S_cs : G_S_cs Z cs) (hcs : ¬ cs = 0) :
  Con w [] Z mn12 jdk_68_method_73_code 3 none R_putStringAt_86 Ts Ts f #[.ref a1, .int 21, .ref a2] h0 (Q_putStringAt_86 Z a3 i1 c1 h0) := by
 refine con_of f #[vR a1, vI 21, vR a2] (plainFor_of_name pn_0) (fun m => rfl) Zf ?_
 intro C H hX0
 refine r_aloadN H 1 d_j68_73_0 ?_
 refine r_aloadN H 2 d_j68_73_1 ?_
 refine r_private (a := a1) (argsL := [.ref a2]) (rest := []) (W := 0) H 5 d_j68_73_2 (tw90 hw) (tw91 hw) (tw93 hw) (tw92 hw) (tw15 hw) (tw94 hw) E_a1 (lenOf pd_9 rfl) (rm_inflateIfNeededFor_16 hw Ts a1 a2 cs h0 f Zf Z0 F_coder_a1 E_a2 F_coder_a2 S_cs hcs) ?_
 rintro _ _ ⟨rfl, rfl⟩
 refine r_aloadN H 6 d_j68_73_5 ?_
 refine r_aloadN H 7 d_j68_73_6 ?_
 refine r_getf H 10 d_j68_73_7 (tw23 hw) F_value_a1 ?_
 refine r_iloadN H 11 d_j68_73_10 ?_
 refine r_aloadN H 12 d_j68_73_11 ?_
 refine r_getf H 15 d_j68_73_12 (tw25 hw) F_coder_a1 ?_
 refine r_virtual (z := mn11) (a := a2) (argsL := [.ref a3, .int 21, .int 0]) (rest := []) (W := 0) H 18 d_j68_73_15 (tw96 hw) (tw97 hw) (nf_sel (tw99 hw)) (tw99 hw) (tw98 hw) (tw21 hw) (tw100 hw) E_a2 (lenOf pd_10 rfl) (rm_getBytes_87 hw Ts a2 a3 a4 i1 c1 c2 cs h0 f Zf Z0 E_a2 F_coder_a2 F_value_a2 A_a4 A_a3 g_a3 E_a3 S_cs hcs) ?_
 rintro _ hh5 ⟨rfl, K2, q3, q4⟩
 have k6 : Keep h0 hh5 [a3] := Keep.trans (Keep.refl h0 [a3]) K2 (allS (Or.inl (List.mem_of_getElem? (i := 0) rfl)) all0)
 exact r_return H d_j68_73_18 (⟨rfl, k6, q3, q4⟩)
def Q_append_84 (Z : State) (a1 : Addr) (a3 : Addr) (i1 : Int32) (c1 : ClassId) (h0 : Heap) (v : Option Value) (h : Heap) : Prop := v = some (.ref a1) ∧ Keep h0 h [a1, a3] ∧ Exa Z h a1 "java/lang/StringBuilder" ∧ Fld Z h a1 "java/lang/AbstractStringBuilder" "coder" "B" (.int 0) ∧ Fld Z h a1 "java/lang/AbstractStringBuilder" "count" "I" (.int 31) ∧ Fld Z h a1 "java/lang/AbstractStringBuilder" "value" "[B" (.ref a3) ∧ Ar Z h a3 c1 .byte [.int 49, .int 32, .int 109, .int 97, .int 116, .int 99, .int 104, .int 101, .int 114, .int 32, .int 101, .int 120, .int 112, .int 101, .int 99, .int 116, .int 101, .int 100, .int 44, .int 32, .int i1, .int 32, .int 114, .int 101, .int 99, .int 111, .int 114, .int 100, .int 101, .int 100, .int 46, .int 0, .int 0, .int 0] ∧ Exa Z h a3 "[B"
def R_append_84 : Room := { frames := 3, cells := 0, slots := 0, locals := 47 }
theorem rm_append_84 {w : Bool} {Z : State} {a0 : Array Value} (hw : HW a0 Z) (Ts : List String) (a1 : Addr) (a2 : Addr) (a3 : Addr) (a4 : Addr) (i1 : Int32) (c1 : ClassId) (c2 : ClassId) (cs : Int32) (h0 : Heap) (f : Nat) (Zf : Z.heap.size ≤ f) (Z0 : f ≤ h0.size) (E_a2 : Exa Z h0 a2 "java/lang/String") (F_value_a2 : Fld Z h0 a2 "java/lang/String" "value" "[B" (.ref a4)) (A_a4 : Ar Z h0 a4 c2 .byte [.int 32, .int 114, .int 101, .int 99, .int 111, .int 114, .int 100, .int 101, .int 100, .int 46]) (F_coder_a2 : Fld Z h0 a2 "java/lang/String" "coder" "B" (.int 0)) (F_count_a1 : Fld Z h0 a1 "java/lang/AbstractStringBuilder" "count" "I" (.int 21)) (F_value_a1 : Fld Z h0 a1 "java/lang/AbstractStringBuilder" "value" "[B" (.ref a3)) (A_a3 : Ar Z h0 a3 c1 .byte [.int 49, .int 32, .int 109, .int 97, .int 116, .int 99, .int 104, .int 101, .int 114, .int 32, .int 101, .int 120, .int 112, .int 101, .int 99, .int 116, .int 101, .int 100, .int 44, .int 32, .int i1, .int 0, .int 0, .int 0, .int 0, .int 0, .int 0, .int 0, .int 0, .int 0, .int 0, .int 0, .int 0, .int 0]) (F_coder_a1 : Fld Z h0 a1 "java/lang/AbstractStringBuilder" "coder" "B" (.int 0)) (E_a1 : Exa Z h0 a1 "java/lang/StringBuilder") (g_a3 : f ≤ a3) (E_a3 : Exa Z h0 a3 "[B") (g_a1 : f ≤ a1) (S_cs : G_S_cs Z cs) (hcs : ¬ cs = 0) :
  Con w [] Z mn13 jdk_68_method_22_code 3 (some (.object "java/lang/AbstractStringBuilder")) R_append_84 Ts Ts f #[.ref a1, .ref a2] h0 (Q_append_84 Z a1 a3 i1 c1 h0) := by
 refine con_of f #[vR a1, vR a2, .unset] (plainFor_of_name pn_0) (fun m => rfl) Zf ?_
 intro C H hX0
 refine r_aloadN H 1 d_j68_22_0 ?_
 refine r_ifnonnullT H 9 d_j68_22_1 ?_
 refine r_aloadN H 10 d_j68_22_9 ?_
 refine r_virtual (z := mn9) (a := a2) (argsL := []) (rest := []) (W := 0) H 13 d_j68_22_10 (tw72 hw) (tw73 hw) (nf_sel (tw75 hw)) (tw75 hw) (tw74 hw) (tw21 hw) (tw76 hw) E_a2 (lenOf pd_8 rfl) (rm_length_51 hw Ts a2 a4 c2 cs h0 f Zf Z0 F_value_a2 A_a4 E_a2 F_coder_a2 S_cs hcs) ?_
 rintro _ _ ⟨rfl, rfl⟩
 refine r_istoreN H 14 #[vR a1, vR a2, vI 10] d_j68_22_13 ?_
 refine r_aloadN H 15 d_j68_22_14 ?_
 refine r_aloadN H 16 d_j68_22_15 ?_
 refine r_getf H 19 d_j68_22_16 (tw37 hw) F_count_a1 ?_
 refine r_iloadN H 20 d_j68_22_19 ?_
 refine r_iadd H 21 31 d_j68_22_20 ?_
 refine r_private (a := a1) (argsL := [.int 31]) (rest := []) (W := 0) H 24 d_j68_22_21 (tw43 hw) (tw44 hw) (tw46 hw) (tw45 hw) (tw15 hw) (tw47 hw) E_a1 (lenOf pd_0 rfl) (rm_ensureCapacityInternal_85 hw Ts a1 a3 i1 c1 h0 f Zf Z0 F_value_a1 A_a3 F_coder_a1) ?_
 rintro _ _ ⟨rfl, rfl⟩
 refine r_aloadN H 25 d_j68_22_24 ?_
 refine r_aloadN H 26 d_j68_22_25 ?_
 refine r_getf H 29 d_j68_22_26 (tw37 hw) F_count_a1 ?_
 refine r_aloadN H 30 d_j68_22_29 ?_
 refine r_private (a := a1) (argsL := [.int 21, .ref a2]) (rest := []) (W := 0) H 33 d_j68_22_30 (tw85 hw) (tw86 hw) (tw88 hw) (tw87 hw) (tw15 hw) (tw89 hw) E_a1 (lenOf pd_11 rfl) (rm_putStringAt_86 hw Ts a1 a2 a3 a4 i1 c1 c2 cs h0 f Zf Z0 F_coder_a1 E_a2 F_coder_a2 E_a1 F_value_a1 g_a3 F_value_a2 A_a4 A_a3 E_a3 S_cs hcs) ?_
 rintro _ hh6 ⟨rfl, K3, q4, q5⟩
 refine r_aloadN H 34 d_j68_22_33 ?_
 refine r_dup H 35 d_j68_22_34 ?_
 have q7 := (E_a1.keep K3)
 have q8 := (F_count_a1.keep K3 (ninS (ne_exa q7 q5 (by decide)) nin0))
 refine r_getf H 38 d_j68_22_35 (tw37 hw) q8 ?_
 refine r_iloadN H 39 d_j68_22_38 ?_
 refine r_iadd H 40 31 d_j68_22_39 ?_
 refine r_putf (ty := .int) H 43 d_j68_22_40 (tw37 hw) q8 q7 (Or.inl (tw38 hw)) (tw6 hw) g_a1 ?_
 intro h9 W9 K9 E9 F9
 refine r_aloadN H 44 d_j68_22_43 ?_
 have k10 : Keep h0 hh6 [a1, a3] := Keep.trans (Keep.refl h0 [a1, a3]) K3 (allS (Or.inl (List.mem_of_getElem? (i := 1) rfl)) all0)
 have k11 : Keep h0 h9 [a1, a3] := Keep.trans k10 K9 (allS (Or.inl (List.mem_of_getElem? (i := 0) rfl)) all0)
 have q12 := (q5.keep K9)
 have q13 := ((F_coder_a1.keep K3 (ninS (ne_exa E9 q12 (by decide)) nin0)).other W9 (Or.inr (slot_ne (Or.inl (tw26 hw)) (Or.inl (tw38 hw)) (by decide) (t := .byte) (t' := .int) (by decide) (by decide))))
 have q14 := ((F_value_a1.keep K3 (ninS (ne_exa E9 q12 (by decide)) nin0)).other W9 (Or.inr (slot_ne (Or.inl (tw24 hw)) (Or.inl (tw38 hw)) (by decide) (t := (.array .byte)) (t' := .int) (by decide) (by decide))))
 have q15 := (q4.keep K9 (ninS (ne_exa q12 E9 (by decide)) nin0))
 exact r_areturn H d_j68_22_44 (⟨rfl, k11, E9, q13, F9, q14, q15, q12⟩)
def Q_append_83 (Z : State) (a1 : Addr) (a3 : Addr) (i1 : Int32) (c1 : ClassId) (h0 : Heap) (v : Option Value) (h : Heap) : Prop := v = some (.ref a1) ∧ Keep h0 h [a1, a3] ∧ Exa Z h a1 "java/lang/StringBuilder" ∧ Fld Z h a1 "java/lang/AbstractStringBuilder" "coder" "B" (.int 0) ∧ Fld Z h a1 "java/lang/AbstractStringBuilder" "count" "I" (.int 31) ∧ Fld Z h a1 "java/lang/AbstractStringBuilder" "value" "[B" (.ref a3) ∧ Ar Z h a3 c1 .byte [.int 49, .int 32, .int 109, .int 97, .int 116, .int 99, .int 104, .int 101, .int 114, .int 32, .int 101, .int 120, .int 112, .int 101, .int 99, .int 116, .int 101, .int 100, .int 44, .int 32, .int i1, .int 32, .int 114, .int 101, .int 99, .int 111, .int 114, .int 100, .int 101, .int 100, .int 46, .int 0, .int 0, .int 0] ∧ Exa Z h a3 "[B"
def R_append_83 : Room := { frames := 4, cells := 0, slots := 0, locals := 61 }
theorem rm_append_83 {w : Bool} {Z : State} {a0 : Array Value} (hw : HW a0 Z) (Ts : List String) (a1 : Addr) (a2 : Addr) (a3 : Addr) (a4 : Addr) (i1 : Int32) (c1 : ClassId) (c2 : ClassId) (cs : Int32) (h0 : Heap) (f : Nat) (Zf : Z.heap.size ≤ f) (Z0 : f ≤ h0.size) (g_a3 : f ≤ a3) (g_a1 : f ≤ a1) (E_a2 : Exa Z h0 a2 "java/lang/String") (F_value_a2 : Fld Z h0 a2 "java/lang/String" "value" "[B" (.ref a4)) (A_a4 : Ar Z h0 a4 c2 .byte [.int 32, .int 114, .int 101, .int 99, .int 111, .int 114, .int 100, .int 101, .int 100, .int 46]) (F_coder_a2 : Fld Z h0 a2 "java/lang/String" "coder" "B" (.int 0)) (F_count_a1 : Fld Z h0 a1 "java/lang/AbstractStringBuilder" "count" "I" (.int 21)) (F_value_a1 : Fld Z h0 a1 "java/lang/AbstractStringBuilder" "value" "[B" (.ref a3)) (A_a3 : Ar Z h0 a3 c1 .byte [.int 49, .int 32, .int 109, .int 97, .int 116, .int 99, .int 104, .int 101, .int 114, .int 32, .int 101, .int 120, .int 112, .int 101, .int 99, .int 116, .int 101, .int 100, .int 44, .int 32, .int i1, .int 0, .int 0, .int 0, .int 0, .int 0, .int 0, .int 0, .int 0, .int 0, .int 0, .int 0, .int 0, .int 0]) (F_coder_a1 : Fld Z h0 a1 "java/lang/AbstractStringBuilder" "coder" "B" (.int 0)) (E_a1 : Exa Z h0 a1 "java/lang/StringBuilder") (E_a3 : Exa Z h0 a3 "[B") (S_cs : G_S_cs Z cs) (hcs : ¬ cs = 0) :
  Con w [] Z mn14 jdk_67_method_7_code 2 (some (.object "java/lang/StringBuilder")) R_append_83 Ts Ts f #[.ref a1, .ref a2] h0 (Q_append_83 Z a1 a3 i1 c1 h0) := by
 refine con_of f #[vR a1, vR a2] (plainFor_of_name pn_1) (fun m => rfl) Zf ?_
 intro C H hX0
 refine r_aloadN H 1 d_j67_7_0 ?_
 refine r_aloadN H 2 d_j67_7_1 ?_
 refine r_super (a := a1) (argsL := [.ref a2]) (rest := []) (W := 0) H 5 d_j67_7_2 (tw68 hw) (same_self (tw70 hw) (tw46 hw) rfl (by decide)) (tw69 hw) (tw34 hw) (tw15 hw) (tw71 hw) (Ins.self E_a1) (lenOf pd_12 rfl) (rm_append_84 hw Ts a1 a2 a3 a4 i1 c1 c2 cs h0 f Zf Z0 E_a2 F_value_a2 A_a4 F_coder_a2 F_count_a1 F_value_a1 A_a3 F_coder_a1 E_a1 g_a3 E_a3 g_a1 S_cs hcs) ?_
 rintro _ hh8 ⟨rfl, K1, q2, q3, q4, q5, q6, q7⟩
 refine r_pop H 6 d_j67_7_5 ?_
 refine r_aloadN H 7 d_j67_7_6 ?_
 have k9 : Keep h0 hh8 [a1, a3] := Keep.trans (Keep.refl h0 [a1, a3]) K1 (allS (Or.inl (List.mem_of_getElem? (i := 0) rfl)) (allS (Or.inl (List.mem_of_getElem? (i := 1) rfl)) all0))
 exact r_areturn H d_j67_7_7 (⟨rfl, k9, q2, q3, q4, q5, q6, q7⟩)
def Q_length_92 (Z : State) (h0 : Heap) (v : Option Value) (h : Heap) : Prop := v = some (.int 31) ∧ h0 = h
def R_length_92 : Room := { frames := 0, cells := 0, slots := 0, locals := 0 }
theorem rm_length_92 {w : Bool} {Z : State} {a0 : Array Value} (hw : HW a0 Z) (Ts : List String) (a1 : Addr) (h0 : Heap) (f : Nat) (Zf : Z.heap.size ≤ f) (Z0 : f ≤ h0.size) (F_count_a1 : Fld Z h0 a1 "java/lang/AbstractStringBuilder" "count" "I" (.int 31)) :
  Con w [] Z mn16 jdk_68_method_6_code 1 (some .int) R_length_92 Ts Ts f #[.ref a1] h0 (Q_length_92 Z h0) := by
 refine con_of f #[vR a1] (plainFor_of_name pn_0) (fun m => rfl) Zf ?_
 intro C H hX0
 refine r_aloadN H 1 d_j68_6_0 ?_
 refine r_getf H 4 d_j68_6_1 (tw37 hw) F_count_a1 ?_
 exact r_ireturn H d_j68_6_4 (⟨rfl, rfl⟩)
def Q_length_91 (Z : State) (h0 : Heap) (v : Option Value) (h : Heap) : Prop := v = some (.int 31) ∧ h0 = h
def R_length_91 : Room := { frames := 1, cells := 0, slots := 0, locals := 12 }
theorem rm_length_91 {w : Bool} {Z : State} {a0 : Array Value} (hw : HW a0 Z) (Ts : List String) (a1 : Addr) (h0 : Heap) (f : Nat) (Zf : Z.heap.size ≤ f) (Z0 : f ≤ h0.size) (F_count_a1 : Fld Z h0 a1 "java/lang/AbstractStringBuilder" "count" "I" (.int 31)) (E_a1 : Exa Z h0 a1 "java/lang/StringBuilder") :
  Con w [] Z mn17 jdk_67_method_93_code 1 (some .int) R_length_91 Ts Ts f #[.ref a1] h0 (Q_length_91 Z h0) := by
 refine con_of f #[vR a1] (plainFor_of_name pn_1) (fun m => rfl) Zf ?_
 intro C H hX0
 refine r_aloadN H 1 d_j67_93_0 ?_
 refine r_super (a := a1) (argsL := []) (rest := []) (W := 0) H 4 d_j67_93_1 (tw130 hw) (same_self (tw125 hw) (tw46 hw) rfl (by decide)) (tw126 hw) (tw34 hw) (tw15 hw) (tw131 hw) (Ins.self E_a1) (lenOf pd_8 rfl) (rm_length_92 hw Ts a1 h0 f Zf Z0 F_count_a1) ?_
 rintro _ _ ⟨rfl, rfl⟩
 exact r_ireturn H d_j67_93_4 (⟨rfl, rfl⟩)
def Q_checkLength_95 (Z : State) (h0 : Heap) (v : Option Value) (h : Heap) : Prop := v = none ∧ h0 = h
def R_checkLength_95 : Room := { frames := 0, cells := 0, slots := 0, locals := 0 }
theorem rm_checkLength_95 {w : Bool} {Z : State} {a0 : Array Value} (hw : HW a0 Z) (Ts : List String) (h0 : Heap) (f : Nat) (Zf : Z.heap.size ≤ f) (Z0 : f ≤ h0.size) :
  Con w [] Z mn18 jdk_65_method_131_code 2 none R_checkLength_95 Ts Ts f #[.int 0, .int 31] h0 (Q_checkLength_95 Z h0) := by
 refine con_of f #[vI 0, vI 31] (plainFor_of_name pn_4) (fun m => rfl) Zf ?_
 intro C H hX0
 refine r_iloadN H 1 d_j65_131_0 ?_
 refine r_iloadN H 2 d_j65_131_1 ?_
 refine r_icmpgeT H 37 d_j65_131_2 ?_
 exact r_return H d_j65_131_37 (⟨rfl, rfl⟩)
def Q_min_96 (Z : State) (h0 : Heap) (v : Option Value) (h : Heap) : Prop := v = some (.int 31) ∧ h0 = h
def R_min_96 : Room := { frames := 0, cells := 0, slots := 0, locals := 0 }
theorem rm_min_96 {w : Bool} {Z : State} {a0 : Array Value} (hw : HW a0 Z) (Ts : List String) (h0 : Heap) (f : Nat) (Zf : Z.heap.size ≤ f) (Z0 : f ≤ h0.size) :
  Con w [] Z mn19 jdk_29_method_69_code 2 (some .int) R_min_96 Ts Ts f #[.int 34, .int 31] h0 (Q_min_96 Z h0) := by
 refine con_of f #[vI 34, vI 31] (Jvm.Free.JP.mathPlain rfl (by decide +kernel)) (fun m => rfl) Zf ?_
 intro C H hX0
 refine r_iloadN H 1 d_j29_69_0 ?_
 refine r_iloadN H 2 d_j29_69_1 ?_
 refine r_icmpgtT H 9 d_j29_69_2 (by decide) ?_
 refine r_iloadN H 10 d_j29_69_9 ?_
 exact r_ireturn H d_j29_69_10 (⟨rfl, rfl⟩)
def Q_copyOfRangeByte_94 (Z : State) (i1 : Int32) (h0 : Heap) (v : Option Value) (h : Heap) : Prop := ∃ (b2 : Addr) (kc2 : ClassId), v = some (.ref b2) ∧ Keep h0 h [] ∧ h0.size ≤ b2 ∧ Ar Z h b2 kc2 .byte [.int 49, .int 32, .int 109, .int 97, .int 116, .int 99, .int 104, .int 101, .int 114, .int 32, .int 101, .int 120, .int 112, .int 101, .int 99, .int 116, .int 101, .int 100, .int 44, .int 32, .int i1, .int 32, .int 114, .int 101, .int 99, .int 111, .int 114, .int 100, .int 101, .int 100, .int 46] ∧ Exa Z h b2 "[B"
def R_copyOfRangeByte_94 : Room := { frames := 1, cells := 1, slots := 31, locals := 18 }
theorem rm_copyOfRangeByte_94 {w : Bool} {Z : State} {a0 : Array Value} (hw : HW a0 Z) (Ts : List String) (a1 : Addr) (i1 : Int32) (c1 : ClassId) (h0 : Heap) (f : Nat) (Zf : Z.heap.size ≤ f) (Z0 : f ≤ h0.size) (A_a1 : Ar Z h0 a1 c1 .byte [.int 49, .int 32, .int 109, .int 97, .int 116, .int 99, .int 104, .int 101, .int 114, .int 32, .int 101, .int 120, .int 112, .int 101, .int 99, .int 116, .int 101, .int 100, .int 44, .int 32, .int i1, .int 32, .int 114, .int 101, .int 99, .int 111, .int 114, .int 100, .int 101, .int 100, .int 46, .int 0, .int 0, .int 0]) :
  Con w [] Z mn20 jdk_65_method_133_code 5 (some (.array .byte)) R_copyOfRangeByte_94 Ts Ts f #[.ref a1, .int 0, .int 31] h0 (Q_copyOfRangeByte_94 Z i1 h0) := by
 refine con_of f #[vR a1, vI 0, vI 31, .unset, .unset] (plainFor_of_name pn_4) (fun m => rfl) Zf ?_
 intro C H hX0
 refine r_iloadN H 1 d_j65_133_0 ?_
 refine r_iloadN H 2 d_j65_133_1 ?_
 refine r_static (argsL := [.int 0, .int 31]) (rest := []) (W := 0) H 5 d_j65_133_2 (tw140 hw) (tw141 hw) (tw135 hw) (tw142 hw) (lenOf pd_15 rfl) (rm_checkLength_95 hw Ts h0 f Zf Z0) ?_
 rintro _ _ ⟨rfl, rfl⟩
 refine r_iloadN H 6 d_j65_133_5 ?_
 refine r_iloadN H 7 d_j65_133_6 ?_
 refine r_isub H 8 31 d_j65_133_7 ?_
 refine r_istoreN H 9 #[vR a1, vI 0, vI 31, vI 31, .unset] d_j65_133_8 ?_
 refine r_iloadN H 10 d_j65_133_9 ?_
 refine r_newP H 12 "[B" 31 d_j65_133_10 (tw22 hw) ?_
 intro h2 b2 kc2 g2 l2 K2 E2 A2
 change Ar Z h2 b2 kc2 .byte [.int 0, .int 0, .int 0, .int 0, .int 0, .int 0, .int 0, .int 0, .int 0, .int 0, .int 0, .int 0, .int 0, .int 0, .int 0, .int 0, .int 0, .int 0, .int 0, .int 0, .int 0, .int 0, .int 0, .int 0, .int 0, .int 0, .int 0, .int 0, .int 0, .int 0, .int 0] at A2
 refine r_astore H 14 #[vR a1, vI 0, vI 31, vI 31, vR b2] d_j65_133_12 ?_
 refine r_aloadN H 15 d_j65_133_14 ?_
 refine r_iloadN H 16 d_j65_133_15 ?_
 refine r_aload H 18 d_j65_133_16 ?_
 refine r_iconst H 19 0 d_j65_133_18 ?_
 refine r_aloadN H 20 d_j65_133_19 ?_
 have q3 := (A_a1.keep K2 nin0)
 refine r_alen H 21 34 d_j65_133_20 q3 ?_
 refine r_iloadN H 22 d_j65_133_21 ?_
 refine r_isub H 23 34 d_j65_133_22 ?_
 refine r_iloadN H 24 d_j65_133_23 ?_
 refine r_static (argsL := [.int 34, .int 31]) (rest := [.int 0, .ref b2, .int 0, .ref a1]) (W := 4) H 27 d_j65_133_24 (tw143 hw) (tw144 hw) (tw145 hw) (tw146 hw) (lenOf pd_16 rfl) (rm_min_96 hw Ts h2 f Zf (nlt Z0 K2.1)) ?_
 rintro _ _ ⟨rfl, rfl⟩
 refine r_copy (W := 0) H 30 d_j65_133_27 (tw147 hw) (tw104 hw) (tw102 hw) (tw103 hw) q3 A2 (nlt Z0 (Nat.le_of_eq g2.symm)) ?_
 intro h5 K5 A5
 change Ar Z h5 b2 kc2 .byte [.int 49, .int 32, .int 109, .int 97, .int 116, .int 99, .int 104, .int 101, .int 114, .int 32, .int 101, .int 120, .int 112, .int 101, .int 99, .int 116, .int 101, .int 100, .int 44, .int 32, .int i1, .int 32, .int 114, .int 101, .int 99, .int 111, .int 114, .int 100, .int 101, .int 100, .int 46] at A5
 refine r_aload H 32 d_j65_133_30 ?_
 have k6 : Keep h0 h2 [] := Keep.trans (Keep.refl h0 []) K2 all0
 have k7 : Keep h0 h5 [] := Keep.trans k6 K5 (allS (Or.inr (nlt nlr (Nat.le_of_eq g2.symm))) all0)
 have q8 := (E2.keep K5)
 exact r_areturn H d_j65_133_32 (⟨b2, kc2, rfl, k7, (nlt nlr (Nat.le_of_eq g2.symm)), A5, q8⟩)
def Q_copyOfRange_93 (Z : State) (i1 : Int32) (h0 : Heap) (v : Option Value) (h : Heap) : Prop := ∃ (b1 : Addr) (kc2 : ClassId), v = some (.ref b1) ∧ Keep h0 h [] ∧ h0.size ≤ b1 ∧ Ar Z h b1 kc2 .byte [.int 49, .int 32, .int 109, .int 97, .int 116, .int 99, .int 104, .int 101, .int 114, .int 32, .int 101, .int 120, .int 112, .int 101, .int 99, .int 116, .int 101, .int 100, .int 44, .int 32, .int i1, .int 32, .int 114, .int 101, .int 99, .int 111, .int 114, .int 100, .int 101, .int 100, .int 46] ∧ Exa Z h b1 "[B"
def R_copyOfRange_93 : Room := { frames := 2, cells := 1, slots := 31, locals := 34 }
theorem rm_copyOfRange_93 {w : Bool} {Z : State} {a0 : Array Value} (hw : HW a0 Z) (Ts : List String) (a1 : Addr) (i1 : Int32) (c1 : ClassId) (h0 : Heap) (f : Nat) (Zf : Z.heap.size ≤ f) (Z0 : f ≤ h0.size) (A_a1 : Ar Z h0 a1 c1 .byte [.int 49, .int 32, .int 109, .int 97, .int 116, .int 99, .int 104, .int 101, .int 114, .int 32, .int 101, .int 120, .int 112, .int 101, .int 99, .int 116, .int 101, .int 100, .int 44, .int 32, .int i1, .int 32, .int 114, .int 101, .int 99, .int 111, .int 114, .int 100, .int 101, .int 100, .int 46, .int 0, .int 0, .int 0]) :
  Con w [] Z mn21 jdk_65_method_132_code 3 (some (.array .byte)) R_copyOfRange_93 Ts Ts f #[.ref a1, .int 0, .int 31] h0 (Q_copyOfRange_93 Z i1 h0) := by
 refine con_of f #[vR a1, vI 0, vI 31] (plainFor_of_name pn_4) (fun m => rfl) Zf ?_
 intro C H hX0
 refine r_iloadN H 1 d_j65_132_0 ?_
 refine r_ifneF H 4 d_j65_132_1 ?_
 refine r_iloadN H 5 d_j65_132_4 ?_
 refine r_aloadN H 6 d_j65_132_5 ?_
 refine r_alen H 7 34 d_j65_132_6 A_a1 ?_
 refine r_icmpeqF H 10 d_j65_132_7 ?_
 refine r_aloadN H 11 d_j65_132_10 ?_
 refine r_iloadN H 12 d_j65_132_11 ?_
 refine r_iloadN H 13 d_j65_132_12 ?_
 refine r_static (argsL := [.ref a1, .int 0, .int 31]) (rest := []) (W := 0) H 16 d_j65_132_13 (tw137 hw) (tw138 hw) (tw135 hw) (tw139 hw) (lenOf pd_17 rfl) (rm_copyOfRangeByte_94 hw Ts a1 i1 c1 h0 f Zf Z0 A_a1) ?_
 rintro _ hh7 ⟨b1, kc2, rfl, K3, g4, q5, q6⟩
 have k8 : Keep h0 hh7 [] := Keep.trans (Keep.refl h0 []) K3 all0
 exact r_areturn H d_j65_132_16 (⟨b1, kc2, rfl, k8, (nlt nlr g4), q5, q6⟩)
def Q_init_90 (Z : State) (a1 : Addr) (i1 : Int32) (h0 : Heap) (v : Option Value) (h : Heap) : Prop := ∃ (b7 : Addr) (kc8 : ClassId), v = none ∧ Keep h0 h [a1] ∧ h0.size ≤ b7 ∧ Exa Z h a1 "java/lang/String" ∧ Fld Z h a1 "java/lang/String" "coder" "B" (.int 0) ∧ Fld Z h a1 "java/lang/String" "value" "[B" (.ref b7) ∧ Ar Z h b7 kc8 .byte [.int 49, .int 32, .int 109, .int 97, .int 116, .int 99, .int 104, .int 101, .int 114, .int 32, .int 101, .int 120, .int 112, .int 101, .int 99, .int 116, .int 101, .int 100, .int 44, .int 32, .int i1, .int 32, .int 114, .int 101, .int 99, .int 111, .int 114, .int 100, .int 101, .int 100, .int 46] ∧ Exa Z h b7 "[B"
def R_init_90 : Room := { frames := 3, cells := 1, slots := 31, locals := 49 }
theorem rm_init_90 {w : Bool} {Z : State} {a0 : Array Value} (hw : HW a0 Z) (Ts : List String) (a1 : Addr) (a2 : Addr) (a3 : Addr) (i1 : Int32) (c1 : ClassId) (cs : Int32) (h0 : Heap) (f : Nat) (Zf : Z.heap.size ≤ f) (Z0 : f ≤ h0.size) (E_a2 : Exa Z h0 a2 "java/lang/StringBuilder") (F_value_a2 : Fld Z h0 a2 "java/lang/AbstractStringBuilder" "value" "[B" (.ref a3)) (F_count_a2 : Fld Z h0 a2 "java/lang/AbstractStringBuilder" "count" "I" (.int 31)) (F_coder_a2 : Fld Z h0 a2 "java/lang/AbstractStringBuilder" "coder" "B" (.int 0)) (E_a1 : Exa Z h0 a1 "java/lang/String") (F_coder_a1 : Fld Z h0 a1 "java/lang/String" "coder" "B" (.int 0)) (g_a1 : f ≤ a1) (A_a3 : Ar Z h0 a3 c1 .byte [.int 49, .int 32, .int 109, .int 97, .int 116, .int 99, .int 104, .int 101, .int 114, .int 32, .int 101, .int 120, .int 112, .int 101, .int 99, .int 116, .int 101, .int 100, .int 44, .int 32, .int i1, .int 32, .int 114, .int 101, .int 99, .int 111, .int 114, .int 100, .int 101, .int 100, .int 46, .int 0, .int 0, .int 0]) (E_a3 : Exa Z h0 a3 "[B") (F_value_a1 : Fld Z h0 a1 "java/lang/String" "value" "[B" .null) (S_cs : G_S_cs Z cs) (hcs : ¬ cs = 0) :
  Con w [] Z mn22 jdk_42_method_150_code 5 none R_init_90 Ts Ts f #[.ref a1, .ref a2, .null] h0 (Q_init_90 Z a1 i1 h0) := by
 refine con_of f #[vR a1, vR a2, .val .null, .unset, .unset] (plainFor_of_name pn_3) (fun m => rfl) Zf ?_
 intro C H hX0
 refine r_aloadN H 1 d_j42_150_0 ?_
 refine r_initO (W := 0) H 4 d_j42_150_1 (tw118 hw) (tw18 hw) (tw19 hw) ?_
 refine r_aloadN H 5 d_j42_150_4 ?_
 refine r_virtual (z := mn15) (a := a2) (argsL := []) (rest := []) (W := 0) H 8 d_j42_150_5 (tw119 hw) (tw120 hw) (nf_sel (tw122 hw)) (tw122 hw) (tw121 hw) (tw15 hw) (tw123 hw) E_a2 (lenOf pd_14 rfl) (rm_getValue_21 hw Ts a2 a3 h0 f Zf Z0 F_value_a2) ?_
 rintro _ _ ⟨rfl, rfl⟩
 refine r_astoreN H 9 #[vR a1, vR a2, .val .null, vR a3, .unset] d_j42_150_8 ?_
 refine r_aloadN H 10 d_j42_150_9 ?_
 refine r_virtual (z := mn17) (a := a2) (argsL := []) (rest := []) (W := 0) H 13 d_j42_150_10 (tw124 hw) (tw125 hw) (nf_by (tw46 hw) rfl) (tw127 hw) (tw128 hw) (tw7 hw) (tw129 hw) E_a2 (lenOf pd_8 rfl) (rm_length_91 hw Ts a2 h0 f Zf Z0 F_count_a2 E_a2) ?_
 rintro _ _ ⟨rfl, rfl⟩
 refine r_istore H 15 #[vR a1, vR a2, .val .null, vR a3, vI 31] d_j42_150_13 ?_
 refine r_aloadN H 16 d_j42_150_15 ?_
 refine r_virtual (z := mn4) (a := a2) (argsL := []) (rest := []) (W := 0) H 19 d_j42_150_16 (tw132 hw) (tw49 hw) (nf_sel (tw51 hw)) (tw51 hw) (tw50 hw) (tw15 hw) (tw52 hw) E_a2 (lenOf pd_3 rfl) (rm_isLatin1_8 hw Ts a2 cs h0 f Zf Z0 F_coder_a2 S_cs hcs) ?_
 rintro _ _ ⟨rfl, rfl⟩
 refine r_ifeqF H 22 d_j42_150_19 (by decide) ?_
 refine r_aloadN H 23 d_j42_150_22 ?_
 refine r_iconst H 24 0 d_j42_150_23 ?_
 refine r_putn (v' := (.int 0)) (ty := .byte) H 27 d_j42_150_24 (tw84 hw) F_coder_a1 E_a1 (Or.inr ⟨(tw60 hw), rfl, rfl⟩) (tw58 hw) g_a1 ?_
 intro h4 W4 K4 E4 F4
 refine r_aloadN H 28 d_j42_150_27 ?_
 refine r_aloadN H 29 d_j42_150_28 ?_
 refine r_iconst H 30 0 d_j42_150_29 ?_
 refine r_iload H 32 d_j42_150_30 ?_
 have q5 := (E_a3.keep K4)
 have q6 := (A_a3.keep K4 (ninS (ne_exa q5 E4 (by decide)) nin0))
 refine r_static (argsL := [.ref a3, .int 0, .int 31]) (rest := [.ref a1]) (W := 1) H 35 d_j42_150_32 (tw133 hw) (tw134 hw) (tw135 hw) (tw136 hw) (lenOf pd_17 rfl) (rm_copyOfRange_93 hw Ts a3 i1 c1 h4 f Zf (nlt Z0 K4.1) q6) ?_
 rintro _ hh13 ⟨b7, kc8, rfl, K9, g10, q11, q12⟩
 have q14 := (E4.keep K9)
 have q15 := ((F_value_a1.other W4 (Or.inr (slot_ne (Or.inr (tw59 hw)) (Or.inr (tw60 hw)) (by decide) (t := (.array .byte)) (t' := .byte) (by decide) (by decide)))).keep K9 nin0)
 refine r_putf (ty := (.array .byte)) H 38 d_j42_150_35 (tw77 hw) q15 q14 (Or.inr ⟨(tw59 hw), rfl, rfl⟩) (tw58 hw) g_a1 ?_
 intro h16 W16 K16 E16 F16
 refine r_goto H 97 d_j42_150_38 ?_
 have k17 : Keep h0 h4 [a1] := Keep.trans (Keep.refl h0 [a1]) K4 (allS (Or.inl (List.mem_of_getElem? (i := 0) rfl)) all0)
 have k18 : Keep h0 hh13 [a1] := Keep.trans k17 K9 all0
 have k19 : Keep h0 h16 [a1] := Keep.trans k18 K16 (allS (Or.inl (List.mem_of_getElem? (i := 0) rfl)) all0)
 have q20 := ((F4.keep K9 nin0).other W16 (Or.inr (slot_ne (Or.inr (tw60 hw)) (Or.inr (tw59 hw)) (by decide) (t := .byte) (t' := (.array .byte)) (by decide) (by decide))))
 have q21 := (q11.keep K16 (ninS (Ne.symm (Nat.ne_of_lt (Nat.lt_of_lt_of_le E_a1.lt (nlt K4.1 g10)))) nin0))
 have q22 := (q12.keep K16)
 exact r_return H d_j42_150_97 (⟨b7, kc8, rfl, k19, (nlt K4.1 g10), E16, q20, F16, q21, q22⟩)
def Q_init_89 (Z : State) (a1 : Addr) (i1 : Int32) (h0 : Heap) (v : Option Value) (h : Heap) : Prop := ∃ (b1 : Addr) (kc2 : ClassId), v = none ∧ Keep h0 h [a1] ∧ h0.size ≤ b1 ∧ Exa Z h a1 "java/lang/String" ∧ Fld Z h a1 "java/lang/String" "coder" "B" (.int 0) ∧ Fld Z h a1 "java/lang/String" "value" "[B" (.ref b1) ∧ Ar Z h b1 kc2 .byte [.int 49, .int 32, .int 109, .int 97, .int 116, .int 99, .int 104, .int 101, .int 114, .int 32, .int 101, .int 120, .int 112, .int 101, .int 99, .int 116, .int 101, .int 100, .int 44, .int 32, .int i1, .int 32, .int 114, .int 101, .int 99, .int 111, .int 114, .int 100, .int 101, .int 100, .int 46] ∧ Exa Z h b1 "[B"
def R_init_89 : Room := { frames := 4, cells := 1, slots := 31, locals := 65 }
theorem rm_init_89 {w : Bool} {Z : State} {a0 : Array Value} (hw : HW a0 Z) (Ts : List String) (a1 : Addr) (a2 : Addr) (a3 : Addr) (i1 : Int32) (c1 : ClassId) (cs : Int32) (h0 : Heap) (f : Nat) (Zf : Z.heap.size ≤ f) (Z0 : f ≤ h0.size) (g_a1 : f ≤ a1) (E_a2 : Exa Z h0 a2 "java/lang/StringBuilder") (F_value_a2 : Fld Z h0 a2 "java/lang/AbstractStringBuilder" "value" "[B" (.ref a3)) (F_count_a2 : Fld Z h0 a2 "java/lang/AbstractStringBuilder" "count" "I" (.int 31)) (F_coder_a2 : Fld Z h0 a2 "java/lang/AbstractStringBuilder" "coder" "B" (.int 0)) (E_a1 : Exa Z h0 a1 "java/lang/String") (F_coder_a1 : Fld Z h0 a1 "java/lang/String" "coder" "B" (.int 0)) (A_a3 : Ar Z h0 a3 c1 .byte [.int 49, .int 32, .int 109, .int 97, .int 116, .int 99, .int 104, .int 101, .int 114, .int 32, .int 101, .int 120, .int 112, .int 101, .int 99, .int 116, .int 101, .int 100, .int 44, .int 32, .int i1, .int 32, .int 114, .int 101, .int 99, .int 111, .int 114, .int 100, .int 101, .int 100, .int 46, .int 0, .int 0, .int 0]) (E_a3 : Exa Z h0 a3 "[B") (F_value_a1 : Fld Z h0 a1 "java/lang/String" "value" "[B" .null) (S_cs : G_S_cs Z cs) (hcs : ¬ cs = 0) :
  Con w [] Z mn23 jdk_42_method_53_code 2 none R_init_89 Ts Ts f #[.ref a1, .ref a2] h0 (Q_init_89 Z a1 i1 h0) := by
 refine con_of f #[vR a1, vR a2] (plainFor_of_name pn_3) (fun m => rfl) Zf ?_
 intro C H hX0
 refine r_aloadN H 1 d_j42_53_0 ?_
 refine r_aloadN H 2 d_j42_53_1 ?_
 refine r_null H 3 d_j42_53_2 ?_
 refine r_special (a := a1) (argsL := [.ref a2, .null]) (rest := []) (W := 0) H 6 d_j42_53_3 (tw115 hw) (tw116 hw) (tw21 hw) (tw117 hw) (lenOf pd_18 rfl) (rm_init_90 hw Ts a1 a2 a3 i1 c1 cs h0 f Zf Z0 E_a2 F_value_a2 F_count_a2 F_coder_a2 E_a1 F_coder_a1 g_a1 A_a3 E_a3 F_value_a1 S_cs hcs) ?_
 rintro _ hh10 ⟨b1, kc2, rfl, K3, g4, q5, q6, q7, q8, q9⟩
 have k11 : Keep h0 hh10 [a1] := Keep.trans (Keep.refl h0 [a1]) K3 (allS (Or.inl (List.mem_of_getElem? (i := 0) rfl)) all0)
 exact r_return H d_j42_53_6 (⟨b1, kc2, rfl, k11, (nlt nlr g4), q5, q6, q7, q8, q9⟩)
def Q_toString_88 (Z : State) (i1 : Int32) (h0 : Heap) (v : Option Value) (h : Heap) : Prop := ∃ (b1 : Addr) (b8 : Addr) (kc9 : ClassId), v = some (.ref b1) ∧ Keep h0 h [] ∧ h0.size ≤ b1 ∧ h0.size ≤ b8 ∧ b1 < b8 ∧ Exa Z h b1 "java/lang/String" ∧ Fld Z h b1 "java/lang/String" "coder" "B" (.int 0) ∧ Fld Z h b1 "java/lang/String" "value" "[B" (.ref b8) ∧ Ar Z h b8 kc9 .byte [.int 49, .int 32, .int 109, .int 97, .int 116, .int 99, .int 104, .int 101, .int 114, .int 32, .int 101, .int 120, .int 112, .int 101, .int 99, .int 116, .int 101, .int 100, .int 44, .int 32, .int i1, .int 32, .int 114, .int 101, .int 99, .int 111, .int 114, .int 100, .int 101, .int 100, .int 46] ∧ Exa Z h b8 "[B"
def R_toString_88 : Room := { frames := 5, cells := 2, slots := 35, locals := 79 }
theorem rm_toString_88 {w : Bool} {Z : State} {a0 : Array Value} (hw : HW a0 Z) (Ts : List String) (a1 : Addr) (a2 : Addr) (i1 : Int32) (c1 : ClassId) (cs : Int32) (h0 : Heap) (f : Nat) (Zf : Z.heap.size ≤ f) (Z0 : f ≤ h0.size) (E_a1 : Exa Z h0 a1 "java/lang/StringBuilder") (F_value_a1 : Fld Z h0 a1 "java/lang/AbstractStringBuilder" "value" "[B" (.ref a2)) (F_count_a1 : Fld Z h0 a1 "java/lang/AbstractStringBuilder" "count" "I" (.int 31)) (F_coder_a1 : Fld Z h0 a1 "java/lang/AbstractStringBuilder" "coder" "B" (.int 0)) (A_a2 : Ar Z h0 a2 c1 .byte [.int 49, .int 32, .int 109, .int 97, .int 116, .int 99, .int 104, .int 101, .int 114, .int 32, .int 101, .int 120, .int 112, .int 101, .int 99, .int 116, .int 101, .int 100, .int 44, .int 32, .int i1, .int 32, .int 114, .int 101, .int 99, .int 111, .int 114, .int 100, .int 101, .int 100, .int 46, .int 0, .int 0, .int 0]) (E_a2 : Exa Z h0 a2 "[B") (S_cs : G_S_cs Z cs) (hcs : ¬ cs = 0) :
  Con w [] Z mn24 jdk_67_method_42_code 1 (some (.object "java/lang/String")) R_toString_88 Ts Ts f #[.ref a1] h0 (Q_toString_88 Z i1 h0) := by
 refine con_of f #[vR a1] (plainFor_of_name pn_1) (fun m => rfl) Zf ?_
 intro C H hX0
 refine r_new H 3 d_j67_42_0 (tw110 hw) (tw58 hw) (tw21 hw) ?_
 intro h1 b1 g1 l1 K1 E1 D1
 refine r_dup H 4 d_j67_42_3 ?_
 refine r_aloadN H 5 d_j67_42_4 ?_
 have q2 := (E_a1.keep K1)
 have q3 := (F_value_a1.keep K1 nin0)
 have q4 := (F_count_a1.keep K1 nin0)
 have q5 := (F_coder_a1.keep K1 nin0)
 have q6 := (A_a2.keep K1 nin0)
 have q7 := (E_a2.keep K1)
 refine r_special (a := b1) (argsL := [.ref a1]) (rest := [.ref b1]) (W := 1) H 8 d_j67_42_5 (tw111 hw) (tw112 hw) (tw21 hw) (tw114 hw) (lenOf pd_19 rfl) (rm_init_89 hw Ts b1 a1 a2 i1 c1 cs h1 f Zf (nlt Z0 K1.1) (nlt Z0 (Nat.le_of_eq g1.symm)) q2 q3 q4 q5 E1 (show Fld Z h1 b1 "java/lang/String" "coder" "B" (.int 0) from D1 (Or.inr (tw60 hw)) (ty := .byte) (by decide)) q6 q7 (show Fld Z h1 b1 "java/lang/String" "value" "[B" .null from D1 (Or.inr (tw59 hw)) (ty := (.array .byte)) (by decide)) S_cs hcs) ?_
 rintro _ hh17 ⟨b8, kc9, rfl, K10, g11, q12, q13, q14, q15, q16⟩
 have k18 : Keep h0 h1 [] := Keep.trans (Keep.refl h0 []) K1 all0
 have k19 : Keep h0 hh17 [] := Keep.trans k18 K10 (allS (Or.inr (nlt nlr (Nat.le_of_eq g1.symm))) all0)
 exact r_areturn H d_j67_42_8 (⟨b1, b8, kc9, rfl, k19, (nlt nlr (Nat.le_of_eq g1.symm)), (nlt K1.1 g11), (Nat.lt_of_lt_of_le E1.lt (nlt nlr g11)), q12, q13, q14, q15, q16⟩)
def Q_counted_1 (Z : State) (i1 : Int32) (i2 : Int32) (h0 : Heap) (v : Option Value) (h : Heap) : Prop := (∃ (b127 : Addr) (b128 : Addr) (kc129 : ClassId), v = some (.ref b127) ∧ (¬ i1 = (1 : Int32)) ∧ Keep h0 h [] ∧ h0.size ≤ b127 ∧ h0.size ≤ b128 ∧ b127 < b128 ∧ Exa Z h b127 "java/lang/String" ∧ Fld Z h b127 "java/lang/String" "coder" "B" (.int 0) ∧ Fld Z h b127 "java/lang/String" "value" "[B" (.ref b128) ∧ Ar Z h b128 kc129 .byte [(.int ((48 : Int32) + i1)), .int 32, .int 109, .int 97, .int 116, .int 99, .int 104, .int 101, .int 114, .int 115, .int 32, .int 101, .int 120, .int 112, .int 101, .int 99, .int 116, .int 101, .int 100, .int 44, .int 32, (.int ((48 : Int32) + i2)), .int 32, .int 114, .int 101, .int 99, .int 111, .int 114, .int 100, .int 101, .int 100, .int 46] ∧ Exa Z h b128 "[B") ∨ (∃ (b229 : Addr) (b230 : Addr) (kc231 : ClassId), v = some (.ref b229) ∧ (i1 = (1 : Int32)) ∧ Keep h0 h [] ∧ h0.size ≤ b229 ∧ h0.size ≤ b230 ∧ b229 < b230 ∧ Exa Z h b229 "java/lang/String" ∧ Fld Z h b229 "java/lang/String" "coder" "B" (.int 0) ∧ Fld Z h b229 "java/lang/String" "value" "[B" (.ref b230) ∧ Ar Z h b230 kc231 .byte [.int 49, .int 32, .int 109, .int 97, .int 116, .int 99, .int 104, .int 101, .int 114, .int 32, .int 101, .int 120, .int 112, .int 101, .int 99, .int 116, .int 101, .int 100, .int 44, .int 32, (.int ((48 : Int32) + i2)), .int 32, .int 114, .int 101, .int 99, .int 111, .int 114, .int 100, .int 101, .int 100, .int 46] ∧ Exa Z h b230 "[B")
def R_counted_1 : Room := { frames := 6, cells := 15, slots := 256, locals := 91 }
theorem rm_counted_1 {Z : State} {a0 : Array Value} (hw : HW a0 Z) (Ts : List String) (i1 : Int32) (i2 : Int32) (cs : Int32) (gDigitOnes : Addr) (kDigitOnes : ClassId) (h0 : Heap) (f : Nat) (Zf : Z.heap.size ≤ f) (Z0 : f ≤ h0.size) (r_i1 : 0 ≤ i1.toInt ∧ i1.toInt ≤ 9) (r_i2 : 0 ≤ i2.toInt ∧ i2.toInt ≤ 9) (S_cs : G_S_cs Z cs) (S_DigitOnes : G_S_DigitOnes Z gDigitOnes) (A_DigitOnes : G_A_DigitOnes Z gDigitOnes kDigitOnes) (wS : G_wS Z a0) (hcw : G_hcw Z a0) (hh1 : G_hh1 Z) (hh0 : G_hh0 Z) (hh2 : G_hh2 Z) (hh3 : G_hh3 Z) (hT__20_matchers : " matchers" ∉ Ts) (hT_1_20_matcher : "1 matcher" ∉ Ts) (hT__20_expected_2c__20_ : " expected, " ∉ Ts) (hT__20_recorded_2e_ : " recorded." ∉ Ts) (hcs : ¬ cs = 0) :
  Con true [] Z mn29 prog_5_method_5_code 3 (some (.object "java/lang/String")) R_counted_1 Ts (" matchers" :: "1 matcher" :: " expected, " :: " recorded." :: Ts) f #[.int i1, .int i2] h0 (Q_counted_1 Z i1 i2 h0) := by
 refine con_of h0.size #[vI i1, vI i2, .unset] (plainFor_of_name pn_6) (fun m => rfl) (nlt Zf Z0) ?_
 intro C H hX0
 refine r_iloadN H 1 d_g5_5_0 ?_
 refine r_iconst H 2 1 d_g5_5_1 ?_
 refine r_icmpne H 10 5 d_g5_5_2 (fun c1 => ?_) (fun c1 => ?_)
 ·
  refine r_new H 13 d_g5_5_10 (tw5 hw) (tw6 hw) (tw7 hw) ?_
  intro h2 b2 g2 l2 K2 E2 D2
  refine r_dup H 14 d_g5_5_13 ?_
  refine r_special (a := b2) (argsL := []) (rest := [.ref b2]) (W := 1) H 17 d_g5_5_14 (tw8 hw) (tw9 hw) (tw7 hw) (tw10 hw) (lenOf pd_1 rfl) (rm_init_2 hw Ts b2 cs h2 h0.size (nlt Zf Z0) K2.1 (nlt nlr (Nat.le_of_eq g2.symm)) E2 (show Fld Z h2 b2 "java/lang/AbstractStringBuilder" "value" "[B" .null from D2 (Or.inl (tw24 hw)) (ty := (.array .byte)) (by decide)) (show Fld Z h2 b2 "java/lang/AbstractStringBuilder" "coder" "B" (.int 0) from D2 (Or.inl (tw26 hw)) (ty := .byte) (by decide)) (show Fld Z h2 b2 "java/lang/AbstractStringBuilder" "count" "I" (.int 0) from D2 (Or.inl (tw38 hw)) (ty := .int) (by decide)) S_cs hcs) ?_
  rintro _ hh13 ⟨b3, kc4, rfl, K5, g6, q7, q8, q9, q10, q11, q12⟩
  refine r_iloadN H 18 d_g5_5_17 ?_
  have z14 := Nat.le_trans K2.1 K5.1
  refine r_virtual (z := mn7) (a := b2) (argsL := [.int i1]) (rest := []) (W := 0) H 21 d_g5_5_18 (tw27 hw) (tw28 hw) (nf_sel (tw30 hw)) (tw30 hw) (tw29 hw) (tw7 hw) (tw31 hw) q7 (lenOf pd_6 rfl) (rm_append_4 hw Ts b2 b3 i1 kc4 cs gDigitOnes kDigitOnes hh13 h0.size (nlt Zf Z0) z14 (nlt K2.1 g6) (nlt nlr (Nat.le_of_eq g2.symm)) q9 q10 q11 q8 q7 q12 r_i1 S_cs S_DigitOnes A_DigitOnes hcs) ?_
  rintro _ hh22 ⟨rfl, K15, q16, q17, q18, q19, q20, q21⟩
  refine r_ldcS (vs := [.int 32, .int 109, .int 97, .int 116, .int 99, .int 104, .int 101, .int 114, .int 115]) (z := (9 : Int32)) H 23 36 d_g5_5_21 (tw57 hw) wS hT__20_matchers hh1 hcw ⟨by decide, by decide⟩ ?_
  intro h23 la23 lv23 kl23 K23 E23 C23 V23 A23 D23
  have q24 := (q18.keep K23 nin0)
  have q25 := (q19.keep K23 nin0)
  have q26 := (q20.keep K23 nin0)
  have q27 := (q17.keep K23 nin0)
  have q28 := (q16.keep K23)
  have q29 := (q21.keep K23)
  have z30 := Nat.le_trans z14 K15.1
  have z31 := Nat.le_trans z30 K23.1
  refine r_virtual (z := mn14) (a := b2) (argsL := [.ref la23]) (rest := []) (W := 0) H 26 d_g5_5_23 (tw63 hw) (tw64 hw) (nf_sel (tw66 hw)) (tw66 hw) (tw65 hw) (tw7 hw) (tw67 hw) q28 (lenOf pd_13 rfl) (rm_append_10 hw (" matchers" :: Ts) b2 la23 b3 lv23 ((48 : Int32) + i1) kc4 kl23 cs h23 h0.size (nlt Zf Z0) z31 (nlt K2.1 g6) (nlt nlr (Nat.le_of_eq g2.symm)) E23 V23 A23 C23 q24 q25 q26 q27 q28 q29 S_cs hcs) ?_
  rintro _ hh39 ⟨rfl, K32, q33, q34, q35, q36, q37, q38⟩
  have z40 := Nat.le_trans z31 K32.1
  refine r_virtual (z := mn24) (a := b2) (argsL := []) (rest := []) (W := 0) H 29 d_g5_5_26 (tw105 hw) (tw106 hw) (nf_sel (tw108 hw)) (tw108 hw) (tw107 hw) (tw7 hw) (tw109 hw) q33 (lenOf pd_20 rfl) (rm_toString_18 hw (" matchers" :: Ts) b2 b3 ((48 : Int32) + i1) kc4 cs hh39 h0.size (nlt Zf Z0) z40 q33 q36 q35 q34 q37 q38 S_cs hcs) ?_
  rintro _ hh53 ⟨b41, b42, kc43, rfl, K44, g45, g46, g47, q48, q49, q50, q51, q52⟩
  refine r_astoreN H 30 #[vI i1, vI i2, vR b41] d_g5_5_29 ?_
  refine r_new H 33 d_g5_5_30 (tw5 hw) (tw6 hw) (tw7 hw) ?_
  intro h54 b54 g54 l54 K54 E54 D54
  refine r_dup H 34 d_g5_5_33 ?_
  have z55 := Nat.le_trans z40 K44.1
  have z56 := Nat.le_trans z55 K54.1
  refine r_special (a := b54) (argsL := []) (rest := [.ref b54]) (W := 1) H 37 d_g5_5_34 (tw8 hw) (tw9 hw) (tw7 hw) (tw10 hw) (lenOf pd_1 rfl) (rm_init_2 hw (" matchers" :: Ts) b54 cs h54 h0.size (nlt Zf Z0) z56 (nlt z55 (Nat.le_of_eq g54.symm)) E54 (show Fld Z h54 b54 "java/lang/AbstractStringBuilder" "value" "[B" .null from D54 (Or.inl (tw24 hw)) (ty := (.array .byte)) (by decide)) (show Fld Z h54 b54 "java/lang/AbstractStringBuilder" "coder" "B" (.int 0) from D54 (Or.inl (tw26 hw)) (ty := .byte) (by decide)) (show Fld Z h54 b54 "java/lang/AbstractStringBuilder" "count" "I" (.int 0) from D54 (Or.inl (tw38 hw)) (ty := .int) (by decide)) S_cs hcs) ?_
  rintro _ hh67 ⟨b57, kc58, rfl, K59, g60, q61, q62, q63, q64, q65, q66⟩
  refine r_aloadN H 38 d_g5_5_37 ?_
  have q68 := ((q48.keep K54).keep K59)
  have q69 := ((q50.keep K54 nin0).keep K59 (ninS (Nat.ne_of_lt (Nat.lt_of_lt_of_le q48.lt (nlt nlr (Nat.le_of_eq g54.symm)))) nin0))
  have q70 := ((q51.keep K54 nin0).keep K59 (ninS (Nat.ne_of_lt (Nat.lt_of_lt_of_le q51.lt (nlt nlr (Nat.le_of_eq g54.symm)))) nin0))
  have q71 := ((q49.keep K54 nin0).keep K59 (ninS (Nat.ne_of_lt (Nat.lt_of_lt_of_le q48.lt (nlt nlr (Nat.le_of_eq g54.symm)))) nin0))
  have z72 := Nat.le_trans z56 K59.1
  refine r_virtual (z := mn14) (a := b54) (argsL := [.ref b41]) (rest := []) (W := 0) H 41 d_g5_5_38 (tw63 hw) (tw64 hw) (nf_sel (tw66 hw)) (tw66 hw) (tw65 hw) (tw7 hw) (tw67 hw) q61 (lenOf pd_13 rfl) (rm_append_28 hw (" matchers" :: Ts) b54 b41 b57 b42 ((48 : Int32) + i1) kc58 kc43 cs hh67 h0.size (nlt Zf Z0) z72 (nlt z56 g60) (nlt z55 (Nat.le_of_eq g54.symm)) q68 q69 q70 q71 q63 q64 q65 q62 q61 q66 S_cs hcs) ?_
  rintro _ hh80 ⟨rfl, K73, q74, q75, q76, q77, q78, q79⟩
  refine r_ldcS (vs := [.int 32, .int 101, .int 120, .int 112, .int 101, .int 99, .int 116, .int 101, .int 100, .int 44, .int 32]) (z := (11 : Int32)) H 43 44 d_g5_5_41 (tw148 hw) wS (nin_cons (by decide) hT__20_expected_2c__20_) hh2 hcw ⟨by decide, by decide⟩ ?_
  intro h81 la81 lv81 kl81 K81 E81 C81 V81 A81 D81
  have q82 := (q76.keep K81 nin0)
  have q83 := (q77.keep K81 nin0)
  have q84 := (q78.keep K81 nin0)
  have q85 := (q75.keep K81 nin0)
  have q86 := (q74.keep K81)
  have z87 := Nat.le_trans z72 K73.1
  have z88 := Nat.le_trans z87 K81.1
  refine r_virtual (z := mn14) (a := b54) (argsL := [.ref la81]) (rest := []) (W := 0) H 46 d_g5_5_43 (tw63 hw) (tw64 hw) (nf_sel (tw66 hw)) (tw66 hw) (tw65 hw) (tw7 hw) (tw67 hw) q86 (lenOf pd_13 rfl) (rm_append_34 hw (" expected, " :: " matchers" :: Ts) b54 la81 b57 lv81 ((48 : Int32) + i1) kc58 kl81 cs h81 h0.size (nlt Zf Z0) z88 (nlt z55 (Nat.le_of_eq g54.symm)) E81 V81 A81 C81 q82 q83 q84 q85 q86 S_cs hcs) ?_
  rintro _ hh99 ⟨b89, kc90, rfl, K91, g92, q93, q94, q95, q96, q97, q98⟩
  refine r_iloadN H 47 d_g5_5_46 ?_
  have z100 := Nat.le_trans z88 K91.1
  refine r_virtual (z := mn7) (a := b54) (argsL := [.int i2]) (rest := []) (W := 0) H 50 d_g5_5_47 (tw27 hw) (tw28 hw) (nf_sel (tw30 hw)) (tw30 hw) (tw29 hw) (tw7 hw) (tw31 hw) q93 (lenOf pd_6 rfl) (rm_append_45 hw (" expected, " :: " matchers" :: Ts) b54 b89 i2 ((48 : Int32) + i1) kc90 cs gDigitOnes kDigitOnes hh99 h0.size (nlt Zf Z0) z100 (nlt z88 g92) (nlt z55 (Nat.le_of_eq g54.symm)) q95 q96 q97 q94 q93 q98 r_i2 S_cs S_DigitOnes A_DigitOnes hcs) ?_
  rintro _ hh108 ⟨rfl, K101, q102, q103, q104, q105, q106, q107⟩
  refine r_ldcS (vs := [.int 32, .int 114, .int 101, .int 99, .int 111, .int 114, .int 100, .int 101, .int 100, .int 46]) (z := (10 : Int32)) H 52 40 d_g5_5_50 (tw166 hw) wS (nin_cons (by decide) (nin_cons (by decide) hT__20_recorded_2e_)) hh3 hcw ⟨by decide, by decide⟩ ?_
  intro h109 la109 lv109 kl109 K109 E109 C109 V109 A109 D109
  have q110 := (q104.keep K109 nin0)
  have q111 := (q105.keep K109 nin0)
  have q112 := (q106.keep K109 nin0)
  have q113 := (q103.keep K109 nin0)
  have q114 := (q102.keep K109)
  have q115 := (q107.keep K109)
  have z116 := Nat.le_trans z100 K101.1
  have z117 := Nat.le_trans z116 K109.1
  refine r_virtual (z := mn14) (a := b54) (argsL := [.ref la109]) (rest := []) (W := 0) H 55 d_g5_5_52 (tw63 hw) (tw64 hw) (nf_sel (tw66 hw)) (tw66 hw) (tw65 hw) (tw7 hw) (tw67 hw) q114 (lenOf pd_13 rfl) (rm_append_49 hw (" recorded." :: " expected, " :: " matchers" :: Ts) b54 la109 b89 lv109 ((48 : Int32) + i1) ((48 : Int32) + i2) kc90 kl109 cs h109 h0.size (nlt Zf Z0) z117 (nlt z88 g92) (nlt z55 (Nat.le_of_eq g54.symm)) E109 V109 A109 C109 q110 q111 q112 q113 q114 q115 S_cs hcs) ?_
  rintro _ hh125 ⟨rfl, K118, q119, q120, q121, q122, q123, q124⟩
  have z126 := Nat.le_trans z117 K118.1
  refine r_virtual (z := mn24) (a := b54) (argsL := []) (rest := []) (W := 0) H 58 d_g5_5_55 (tw105 hw) (tw106 hw) (nf_sel (tw108 hw)) (tw108 hw) (tw107 hw) (tw7 hw) (tw109 hw) q119 (lenOf pd_20 rfl) (rm_toString_55 hw (" recorded." :: " expected, " :: " matchers" :: Ts) b54 b89 ((48 : Int32) + i1) ((48 : Int32) + i2) kc90 cs hh125 h0.size (nlt Zf Z0) z126 q119 q122 q121 q120 q123 q124 S_cs hcs) ?_
  rintro _ hh139 ⟨b127, b128, kc129, rfl, K130, g131, g132, g133, q134, q135, q136, q137, q138⟩
  have k140 : Keep h0 h2 [] := Keep.trans (Keep.refl h0 []) K2 all0
  have k141 : Keep h0 hh13 [] := Keep.trans k140 K5 (allS (Or.inr (nlt nlr (Nat.le_of_eq g2.symm))) all0)
  have k142 : Keep h0 hh22 [] := Keep.trans k141 K15 (allS (Or.inr (nlt nlr (Nat.le_of_eq g2.symm))) (allS (Or.inr (nlt K2.1 g6)) all0))
  have k143 : Keep h0 h23 [] := Keep.trans k142 K23 all0
  have k144 : Keep h0 hh39 [] := Keep.trans k143 K32 (allS (Or.inr (nlt nlr (Nat.le_of_eq g2.symm))) (allS (Or.inr (nlt K2.1 g6)) all0))
  have k145 : Keep h0 hh53 [] := Keep.trans k144 K44 all0
  have k146 : Keep h0 h54 [] := Keep.trans k145 K54 all0
  have k147 : Keep h0 hh67 [] := Keep.trans k146 K59 (allS (Or.inr (nlt z55 (Nat.le_of_eq g54.symm))) all0)
  have k148 : Keep h0 hh80 [] := Keep.trans k147 K73 (allS (Or.inr (nlt z55 (Nat.le_of_eq g54.symm))) (allS (Or.inr (nlt z56 g60)) all0))
  have k149 : Keep h0 h81 [] := Keep.trans k148 K81 all0
  have k150 : Keep h0 hh99 [] := Keep.trans k149 K91 (allS (Or.inr (nlt z55 (Nat.le_of_eq g54.symm))) all0)
  have k151 : Keep h0 hh108 [] := Keep.trans k150 K101 (allS (Or.inr (nlt z55 (Nat.le_of_eq g54.symm))) (allS (Or.inr (nlt z88 g92)) all0))
  have k152 : Keep h0 h109 [] := Keep.trans k151 K109 all0
  have k153 : Keep h0 hh125 [] := Keep.trans k152 K118 (allS (Or.inr (nlt z55 (Nat.le_of_eq g54.symm))) (allS (Or.inr (nlt z88 g92)) all0))
  have k154 : Keep h0 hh139 [] := Keep.trans k153 K130 all0
  exact r_areturn (hf := Z0) (hT := (by intro t ht; simp only [List.mem_cons] at ht ⊢; rcases ht with ht | ht | ht | ht <;> simp [ht])) H d_g5_5_58 (Or.inl ⟨b127, b128, kc129, rfl, c1, k154, (nlt z126 g131), (nlt z126 g132), g133, q134, q135, q136, q137, q138⟩)
 ·
  refine r_ldcS (vs := [.int 49, .int 32, .int 109, .int 97, .int 116, .int 99, .int 104, .int 101, .int 114]) (z := (9 : Int32)) H 7 36 d_g5_5_5 (tw195 hw) wS hT_1_20_matcher hh0 hcw ⟨by decide, by decide⟩ ?_
  intro h156 la156 lv156 kl156 K156 E156 C156 V156 A156 D156
  refine r_goto H 29 d_g5_5_7 ?_
  refine r_astoreN H 30 #[vI i1, vI i2, vR la156] d_g5_5_29 ?_
  refine r_new H 33 d_g5_5_30 (tw5 hw) (tw6 hw) (tw7 hw) ?_
  intro h157 b157 g157 l157 K157 E157 D157
  refine r_dup H 34 d_g5_5_33 ?_
  have z158 := Nat.le_trans K156.1 K157.1
  refine r_special (a := b157) (argsL := []) (rest := [.ref b157]) (W := 1) H 37 d_g5_5_34 (tw8 hw) (tw9 hw) (tw7 hw) (tw10 hw) (lenOf pd_1 rfl) (rm_init_2 hw ("1 matcher" :: Ts) b157 cs h157 h0.size (nlt Zf Z0) z158 (nlt K156.1 (Nat.le_of_eq g157.symm)) E157 (show Fld Z h157 b157 "java/lang/AbstractStringBuilder" "value" "[B" .null from D157 (Or.inl (tw24 hw)) (ty := (.array .byte)) (by decide)) (show Fld Z h157 b157 "java/lang/AbstractStringBuilder" "coder" "B" (.int 0) from D157 (Or.inl (tw26 hw)) (ty := .byte) (by decide)) (show Fld Z h157 b157 "java/lang/AbstractStringBuilder" "count" "I" (.int 0) from D157 (Or.inl (tw38 hw)) (ty := .int) (by decide)) S_cs hcs) ?_
  rintro _ hh169 ⟨b159, kc160, rfl, K161, g162, q163, q164, q165, q166, q167, q168⟩
  refine r_aloadN H 38 d_g5_5_37 ?_
  have q170 := ((E156.keep K157).keep K161)
  have q171 := ((V156.keep K157 nin0).keep K161 (ninS (Nat.ne_of_lt (Nat.lt_of_lt_of_le E156.lt (nlt nlr (Nat.le_of_eq g157.symm)))) nin0))
  have q172 := ((A156.keep K157 nin0).keep K161 (ninS (Nat.ne_of_lt (Nat.lt_of_lt_of_le A156.lt (nlt nlr (Nat.le_of_eq g157.symm)))) nin0))
  have q173 := ((C156.keep K157 nin0).keep K161 (ninS (Nat.ne_of_lt (Nat.lt_of_lt_of_le E156.lt (nlt nlr (Nat.le_of_eq g157.symm)))) nin0))
  have z174 := Nat.le_trans z158 K161.1
  refine r_virtual (z := mn14) (a := b157) (argsL := [.ref la156]) (rest := []) (W := 0) H 41 d_g5_5_38 (tw63 hw) (tw64 hw) (nf_sel (tw66 hw)) (tw66 hw) (tw65 hw) (tw7 hw) (tw67 hw) q163 (lenOf pd_13 rfl) (rm_append_64 hw ("1 matcher" :: Ts) b157 la156 b159 lv156 kc160 kl156 cs hh169 h0.size (nlt Zf Z0) z174 (nlt z158 g162) (nlt K156.1 (Nat.le_of_eq g157.symm)) q170 q171 q172 q173 q165 q166 q167 q164 q163 q168 S_cs hcs) ?_
  rintro _ hh182 ⟨rfl, K175, q176, q177, q178, q179, q180, q181⟩
  refine r_ldcS (vs := [.int 32, .int 101, .int 120, .int 112, .int 101, .int 99, .int 116, .int 101, .int 100, .int 44, .int 32]) (z := (11 : Int32)) H 43 44 d_g5_5_41 (tw148 hw) wS (nin_cons (by decide) hT__20_expected_2c__20_) hh2 hcw ⟨by decide, by decide⟩ ?_
  intro h183 la183 lv183 kl183 K183 E183 C183 V183 A183 D183
  have q184 := (q178.keep K183 nin0)
  have q185 := (q179.keep K183 nin0)
  have q186 := (q180.keep K183 nin0)
  have q187 := (q177.keep K183 nin0)
  have q188 := (q176.keep K183)
  have z189 := Nat.le_trans z174 K175.1
  have z190 := Nat.le_trans z189 K183.1
  refine r_virtual (z := mn14) (a := b157) (argsL := [.ref la183]) (rest := []) (W := 0) H 46 d_g5_5_43 (tw63 hw) (tw64 hw) (nf_sel (tw66 hw)) (tw66 hw) (tw65 hw) (tw7 hw) (tw67 hw) q188 (lenOf pd_13 rfl) (rm_append_70 hw (" expected, " :: "1 matcher" :: Ts) b157 la183 b159 lv183 kc160 kl183 cs h183 h0.size (nlt Zf Z0) z190 (nlt K156.1 (Nat.le_of_eq g157.symm)) E183 V183 A183 C183 q184 q185 q186 q187 q188 S_cs hcs) ?_
  rintro _ hh201 ⟨b191, kc192, rfl, K193, g194, q195, q196, q197, q198, q199, q200⟩
  refine r_iloadN H 47 d_g5_5_46 ?_
  have z202 := Nat.le_trans z190 K193.1
  refine r_virtual (z := mn7) (a := b157) (argsL := [.int i2]) (rest := []) (W := 0) H 50 d_g5_5_47 (tw27 hw) (tw28 hw) (nf_sel (tw30 hw)) (tw30 hw) (tw29 hw) (tw7 hw) (tw31 hw) q195 (lenOf pd_6 rfl) (rm_append_79 hw (" expected, " :: "1 matcher" :: Ts) b157 b191 i2 kc192 cs gDigitOnes kDigitOnes hh201 h0.size (nlt Zf Z0) z202 (nlt z190 g194) (nlt K156.1 (Nat.le_of_eq g157.symm)) q197 q198 q199 q196 q195 q200 r_i2 S_cs S_DigitOnes A_DigitOnes hcs) ?_
  rintro _ hh210 ⟨rfl, K203, q204, q205, q206, q207, q208, q209⟩
  refine r_ldcS (vs := [.int 32, .int 114, .int 101, .int 99, .int 111, .int 114, .int 100, .int 101, .int 100, .int 46]) (z := (10 : Int32)) H 52 40 d_g5_5_50 (tw166 hw) wS (nin_cons (by decide) (nin_cons (by decide) hT__20_recorded_2e_)) hh3 hcw ⟨by decide, by decide⟩ ?_
  intro h211 la211 lv211 kl211 K211 E211 C211 V211 A211 D211
  have q212 := (q206.keep K211 nin0)
  have q213 := (q207.keep K211 nin0)
  have q214 := (q208.keep K211 nin0)
  have q215 := (q205.keep K211 nin0)
  have q216 := (q204.keep K211)
  have q217 := (q209.keep K211)
  have z218 := Nat.le_trans z202 K203.1
  have z219 := Nat.le_trans z218 K211.1
  refine r_virtual (z := mn14) (a := b157) (argsL := [.ref la211]) (rest := []) (W := 0) H 55 d_g5_5_52 (tw63 hw) (tw64 hw) (nf_sel (tw66 hw)) (tw66 hw) (tw65 hw) (tw7 hw) (tw67 hw) q216 (lenOf pd_13 rfl) (rm_append_83 hw (" recorded." :: " expected, " :: "1 matcher" :: Ts) b157 la211 b191 lv211 ((48 : Int32) + i2) kc192 kl211 cs h211 h0.size (nlt Zf Z0) z219 (nlt z190 g194) (nlt K156.1 (Nat.le_of_eq g157.symm)) E211 V211 A211 C211 q212 q213 q214 q215 q216 q217 S_cs hcs) ?_
  rintro _ hh227 ⟨rfl, K220, q221, q222, q223, q224, q225, q226⟩
  have z228 := Nat.le_trans z219 K220.1
  refine r_virtual (z := mn24) (a := b157) (argsL := []) (rest := []) (W := 0) H 58 d_g5_5_55 (tw105 hw) (tw106 hw) (nf_sel (tw108 hw)) (tw108 hw) (tw107 hw) (tw7 hw) (tw109 hw) q221 (lenOf pd_20 rfl) (rm_toString_88 hw (" recorded." :: " expected, " :: "1 matcher" :: Ts) b157 b191 ((48 : Int32) + i2) kc192 cs hh227 h0.size (nlt Zf Z0) z228 q221 q224 q223 q222 q225 q226 S_cs hcs) ?_
  rintro _ hh241 ⟨b229, b230, kc231, rfl, K232, g233, g234, g235, q236, q237, q238, q239, q240⟩
  have k242 : Keep h0 h156 [] := Keep.trans (Keep.refl h0 []) K156 all0
  have k243 : Keep h0 h157 [] := Keep.trans k242 K157 all0
  have k244 : Keep h0 hh169 [] := Keep.trans k243 K161 (allS (Or.inr (nlt K156.1 (Nat.le_of_eq g157.symm))) all0)
  have k245 : Keep h0 hh182 [] := Keep.trans k244 K175 (allS (Or.inr (nlt K156.1 (Nat.le_of_eq g157.symm))) (allS (Or.inr (nlt z158 g162)) all0))
  have k246 : Keep h0 h183 [] := Keep.trans k245 K183 all0
  have k247 : Keep h0 hh201 [] := Keep.trans k246 K193 (allS (Or.inr (nlt K156.1 (Nat.le_of_eq g157.symm))) all0)
  have k248 : Keep h0 hh210 [] := Keep.trans k247 K203 (allS (Or.inr (nlt K156.1 (Nat.le_of_eq g157.symm))) (allS (Or.inr (nlt z190 g194)) all0))
  have k249 : Keep h0 h211 [] := Keep.trans k248 K211 all0
  have k250 : Keep h0 hh227 [] := Keep.trans k249 K220 (allS (Or.inr (nlt K156.1 (Nat.le_of_eq g157.symm))) (allS (Or.inr (nlt z190 g194)) all0))
  have k251 : Keep h0 hh241 [] := Keep.trans k250 K232 all0
  exact r_areturn (hf := Z0) (hT := (by intro t ht; simp only [List.mem_cons] at ht ⊢; rcases ht with ht | ht | ht | ht <;> simp [ht])) H d_g5_5_58 (Or.inr (⟨b229, b230, kc231, rfl, c1, k251, (nlt z228 g233), (nlt z228 g234), g235, q236, q237, q238, q239, q240⟩))
def Q_compress_100 (Z : State) (a2 : Addr) (i1 : Int32) (i2 : Int32) (c2 : ClassId) (h0 : Heap) (v : Option Value) (h : Heap) : Prop := v = some (.int 32) ∧ Keep h0 h [a2] ∧ Ar Z h a2 c2 .byte [.int i1, .int 32, .int 109, .int 97, .int 116, .int 99, .int 104, .int 101, .int 114, .int 115, .int 32, .int 101, .int 120, .int 112, .int 101, .int 99, .int 116, .int 101, .int 100, .int 44, .int 32, .int i2, .int 32, .int 114, .int 101, .int 99, .int 111, .int 114, .int 100, .int 101, .int 100, .int 46] ∧ Exa Z h a2 "[B"
def R_compress_100 : Room := { frames := 0, cells := 0, slots := 0, locals := 0 }
theorem rm_compress_100 {w : Bool} {Z : State} {a0 : Array Value} (hw : HW a0 Z) (Ts : List String) (a1 : Addr) (a2 : Addr) (i1 : Int32) (i2 : Int32) (c1 : ClassId) (c2 : ClassId) (h0 : Heap) (f : Nat) (Zf : Z.heap.size ≤ f) (Z0 : f ≤ h0.size) (A_a1 : Ar Z h0 a1 c1 .char [.int i1, .int 32, .int 109, .int 97, .int 116, .int 99, .int 104, .int 101, .int 114, .int 115, .int 32, .int 101, .int 120, .int 112, .int 101, .int 99, .int 116, .int 101, .int 100, .int 44, .int 32, .int i2, .int 32, .int 114, .int 101, .int 99, .int 111, .int 114, .int 100, .int 101, .int 100, .int 46]) (A_a2 : Ar Z h0 a2 c2 .byte [.int 0, .int 0, .int 0, .int 0, .int 0, .int 0, .int 0, .int 0, .int 0, .int 0, .int 0, .int 0, .int 0, .int 0, .int 0, .int 0, .int 0, .int 0, .int 0, .int 0, .int 0, .int 0, .int 0, .int 0, .int 0, .int 0, .int 0, .int 0, .int 0, .int 0, .int 0, .int 0]) (g_a2 : f ≤ a2) (E_a2 : Exa Z h0 a2 "[B") (E_a1 : Exa Z h0 a1 "[C") (r_i1 : 48 ≤ i1.toInt ∧ i1.toInt ≤ 57) (r_i2 : 48 ≤ i2.toInt ∧ i2.toInt ≤ 57) :
  Con w [] Z mn30 jdk_52_method_21_code 7 (some .int) R_compress_100 Ts Ts f #[.ref a1, .int 0, .ref a2, .int 0, .int 32] h0 (Q_compress_100 Z a2 i1 i2 c2 h0) := by
 refine con_of f #[vR a1, vI 0, vR a2, vI 0, vI 32, .unset, .unset] (plainFor_of_name pn_7) (fun m => rfl) Zf ?_
 intro C H hX0
 refine r_iconst H 1 0 d_j52_21_0 ?_
 refine r_istore H 3 #[vR a1, vI 0, vR a2, vI 0, vI 32, vI 0, .unset] d_j52_21_1 ?_
 refine r_iload H 5 d_j52_21_3 ?_
 refine r_iload H 7 d_j52_21_5 ?_
 refine r_icmpgeF H 10 d_j52_21_7 ?_
 refine r_aloadN H 11 d_j52_21_10 ?_
 refine r_iloadN H 12 d_j52_21_11 ?_
 refine r_caload H 13 i1 d_j52_21_12 A_a1 ?_
 refine r_istore H 15 #[vR a1, vI 0, vR a2, vI 0, vI 32, vI 0, vI i1] d_j52_21_13 ?_
 refine r_iload H 17 d_j52_21_15 ?_
 refine r_sipush H 20 255 d_j52_21_17 ?_
 refine r_icmpleT (c := (by have := r_i1; have : (255 : Int32).toInt = 255 := (by decide); simp only [Int32.lt_iff_toInt_lt, ← Int32.toInt_inj]; omega)) H 26 d_j52_21_20 ?_
 refine r_aloadN H 27 d_j52_21_26 ?_
 refine r_iloadN H 28 d_j52_21_27 ?_
 refine r_iload H 30 d_j52_21_28 ?_
 refine r_i2b (hz := (i2b_id (by have := r_i1; omega))) H 31 i1 d_j52_21_30 ?_
 refine r_bastore (hy := (nar_byte_id (by have := r_i1; omega))) H 32 i1 d_j52_21_31 A_a2 g_a2 ?_
 intro h1 K1 A1
 change Ar Z h1 a2 c2 .byte [.int i1, .int 0, .int 0, .int 0, .int 0, .int 0, .int 0, .int 0, .int 0, .int 0, .int 0, .int 0, .int 0, .int 0, .int 0, .int 0, .int 0, .int 0, .int 0, .int 0, .int 0, .int 0, .int 0, .int 0, .int 0, .int 0, .int 0, .int 0, .int 0, .int 0, .int 0, .int 0] at A1
 refine r_iinc H 35 #[vR a1, vI 1, vR a2, vI 0, vI 32, vI 0, vI i1] 1 d_j52_21_32 ?_
 refine r_iinc H 38 #[vR a1, vI 1, vR a2, vI 1, vI 32, vI 0, vI i1] 1 d_j52_21_35 ?_
 refine r_iinc H 41 #[vR a1, vI 1, vR a2, vI 1, vI 32, vI 1, vI i1] 1 d_j52_21_38 ?_
 refine r_goto H 3 d_j52_21_41 ?_
 refine r_iload H 5 d_j52_21_3 ?_
 refine r_iload H 7 d_j52_21_5 ?_
 refine r_icmpgeF H 10 d_j52_21_7 ?_
 refine r_aloadN H 11 d_j52_21_10 ?_
 refine r_iloadN H 12 d_j52_21_11 ?_
 have q2 := (E_a1.keep K1)
 have q3 := (E_a2.keep K1)
 have q4 := (A_a1.keep K1 (ninS (ne_exa q2 q3 (by decide)) nin0))
 refine r_caload H 13 32 d_j52_21_12 q4 ?_
 refine r_istore H 15 #[vR a1, vI 1, vR a2, vI 1, vI 32, vI 1, vI 32] d_j52_21_13 ?_
 refine r_iload H 17 d_j52_21_15 ?_
 refine r_sipush H 20 255 d_j52_21_17 ?_
 refine r_icmpleT H 26 d_j52_21_20 ?_
 refine r_aloadN H 27 d_j52_21_26 ?_
 refine r_iloadN H 28 d_j52_21_27 ?_
 refine r_iload H 30 d_j52_21_28 ?_
 refine r_i2b H 31 32 d_j52_21_30 ?_
 refine r_bastore H 32 32 d_j52_21_31 A1 g_a2 ?_
 intro h5 K5 A5
 change Ar Z h5 a2 c2 .byte [.int i1, .int 32, .int 0, .int 0, .int 0, .int 0, .int 0, .int 0, .int 0, .int 0, .int 0, .int 0, .int 0, .int 0, .int 0, .int 0, .int 0, .int 0, .int 0, .int 0, .int 0, .int 0, .int 0, .int 0, .int 0, .int 0, .int 0, .int 0, .int 0, .int 0, .int 0, .int 0] at A5
 refine r_iinc H 35 #[vR a1, vI 2, vR a2, vI 1, vI 32, vI 1, vI 32] 2 d_j52_21_32 ?_
 refine r_iinc H 38 #[vR a1, vI 2, vR a2, vI 2, vI 32, vI 1, vI 32] 2 d_j52_21_35 ?_
 refine r_iinc H 41 #[vR a1, vI 2, vR a2, vI 2, vI 32, vI 2, vI 32] 2 d_j52_21_38 ?_
 refine r_goto H 3 d_j52_21_41 ?_
 refine r_iload H 5 d_j52_21_3 ?_
 refine r_iload H 7 d_j52_21_5 ?_
 refine r_icmpgeF H 10 d_j52_21_7 ?_
 refine r_aloadN H 11 d_j52_21_10 ?_
 refine r_iloadN H 12 d_j52_21_11 ?_
 have q6 := (q2.keep K5)
 have q7 := (q3.keep K5)
 have q8 := (q4.keep K5 (ninS (ne_exa q6 q7 (by decide)) nin0))
 refine r_caload H 13 109 d_j52_21_12 q8 ?_
 refine r_istore H 15 #[vR a1, vI 2, vR a2, vI 2, vI 32, vI 2, vI 109] d_j52_21_13 ?_
 refine r_iload H 17 d_j52_21_15 ?_
 refine r_sipush H 20 255 d_j52_21_17 ?_
 refine r_icmpleT H 26 d_j52_21_20 ?_
 refine r_aloadN H 27 d_j52_21_26 ?_
 refine r_iloadN H 28 d_j52_21_27 ?_
 refine r_iload H 30 d_j52_21_28 ?_
 refine r_i2b H 31 109 d_j52_21_30 ?_
 refine r_bastore H 32 109 d_j52_21_31 A5 g_a2 ?_
 intro h9 K9 A9
 change Ar Z h9 a2 c2 .byte [.int i1, .int 32, .int 109, .int 0, .int 0, .int 0, .int 0, .int 0, .int 0, .int 0, .int 0, .int 0, .int 0, .int 0, .int 0, .int 0, .int 0, .int 0, .int 0, .int 0, .int 0, .int 0, .int 0, .int 0, .int 0, .int 0, .int 0, .int 0, .int 0, .int 0, .int 0, .int 0] at A9
 refine r_iinc H 35 #[vR a1, vI 3, vR a2, vI 2, vI 32, vI 2, vI 109] 3 d_j52_21_32 ?_
 refine r_iinc H 38 #[vR a1, vI 3, vR a2, vI 3, vI 32, vI 2, vI 109] 3 d_j52_21_35 ?_
 refine r_iinc H 41 #[vR a1, vI 3, vR a2, vI 3, vI 32, vI 3, vI 109] 3 d_j52_21_38 ?_
 refine r_goto H 3 d_j52_21_41 ?_
 refine r_iload H 5 d_j52_21_3 ?_
 refine r_iload H 7 d_j52_21_5 ?_
 refine r_icmpgeF H 10 d_j52_21_7 ?_
 refine r_aloadN H 11 d_j52_21_10 ?_
 refine r_iloadN H 12 d_j52_21_11 ?_
 have q10 := (q6.keep K9)
 have q11 := (q7.keep K9)
 have q12 := (q8.keep K9 (ninS (ne_exa q10 q11 (by decide)) nin0))
 refine r_caload H 13 97 d_j52_21_12 q12 ?_
 refine r_istore H 15 #[vR a1, vI 3, vR a2, vI 3, vI 32, vI 3, vI 97] d_j52_21_13 ?_
 refine r_iload H 17 d_j52_21_15 ?_
 refine r_sipush H 20 255 d_j52_21_17 ?_
 refine r_icmpleT H 26 d_j52_21_20 ?_
 refine r_aloadN H 27 d_j52_21_26 ?_
 refine r_iloadN H 28 d_j52_21_27 ?_
 refine r_iload H 30 d_j52_21_28 ?_
 refine r_i2b H 31 97 d_j52_21_30 ?_
 refine r_bastore H 32 97 d_j52_21_31 A9 g_a2 ?_
 intro h13 K13 A13
 change Ar Z h13 a2 c2 .byte [.int i1, .int 32, .int 109, .int 97, .int 0, .int 0, .int 0, .int 0, .int 0, .int 0, .int 0, .int 0, .int 0, .int 0, .int 0, .int 0, .int 0, .int 0, .int 0, .int 0, .int 0, .int 0, .int 0, .int 0, .int 0, .int 0, .int 0, .int 0, .int 0, .int 0, .int 0, .int 0] at A13
 refine r_iinc H 35 #[vR a1, vI 4, vR a2, vI 3, vI 32, vI 3, vI 97] 4 d_j52_21_32 ?_
 refine r_iinc H 38 #[vR a1, vI 4, vR a2, vI 4, vI 32, vI 3, vI 97] 4 d_j52_21_35 ?_
 refine r_iinc H 41 #[vR a1, vI 4, vR a2, vI 4, vI 32, vI 4, vI 97] 4 d_j52_21_38 ?_
 refine r_goto H 3 d_j52_21_41 ?_
 refine r_iload H 5 d_j52_21_3 ?_
 refine r_iload H 7 d_j52_21_5 ?_
 refine r_icmpgeF H 10 d_j52_21_7 ?_
 refine r_aloadN H 11 d_j52_21_10 ?_
 refine r_iloadN H 12 d_j52_21_11 ?_
 have q14 := (q10.keep K13)
 have q15 := (q11.keep K13)
 have q16 := (q12.keep K13 (ninS (ne_exa q14 q15 (by decide)) nin0))
 refine r_caload H 13 116 d_j52_21_12 q16 ?_
 refine r_istore H 15 #[vR a1, vI 4, vR a2, vI 4, vI 32, vI 4, vI 116] d_j52_21_13 ?_
 refine r_iload H 17 d_j52_21_15 ?_
 refine r_sipush H 20 255 d_j52_21_17 ?_
 refine r_icmpleT H 26 d_j52_21_20 ?_
 refine r_aloadN H 27 d_j52_21_26 ?_
 refine r_iloadN H 28 d_j52_21_27 ?_
 refine r_iload H 30 d_j52_21_28 ?_
 refine r_i2b H 31 116 d_j52_21_30 ?_
 refine r_bastore H 32 116 d_j52_21_31 A13 g_a2 ?_
 intro h17 K17 A17
 change Ar Z h17 a2 c2 .byte [.int i1, .int 32, .int 109, .int 97, .int 116, .int 0, .int 0, .int 0, .int 0, .int 0, .int 0, .int 0, .int 0, .int 0, .int 0, .int 0, .int 0, .int 0, .int 0, .int 0, .int 0, .int 0, .int 0, .int 0, .int 0, .int 0, .int 0, .int 0, .int 0, .int 0, .int 0, .int 0] at A17
 refine r_iinc H 35 #[vR a1, vI 5, vR a2, vI 4, vI 32, vI 4, vI 116] 5 d_j52_21_32 ?_
 refine r_iinc H 38 #[vR a1, vI 5, vR a2, vI 5, vI 32, vI 4, vI 116] 5 d_j52_21_35 ?_
 refine r_iinc H 41 #[vR a1, vI 5, vR a2, vI 5, vI 32, vI 5, vI 116] 5 d_j52_21_38 ?_
 refine r_goto H 3 d_j52_21_41 ?_
 refine r_iload H 5 d_j52_21_3 ?_
 refine r_iload H 7 d_j52_21_5 ?_
 refine r_icmpgeF H 10 d_j52_21_7 ?_
 refine r_aloadN H 11 d_j52_21_10 ?_
 refine r_iloadN H 12 d_j52_21_11 ?_
 have q18 := (q14.keep K17)
 have q19 := (q15.keep K17)
 have q20 := (q16.keep K17 (ninS (ne_exa q18 q19 (by decide)) nin0))
 refine r_caload H 13 99 d_j52_21_12 q20 ?_
 refine r_istore H 15 #[vR a1, vI 5, vR a2, vI 5, vI 32, vI 5, vI 99] d_j52_21_13 ?_
 refine r_iload H 17 d_j52_21_15 ?_
 refine r_sipush H 20 255 d_j52_21_17 ?_
 refine r_icmpleT H 26 d_j52_21_20 ?_
 refine r_aloadN H 27 d_j52_21_26 ?_
 refine r_iloadN H 28 d_j52_21_27 ?_
 refine r_iload H 30 d_j52_21_28 ?_
 refine r_i2b H 31 99 d_j52_21_30 ?_
 refine r_bastore H 32 99 d_j52_21_31 A17 g_a2 ?_
 intro h21 K21 A21
 change Ar Z h21 a2 c2 .byte [.int i1, .int 32, .int 109, .int 97, .int 116, .int 99, .int 0, .int 0, .int 0, .int 0, .int 0, .int 0, .int 0, .int 0, .int 0, .int 0, .int 0, .int 0, .int 0, .int 0, .int 0, .int 0, .int 0, .int 0, .int 0, .int 0, .int 0, .int 0, .int 0, .int 0, .int 0, .int 0] at A21
 refine r_iinc H 35 #[vR a1, vI 6, vR a2, vI 5, vI 32, vI 5, vI 99] 6 d_j52_21_32 ?_
 refine r_iinc H 38 #[vR a1, vI 6, vR a2, vI 6, vI 32, vI 5, vI 99] 6 d_j52_21_35 ?_
 refine r_iinc H 41 #[vR a1, vI 6, vR a2, vI 6, vI 32, vI 6, vI 99] 6 d_j52_21_38 ?_
 refine r_goto H 3 d_j52_21_41 ?_
 refine r_iload H 5 d_j52_21_3 ?_
 refine r_iload H 7 d_j52_21_5 ?_
 refine r_icmpgeF H 10 d_j52_21_7 ?_
 refine r_aloadN H 11 d_j52_21_10 ?_
 refine r_iloadN H 12 d_j52_21_11 ?_
 have q22 := (q18.keep K21)
 have q23 := (q19.keep K21)
 have q24 := (q20.keep K21 (ninS (ne_exa q22 q23 (by decide)) nin0))
 refine r_caload H 13 104 d_j52_21_12 q24 ?_
 refine r_istore H 15 #[vR a1, vI 6, vR a2, vI 6, vI 32, vI 6, vI 104] d_j52_21_13 ?_
 refine r_iload H 17 d_j52_21_15 ?_
 refine r_sipush H 20 255 d_j52_21_17 ?_
 refine r_icmpleT H 26 d_j52_21_20 ?_
 refine r_aloadN H 27 d_j52_21_26 ?_
 refine r_iloadN H 28 d_j52_21_27 ?_
 refine r_iload H 30 d_j52_21_28 ?_
 refine r_i2b H 31 104 d_j52_21_30 ?_
 refine r_bastore H 32 104 d_j52_21_31 A21 g_a2 ?_
 intro h25 K25 A25
 change Ar Z h25 a2 c2 .byte [.int i1, .int 32, .int 109, .int 97, .int 116, .int 99, .int 104, .int 0, .int 0, .int 0, .int 0, .int 0, .int 0, .int 0, .int 0, .int 0, .int 0, .int 0, .int 0, .int 0, .int 0, .int 0, .int 0, .int 0, .int 0, .int 0, .int 0, .int 0, .int 0, .int 0, .int 0, .int 0] at A25
 refine r_iinc H 35 #[vR a1, vI 7, vR a2, vI 6, vI 32, vI 6, vI 104] 7 d_j52_21_32 ?_
 refine r_iinc H 38 #[vR a1, vI 7, vR a2, vI 7, vI 32, vI 6, vI 104] 7 d_j52_21_35 ?_
 refine r_iinc H 41 #[vR a1, vI 7, vR a2, vI 7, vI 32, vI 7, vI 104] 7 d_j52_21_38 ?_
 refine r_goto H 3 d_j52_21_41 ?_
 refine r_iload H 5 d_j52_21_3 ?_
 refine r_iload H 7 d_j52_21_5 ?_
 refine r_icmpgeF H 10 d_j52_21_7 ?_
 refine r_aloadN H 11 d_j52_21_10 ?_
 refine r_iloadN H 12 d_j52_21_11 ?_
 have q26 := (q22.keep K25)
 have q27 := (q23.keep K25)
 have q28 := (q24.keep K25 (ninS (ne_exa q26 q27 (by decide)) nin0))
 refine r_caload H 13 101 d_j52_21_12 q28 ?_
 refine r_istore H 15 #[vR a1, vI 7, vR a2, vI 7, vI 32, vI 7, vI 101] d_j52_21_13 ?_
 refine r_iload H 17 d_j52_21_15 ?_
 refine r_sipush H 20 255 d_j52_21_17 ?_
 refine r_icmpleT H 26 d_j52_21_20 ?_
 refine r_aloadN H 27 d_j52_21_26 ?_
 refine r_iloadN H 28 d_j52_21_27 ?_
 refine r_iload H 30 d_j52_21_28 ?_
 refine r_i2b H 31 101 d_j52_21_30 ?_
 refine r_bastore H 32 101 d_j52_21_31 A25 g_a2 ?_
 intro h29 K29 A29
 change Ar Z h29 a2 c2 .byte [.int i1, .int 32, .int 109, .int 97, .int 116, .int 99, .int 104, .int 101, .int 0, .int 0, .int 0, .int 0, .int 0, .int 0, .int 0, .int 0, .int 0, .int 0, .int 0, .int 0, .int 0, .int 0, .int 0, .int 0, .int 0, .int 0, .int 0, .int 0, .int 0, .int 0, .int 0, .int 0] at A29
 refine r_iinc H 35 #[vR a1, vI 8, vR a2, vI 7, vI 32, vI 7, vI 101] 8 d_j52_21_32 ?_
 refine r_iinc H 38 #[vR a1, vI 8, vR a2, vI 8, vI 32, vI 7, vI 101] 8 d_j52_21_35 ?_
 refine r_iinc H 41 #[vR a1, vI 8, vR a2, vI 8, vI 32, vI 8, vI 101] 8 d_j52_21_38 ?_
 refine r_goto H 3 d_j52_21_41 ?_
 refine r_iload H 5 d_j52_21_3 ?_
 refine r_iload H 7 d_j52_21_5 ?_
 refine r_icmpgeF H 10 d_j52_21_7 ?_
 refine r_aloadN H 11 d_j52_21_10 ?_
 refine r_iloadN H 12 d_j52_21_11 ?_
 have q30 := (q26.keep K29)
 have q31 := (q27.keep K29)
 have q32 := (q28.keep K29 (ninS (ne_exa q30 q31 (by decide)) nin0))
 refine r_caload H 13 114 d_j52_21_12 q32 ?_
 refine r_istore H 15 #[vR a1, vI 8, vR a2, vI 8, vI 32, vI 8, vI 114] d_j52_21_13 ?_
 refine r_iload H 17 d_j52_21_15 ?_
 refine r_sipush H 20 255 d_j52_21_17 ?_
 refine r_icmpleT H 26 d_j52_21_20 ?_
 refine r_aloadN H 27 d_j52_21_26 ?_
 refine r_iloadN H 28 d_j52_21_27 ?_
 refine r_iload H 30 d_j52_21_28 ?_
 refine r_i2b H 31 114 d_j52_21_30 ?_
 refine r_bastore H 32 114 d_j52_21_31 A29 g_a2 ?_
 intro h33 K33 A33
 change Ar Z h33 a2 c2 .byte [.int i1, .int 32, .int 109, .int 97, .int 116, .int 99, .int 104, .int 101, .int 114, .int 0, .int 0, .int 0, .int 0, .int 0, .int 0, .int 0, .int 0, .int 0, .int 0, .int 0, .int 0, .int 0, .int 0, .int 0, .int 0, .int 0, .int 0, .int 0, .int 0, .int 0, .int 0, .int 0] at A33
 refine r_iinc H 35 #[vR a1, vI 9, vR a2, vI 8, vI 32, vI 8, vI 114] 9 d_j52_21_32 ?_
 refine r_iinc H 38 #[vR a1, vI 9, vR a2, vI 9, vI 32, vI 8, vI 114] 9 d_j52_21_35 ?_
 refine r_iinc H 41 #[vR a1, vI 9, vR a2, vI 9, vI 32, vI 9, vI 114] 9 d_j52_21_38 ?_
 refine r_goto H 3 d_j52_21_41 ?_
 refine r_iload H 5 d_j52_21_3 ?_
 refine r_iload H 7 d_j52_21_5 ?_
 refine r_icmpgeF H 10 d_j52_21_7 ?_
 refine r_aloadN H 11 d_j52_21_10 ?_
 refine r_iloadN H 12 d_j52_21_11 ?_
 have q34 := (q30.keep K33)
 have q35 := (q31.keep K33)
 have q36 := (q32.keep K33 (ninS (ne_exa q34 q35 (by decide)) nin0))
 refine r_caload H 13 115 d_j52_21_12 q36 ?_
 refine r_istore H 15 #[vR a1, vI 9, vR a2, vI 9, vI 32, vI 9, vI 115] d_j52_21_13 ?_
 refine r_iload H 17 d_j52_21_15 ?_
 refine r_sipush H 20 255 d_j52_21_17 ?_
 refine r_icmpleT H 26 d_j52_21_20 ?_
 refine r_aloadN H 27 d_j52_21_26 ?_
 refine r_iloadN H 28 d_j52_21_27 ?_
 refine r_iload H 30 d_j52_21_28 ?_
 refine r_i2b H 31 115 d_j52_21_30 ?_
 refine r_bastore H 32 115 d_j52_21_31 A33 g_a2 ?_
 intro h37 K37 A37
 change Ar Z h37 a2 c2 .byte [.int i1, .int 32, .int 109, .int 97, .int 116, .int 99, .int 104, .int 101, .int 114, .int 115, .int 0, .int 0, .int 0, .int 0, .int 0, .int 0, .int 0, .int 0, .int 0, .int 0, .int 0, .int 0, .int 0, .int 0, .int 0, .int 0, .int 0, .int 0, .int 0, .int 0, .int 0, .int 0] at A37
 refine r_iinc H 35 #[vR a1, vI 10, vR a2, vI 9, vI 32, vI 9, vI 115] 10 d_j52_21_32 ?_
 refine r_iinc H 38 #[vR a1, vI 10, vR a2, vI 10, vI 32, vI 9, vI 115] 10 d_j52_21_35 ?_
 refine r_iinc H 41 #[vR a1, vI 10, vR a2, vI 10, vI 32, vI 10, vI 115] 10 d_j52_21_38 ?_
 refine r_goto H 3 d_j52_21_41 ?_
 refine r_iload H 5 d_j52_21_3 ?_
 refine r_iload H 7 d_j52_21_5 ?_
 refine r_icmpgeF H 10 d_j52_21_7 ?_
 refine r_aloadN H 11 d_j52_21_10 ?_
 refine r_iloadN H 12 d_j52_21_11 ?_
 have q38 := (q34.keep K37)
 have q39 := (q35.keep K37)
 have q40 := (q36.keep K37 (ninS (ne_exa q38 q39 (by decide)) nin0))
 refine r_caload H 13 32 d_j52_21_12 q40 ?_
 refine r_istore H 15 #[vR a1, vI 10, vR a2, vI 10, vI 32, vI 10, vI 32] d_j52_21_13 ?_
 refine r_iload H 17 d_j52_21_15 ?_
 refine r_sipush H 20 255 d_j52_21_17 ?_
 refine r_icmpleT H 26 d_j52_21_20 ?_
 refine r_aloadN H 27 d_j52_21_26 ?_
 refine r_iloadN H 28 d_j52_21_27 ?_
 refine r_iload H 30 d_j52_21_28 ?_
 refine r_i2b H 31 32 d_j52_21_30 ?_
 refine r_bastore H 32 32 d_j52_21_31 A37 g_a2 ?_
 intro h41 K41 A41
 change Ar Z h41 a2 c2 .byte [.int i1, .int 32, .int 109, .int 97, .int 116, .int 99, .int 104, .int 101, .int 114, .int 115, .int 32, .int 0, .int 0, .int 0, .int 0, .int 0, .int 0, .int 0, .int 0, .int 0, .int 0, .int 0, .int 0, .int 0, .int 0, .int 0, .int 0, .int 0, .int 0, .int 0, .int 0, .int 0] at A41
 refine r_iinc H 35 #[vR a1, vI 11, vR a2, vI 10, vI 32, vI 10, vI 32] 11 d_j52_21_32 ?_
 refine r_iinc H 38 #[vR a1, vI 11, vR a2, vI 11, vI 32, vI 10, vI 32] 11 d_j52_21_35 ?_
 refine r_iinc H 41 #[vR a1, vI 11, vR a2, vI 11, vI 32, vI 11, vI 32] 11 d_j52_21_38 ?_
 refine r_goto H 3 d_j52_21_41 ?_
 refine r_iload H 5 d_j52_21_3 ?_
 refine r_iload H 7 d_j52_21_5 ?_
 refine r_icmpgeF H 10 d_j52_21_7 ?_
 refine r_aloadN H 11 d_j52_21_10 ?_
 refine r_iloadN H 12 d_j52_21_11 ?_
 have q42 := (q38.keep K41)
 have q43 := (q39.keep K41)
 have q44 := (q40.keep K41 (ninS (ne_exa q42 q43 (by decide)) nin0))
 refine r_caload H 13 101 d_j52_21_12 q44 ?_
 refine r_istore H 15 #[vR a1, vI 11, vR a2, vI 11, vI 32, vI 11, vI 101] d_j52_21_13 ?_
 refine r_iload H 17 d_j52_21_15 ?_
 refine r_sipush H 20 255 d_j52_21_17 ?_
 refine r_icmpleT H 26 d_j52_21_20 ?_
 refine r_aloadN H 27 d_j52_21_26 ?_
 refine r_iloadN H 28 d_j52_21_27 ?_
 refine r_iload H 30 d_j52_21_28 ?_
 refine r_i2b H 31 101 d_j52_21_30 ?_
 refine r_bastore H 32 101 d_j52_21_31 A41 g_a2 ?_
 intro h45 K45 A45
 change Ar Z h45 a2 c2 .byte [.int i1, .int 32, .int 109, .int 97, .int 116, .int 99, .int 104, .int 101, .int 114, .int 115, .int 32, .int 101, .int 0, .int 0, .int 0, .int 0, .int 0, .int 0, .int 0, .int 0, .int 0, .int 0, .int 0, .int 0, .int 0, .int 0, .int 0, .int 0, .int 0, .int 0, .int 0, .int 0] at A45
 refine r_iinc H 35 #[vR a1, vI 12, vR a2, vI 11, vI 32, vI 11, vI 101] 12 d_j52_21_32 ?_
 refine r_iinc H 38 #[vR a1, vI 12, vR a2, vI 12, vI 32, vI 11, vI 101] 12 d_j52_21_35 ?_
 refine r_iinc H 41 #[vR a1, vI 12, vR a2, vI 12, vI 32, vI 12, vI 101] 12 d_j52_21_38 ?_
 refine r_goto H 3 d_j52_21_41 ?_
 refine r_iload H 5 d_j52_21_3 ?_
 refine r_iload H 7 d_j52_21_5 ?_
 refine r_icmpgeF H 10 d_j52_21_7 ?_
 refine r_aloadN H 11 d_j52_21_10 ?_
 refine r_iloadN H 12 d_j52_21_11 ?_
 have q46 := (q42.keep K45)
 have q47 := (q43.keep K45)
 have q48 := (q44.keep K45 (ninS (ne_exa q46 q47 (by decide)) nin0))
 refine r_caload H 13 120 d_j52_21_12 q48 ?_
 refine r_istore H 15 #[vR a1, vI 12, vR a2, vI 12, vI 32, vI 12, vI 120] d_j52_21_13 ?_
 refine r_iload H 17 d_j52_21_15 ?_
 refine r_sipush H 20 255 d_j52_21_17 ?_
 refine r_icmpleT H 26 d_j52_21_20 ?_
 refine r_aloadN H 27 d_j52_21_26 ?_
 refine r_iloadN H 28 d_j52_21_27 ?_
 refine r_iload H 30 d_j52_21_28 ?_
 refine r_i2b H 31 120 d_j52_21_30 ?_
 refine r_bastore H 32 120 d_j52_21_31 A45 g_a2 ?_
 intro h49 K49 A49
 change Ar Z h49 a2 c2 .byte [.int i1, .int 32, .int 109, .int 97, .int 116, .int 99, .int 104, .int 101, .int 114, .int 115, .int 32, .int 101, .int 120, .int 0, .int 0, .int 0, .int 0, .int 0, .int 0, .int 0, .int 0, .int 0, .int 0, .int 0, .int 0, .int 0, .int 0, .int 0, .int 0, .int 0, .int 0, .int 0] at A49
 refine r_iinc H 35 #[vR a1, vI 13, vR a2, vI 12, vI 32, vI 12, vI 120] 13 d_j52_21_32 ?_
 refine r_iinc H 38 #[vR a1, vI 13, vR a2, vI 13, vI 32, vI 12, vI 120] 13 d_j52_21_35 ?_
 refine r_iinc H 41 #[vR a1, vI 13, vR a2, vI 13, vI 32, vI 13, vI 120] 13 d_j52_21_38 ?_
 refine r_goto H 3 d_j52_21_41 ?_
 refine r_iload H 5 d_j52_21_3 ?_
 refine r_iload H 7 d_j52_21_5 ?_
 refine r_icmpgeF H 10 d_j52_21_7 ?_
 refine r_aloadN H 11 d_j52_21_10 ?_
 refine r_iloadN H 12 d_j52_21_11 ?_
 have q50 := (q46.keep K49)
 have q51 := (q47.keep K49)
 have q52 := (q48.keep K49 (ninS (ne_exa q50 q51 (by decide)) nin0))
 refine r_caload H 13 112 d_j52_21_12 q52 ?_
 refine r_istore H 15 #[vR a1, vI 13, vR a2, vI 13, vI 32, vI 13, vI 112] d_j52_21_13 ?_
 refine r_iload H 17 d_j52_21_15 ?_
 refine r_sipush H 20 255 d_j52_21_17 ?_
 refine r_icmpleT H 26 d_j52_21_20 ?_
 refine r_aloadN H 27 d_j52_21_26 ?_
 refine r_iloadN H 28 d_j52_21_27 ?_
 refine r_iload H 30 d_j52_21_28 ?_
 refine r_i2b H 31 112 d_j52_21_30 ?_
 refine r_bastore H 32 112 d_j52_21_31 A49 g_a2 ?_
 intro h53 K53 A53
 change Ar Z h53 a2 c2 .byte [.int i1, .int 32, .int 109, .int 97, .int 116, .int 99, .int 104, .int 101, .int 114, .int 115, .int 32, .int 101, .int 120, .int 112, .int 0, .int 0, .int 0, .int 0, .int 0, .int 0, .int 0, .int 0, .int 0, .int 0, .int 0, .int 0, .int 0, .int 0, .int 0, .int 0, .int 0, .int 0] at A53
 refine r_iinc H 35 #[vR a1, vI 14, vR a2, vI 13, vI 32, vI 13, vI 112] 14 d_j52_21_32 ?_
 refine r_iinc H 38 #[vR a1, vI 14, vR a2, vI 14, vI 32, vI 13, vI 112] 14 d_j52_21_35 ?_
 refine r_iinc H 41 #[vR a1, vI 14, vR a2, vI 14, vI 32, vI 14, vI 112] 14 d_j52_21_38 ?_
 refine r_goto H 3 d_j52_21_41 ?_
 refine r_iload H 5 d_j52_21_3 ?_
 refine r_iload H 7 d_j52_21_5 ?_
 refine r_icmpgeF H 10 d_j52_21_7 ?_
 refine r_aloadN H 11 d_j52_21_10 ?_
 refine r_iloadN H 12 d_j52_21_11 ?_
 have q54 := (q50.keep K53)
 have q55 := (q51.keep K53)
 have q56 := (q52.keep K53 (ninS (ne_exa q54 q55 (by decide)) nin0))
 refine r_caload H 13 101 d_j52_21_12 q56 ?_
 refine r_istore H 15 #[vR a1, vI 14, vR a2, vI 14, vI 32, vI 14, vI 101] d_j52_21_13 ?_
 refine r_iload H 17 d_j52_21_15 ?_
 refine r_sipush H 20 255 d_j52_21_17 ?_
 refine r_icmpleT H 26 d_j52_21_20 ?_
 refine r_aloadN H 27 d_j52_21_26 ?_
 refine r_iloadN H 28 d_j52_21_27 ?_
 refine r_iload H 30 d_j52_21_28 ?_
 refine r_i2b H 31 101 d_j52_21_30 ?_
 refine r_bastore H 32 101 d_j52_21_31 A53 g_a2 ?_
 intro h57 K57 A57
 change Ar Z h57 a2 c2 .byte [.int i1, .int 32, .int 109, .int 97, .int 116, .int 99, .int 104, .int 101, .int 114, .int 115, .int 32, .int 101, .int 120, .int 112, .int 101, .int 0, .int 0, .int 0, .int 0, .int 0, .int 0, .int 0, .int 0, .int 0, .int 0, .int 0, .int 0, .int 0, .int 0, .int 0, .int 0, .int 0] at A57
 refine r_iinc H 35 #[vR a1, vI 15, vR a2, vI 14, vI 32, vI 14, vI 101] 15 d_j52_21_32 ?_
 refine r_iinc H 38 #[vR a1, vI 15, vR a2, vI 15, vI 32, vI 14, vI 101] 15 d_j52_21_35 ?_
 refine r_iinc H 41 #[vR a1, vI 15, vR a2, vI 15, vI 32, vI 15, vI 101] 15 d_j52_21_38 ?_
 refine r_goto H 3 d_j52_21_41 ?_
 refine r_iload H 5 d_j52_21_3 ?_
 refine r_iload H 7 d_j52_21_5 ?_
 refine r_icmpgeF H 10 d_j52_21_7 ?_
 refine r_aloadN H 11 d_j52_21_10 ?_
 refine r_iloadN H 12 d_j52_21_11 ?_
 have q58 := (q54.keep K57)
 have q59 := (q55.keep K57)
 have q60 := (q56.keep K57 (ninS (ne_exa q58 q59 (by decide)) nin0))
 refine r_caload H 13 99 d_j52_21_12 q60 ?_
 refine r_istore H 15 #[vR a1, vI 15, vR a2, vI 15, vI 32, vI 15, vI 99] d_j52_21_13 ?_
 refine r_iload H 17 d_j52_21_15 ?_
 refine r_sipush H 20 255 d_j52_21_17 ?_
 refine r_icmpleT H 26 d_j52_21_20 ?_
 refine r_aloadN H 27 d_j52_21_26 ?_
 refine r_iloadN H 28 d_j52_21_27 ?_
 refine r_iload H 30 d_j52_21_28 ?_
 refine r_i2b H 31 99 d_j52_21_30 ?_
 refine r_bastore H 32 99 d_j52_21_31 A57 g_a2 ?_
 intro h61 K61 A61
 change Ar Z h61 a2 c2 .byte [.int i1, .int 32, .int 109, .int 97, .int 116, .int 99, .int 104, .int 101, .int 114, .int 115, .int 32, .int 101, .int 120, .int 112, .int 101, .int 99, .int 0, .int 0, .int 0, .int 0, .int 0, .int 0, .int 0, .int 0, .int 0, .int 0, .int 0, .int 0, .int 0, .int 0, .int 0, .int 0] at A61
 refine r_iinc H 35 #[vR a1, vI 16, vR a2, vI 15, vI 32, vI 15, vI 99] 16 d_j52_21_32 ?_
 refine r_iinc H 38 #[vR a1, vI 16, vR a2, vI 16, vI 32, vI 15, vI 99] 16 d_j52_21_35 ?_
 refine r_iinc H 41 #[vR a1, vI 16, vR a2, vI 16, vI 32, vI 16, vI 99] 16 d_j52_21_38 ?_
 refine r_goto H 3 d_j52_21_41 ?_
 refine r_iload H 5 d_j52_21_3 ?_
 refine r_iload H 7 d_j52_21_5 ?_
 refine r_icmpgeF H 10 d_j52_21_7 ?_
 refine r_aloadN H 11 d_j52_21_10 ?_
 refine r_iloadN H 12 d_j52_21_11 ?_
 have q62 := (q58.keep K61)
 have q63 := (q59.keep K61)
 have q64 := (q60.keep K61 (ninS (ne_exa q62 q63 (by decide)) nin0))
 refine r_caload H 13 116 d_j52_21_12 q64 ?_
 refine r_istore H 15 #[vR a1, vI 16, vR a2, vI 16, vI 32, vI 16, vI 116] d_j52_21_13 ?_
 refine r_iload H 17 d_j52_21_15 ?_
 refine r_sipush H 20 255 d_j52_21_17 ?_
 refine r_icmpleT H 26 d_j52_21_20 ?_
 refine r_aloadN H 27 d_j52_21_26 ?_
 refine r_iloadN H 28 d_j52_21_27 ?_
 refine r_iload H 30 d_j52_21_28 ?_
 refine r_i2b H 31 116 d_j52_21_30 ?_
 refine r_bastore H 32 116 d_j52_21_31 A61 g_a2 ?_
 intro h65 K65 A65
 change Ar Z h65 a2 c2 .byte [.int i1, .int 32, .int 109, .int 97, .int 116, .int 99, .int 104, .int 101, .int 114, .int 115, .int 32, .int 101, .int 120, .int 112, .int 101, .int 99, .int 116, .int 0, .int 0, .int 0, .int 0, .int 0, .int 0, .int 0, .int 0, .int 0, .int 0, .int 0, .int 0, .int 0, .int 0, .int 0] at A65
 refine r_iinc H 35 #[vR a1, vI 17, vR a2, vI 16, vI 32, vI 16, vI 116] 17 d_j52_21_32 ?_
 refine r_iinc H 38 #[vR a1, vI 17, vR a2, vI 17, vI 32, vI 16, vI 116] 17 d_j52_21_35 ?_
 refine r_iinc H 41 #[vR a1, vI 17, vR a2, vI 17, vI 32, vI 17, vI 116] 17 d_j52_21_38 ?_
 refine r_goto H 3 d_j52_21_41 ?_
 refine r_iload H 5 d_j52_21_3 ?_
 refine r_iload H 7 d_j52_21_5 ?_
 refine r_icmpgeF H 10 d_j52_21_7 ?_
 refine r_aloadN H 11 d_j52_21_10 ?_
 refine r_iloadN H 12 d_j52_21_11 ?_
 have q66 := (q62.keep K65)
 have q67 := (q63.keep K65)
 have q68 := (q64.keep K65 (ninS (ne_exa q66 q67 (by decide)) nin0))
 refine r_caload H 13 101 d_j52_21_12 q68 ?_
 refine r_istore H 15 #[vR a1, vI 17, vR a2, vI 17, vI 32, vI 17, vI 101] d_j52_21_13 ?_
 refine r_iload H 17 d_j52_21_15 ?_
 refine r_sipush H 20 255 d_j52_21_17 ?_
 refine r_icmpleT H 26 d_j52_21_20 ?_
 refine r_aloadN H 27 d_j52_21_26 ?_
 refine r_iloadN H 28 d_j52_21_27 ?_
 refine r_iload H 30 d_j52_21_28 ?_
 refine r_i2b H 31 101 d_j52_21_30 ?_
 refine r_bastore H 32 101 d_j52_21_31 A65 g_a2 ?_
 intro h69 K69 A69
 change Ar Z h69 a2 c2 .byte [.int i1, .int 32, .int 109, .int 97, .int 116, .int 99, .int 104, .int 101, .int 114, .int 115, .int 32, .int 101, .int 120, .int 112, .int 101, .int 99, .int 116, .int 101, .int 0, .int 0, .int 0, .int 0, .int 0, .int 0, .int 0, .int 0, .int 0, .int 0, .int 0, .int 0, .int 0, .int 0] at A69
 refine r_iinc H 35 #[vR a1, vI 18, vR a2, vI 17, vI 32, vI 17, vI 101] 18 d_j52_21_32 ?_
 refine r_iinc H 38 #[vR a1, vI 18, vR a2, vI 18, vI 32, vI 17, vI 101] 18 d_j52_21_35 ?_
 refine r_iinc H 41 #[vR a1, vI 18, vR a2, vI 18, vI 32, vI 18, vI 101] 18 d_j52_21_38 ?_
 refine r_goto H 3 d_j52_21_41 ?_
 refine r_iload H 5 d_j52_21_3 ?_
 refine r_iload H 7 d_j52_21_5 ?_
 refine r_icmpgeF H 10 d_j52_21_7 ?_
 refine r_aloadN H 11 d_j52_21_10 ?_
 refine r_iloadN H 12 d_j52_21_11 ?_
 have q70 := (q66.keep K69)
 have q71 := (q67.keep K69)
 have q72 := (q68.keep K69 (ninS (ne_exa q70 q71 (by decide)) nin0))
 refine r_caload H 13 100 d_j52_21_12 q72 ?_
 refine r_istore H 15 #[vR a1, vI 18, vR a2, vI 18, vI 32, vI 18, vI 100] d_j52_21_13 ?_
 refine r_iload H 17 d_j52_21_15 ?_
 refine r_sipush H 20 255 d_j52_21_17 ?_
 refine r_icmpleT H 26 d_j52_21_20 ?_
 refine r_aloadN H 27 d_j52_21_26 ?_
 refine r_iloadN H 28 d_j52_21_27 ?_
 refine r_iload H 30 d_j52_21_28 ?_
 refine r_i2b H 31 100 d_j52_21_30 ?_
 refine r_bastore H 32 100 d_j52_21_31 A69 g_a2 ?_
 intro h73 K73 A73
 change Ar Z h73 a2 c2 .byte [.int i1, .int 32, .int 109, .int 97, .int 116, .int 99, .int 104, .int 101, .int 114, .int 115, .int 32, .int 101, .int 120, .int 112, .int 101, .int 99, .int 116, .int 101, .int 100, .int 0, .int 0, .int 0, .int 0, .int 0, .int 0, .int 0, .int 0, .int 0, .int 0, .int 0, .int 0, .int 0] at A73
 refine r_iinc H 35 #[vR a1, vI 19, vR a2, vI 18, vI 32, vI 18, vI 100] 19 d_j52_21_32 ?_
 refine r_iinc H 38 #[vR a1, vI 19, vR a2, vI 19, vI 32, vI 18, vI 100] 19 d_j52_21_35 ?_
 refine r_iinc H 41 #[vR a1, vI 19, vR a2, vI 19, vI 32, vI 19, vI 100] 19 d_j52_21_38 ?_
 refine r_goto H 3 d_j52_21_41 ?_
 refine r_iload H 5 d_j52_21_3 ?_
 refine r_iload H 7 d_j52_21_5 ?_
 refine r_icmpgeF H 10 d_j52_21_7 ?_
 refine r_aloadN H 11 d_j52_21_10 ?_
 refine r_iloadN H 12 d_j52_21_11 ?_
 have q74 := (q70.keep K73)
 have q75 := (q71.keep K73)
 have q76 := (q72.keep K73 (ninS (ne_exa q74 q75 (by decide)) nin0))
 refine r_caload H 13 44 d_j52_21_12 q76 ?_
 refine r_istore H 15 #[vR a1, vI 19, vR a2, vI 19, vI 32, vI 19, vI 44] d_j52_21_13 ?_
 refine r_iload H 17 d_j52_21_15 ?_
 refine r_sipush H 20 255 d_j52_21_17 ?_
 refine r_icmpleT H 26 d_j52_21_20 ?_
 refine r_aloadN H 27 d_j52_21_26 ?_
 refine r_iloadN H 28 d_j52_21_27 ?_
 refine r_iload H 30 d_j52_21_28 ?_
 refine r_i2b H 31 44 d_j52_21_30 ?_
 refine r_bastore H 32 44 d_j52_21_31 A73 g_a2 ?_
 intro h77 K77 A77
 change Ar Z h77 a2 c2 .byte [.int i1, .int 32, .int 109, .int 97, .int 116, .int 99, .int 104, .int 101, .int 114, .int 115, .int 32, .int 101, .int 120, .int 112, .int 101, .int 99, .int 116, .int 101, .int 100, .int 44, .int 0, .int 0, .int 0, .int 0, .int 0, .int 0, .int 0, .int 0, .int 0, .int 0, .int 0, .int 0] at A77
 refine r_iinc H 35 #[vR a1, vI 20, vR a2, vI 19, vI 32, vI 19, vI 44] 20 d_j52_21_32 ?_
 refine r_iinc H 38 #[vR a1, vI 20, vR a2, vI 20, vI 32, vI 19, vI 44] 20 d_j52_21_35 ?_
 refine r_iinc H 41 #[vR a1, vI 20, vR a2, vI 20, vI 32, vI 20, vI 44] 20 d_j52_21_38 ?_
 refine r_goto H 3 d_j52_21_41 ?_
 refine r_iload H 5 d_j52_21_3 ?_
 refine r_iload H 7 d_j52_21_5 ?_
 refine r_icmpgeF H 10 d_j52_21_7 ?_
 refine r_aloadN H 11 d_j52_21_10 ?_
 refine r_iloadN H 12 d_j52_21_11 ?_
 have q78 := (q74.keep K77)
 have q79 := (q75.keep K77)
 have q80 := (q76.keep K77 (ninS (ne_exa q78 q79 (by decide)) nin0))
 refine r_caload H 13 32 d_j52_21_12 q80 ?_
 refine r_istore H 15 #[vR a1, vI 20, vR a2, vI 20, vI 32, vI 20, vI 32] d_j52_21_13 ?_
 refine r_iload H 17 d_j52_21_15 ?_
 refine r_sipush H 20 255 d_j52_21_17 ?_
 refine r_icmpleT H 26 d_j52_21_20 ?_
 refine r_aloadN H 27 d_j52_21_26 ?_
 refine r_iloadN H 28 d_j52_21_27 ?_
 refine r_iload H 30 d_j52_21_28 ?_
 refine r_i2b H 31 32 d_j52_21_30 ?_
 refine r_bastore H 32 32 d_j52_21_31 A77 g_a2 ?_
 intro h81 K81 A81
 change Ar Z h81 a2 c2 .byte [.int i1, .int 32, .int 109, .int 97, .int 116, .int 99, .int 104, .int 101, .int 114, .int 115, .int 32, .int 101, .int 120, .int 112, .int 101, .int 99, .int 116, .int 101, .int 100, .int 44, .int 32, .int 0, .int 0, .int 0, .int 0, .int 0, .int 0, .int 0, .int 0, .int 0, .int 0, .int 0] at A81
 refine r_iinc H 35 #[vR a1, vI 21, vR a2, vI 20, vI 32, vI 20, vI 32] 21 d_j52_21_32 ?_
 refine r_iinc H 38 #[vR a1, vI 21, vR a2, vI 21, vI 32, vI 20, vI 32] 21 d_j52_21_35 ?_
 refine r_iinc H 41 #[vR a1, vI 21, vR a2, vI 21, vI 32, vI 21, vI 32] 21 d_j52_21_38 ?_
 refine r_goto H 3 d_j52_21_41 ?_
 refine r_iload H 5 d_j52_21_3 ?_
 refine r_iload H 7 d_j52_21_5 ?_
 refine r_icmpgeF H 10 d_j52_21_7 ?_
 refine r_aloadN H 11 d_j52_21_10 ?_
 refine r_iloadN H 12 d_j52_21_11 ?_
 have q82 := (q78.keep K81)
 have q83 := (q79.keep K81)
 have q84 := (q80.keep K81 (ninS (ne_exa q82 q83 (by decide)) nin0))
 refine r_caload H 13 i2 d_j52_21_12 q84 ?_
 refine r_istore H 15 #[vR a1, vI 21, vR a2, vI 21, vI 32, vI 21, vI i2] d_j52_21_13 ?_
 refine r_iload H 17 d_j52_21_15 ?_
 refine r_sipush H 20 255 d_j52_21_17 ?_
 refine r_icmpleT (c := (by have := r_i2; have : (255 : Int32).toInt = 255 := (by decide); simp only [Int32.lt_iff_toInt_lt, ← Int32.toInt_inj]; omega)) H 26 d_j52_21_20 ?_
 refine r_aloadN H 27 d_j52_21_26 ?_
 refine r_iloadN H 28 d_j52_21_27 ?_
 refine r_iload H 30 d_j52_21_28 ?_
 refine r_i2b (hz := (i2b_id (by have := r_i2; omega))) H 31 i2 d_j52_21_30 ?_
 refine r_bastore (hy := (nar_byte_id (by have := r_i2; omega))) H 32 i2 d_j52_21_31 A81 g_a2 ?_
 intro h85 K85 A85
 change Ar Z h85 a2 c2 .byte [.int i1, .int 32, .int 109, .int 97, .int 116, .int 99, .int 104, .int 101, .int 114, .int 115, .int 32, .int 101, .int 120, .int 112, .int 101, .int 99, .int 116, .int 101, .int 100, .int 44, .int 32, .int i2, .int 0, .int 0, .int 0, .int 0, .int 0, .int 0, .int 0, .int 0, .int 0, .int 0] at A85
 refine r_iinc H 35 #[vR a1, vI 22, vR a2, vI 21, vI 32, vI 21, vI i2] 22 d_j52_21_32 ?_
 refine r_iinc H 38 #[vR a1, vI 22, vR a2, vI 22, vI 32, vI 21, vI i2] 22 d_j52_21_35 ?_
 refine r_iinc H 41 #[vR a1, vI 22, vR a2, vI 22, vI 32, vI 22, vI i2] 22 d_j52_21_38 ?_
 refine r_goto H 3 d_j52_21_41 ?_
 refine r_iload H 5 d_j52_21_3 ?_
 refine r_iload H 7 d_j52_21_5 ?_
 refine r_icmpgeF H 10 d_j52_21_7 ?_
 refine r_aloadN H 11 d_j52_21_10 ?_
 refine r_iloadN H 12 d_j52_21_11 ?_
 have q86 := (q82.keep K85)
 have q87 := (q83.keep K85)
 have q88 := (q84.keep K85 (ninS (ne_exa q86 q87 (by decide)) nin0))
 refine r_caload H 13 32 d_j52_21_12 q88 ?_
 refine r_istore H 15 #[vR a1, vI 22, vR a2, vI 22, vI 32, vI 22, vI 32] d_j52_21_13 ?_
 refine r_iload H 17 d_j52_21_15 ?_
 refine r_sipush H 20 255 d_j52_21_17 ?_
 refine r_icmpleT H 26 d_j52_21_20 ?_
 refine r_aloadN H 27 d_j52_21_26 ?_
 refine r_iloadN H 28 d_j52_21_27 ?_
 refine r_iload H 30 d_j52_21_28 ?_
 refine r_i2b H 31 32 d_j52_21_30 ?_
 refine r_bastore H 32 32 d_j52_21_31 A85 g_a2 ?_
 intro h89 K89 A89
 change Ar Z h89 a2 c2 .byte [.int i1, .int 32, .int 109, .int 97, .int 116, .int 99, .int 104, .int 101, .int 114, .int 115, .int 32, .int 101, .int 120, .int 112, .int 101, .int 99, .int 116, .int 101, .int 100, .int 44, .int 32, .int i2, .int 32, .int 0, .int 0, .int 0, .int 0, .int 0, .int 0, .int 0, .int 0, .int 0] at A89
 refine r_iinc H 35 #[vR a1, vI 23, vR a2, vI 22, vI 32, vI 22, vI 32] 23 d_j52_21_32 ?_
 refine r_iinc H 38 #[vR a1, vI 23, vR a2, vI 23, vI 32, vI 22, vI 32] 23 d_j52_21_35 ?_
 refine r_iinc H 41 #[vR a1, vI 23, vR a2, vI 23, vI 32, vI 23, vI 32] 23 d_j52_21_38 ?_
 refine r_goto H 3 d_j52_21_41 ?_
 refine r_iload H 5 d_j52_21_3 ?_
 refine r_iload H 7 d_j52_21_5 ?_
 refine r_icmpgeF H 10 d_j52_21_7 ?_
 refine r_aloadN H 11 d_j52_21_10 ?_
 refine r_iloadN H 12 d_j52_21_11 ?_
 have q90 := (q86.keep K89)
 have q91 := (q87.keep K89)
 have q92 := (q88.keep K89 (ninS (ne_exa q90 q91 (by decide)) nin0))
 refine r_caload H 13 114 d_j52_21_12 q92 ?_
 refine r_istore H 15 #[vR a1, vI 23, vR a2, vI 23, vI 32, vI 23, vI 114] d_j52_21_13 ?_
 refine r_iload H 17 d_j52_21_15 ?_
 refine r_sipush H 20 255 d_j52_21_17 ?_
 refine r_icmpleT H 26 d_j52_21_20 ?_
 refine r_aloadN H 27 d_j52_21_26 ?_
 refine r_iloadN H 28 d_j52_21_27 ?_
 refine r_iload H 30 d_j52_21_28 ?_
 refine r_i2b H 31 114 d_j52_21_30 ?_
 refine r_bastore H 32 114 d_j52_21_31 A89 g_a2 ?_
 intro h93 K93 A93
 change Ar Z h93 a2 c2 .byte [.int i1, .int 32, .int 109, .int 97, .int 116, .int 99, .int 104, .int 101, .int 114, .int 115, .int 32, .int 101, .int 120, .int 112, .int 101, .int 99, .int 116, .int 101, .int 100, .int 44, .int 32, .int i2, .int 32, .int 114, .int 0, .int 0, .int 0, .int 0, .int 0, .int 0, .int 0, .int 0] at A93
 refine r_iinc H 35 #[vR a1, vI 24, vR a2, vI 23, vI 32, vI 23, vI 114] 24 d_j52_21_32 ?_
 refine r_iinc H 38 #[vR a1, vI 24, vR a2, vI 24, vI 32, vI 23, vI 114] 24 d_j52_21_35 ?_
 refine r_iinc H 41 #[vR a1, vI 24, vR a2, vI 24, vI 32, vI 24, vI 114] 24 d_j52_21_38 ?_
 refine r_goto H 3 d_j52_21_41 ?_
 refine r_iload H 5 d_j52_21_3 ?_
 refine r_iload H 7 d_j52_21_5 ?_
 refine r_icmpgeF H 10 d_j52_21_7 ?_
 refine r_aloadN H 11 d_j52_21_10 ?_
 refine r_iloadN H 12 d_j52_21_11 ?_
 have q94 := (q90.keep K93)
 have q95 := (q91.keep K93)
 have q96 := (q92.keep K93 (ninS (ne_exa q94 q95 (by decide)) nin0))
 refine r_caload H 13 101 d_j52_21_12 q96 ?_
 refine r_istore H 15 #[vR a1, vI 24, vR a2, vI 24, vI 32, vI 24, vI 101] d_j52_21_13 ?_
 refine r_iload H 17 d_j52_21_15 ?_
 refine r_sipush H 20 255 d_j52_21_17 ?_
 refine r_icmpleT H 26 d_j52_21_20 ?_
 refine r_aloadN H 27 d_j52_21_26 ?_
 refine r_iloadN H 28 d_j52_21_27 ?_
 refine r_iload H 30 d_j52_21_28 ?_
 refine r_i2b H 31 101 d_j52_21_30 ?_
 refine r_bastore H 32 101 d_j52_21_31 A93 g_a2 ?_
 intro h97 K97 A97
 change Ar Z h97 a2 c2 .byte [.int i1, .int 32, .int 109, .int 97, .int 116, .int 99, .int 104, .int 101, .int 114, .int 115, .int 32, .int 101, .int 120, .int 112, .int 101, .int 99, .int 116, .int 101, .int 100, .int 44, .int 32, .int i2, .int 32, .int 114, .int 101, .int 0, .int 0, .int 0, .int 0, .int 0, .int 0, .int 0] at A97
 refine r_iinc H 35 #[vR a1, vI 25, vR a2, vI 24, vI 32, vI 24, vI 101] 25 d_j52_21_32 ?_
 refine r_iinc H 38 #[vR a1, vI 25, vR a2, vI 25, vI 32, vI 24, vI 101] 25 d_j52_21_35 ?_
 refine r_iinc H 41 #[vR a1, vI 25, vR a2, vI 25, vI 32, vI 25, vI 101] 25 d_j52_21_38 ?_
 refine r_goto H 3 d_j52_21_41 ?_
 refine r_iload H 5 d_j52_21_3 ?_
 refine r_iload H 7 d_j52_21_5 ?_
 refine r_icmpgeF H 10 d_j52_21_7 ?_
 refine r_aloadN H 11 d_j52_21_10 ?_
 refine r_iloadN H 12 d_j52_21_11 ?_
 have q98 := (q94.keep K97)
 have q99 := (q95.keep K97)
 have q100 := (q96.keep K97 (ninS (ne_exa q98 q99 (by decide)) nin0))
 refine r_caload H 13 99 d_j52_21_12 q100 ?_
 refine r_istore H 15 #[vR a1, vI 25, vR a2, vI 25, vI 32, vI 25, vI 99] d_j52_21_13 ?_
 refine r_iload H 17 d_j52_21_15 ?_
 refine r_sipush H 20 255 d_j52_21_17 ?_
 refine r_icmpleT H 26 d_j52_21_20 ?_
 refine r_aloadN H 27 d_j52_21_26 ?_
 refine r_iloadN H 28 d_j52_21_27 ?_
 refine r_iload H 30 d_j52_21_28 ?_
 refine r_i2b H 31 99 d_j52_21_30 ?_
 refine r_bastore H 32 99 d_j52_21_31 A97 g_a2 ?_
 intro h101 K101 A101
 change Ar Z h101 a2 c2 .byte [.int i1, .int 32, .int 109, .int 97, .int 116, .int 99, .int 104, .int 101, .int 114, .int 115, .int 32, .int 101, .int 120, .int 112, .int 101, .int 99, .int 116, .int 101, .int 100, .int 44, .int 32, .int i2, .int 32, .int 114, .int 101, .int 99, .int 0, .int 0, .int 0, .int 0, .int 0, .int 0] at A101
 refine r_iinc H 35 #[vR a1, vI 26, vR a2, vI 25, vI 32, vI 25, vI 99] 26 d_j52_21_32 ?_
 refine r_iinc H 38 #[vR a1, vI 26, vR a2, vI 26, vI 32, vI 25, vI 99] 26 d_j52_21_35 ?_
 refine r_iinc H 41 #[vR a1, vI 26, vR a2, vI 26, vI 32, vI 26, vI 99] 26 d_j52_21_38 ?_
 refine r_goto H 3 d_j52_21_41 ?_
 refine r_iload H 5 d_j52_21_3 ?_
 refine r_iload H 7 d_j52_21_5 ?_
 refine r_icmpgeF H 10 d_j52_21_7 ?_
 refine r_aloadN H 11 d_j52_21_10 ?_
 refine r_iloadN H 12 d_j52_21_11 ?_
 have q102 := (q98.keep K101)
 have q103 := (q99.keep K101)
 have q104 := (q100.keep K101 (ninS (ne_exa q102 q103 (by decide)) nin0))
 refine r_caload H 13 111 d_j52_21_12 q104 ?_
 refine r_istore H 15 #[vR a1, vI 26, vR a2, vI 26, vI 32, vI 26, vI 111] d_j52_21_13 ?_
 refine r_iload H 17 d_j52_21_15 ?_
 refine r_sipush H 20 255 d_j52_21_17 ?_
 refine r_icmpleT H 26 d_j52_21_20 ?_
 refine r_aloadN H 27 d_j52_21_26 ?_
 refine r_iloadN H 28 d_j52_21_27 ?_
 refine r_iload H 30 d_j52_21_28 ?_
 refine r_i2b H 31 111 d_j52_21_30 ?_
 refine r_bastore H 32 111 d_j52_21_31 A101 g_a2 ?_
 intro h105 K105 A105
 change Ar Z h105 a2 c2 .byte [.int i1, .int 32, .int 109, .int 97, .int 116, .int 99, .int 104, .int 101, .int 114, .int 115, .int 32, .int 101, .int 120, .int 112, .int 101, .int 99, .int 116, .int 101, .int 100, .int 44, .int 32, .int i2, .int 32, .int 114, .int 101, .int 99, .int 111, .int 0, .int 0, .int 0, .int 0, .int 0] at A105
 refine r_iinc H 35 #[vR a1, vI 27, vR a2, vI 26, vI 32, vI 26, vI 111] 27 d_j52_21_32 ?_
 refine r_iinc H 38 #[vR a1, vI 27, vR a2, vI 27, vI 32, vI 26, vI 111] 27 d_j52_21_35 ?_
 refine r_iinc H 41 #[vR a1, vI 27, vR a2, vI 27, vI 32, vI 27, vI 111] 27 d_j52_21_38 ?_
 refine r_goto H 3 d_j52_21_41 ?_
 refine r_iload H 5 d_j52_21_3 ?_
 refine r_iload H 7 d_j52_21_5 ?_
 refine r_icmpgeF H 10 d_j52_21_7 ?_
 refine r_aloadN H 11 d_j52_21_10 ?_
 refine r_iloadN H 12 d_j52_21_11 ?_
 have q106 := (q102.keep K105)
 have q107 := (q103.keep K105)
 have q108 := (q104.keep K105 (ninS (ne_exa q106 q107 (by decide)) nin0))
 refine r_caload H 13 114 d_j52_21_12 q108 ?_
 refine r_istore H 15 #[vR a1, vI 27, vR a2, vI 27, vI 32, vI 27, vI 114] d_j52_21_13 ?_
 refine r_iload H 17 d_j52_21_15 ?_
 refine r_sipush H 20 255 d_j52_21_17 ?_
 refine r_icmpleT H 26 d_j52_21_20 ?_
 refine r_aloadN H 27 d_j52_21_26 ?_
 refine r_iloadN H 28 d_j52_21_27 ?_
 refine r_iload H 30 d_j52_21_28 ?_
 refine r_i2b H 31 114 d_j52_21_30 ?_
 refine r_bastore H 32 114 d_j52_21_31 A105 g_a2 ?_
 intro h109 K109 A109
 change Ar Z h109 a2 c2 .byte [.int i1, .int 32, .int 109, .int 97, .int 116, .int 99, .int 104, .int 101, .int 114, .int 115, .int 32, .int 101, .int 120, .int 112, .int 101, .int 99, .int 116, .int 101, .int 100, .int 44, .int 32, .int i2, .int 32, .int 114, .int 101, .int 99, .int 111, .int 114, .int 0, .int 0, .int 0, .int 0] at A109
 refine r_iinc H 35 #[vR a1, vI 28, vR a2, vI 27, vI 32, vI 27, vI 114] 28 d_j52_21_32 ?_
 refine r_iinc H 38 #[vR a1, vI 28, vR a2, vI 28, vI 32, vI 27, vI 114] 28 d_j52_21_35 ?_
 refine r_iinc H 41 #[vR a1, vI 28, vR a2, vI 28, vI 32, vI 28, vI 114] 28 d_j52_21_38 ?_
 refine r_goto H 3 d_j52_21_41 ?_
 refine r_iload H 5 d_j52_21_3 ?_
 refine r_iload H 7 d_j52_21_5 ?_
 refine r_icmpgeF H 10 d_j52_21_7 ?_
 refine r_aloadN H 11 d_j52_21_10 ?_
 refine r_iloadN H 12 d_j52_21_11 ?_
 have q110 := (q106.keep K109)
 have q111 := (q107.keep K109)
 have q112 := (q108.keep K109 (ninS (ne_exa q110 q111 (by decide)) nin0))
 refine r_caload H 13 100 d_j52_21_12 q112 ?_
 refine r_istore H 15 #[vR a1, vI 28, vR a2, vI 28, vI 32, vI 28, vI 100] d_j52_21_13 ?_
 refine r_iload H 17 d_j52_21_15 ?_
 refine r_sipush H 20 255 d_j52_21_17 ?_
 refine r_icmpleT H 26 d_j52_21_20 ?_
 refine r_aloadN H 27 d_j52_21_26 ?_
 refine r_iloadN H 28 d_j52_21_27 ?_
 refine r_iload H 30 d_j52_21_28 ?_
 refine r_i2b H 31 100 d_j52_21_30 ?_
 refine r_bastore H 32 100 d_j52_21_31 A109 g_a2 ?_
 intro h113 K113 A113
 change Ar Z h113 a2 c2 .byte [.int i1, .int 32, .int 109, .int 97, .int 116, .int 99, .int 104, .int 101, .int 114, .int 115, .int 32, .int 101, .int 120, .int 112, .int 101, .int 99, .int 116, .int 101, .int 100, .int 44, .int 32, .int i2, .int 32, .int 114, .int 101, .int 99, .int 111, .int 114, .int 100, .int 0, .int 0, .int 0] at A113
 refine r_iinc H 35 #[vR a1, vI 29, vR a2, vI 28, vI 32, vI 28, vI 100] 29 d_j52_21_32 ?_
 refine r_iinc H 38 #[vR a1, vI 29, vR a2, vI 29, vI 32, vI 28, vI 100] 29 d_j52_21_35 ?_
 refine r_iinc H 41 #[vR a1, vI 29, vR a2, vI 29, vI 32, vI 29, vI 100] 29 d_j52_21_38 ?_
 refine r_goto H 3 d_j52_21_41 ?_
 refine r_iload H 5 d_j52_21_3 ?_
 refine r_iload H 7 d_j52_21_5 ?_
 refine r_icmpgeF H 10 d_j52_21_7 ?_
 refine r_aloadN H 11 d_j52_21_10 ?_
 refine r_iloadN H 12 d_j52_21_11 ?_
 have q114 := (q110.keep K113)
 have q115 := (q111.keep K113)
 have q116 := (q112.keep K113 (ninS (ne_exa q114 q115 (by decide)) nin0))
 refine r_caload H 13 101 d_j52_21_12 q116 ?_
 refine r_istore H 15 #[vR a1, vI 29, vR a2, vI 29, vI 32, vI 29, vI 101] d_j52_21_13 ?_
 refine r_iload H 17 d_j52_21_15 ?_
 refine r_sipush H 20 255 d_j52_21_17 ?_
 refine r_icmpleT H 26 d_j52_21_20 ?_
 refine r_aloadN H 27 d_j52_21_26 ?_
 refine r_iloadN H 28 d_j52_21_27 ?_
 refine r_iload H 30 d_j52_21_28 ?_
 refine r_i2b H 31 101 d_j52_21_30 ?_
 refine r_bastore H 32 101 d_j52_21_31 A113 g_a2 ?_
 intro h117 K117 A117
 change Ar Z h117 a2 c2 .byte [.int i1, .int 32, .int 109, .int 97, .int 116, .int 99, .int 104, .int 101, .int 114, .int 115, .int 32, .int 101, .int 120, .int 112, .int 101, .int 99, .int 116, .int 101, .int 100, .int 44, .int 32, .int i2, .int 32, .int 114, .int 101, .int 99, .int 111, .int 114, .int 100, .int 101, .int 0, .int 0] at A117
 refine r_iinc H 35 #[vR a1, vI 30, vR a2, vI 29, vI 32, vI 29, vI 101] 30 d_j52_21_32 ?_
 refine r_iinc H 38 #[vR a1, vI 30, vR a2, vI 30, vI 32, vI 29, vI 101] 30 d_j52_21_35 ?_
 refine r_iinc H 41 #[vR a1, vI 30, vR a2, vI 30, vI 32, vI 30, vI 101] 30 d_j52_21_38 ?_
 refine r_goto H 3 d_j52_21_41 ?_
 refine r_iload H 5 d_j52_21_3 ?_
 refine r_iload H 7 d_j52_21_5 ?_
 refine r_icmpgeF H 10 d_j52_21_7 ?_
 refine r_aloadN H 11 d_j52_21_10 ?_
 refine r_iloadN H 12 d_j52_21_11 ?_
 have q118 := (q114.keep K117)
 have q119 := (q115.keep K117)
 have q120 := (q116.keep K117 (ninS (ne_exa q118 q119 (by decide)) nin0))
 refine r_caload H 13 100 d_j52_21_12 q120 ?_
 refine r_istore H 15 #[vR a1, vI 30, vR a2, vI 30, vI 32, vI 30, vI 100] d_j52_21_13 ?_
 refine r_iload H 17 d_j52_21_15 ?_
 refine r_sipush H 20 255 d_j52_21_17 ?_
 refine r_icmpleT H 26 d_j52_21_20 ?_
 refine r_aloadN H 27 d_j52_21_26 ?_
 refine r_iloadN H 28 d_j52_21_27 ?_
 refine r_iload H 30 d_j52_21_28 ?_
 refine r_i2b H 31 100 d_j52_21_30 ?_
 refine r_bastore H 32 100 d_j52_21_31 A117 g_a2 ?_
 intro h121 K121 A121
 change Ar Z h121 a2 c2 .byte [.int i1, .int 32, .int 109, .int 97, .int 116, .int 99, .int 104, .int 101, .int 114, .int 115, .int 32, .int 101, .int 120, .int 112, .int 101, .int 99, .int 116, .int 101, .int 100, .int 44, .int 32, .int i2, .int 32, .int 114, .int 101, .int 99, .int 111, .int 114, .int 100, .int 101, .int 100, .int 0] at A121
 refine r_iinc H 35 #[vR a1, vI 31, vR a2, vI 30, vI 32, vI 30, vI 100] 31 d_j52_21_32 ?_
 refine r_iinc H 38 #[vR a1, vI 31, vR a2, vI 31, vI 32, vI 30, vI 100] 31 d_j52_21_35 ?_
 refine r_iinc H 41 #[vR a1, vI 31, vR a2, vI 31, vI 32, vI 31, vI 100] 31 d_j52_21_38 ?_
 refine r_goto H 3 d_j52_21_41 ?_
 refine r_iload H 5 d_j52_21_3 ?_
 refine r_iload H 7 d_j52_21_5 ?_
 refine r_icmpgeF H 10 d_j52_21_7 ?_
 refine r_aloadN H 11 d_j52_21_10 ?_
 refine r_iloadN H 12 d_j52_21_11 ?_
 have q122 := (q118.keep K121)
 have q123 := (q119.keep K121)
 have q124 := (q120.keep K121 (ninS (ne_exa q122 q123 (by decide)) nin0))
 refine r_caload H 13 46 d_j52_21_12 q124 ?_
 refine r_istore H 15 #[vR a1, vI 31, vR a2, vI 31, vI 32, vI 31, vI 46] d_j52_21_13 ?_
 refine r_iload H 17 d_j52_21_15 ?_
 refine r_sipush H 20 255 d_j52_21_17 ?_
 refine r_icmpleT H 26 d_j52_21_20 ?_
 refine r_aloadN H 27 d_j52_21_26 ?_
 refine r_iloadN H 28 d_j52_21_27 ?_
 refine r_iload H 30 d_j52_21_28 ?_
 refine r_i2b H 31 46 d_j52_21_30 ?_
 refine r_bastore H 32 46 d_j52_21_31 A121 g_a2 ?_
 intro h125 K125 A125
 change Ar Z h125 a2 c2 .byte [.int i1, .int 32, .int 109, .int 97, .int 116, .int 99, .int 104, .int 101, .int 114, .int 115, .int 32, .int 101, .int 120, .int 112, .int 101, .int 99, .int 116, .int 101, .int 100, .int 44, .int 32, .int i2, .int 32, .int 114, .int 101, .int 99, .int 111, .int 114, .int 100, .int 101, .int 100, .int 46] at A125
 refine r_iinc H 35 #[vR a1, vI 32, vR a2, vI 31, vI 32, vI 31, vI 46] 32 d_j52_21_32 ?_
 refine r_iinc H 38 #[vR a1, vI 32, vR a2, vI 32, vI 32, vI 31, vI 46] 32 d_j52_21_35 ?_
 refine r_iinc H 41 #[vR a1, vI 32, vR a2, vI 32, vI 32, vI 32, vI 46] 32 d_j52_21_38 ?_
 refine r_goto H 3 d_j52_21_41 ?_
 refine r_iload H 5 d_j52_21_3 ?_
 refine r_iload H 7 d_j52_21_5 ?_
 refine r_icmpgeT H 44 d_j52_21_7 ?_
 refine r_iload H 46 d_j52_21_44 ?_
 have k126 : Keep h0 h1 [a2] := Keep.trans (Keep.refl h0 [a2]) K1 (allS (Or.inl (List.mem_of_getElem? (i := 0) rfl)) all0)
 have k127 : Keep h0 h5 [a2] := Keep.trans k126 K5 (allS (Or.inl (List.mem_of_getElem? (i := 0) rfl)) all0)
 have k128 : Keep h0 h9 [a2] := Keep.trans k127 K9 (allS (Or.inl (List.mem_of_getElem? (i := 0) rfl)) all0)
 have k129 : Keep h0 h13 [a2] := Keep.trans k128 K13 (allS (Or.inl (List.mem_of_getElem? (i := 0) rfl)) all0)
 have k130 : Keep h0 h17 [a2] := Keep.trans k129 K17 (allS (Or.inl (List.mem_of_getElem? (i := 0) rfl)) all0)
 have k131 : Keep h0 h21 [a2] := Keep.trans k130 K21 (allS (Or.inl (List.mem_of_getElem? (i := 0) rfl)) all0)
 have k132 : Keep h0 h25 [a2] := Keep.trans k131 K25 (allS (Or.inl (List.mem_of_getElem? (i := 0) rfl)) all0)
 have k133 : Keep h0 h29 [a2] := Keep.trans k132 K29 (allS (Or.inl (List.mem_of_getElem? (i := 0) rfl)) all0)
 have k134 : Keep h0 h33 [a2] := Keep.trans k133 K33 (allS (Or.inl (List.mem_of_getElem? (i := 0) rfl)) all0)
 have k135 : Keep h0 h37 [a2] := Keep.trans k134 K37 (allS (Or.inl (List.mem_of_getElem? (i := 0) rfl)) all0)
 have k136 : Keep h0 h41 [a2] := Keep.trans k135 K41 (allS (Or.inl (List.mem_of_getElem? (i := 0) rfl)) all0)
 have k137 : Keep h0 h45 [a2] := Keep.trans k136 K45 (allS (Or.inl (List.mem_of_getElem? (i := 0) rfl)) all0)
 have k138 : Keep h0 h49 [a2] := Keep.trans k137 K49 (allS (Or.inl (List.mem_of_getElem? (i := 0) rfl)) all0)
 have k139 : Keep h0 h53 [a2] := Keep.trans k138 K53 (allS (Or.inl (List.mem_of_getElem? (i := 0) rfl)) all0)
 have k140 : Keep h0 h57 [a2] := Keep.trans k139 K57 (allS (Or.inl (List.mem_of_getElem? (i := 0) rfl)) all0)
 have k141 : Keep h0 h61 [a2] := Keep.trans k140 K61 (allS (Or.inl (List.mem_of_getElem? (i := 0) rfl)) all0)
 have k142 : Keep h0 h65 [a2] := Keep.trans k141 K65 (allS (Or.inl (List.mem_of_getElem? (i := 0) rfl)) all0)
 have k143 : Keep h0 h69 [a2] := Keep.trans k142 K69 (allS (Or.inl (List.mem_of_getElem? (i := 0) rfl)) all0)
 have k144 : Keep h0 h73 [a2] := Keep.trans k143 K73 (allS (Or.inl (List.mem_of_getElem? (i := 0) rfl)) all0)
 have k145 : Keep h0 h77 [a2] := Keep.trans k144 K77 (allS (Or.inl (List.mem_of_getElem? (i := 0) rfl)) all0)
 have k146 : Keep h0 h81 [a2] := Keep.trans k145 K81 (allS (Or.inl (List.mem_of_getElem? (i := 0) rfl)) all0)
 have k147 : Keep h0 h85 [a2] := Keep.trans k146 K85 (allS (Or.inl (List.mem_of_getElem? (i := 0) rfl)) all0)
 have k148 : Keep h0 h89 [a2] := Keep.trans k147 K89 (allS (Or.inl (List.mem_of_getElem? (i := 0) rfl)) all0)
 have k149 : Keep h0 h93 [a2] := Keep.trans k148 K93 (allS (Or.inl (List.mem_of_getElem? (i := 0) rfl)) all0)
 have k150 : Keep h0 h97 [a2] := Keep.trans k149 K97 (allS (Or.inl (List.mem_of_getElem? (i := 0) rfl)) all0)
 have k151 : Keep h0 h101 [a2] := Keep.trans k150 K101 (allS (Or.inl (List.mem_of_getElem? (i := 0) rfl)) all0)
 have k152 : Keep h0 h105 [a2] := Keep.trans k151 K105 (allS (Or.inl (List.mem_of_getElem? (i := 0) rfl)) all0)
 have k153 : Keep h0 h109 [a2] := Keep.trans k152 K109 (allS (Or.inl (List.mem_of_getElem? (i := 0) rfl)) all0)
 have k154 : Keep h0 h113 [a2] := Keep.trans k153 K113 (allS (Or.inl (List.mem_of_getElem? (i := 0) rfl)) all0)
 have k155 : Keep h0 h117 [a2] := Keep.trans k154 K117 (allS (Or.inl (List.mem_of_getElem? (i := 0) rfl)) all0)
 have k156 : Keep h0 h121 [a2] := Keep.trans k155 K121 (allS (Or.inl (List.mem_of_getElem? (i := 0) rfl)) all0)
 have k157 : Keep h0 h125 [a2] := Keep.trans k156 K125 (allS (Or.inl (List.mem_of_getElem? (i := 0) rfl)) all0)
 have q158 := (q123.keep K125)
 exact r_ireturn H d_j52_21_46 (⟨rfl, k157, A125, q158⟩)
def Q_compress_99 (Z : State) (i1 : Int32) (i2 : Int32) (h0 : Heap) (v : Option Value) (h : Heap) : Prop := ∃ (b1 : Addr) (kc1 : ClassId), v = some (.ref b1) ∧ Keep h0 h [] ∧ h0.size ≤ b1 ∧ Ar Z h b1 kc1 .byte [.int i1, .int 32, .int 109, .int 97, .int 116, .int 99, .int 104, .int 101, .int 114, .int 115, .int 32, .int 101, .int 120, .int 112, .int 101, .int 99, .int 116, .int 101, .int 100, .int 44, .int 32, .int i2, .int 32, .int 114, .int 101, .int 99, .int 111, .int 114, .int 100, .int 101, .int 100, .int 46] ∧ Exa Z h b1 "[B"
def R_compress_99 : Room := { frames := 1, cells := 1, slots := 32, locals := 18 }
theorem rm_compress_99 {w : Bool} {Z : State} {a0 : Array Value} (hw : HW a0 Z) (Ts : List String) (a1 : Addr) (i1 : Int32) (i2 : Int32) (c1 : ClassId) (h0 : Heap) (f : Nat) (Zf : Z.heap.size ≤ f) (Z0 : f ≤ h0.size) (A_a1 : Ar Z h0 a1 c1 .char [.int i1, .int 32, .int 109, .int 97, .int 116, .int 99, .int 104, .int 101, .int 114, .int 115, .int 32, .int 101, .int 120, .int 112, .int 101, .int 99, .int 116, .int 101, .int 100, .int 44, .int 32, .int i2, .int 32, .int 114, .int 101, .int 99, .int 111, .int 114, .int 100, .int 101, .int 100, .int 46]) (E_a1 : Exa Z h0 a1 "[C") (r_i1 : 48 ≤ i1.toInt ∧ i1.toInt ≤ 57) (r_i2 : 48 ≤ i2.toInt ∧ i2.toInt ≤ 57) :
  Con w [] Z mn31 jdk_52_method_16_code 6 (some (.array .byte)) R_compress_99 Ts Ts f #[.ref a1, .int 0, .int 32] h0 (Q_compress_99 Z i1 i2 h0) := by
 refine con_of f #[vR a1, vI 0, vI 32, .unset, .unset, .unset] (plainFor_of_name pn_7) (fun m => rfl) Zf ?_
 intro C H hX0
 refine r_iloadN H 1 d_j52_16_0 ?_
 refine r_newP H 3 "[B" 32 d_j52_16_1 (tw22 hw) ?_
 intro h1 b1 kc1 g1 l1 K1 E1 A1
 change Ar Z h1 b1 kc1 .byte [.int 0, .int 0, .int 0, .int 0, .int 0, .int 0, .int 0, .int 0, .int 0, .int 0, .int 0, .int 0, .int 0, .int 0, .int 0, .int 0, .int 0, .int 0, .int 0, .int 0, .int 0, .int 0, .int 0, .int 0, .int 0, .int 0, .int 0, .int 0, .int 0, .int 0, .int 0, .int 0] at A1
 refine r_astoreN H 4 #[vR a1, vI 0, vI 32, vR b1, .unset, .unset] d_j52_16_3 ?_
 refine r_aloadN H 5 d_j52_16_4 ?_
 refine r_iloadN H 6 d_j52_16_5 ?_
 refine r_aloadN H 7 d_j52_16_6 ?_
 refine r_iconst H 8 0 d_j52_16_7 ?_
 refine r_iloadN H 9 d_j52_16_8 ?_
 have q2 := (A_a1.keep K1 nin0)
 have q3 := (E_a1.keep K1)
 refine r_static (argsL := [.ref a1, .int 0, .ref b1, .int 0, .int 32]) (rest := []) (W := 0) H 12 d_j52_16_9 (tw179 hw) (tw180 hw) (tw177 hw) (tw181 hw) (lenOf pd_24 rfl) (rm_compress_100 hw Ts a1 b1 i1 i2 c1 kc1 h1 f Zf (nlt Z0 K1.1) q2 A1 (nlt Z0 (Nat.le_of_eq g1.symm)) E1 q3 r_i1 r_i2) ?_
 rintro _ hh7 ⟨rfl, K4, q5, q6⟩
 refine r_istore H 14 #[vR a1, vI 0, vI 32, vR b1, vI 32, .unset] d_j52_16_12 ?_
 refine r_iload H 16 d_j52_16_14 ?_
 refine r_iloadN H 17 d_j52_16_16 ?_
 refine r_icmpeqT H 57 d_j52_16_17 ?_
 refine r_aloadN H 58 d_j52_16_57 ?_
 have k8 : Keep h0 h1 [] := Keep.trans (Keep.refl h0 []) K1 all0
 have k9 : Keep h0 hh7 [] := Keep.trans k8 K4 (allS (Or.inr (nlt nlr (Nat.le_of_eq g1.symm))) all0)
 exact r_areturn H d_j52_16_58 (⟨b1, kc1, rfl, k9, (nlt nlr (Nat.le_of_eq g1.symm)), q5, q6⟩)
def Q_coderFromArrayLen_101 (Z : State) (h0 : Heap) (v : Option Value) (h : Heap) : Prop := v = some (.int 0) ∧ h0 = h
def R_coderFromArrayLen_101 : Room := { frames := 0, cells := 0, slots := 0, locals := 0 }
theorem rm_coderFromArrayLen_101 {w : Bool} {Z : State} {a0 : Array Value} (hw : HW a0 Z) (Ts : List String) (a1 : Addr) (i1 : Int32) (i2 : Int32) (c1 : ClassId) (h0 : Heap) (f : Nat) (Zf : Z.heap.size ≤ f) (Z0 : f ≤ h0.size) (A_a1 : Ar Z h0 a1 c1 .byte [.int i1, .int 32, .int 109, .int 97, .int 116, .int 99, .int 104, .int 101, .int 114, .int 115, .int 32, .int 101, .int 120, .int 112, .int 101, .int 99, .int 116, .int 101, .int 100, .int 44, .int 32, .int i2, .int 32, .int 114, .int 101, .int 99, .int 111, .int 114, .int 100, .int 101, .int 100, .int 46]) :
  Con w [] Z mn32 jdk_52_method_15_code 2 (some .byte) R_coderFromArrayLen_101 Ts Ts f #[.ref a1, .int 32] h0 (Q_coderFromArrayLen_101 Z h0) := by
 refine con_of f #[vR a1, vI 32] (plainFor_of_name pn_7) (fun m => rfl) Zf ?_
 intro C H hX0
 refine r_iloadN H 1 d_j52_15_0 ?_
 refine r_aloadN H 2 d_j52_15_1 ?_
 refine r_alen H 3 32 d_j52_15_2 A_a1 ?_
 refine r_isub H 4 0 d_j52_15_3 ?_
 refine r_bipush H 6 31 d_j52_15_4 ?_
 refine r_iushr H 7 0 d_j52_15_6 ?_
 refine r_i2b H 8 0 d_j52_15_7 ?_
 exact r_nreturn (0 : Int32) H d_j52_15_8 (⟨rfl, rfl⟩)
def Q_init_98 (Z : State) (a1 : Addr) (i1 : Int32) (i2 : Int32) (h0 : Heap) (v : Option Value) (h : Heap) : Prop := ∃ (b1 : Addr) (kc2 : ClassId), v = none ∧ Keep h0 h [a1] ∧ h0.size ≤ b1 ∧ Exa Z h a1 "java/lang/String" ∧ Fld Z h a1 "java/lang/String" "coder" "B" (.int 0) ∧ Fld Z h a1 "java/lang/String" "value" "[B" (.ref b1) ∧ Ar Z h b1 kc2 .byte [.int i1, .int 32, .int 109, .int 97, .int 116, .int 99, .int 104, .int 101, .int 114, .int 115, .int 32, .int 101, .int 120, .int 112, .int 101, .int 99, .int 116, .int 101, .int 100, .int 44, .int 32, .int i2, .int 32, .int 114, .int 101, .int 99, .int 111, .int 114, .int 100, .int 101, .int 100, .int 46] ∧ Exa Z h b1 "[B"
def R_init_98 : Room := { frames := 2, cells := 1, slots := 32, locals := 35 }
theorem rm_init_98 {w : Bool} {Z : State} {a0 : Array Value} (hw : HW a0 Z) (Ts : List String) (a1 : Addr) (a2 : Addr) (i1 : Int32) (i2 : Int32) (c1 : ClassId) (cs : Int32) (h0 : Heap) (f : Nat) (Zf : Z.heap.size ≤ f) (Z0 : f ≤ h0.size) (A_a2 : Ar Z h0 a2 c1 .char [.int i1, .int 32, .int 109, .int 97, .int 116, .int 99, .int 104, .int 101, .int 114, .int 115, .int 32, .int 101, .int 120, .int 112, .int 101, .int 99, .int 116, .int 101, .int 100, .int 44, .int 32, .int i2, .int 32, .int 114, .int 101, .int 99, .int 111, .int 114, .int 100, .int 101, .int 100, .int 46]) (E_a2 : Exa Z h0 a2 "[C") (E_a1 : Exa Z h0 a1 "java/lang/String") (F_coder_a1 : Fld Z h0 a1 "java/lang/String" "coder" "B" (.int 0)) (g_a1 : f ≤ a1) (F_value_a1 : Fld Z h0 a1 "java/lang/String" "value" "[B" .null) (r_i1 : 48 ≤ i1.toInt ∧ i1.toInt ≤ 57) (r_i2 : 48 ≤ i2.toInt ∧ i2.toInt ≤ 57) (S_cs : G_S_cs Z cs) (hcs : ¬ cs = 0) :
  Con w [] Z mn33 jdk_42_method_149_code 6 none R_init_98 Ts Ts f #[.ref a1, .ref a2, .int 0, .int 32, .null] h0 (Q_init_98 Z a1 i1 i2 h0) := by
 refine con_of f #[vR a1, vR a2, vI 0, vI 32, .val .null, .unset] (plainFor_of_name pn_3) (fun m => rfl) Zf ?_
 intro C H hX0
 refine r_aloadN H 1 d_j42_149_0 ?_
 refine r_initO (W := 0) H 4 d_j42_149_1 (tw118 hw) (tw18 hw) (tw19 hw) ?_
 refine r_iloadN H 5 d_j42_149_4 ?_
 refine r_ifneT H 27 d_j42_149_5 ?_
 refine r_gets H 30 d_j42_149_27 (tw83 hw) S_cs ?_
 refine r_ifeqF H 33 d_j42_149_30 hcs ?_
 refine r_aloadN H 34 d_j42_149_33 ?_
 refine r_iloadN H 35 d_j42_149_34 ?_
 refine r_iloadN H 36 d_j42_149_35 ?_
 refine r_static (argsL := [.ref a2, .int 0, .int 32]) (rest := []) (W := 0) H 39 d_j42_149_36 (tw175 hw) (tw176 hw) (tw177 hw) (tw178 hw) (lenOf pd_25 rfl) (rm_compress_99 hw Ts a2 i1 i2 c1 h0 f Zf Z0 A_a2 E_a2 r_i1 r_i2) ?_
 rintro _ hh7 ⟨b1, kc2, rfl, K3, g4, q5, q6⟩
 refine r_astore H 41 #[vR a1, vR a2, vI 0, vI 32, .val .null, vR b1] d_j42_149_39 ?_
 refine r_aloadN H 42 d_j42_149_41 ?_
 refine r_aload H 44 d_j42_149_42 ?_
 refine r_iloadN H 45 d_j42_149_44 ?_
 refine r_static (argsL := [.ref b1, .int 32]) (rest := [.ref a1]) (W := 1) H 48 d_j42_149_45 (tw182 hw) (tw183 hw) (tw177 hw) (tw184 hw) (lenOf pd_26 rfl) (rm_coderFromArrayLen_101 hw Ts b1 i1 i2 kc2 hh7 f Zf (nlt Z0 K3.1) q5) ?_
 rintro _ _ ⟨rfl, rfl⟩
 have q9 := (E_a1.keep K3)
 have q10 := (F_coder_a1.keep K3 nin0)
 refine r_putn (v' := (.int 0)) (ty := .byte) H 51 d_j42_149_48 (tw84 hw) q10 q9 (Or.inr ⟨(tw60 hw), rfl, rfl⟩) (tw58 hw) g_a1 ?_
 intro h11 W11 K11 E11 F11
 refine r_aloadN H 52 d_j42_149_51 ?_
 refine r_aload H 54 d_j42_149_52 ?_
 have q12 := ((F_value_a1.keep K3 nin0).other W11 (Or.inr (slot_ne (Or.inr (tw59 hw)) (Or.inr (tw60 hw)) (by decide) (t := (.array .byte)) (t' := .byte) (by decide) (by decide))))
 refine r_putf (ty := (.array .byte)) H 57 d_j42_149_54 (tw77 hw) q12 E11 (Or.inr ⟨(tw59 hw), rfl, rfl⟩) (tw58 hw) g_a1 ?_
 intro h13 W13 K13 E13 F13
 have k14 : Keep h0 hh7 [a1] := Keep.trans (Keep.refl h0 [a1]) K3 all0
 have k15 : Keep h0 h11 [a1] := Keep.trans k14 K11 (allS (Or.inl (List.mem_of_getElem? (i := 0) rfl)) all0)
 have k16 : Keep h0 h13 [a1] := Keep.trans k15 K13 (allS (Or.inl (List.mem_of_getElem? (i := 0) rfl)) all0)
 have q17 := (F11.other W13 (Or.inr (slot_ne (Or.inr (tw60 hw)) (Or.inr (tw59 hw)) (by decide) (t := .byte) (t' := (.array .byte)) (by decide) (by decide))))
 have q18 := ((q5.keep K11 (ninS (Ne.symm (Nat.ne_of_lt (Nat.lt_of_lt_of_le E_a1.lt (nlt nlr g4)))) nin0)).keep K13 (ninS (Ne.symm (Nat.ne_of_lt (Nat.lt_of_lt_of_le E_a1.lt (nlt nlr g4)))) nin0))
 have q19 := ((q6.keep K11).keep K13)
 exact r_return H d_j42_149_57 (⟨b1, kc2, rfl, k16, (nlt nlr g4), E13, q17, F13, q18, q19⟩)
def Q_init_97 (Z : State) (a1 : Addr) (i1 : Int32) (i2 : Int32) (h0 : Heap) (v : Option Value) (h : Heap) : Prop := ∃ (b1 : Addr) (kc2 : ClassId), v = none ∧ Keep h0 h [a1] ∧ h0.size ≤ b1 ∧ Exa Z h a1 "java/lang/String" ∧ Fld Z h a1 "java/lang/String" "coder" "B" (.int 0) ∧ Fld Z h a1 "java/lang/String" "value" "[B" (.ref b1) ∧ Ar Z h b1 kc2 .byte [.int i1, .int 32, .int 109, .int 97, .int 116, .int 99, .int 104, .int 101, .int 114, .int 115, .int 32, .int 101, .int 120, .int 112, .int 101, .int 99, .int 116, .int 101, .int 100, .int 44, .int 32, .int i2, .int 32, .int 114, .int 101, .int 99, .int 111, .int 114, .int 100, .int 101, .int 100, .int 46] ∧ Exa Z h b1 "[B"
def R_init_97 : Room := { frames := 3, cells := 1, slots := 32, locals := 52 }
theorem rm_init_97 {w : Bool} {Z : State} {a0 : Array Value} (hw : HW a0 Z) (Ts : List String) (a1 : Addr) (a2 : Addr) (i1 : Int32) (i2 : Int32) (c1 : ClassId) (cs : Int32) (h0 : Heap) (f : Nat) (Zf : Z.heap.size ≤ f) (Z0 : f ≤ h0.size) (A_a2 : Ar Z h0 a2 c1 .char [.int i1, .int 32, .int 109, .int 97, .int 116, .int 99, .int 104, .int 101, .int 114, .int 115, .int 32, .int 101, .int 120, .int 112, .int 101, .int 99, .int 116, .int 101, .int 100, .int 44, .int 32, .int i2, .int 32, .int 114, .int 101, .int 99, .int 111, .int 114, .int 100, .int 101, .int 100, .int 46]) (g_a1 : f ≤ a1) (E_a2 : Exa Z h0 a2 "[C") (E_a1 : Exa Z h0 a1 "java/lang/String") (F_coder_a1 : Fld Z h0 a1 "java/lang/String" "coder" "B" (.int 0)) (F_value_a1 : Fld Z h0 a1 "java/lang/String" "value" "[B" .null) (r_i1 : 48 ≤ i1.toInt ∧ i1.toInt ≤ 57) (r_i2 : 48 ≤ i2.toInt ∧ i2.toInt ≤ 57) (S_cs : G_S_cs Z cs) (hcs : ¬ cs = 0) :
  Con w [] Z mn34 jdk_42_method_3_code 2 none R_init_97 Ts Ts f #[.ref a1, .ref a2] h0 (Q_init_97 Z a1 i1 i2 h0) := by
 refine con_of f #[vR a1, vR a2] (plainFor_of_name pn_3) (fun m => rfl) Zf ?_
 intro C H hX0
 refine r_aloadN H 1 d_j42_3_0 ?_
 refine r_aloadN H 2 d_j42_3_1 ?_
 refine r_iconst H 3 0 d_j42_3_2 ?_
 refine r_aloadN H 4 d_j42_3_3 ?_
 refine r_alen H 5 32 d_j42_3_4 A_a2 ?_
 refine r_null H 6 d_j42_3_5 ?_
 refine r_special (a := a1) (argsL := [.ref a2, .int 0, .int 32, .null]) (rest := []) (W := 0) H 9 d_j42_3_6 (tw172 hw) (tw173 hw) (tw21 hw) (tw174 hw) (lenOf pd_27 rfl) (rm_init_98 hw Ts a1 a2 i1 i2 c1 cs h0 f Zf Z0 A_a2 E_a2 E_a1 F_coder_a1 g_a1 F_value_a1 r_i1 r_i2 S_cs hcs) ?_
 rintro _ hh10 ⟨b1, kc2, rfl, K3, g4, q5, q6, q7, q8, q9⟩
 have k11 : Keep h0 hh10 [a1] := Keep.trans (Keep.refl h0 [a1]) K3 (allS (Or.inl (List.mem_of_getElem? (i := 0) rfl)) all0)
 exact r_return H d_j42_3_9 (⟨b1, kc2, rfl, k11, (nlt nlr g4), q5, q6, q7, q8, q9⟩)
def Q_equals_103 (Z : State) (h0 : Heap) (v : Option Value) (h : Heap) : Prop := v = some (.int 1) ∧ h0 = h
def R_equals_103 : Room := { frames := 0, cells := 0, slots := 0, locals := 0 }
theorem rm_equals_103 {w : Bool} {Z : State} {a0 : Array Value} (hw : HW a0 Z) (Ts : List String) (a1 : Addr) (a2 : Addr) (i1 : Int32) (i2 : Int32) (c1 : ClassId) (c2 : ClassId) (h0 : Heap) (f : Nat) (Zf : Z.heap.size ≤ f) (Z0 : f ≤ h0.size) (A_a1 : Ar Z h0 a1 c1 .byte [.int i1, .int 32, .int 109, .int 97, .int 116, .int 99, .int 104, .int 101, .int 114, .int 115, .int 32, .int 101, .int 120, .int 112, .int 101, .int 99, .int 116, .int 101, .int 100, .int 44, .int 32, .int i2, .int 32, .int 114, .int 101, .int 99, .int 111, .int 114, .int 100, .int 101, .int 100, .int 46]) (A_a2 : Ar Z h0 a2 c2 .byte [.int i1, .int 32, .int 109, .int 97, .int 116, .int 99, .int 104, .int 101, .int 114, .int 115, .int 32, .int 101, .int 120, .int 112, .int 101, .int 99, .int 116, .int 101, .int 100, .int 44, .int 32, .int i2, .int 32, .int 114, .int 101, .int 99, .int 111, .int 114, .int 100, .int 101, .int 100, .int 46]) :
  Con w [] Z mn35 jdk_43_method_13_code 3 (some .boolean) R_equals_103 Ts Ts f #[.ref a1, .ref a2] h0 (Q_equals_103 Z h0) := by
 refine con_of f #[vR a1, vR a2, .unset] (plainFor_of_name pn_8) (fun m => rfl) Zf ?_
 intro C H hX0
 refine r_aloadN H 1 d_j43_13_0 ?_
 refine r_alen H 2 32 d_j43_13_1 A_a1 ?_
 refine r_aloadN H 3 d_j43_13_2 ?_
 refine r_alen H 4 32 d_j43_13_3 A_a2 ?_
 refine r_icmpneF H 7 d_j43_13_4 rfl (by decide) ?_
 refine r_iconst H 8 0 d_j43_13_7 ?_
 refine r_istoreN H 9 #[vR a1, vR a2, vI 0] d_j43_13_8 ?_
 refine r_iloadN H 10 d_j43_13_9 ?_
 refine r_aloadN H 11 d_j43_13_10 ?_
 refine r_alen H 12 32 d_j43_13_11 A_a1 ?_
 refine r_icmpgeF H 15 d_j43_13_12 ?_
 refine r_aloadN H 16 d_j43_13_15 ?_
 refine r_iloadN H 17 d_j43_13_16 ?_
 refine r_baload H 18 i1 d_j43_13_17 A_a1 ?_
 refine r_aloadN H 19 d_j43_13_18 ?_
 refine r_iloadN H 20 d_j43_13_19 ?_
 refine r_baload H 21 i1 d_j43_13_20 A_a2 ?_
 refine r_icmpeqT (c := rfl) H 26 d_j43_13_21 ?_
 refine r_iinc H 29 #[vR a1, vR a2, vI 1] 1 d_j43_13_26 ?_
 refine r_goto H 9 d_j43_13_29 ?_
 refine r_iloadN H 10 d_j43_13_9 ?_
 refine r_aloadN H 11 d_j43_13_10 ?_
 refine r_alen H 12 32 d_j43_13_11 A_a1 ?_
 refine r_icmpgeF H 15 d_j43_13_12 ?_
 refine r_aloadN H 16 d_j43_13_15 ?_
 refine r_iloadN H 17 d_j43_13_16 ?_
 refine r_baload H 18 32 d_j43_13_17 A_a1 ?_
 refine r_aloadN H 19 d_j43_13_18 ?_
 refine r_iloadN H 20 d_j43_13_19 ?_
 refine r_baload H 21 32 d_j43_13_20 A_a2 ?_
 refine r_icmpeqT H 26 d_j43_13_21 ?_
 refine r_iinc H 29 #[vR a1, vR a2, vI 2] 2 d_j43_13_26 ?_
 refine r_goto H 9 d_j43_13_29 ?_
 refine r_iloadN H 10 d_j43_13_9 ?_
 refine r_aloadN H 11 d_j43_13_10 ?_
 refine r_alen H 12 32 d_j43_13_11 A_a1 ?_
 refine r_icmpgeF H 15 d_j43_13_12 ?_
 refine r_aloadN H 16 d_j43_13_15 ?_
 refine r_iloadN H 17 d_j43_13_16 ?_
 refine r_baload H 18 109 d_j43_13_17 A_a1 ?_
 refine r_aloadN H 19 d_j43_13_18 ?_
 refine r_iloadN H 20 d_j43_13_19 ?_
 refine r_baload H 21 109 d_j43_13_20 A_a2 ?_
 refine r_icmpeqT H 26 d_j43_13_21 ?_
 refine r_iinc H 29 #[vR a1, vR a2, vI 3] 3 d_j43_13_26 ?_
 refine r_goto H 9 d_j43_13_29 ?_
 refine r_iloadN H 10 d_j43_13_9 ?_
 refine r_aloadN H 11 d_j43_13_10 ?_
 refine r_alen H 12 32 d_j43_13_11 A_a1 ?_
 refine r_icmpgeF H 15 d_j43_13_12 ?_
 refine r_aloadN H 16 d_j43_13_15 ?_
 refine r_iloadN H 17 d_j43_13_16 ?_
 refine r_baload H 18 97 d_j43_13_17 A_a1 ?_
 refine r_aloadN H 19 d_j43_13_18 ?_
 refine r_iloadN H 20 d_j43_13_19 ?_
 refine r_baload H 21 97 d_j43_13_20 A_a2 ?_
 refine r_icmpeqT H 26 d_j43_13_21 ?_
 refine r_iinc H 29 #[vR a1, vR a2, vI 4] 4 d_j43_13_26 ?_
 refine r_goto H 9 d_j43_13_29 ?_
 refine r_iloadN H 10 d_j43_13_9 ?_
 refine r_aloadN H 11 d_j43_13_10 ?_
 refine r_alen H 12 32 d_j43_13_11 A_a1 ?_
 refine r_icmpgeF H 15 d_j43_13_12 ?_
 refine r_aloadN H 16 d_j43_13_15 ?_
 refine r_iloadN H 17 d_j43_13_16 ?_
 refine r_baload H 18 116 d_j43_13_17 A_a1 ?_
 refine r_aloadN H 19 d_j43_13_18 ?_
 refine r_iloadN H 20 d_j43_13_19 ?_
 refine r_baload H 21 116 d_j43_13_20 A_a2 ?_
 refine r_icmpeqT H 26 d_j43_13_21 ?_
 refine r_iinc H 29 #[vR a1, vR a2, vI 5] 5 d_j43_13_26 ?_
 refine r_goto H 9 d_j43_13_29 ?_
 refine r_iloadN H 10 d_j43_13_9 ?_
 refine r_aloadN H 11 d_j43_13_10 ?_
 refine r_alen H 12 32 d_j43_13_11 A_a1 ?_
 refine r_icmpgeF H 15 d_j43_13_12 ?_
 refine r_aloadN H 16 d_j43_13_15 ?_
 refine r_iloadN H 17 d_j43_13_16 ?_
 refine r_baload H 18 99 d_j43_13_17 A_a1 ?_
 refine r_aloadN H 19 d_j43_13_18 ?_
 refine r_iloadN H 20 d_j43_13_19 ?_
 refine r_baload H 21 99 d_j43_13_20 A_a2 ?_
 refine r_icmpeqT H 26 d_j43_13_21 ?_
 refine r_iinc H 29 #[vR a1, vR a2, vI 6] 6 d_j43_13_26 ?_
 refine r_goto H 9 d_j43_13_29 ?_
 refine r_iloadN H 10 d_j43_13_9 ?_
 refine r_aloadN H 11 d_j43_13_10 ?_
 refine r_alen H 12 32 d_j43_13_11 A_a1 ?_
 refine r_icmpgeF H 15 d_j43_13_12 ?_
 refine r_aloadN H 16 d_j43_13_15 ?_
 refine r_iloadN H 17 d_j43_13_16 ?_
 refine r_baload H 18 104 d_j43_13_17 A_a1 ?_
 refine r_aloadN H 19 d_j43_13_18 ?_
 refine r_iloadN H 20 d_j43_13_19 ?_
 refine r_baload H 21 104 d_j43_13_20 A_a2 ?_
 refine r_icmpeqT H 26 d_j43_13_21 ?_
 refine r_iinc H 29 #[vR a1, vR a2, vI 7] 7 d_j43_13_26 ?_
 refine r_goto H 9 d_j43_13_29 ?_
 refine r_iloadN H 10 d_j43_13_9 ?_
 refine r_aloadN H 11 d_j43_13_10 ?_
 refine r_alen H 12 32 d_j43_13_11 A_a1 ?_
 refine r_icmpgeF H 15 d_j43_13_12 ?_
 refine r_aloadN H 16 d_j43_13_15 ?_
 refine r_iloadN H 17 d_j43_13_16 ?_
 refine r_baload H 18 101 d_j43_13_17 A_a1 ?_
 refine r_aloadN H 19 d_j43_13_18 ?_
 refine r_iloadN H 20 d_j43_13_19 ?_
 refine r_baload H 21 101 d_j43_13_20 A_a2 ?_
 refine r_icmpeqT H 26 d_j43_13_21 ?_
 refine r_iinc H 29 #[vR a1, vR a2, vI 8] 8 d_j43_13_26 ?_
 refine r_goto H 9 d_j43_13_29 ?_
 refine r_iloadN H 10 d_j43_13_9 ?_
 refine r_aloadN H 11 d_j43_13_10 ?_
 refine r_alen H 12 32 d_j43_13_11 A_a1 ?_
 refine r_icmpgeF H 15 d_j43_13_12 ?_
 refine r_aloadN H 16 d_j43_13_15 ?_
 refine r_iloadN H 17 d_j43_13_16 ?_
 refine r_baload H 18 114 d_j43_13_17 A_a1 ?_
 refine r_aloadN H 19 d_j43_13_18 ?_
 refine r_iloadN H 20 d_j43_13_19 ?_
 refine r_baload H 21 114 d_j43_13_20 A_a2 ?_
 refine r_icmpeqT H 26 d_j43_13_21 ?_
 refine r_iinc H 29 #[vR a1, vR a2, vI 9] 9 d_j43_13_26 ?_
 refine r_goto H 9 d_j43_13_29 ?_
 refine r_iloadN H 10 d_j43_13_9 ?_
 refine r_aloadN H 11 d_j43_13_10 ?_
 refine r_alen H 12 32 d_j43_13_11 A_a1 ?_
 refine r_icmpgeF H 15 d_j43_13_12 ?_
 refine r_aloadN H 16 d_j43_13_15 ?_
 refine r_iloadN H 17 d_j43_13_16 ?_
 refine r_baload H 18 115 d_j43_13_17 A_a1 ?_
 refine r_aloadN H 19 d_j43_13_18 ?_
 refine r_iloadN H 20 d_j43_13_19 ?_
 refine r_baload H 21 115 d_j43_13_20 A_a2 ?_
 refine r_icmpeqT H 26 d_j43_13_21 ?_
 refine r_iinc H 29 #[vR a1, vR a2, vI 10] 10 d_j43_13_26 ?_
 refine r_goto H 9 d_j43_13_29 ?_
 refine r_iloadN H 10 d_j43_13_9 ?_
 refine r_aloadN H 11 d_j43_13_10 ?_
 refine r_alen H 12 32 d_j43_13_11 A_a1 ?_
 refine r_icmpgeF H 15 d_j43_13_12 ?_
 refine r_aloadN H 16 d_j43_13_15 ?_
 refine r_iloadN H 17 d_j43_13_16 ?_
 refine r_baload H 18 32 d_j43_13_17 A_a1 ?_
 refine r_aloadN H 19 d_j43_13_18 ?_
 refine r_iloadN H 20 d_j43_13_19 ?_
 refine r_baload H 21 32 d_j43_13_20 A_a2 ?_
 refine r_icmpeqT H 26 d_j43_13_21 ?_
 refine r_iinc H 29 #[vR a1, vR a2, vI 11] 11 d_j43_13_26 ?_
 refine r_goto H 9 d_j43_13_29 ?_
 refine r_iloadN H 10 d_j43_13_9 ?_
 refine r_aloadN H 11 d_j43_13_10 ?_
 refine r_alen H 12 32 d_j43_13_11 A_a1 ?_
 refine r_icmpgeF H 15 d_j43_13_12 ?_
 refine r_aloadN H 16 d_j43_13_15 ?_
 refine r_iloadN H 17 d_j43_13_16 ?_
 refine r_baload H 18 101 d_j43_13_17 A_a1 ?_
 refine r_aloadN H 19 d_j43_13_18 ?_
 refine r_iloadN H 20 d_j43_13_19 ?_
 refine r_baload H 21 101 d_j43_13_20 A_a2 ?_
 refine r_icmpeqT H 26 d_j43_13_21 ?_
 refine r_iinc H 29 #[vR a1, vR a2, vI 12] 12 d_j43_13_26 ?_
 refine r_goto H 9 d_j43_13_29 ?_
 refine r_iloadN H 10 d_j43_13_9 ?_
 refine r_aloadN H 11 d_j43_13_10 ?_
 refine r_alen H 12 32 d_j43_13_11 A_a1 ?_
 refine r_icmpgeF H 15 d_j43_13_12 ?_
 refine r_aloadN H 16 d_j43_13_15 ?_
 refine r_iloadN H 17 d_j43_13_16 ?_
 refine r_baload H 18 120 d_j43_13_17 A_a1 ?_
 refine r_aloadN H 19 d_j43_13_18 ?_
 refine r_iloadN H 20 d_j43_13_19 ?_
 refine r_baload H 21 120 d_j43_13_20 A_a2 ?_
 refine r_icmpeqT H 26 d_j43_13_21 ?_
 refine r_iinc H 29 #[vR a1, vR a2, vI 13] 13 d_j43_13_26 ?_
 refine r_goto H 9 d_j43_13_29 ?_
 refine r_iloadN H 10 d_j43_13_9 ?_
 refine r_aloadN H 11 d_j43_13_10 ?_
 refine r_alen H 12 32 d_j43_13_11 A_a1 ?_
 refine r_icmpgeF H 15 d_j43_13_12 ?_
 refine r_aloadN H 16 d_j43_13_15 ?_
 refine r_iloadN H 17 d_j43_13_16 ?_
 refine r_baload H 18 112 d_j43_13_17 A_a1 ?_
 refine r_aloadN H 19 d_j43_13_18 ?_
 refine r_iloadN H 20 d_j43_13_19 ?_
 refine r_baload H 21 112 d_j43_13_20 A_a2 ?_
 refine r_icmpeqT H 26 d_j43_13_21 ?_
 refine r_iinc H 29 #[vR a1, vR a2, vI 14] 14 d_j43_13_26 ?_
 refine r_goto H 9 d_j43_13_29 ?_
 refine r_iloadN H 10 d_j43_13_9 ?_
 refine r_aloadN H 11 d_j43_13_10 ?_
 refine r_alen H 12 32 d_j43_13_11 A_a1 ?_
 refine r_icmpgeF H 15 d_j43_13_12 ?_
 refine r_aloadN H 16 d_j43_13_15 ?_
 refine r_iloadN H 17 d_j43_13_16 ?_
 refine r_baload H 18 101 d_j43_13_17 A_a1 ?_
 refine r_aloadN H 19 d_j43_13_18 ?_
 refine r_iloadN H 20 d_j43_13_19 ?_
 refine r_baload H 21 101 d_j43_13_20 A_a2 ?_
 refine r_icmpeqT H 26 d_j43_13_21 ?_
 refine r_iinc H 29 #[vR a1, vR a2, vI 15] 15 d_j43_13_26 ?_
 refine r_goto H 9 d_j43_13_29 ?_
 refine r_iloadN H 10 d_j43_13_9 ?_
 refine r_aloadN H 11 d_j43_13_10 ?_
 refine r_alen H 12 32 d_j43_13_11 A_a1 ?_
 refine r_icmpgeF H 15 d_j43_13_12 ?_
 refine r_aloadN H 16 d_j43_13_15 ?_
 refine r_iloadN H 17 d_j43_13_16 ?_
 refine r_baload H 18 99 d_j43_13_17 A_a1 ?_
 refine r_aloadN H 19 d_j43_13_18 ?_
 refine r_iloadN H 20 d_j43_13_19 ?_
 refine r_baload H 21 99 d_j43_13_20 A_a2 ?_
 refine r_icmpeqT H 26 d_j43_13_21 ?_
 refine r_iinc H 29 #[vR a1, vR a2, vI 16] 16 d_j43_13_26 ?_
 refine r_goto H 9 d_j43_13_29 ?_
 refine r_iloadN H 10 d_j43_13_9 ?_
 refine r_aloadN H 11 d_j43_13_10 ?_
 refine r_alen H 12 32 d_j43_13_11 A_a1 ?_
 refine r_icmpgeF H 15 d_j43_13_12 ?_
 refine r_aloadN H 16 d_j43_13_15 ?_
 refine r_iloadN H 17 d_j43_13_16 ?_
 refine r_baload H 18 116 d_j43_13_17 A_a1 ?_
 refine r_aloadN H 19 d_j43_13_18 ?_
 refine r_iloadN H 20 d_j43_13_19 ?_
 refine r_baload H 21 116 d_j43_13_20 A_a2 ?_
 refine r_icmpeqT H 26 d_j43_13_21 ?_
 refine r_iinc H 29 #[vR a1, vR a2, vI 17] 17 d_j43_13_26 ?_
 refine r_goto H 9 d_j43_13_29 ?_
 refine r_iloadN H 10 d_j43_13_9 ?_
 refine r_aloadN H 11 d_j43_13_10 ?_
 refine r_alen H 12 32 d_j43_13_11 A_a1 ?_
 refine r_icmpgeF H 15 d_j43_13_12 ?_
 refine r_aloadN H 16 d_j43_13_15 ?_
 refine r_iloadN H 17 d_j43_13_16 ?_
 refine r_baload H 18 101 d_j43_13_17 A_a1 ?_
 refine r_aloadN H 19 d_j43_13_18 ?_
 refine r_iloadN H 20 d_j43_13_19 ?_
 refine r_baload H 21 101 d_j43_13_20 A_a2 ?_
 refine r_icmpeqT H 26 d_j43_13_21 ?_
 refine r_iinc H 29 #[vR a1, vR a2, vI 18] 18 d_j43_13_26 ?_
 refine r_goto H 9 d_j43_13_29 ?_
 refine r_iloadN H 10 d_j43_13_9 ?_
 refine r_aloadN H 11 d_j43_13_10 ?_
 refine r_alen H 12 32 d_j43_13_11 A_a1 ?_
 refine r_icmpgeF H 15 d_j43_13_12 ?_
 refine r_aloadN H 16 d_j43_13_15 ?_
 refine r_iloadN H 17 d_j43_13_16 ?_
 refine r_baload H 18 100 d_j43_13_17 A_a1 ?_
 refine r_aloadN H 19 d_j43_13_18 ?_
 refine r_iloadN H 20 d_j43_13_19 ?_
 refine r_baload H 21 100 d_j43_13_20 A_a2 ?_
 refine r_icmpeqT H 26 d_j43_13_21 ?_
 refine r_iinc H 29 #[vR a1, vR a2, vI 19] 19 d_j43_13_26 ?_
 refine r_goto H 9 d_j43_13_29 ?_
 refine r_iloadN H 10 d_j43_13_9 ?_
 refine r_aloadN H 11 d_j43_13_10 ?_
 refine r_alen H 12 32 d_j43_13_11 A_a1 ?_
 refine r_icmpgeF H 15 d_j43_13_12 ?_
 refine r_aloadN H 16 d_j43_13_15 ?_
 refine r_iloadN H 17 d_j43_13_16 ?_
 refine r_baload H 18 44 d_j43_13_17 A_a1 ?_
 refine r_aloadN H 19 d_j43_13_18 ?_
 refine r_iloadN H 20 d_j43_13_19 ?_
 refine r_baload H 21 44 d_j43_13_20 A_a2 ?_
 refine r_icmpeqT H 26 d_j43_13_21 ?_
 refine r_iinc H 29 #[vR a1, vR a2, vI 20] 20 d_j43_13_26 ?_
 refine r_goto H 9 d_j43_13_29 ?_
 refine r_iloadN H 10 d_j43_13_9 ?_
 refine r_aloadN H 11 d_j43_13_10 ?_
 refine r_alen H 12 32 d_j43_13_11 A_a1 ?_
 refine r_icmpgeF H 15 d_j43_13_12 ?_
 refine r_aloadN H 16 d_j43_13_15 ?_
 refine r_iloadN H 17 d_j43_13_16 ?_
 refine r_baload H 18 32 d_j43_13_17 A_a1 ?_
 refine r_aloadN H 19 d_j43_13_18 ?_
 refine r_iloadN H 20 d_j43_13_19 ?_
 refine r_baload H 21 32 d_j43_13_20 A_a2 ?_
 refine r_icmpeqT H 26 d_j43_13_21 ?_
 refine r_iinc H 29 #[vR a1, vR a2, vI 21] 21 d_j43_13_26 ?_
 refine r_goto H 9 d_j43_13_29 ?_
 refine r_iloadN H 10 d_j43_13_9 ?_
 refine r_aloadN H 11 d_j43_13_10 ?_
 refine r_alen H 12 32 d_j43_13_11 A_a1 ?_
 refine r_icmpgeF H 15 d_j43_13_12 ?_
 refine r_aloadN H 16 d_j43_13_15 ?_
 refine r_iloadN H 17 d_j43_13_16 ?_
 refine r_baload H 18 i2 d_j43_13_17 A_a1 ?_
 refine r_aloadN H 19 d_j43_13_18 ?_
 refine r_iloadN H 20 d_j43_13_19 ?_
 refine r_baload H 21 i2 d_j43_13_20 A_a2 ?_
 refine r_icmpeqT (c := rfl) H 26 d_j43_13_21 ?_
 refine r_iinc H 29 #[vR a1, vR a2, vI 22] 22 d_j43_13_26 ?_
 refine r_goto H 9 d_j43_13_29 ?_
 refine r_iloadN H 10 d_j43_13_9 ?_
 refine r_aloadN H 11 d_j43_13_10 ?_
 refine r_alen H 12 32 d_j43_13_11 A_a1 ?_
 refine r_icmpgeF H 15 d_j43_13_12 ?_
 refine r_aloadN H 16 d_j43_13_15 ?_
 refine r_iloadN H 17 d_j43_13_16 ?_
 refine r_baload H 18 32 d_j43_13_17 A_a1 ?_
 refine r_aloadN H 19 d_j43_13_18 ?_
 refine r_iloadN H 20 d_j43_13_19 ?_
 refine r_baload H 21 32 d_j43_13_20 A_a2 ?_
 refine r_icmpeqT H 26 d_j43_13_21 ?_
 refine r_iinc H 29 #[vR a1, vR a2, vI 23] 23 d_j43_13_26 ?_
 refine r_goto H 9 d_j43_13_29 ?_
 refine r_iloadN H 10 d_j43_13_9 ?_
 refine r_aloadN H 11 d_j43_13_10 ?_
 refine r_alen H 12 32 d_j43_13_11 A_a1 ?_
 refine r_icmpgeF H 15 d_j43_13_12 ?_
 refine r_aloadN H 16 d_j43_13_15 ?_
 refine r_iloadN H 17 d_j43_13_16 ?_
 refine r_baload H 18 114 d_j43_13_17 A_a1 ?_
 refine r_aloadN H 19 d_j43_13_18 ?_
 refine r_iloadN H 20 d_j43_13_19 ?_
 refine r_baload H 21 114 d_j43_13_20 A_a2 ?_
 refine r_icmpeqT H 26 d_j43_13_21 ?_
 refine r_iinc H 29 #[vR a1, vR a2, vI 24] 24 d_j43_13_26 ?_
 refine r_goto H 9 d_j43_13_29 ?_
 refine r_iloadN H 10 d_j43_13_9 ?_
 refine r_aloadN H 11 d_j43_13_10 ?_
 refine r_alen H 12 32 d_j43_13_11 A_a1 ?_
 refine r_icmpgeF H 15 d_j43_13_12 ?_
 refine r_aloadN H 16 d_j43_13_15 ?_
 refine r_iloadN H 17 d_j43_13_16 ?_
 refine r_baload H 18 101 d_j43_13_17 A_a1 ?_
 refine r_aloadN H 19 d_j43_13_18 ?_
 refine r_iloadN H 20 d_j43_13_19 ?_
 refine r_baload H 21 101 d_j43_13_20 A_a2 ?_
 refine r_icmpeqT H 26 d_j43_13_21 ?_
 refine r_iinc H 29 #[vR a1, vR a2, vI 25] 25 d_j43_13_26 ?_
 refine r_goto H 9 d_j43_13_29 ?_
 refine r_iloadN H 10 d_j43_13_9 ?_
 refine r_aloadN H 11 d_j43_13_10 ?_
 refine r_alen H 12 32 d_j43_13_11 A_a1 ?_
 refine r_icmpgeF H 15 d_j43_13_12 ?_
 refine r_aloadN H 16 d_j43_13_15 ?_
 refine r_iloadN H 17 d_j43_13_16 ?_
 refine r_baload H 18 99 d_j43_13_17 A_a1 ?_
 refine r_aloadN H 19 d_j43_13_18 ?_
 refine r_iloadN H 20 d_j43_13_19 ?_
 refine r_baload H 21 99 d_j43_13_20 A_a2 ?_
 refine r_icmpeqT H 26 d_j43_13_21 ?_
 refine r_iinc H 29 #[vR a1, vR a2, vI 26] 26 d_j43_13_26 ?_
 refine r_goto H 9 d_j43_13_29 ?_
 refine r_iloadN H 10 d_j43_13_9 ?_
 refine r_aloadN H 11 d_j43_13_10 ?_
 refine r_alen H 12 32 d_j43_13_11 A_a1 ?_
 refine r_icmpgeF H 15 d_j43_13_12 ?_
 refine r_aloadN H 16 d_j43_13_15 ?_
 refine r_iloadN H 17 d_j43_13_16 ?_
 refine r_baload H 18 111 d_j43_13_17 A_a1 ?_
 refine r_aloadN H 19 d_j43_13_18 ?_
 refine r_iloadN H 20 d_j43_13_19 ?_
 refine r_baload H 21 111 d_j43_13_20 A_a2 ?_
 refine r_icmpeqT H 26 d_j43_13_21 ?_
 refine r_iinc H 29 #[vR a1, vR a2, vI 27] 27 d_j43_13_26 ?_
 refine r_goto H 9 d_j43_13_29 ?_
 refine r_iloadN H 10 d_j43_13_9 ?_
 refine r_aloadN H 11 d_j43_13_10 ?_
 refine r_alen H 12 32 d_j43_13_11 A_a1 ?_
 refine r_icmpgeF H 15 d_j43_13_12 ?_
 refine r_aloadN H 16 d_j43_13_15 ?_
 refine r_iloadN H 17 d_j43_13_16 ?_
 refine r_baload H 18 114 d_j43_13_17 A_a1 ?_
 refine r_aloadN H 19 d_j43_13_18 ?_
 refine r_iloadN H 20 d_j43_13_19 ?_
 refine r_baload H 21 114 d_j43_13_20 A_a2 ?_
 refine r_icmpeqT H 26 d_j43_13_21 ?_
 refine r_iinc H 29 #[vR a1, vR a2, vI 28] 28 d_j43_13_26 ?_
 refine r_goto H 9 d_j43_13_29 ?_
 refine r_iloadN H 10 d_j43_13_9 ?_
 refine r_aloadN H 11 d_j43_13_10 ?_
 refine r_alen H 12 32 d_j43_13_11 A_a1 ?_
 refine r_icmpgeF H 15 d_j43_13_12 ?_
 refine r_aloadN H 16 d_j43_13_15 ?_
 refine r_iloadN H 17 d_j43_13_16 ?_
 refine r_baload H 18 100 d_j43_13_17 A_a1 ?_
 refine r_aloadN H 19 d_j43_13_18 ?_
 refine r_iloadN H 20 d_j43_13_19 ?_
 refine r_baload H 21 100 d_j43_13_20 A_a2 ?_
 refine r_icmpeqT H 26 d_j43_13_21 ?_
 refine r_iinc H 29 #[vR a1, vR a2, vI 29] 29 d_j43_13_26 ?_
 refine r_goto H 9 d_j43_13_29 ?_
 refine r_iloadN H 10 d_j43_13_9 ?_
 refine r_aloadN H 11 d_j43_13_10 ?_
 refine r_alen H 12 32 d_j43_13_11 A_a1 ?_
 refine r_icmpgeF H 15 d_j43_13_12 ?_
 refine r_aloadN H 16 d_j43_13_15 ?_
 refine r_iloadN H 17 d_j43_13_16 ?_
 refine r_baload H 18 101 d_j43_13_17 A_a1 ?_
 refine r_aloadN H 19 d_j43_13_18 ?_
 refine r_iloadN H 20 d_j43_13_19 ?_
 refine r_baload H 21 101 d_j43_13_20 A_a2 ?_
 refine r_icmpeqT H 26 d_j43_13_21 ?_
 refine r_iinc H 29 #[vR a1, vR a2, vI 30] 30 d_j43_13_26 ?_
 refine r_goto H 9 d_j43_13_29 ?_
 refine r_iloadN H 10 d_j43_13_9 ?_
 refine r_aloadN H 11 d_j43_13_10 ?_
 refine r_alen H 12 32 d_j43_13_11 A_a1 ?_
 refine r_icmpgeF H 15 d_j43_13_12 ?_
 refine r_aloadN H 16 d_j43_13_15 ?_
 refine r_iloadN H 17 d_j43_13_16 ?_
 refine r_baload H 18 100 d_j43_13_17 A_a1 ?_
 refine r_aloadN H 19 d_j43_13_18 ?_
 refine r_iloadN H 20 d_j43_13_19 ?_
 refine r_baload H 21 100 d_j43_13_20 A_a2 ?_
 refine r_icmpeqT H 26 d_j43_13_21 ?_
 refine r_iinc H 29 #[vR a1, vR a2, vI 31] 31 d_j43_13_26 ?_
 refine r_goto H 9 d_j43_13_29 ?_
 refine r_iloadN H 10 d_j43_13_9 ?_
 refine r_aloadN H 11 d_j43_13_10 ?_
 refine r_alen H 12 32 d_j43_13_11 A_a1 ?_
 refine r_icmpgeF H 15 d_j43_13_12 ?_
 refine r_aloadN H 16 d_j43_13_15 ?_
 refine r_iloadN H 17 d_j43_13_16 ?_
 refine r_baload H 18 46 d_j43_13_17 A_a1 ?_
 refine r_aloadN H 19 d_j43_13_18 ?_
 refine r_iloadN H 20 d_j43_13_19 ?_
 refine r_baload H 21 46 d_j43_13_20 A_a2 ?_
 refine r_icmpeqT H 26 d_j43_13_21 ?_
 refine r_iinc H 29 #[vR a1, vR a2, vI 32] 32 d_j43_13_26 ?_
 refine r_goto H 9 d_j43_13_29 ?_
 refine r_iloadN H 10 d_j43_13_9 ?_
 refine r_aloadN H 11 d_j43_13_10 ?_
 refine r_alen H 12 32 d_j43_13_11 A_a1 ?_
 refine r_icmpgeT H 32 d_j43_13_12 ?_
 refine r_iconst H 33 1 d_j43_13_32 ?_
 exact r_nreturn (1 : Int32) H d_j43_13_33 (⟨rfl, rfl⟩)
def Q_equals_102 (Z : State) (h0 : Heap) (v : Option Value) (h : Heap) : Prop := v = some (.int 1) ∧ h0 = h
def R_equals_102 : Room := { frames := 1, cells := 0, slots := 0, locals := 14 }
theorem rm_equals_102 {w : Bool} {Z : State} {a0 : Array Value} (hw : HW a0 Z) (Ts : List String) (a1 : Addr) (a2 : Addr) (a3 : Addr) (a4 : Addr) (i1 : Int32) (i2 : Int32) (c1 : ClassId) (c2 : ClassId) (cs : Int32) (h0 : Heap) (f : Nat) (Zf : Z.heap.size ≤ f) (Z0 : f ≤ h0.size) (F_value_a1 : Fld Z h0 a1 "java/lang/String" "value" "[B" (.ref a3)) (F_value_a2 : Fld Z h0 a2 "java/lang/String" "value" "[B" (.ref a4)) (A_a3 : Ar Z h0 a3 c1 .byte [.int i1, .int 32, .int 109, .int 97, .int 116, .int 99, .int 104, .int 101, .int 114, .int 115, .int 32, .int 101, .int 120, .int 112, .int 101, .int 99, .int 116, .int 101, .int 100, .int 44, .int 32, .int i2, .int 32, .int 114, .int 101, .int 99, .int 111, .int 114, .int 100, .int 101, .int 100, .int 46]) (A_a4 : Ar Z h0 a4 c2 .byte [.int i1, .int 32, .int 109, .int 97, .int 116, .int 99, .int 104, .int 101, .int 114, .int 115, .int 32, .int 101, .int 120, .int 112, .int 101, .int 99, .int 116, .int 101, .int 100, .int 44, .int 32, .int i2, .int 32, .int 114, .int 101, .int 99, .int 111, .int 114, .int 100, .int 101, .int 100, .int 46]) (E_a2 : Exa Z h0 a2 "java/lang/String") (F_coder_a1 : Fld Z h0 a1 "java/lang/String" "coder" "B" (.int 0)) (F_coder_a2 : Fld Z h0 a2 "java/lang/String" "coder" "B" (.int 0)) (S_cs : G_S_cs Z cs) (hcs : ¬ cs = 0) :
  Con w [] Z mn36 jdk_42_method_66_code 3 (some .boolean) R_equals_102 Ts Ts f #[.ref a1, .ref a2] h0 (Q_equals_102 Z h0) := by
 refine con_of f #[vR a1, vR a2, .unset] (plainFor_of_name pn_3) (fun m => rfl) Zf ?_
 intro C H hX0
 refine r_aloadN H 1 d_j42_66_0 ?_
 refine r_aloadN H 2 d_j42_66_1 ?_
 by_cases hab1 : a1 = a2
 ·
  refine r_acmp H 5 true d_j42_66_2 (decide_eq_true (congrArg Value.ref hab1)) ?_
  refine r_iconst H 6 1 d_j42_66_5 ?_
  exact r_nreturn (1 : Int32) H d_j42_66_6 (⟨rfl, rfl⟩)
 ·
  refine r_acmp H 7 false d_j42_66_2 (decide_eq_false fun q => hab1 (Value.ref.inj q)) ?_
  refine r_aloadN H 8 d_j42_66_7 ?_
  refine r_instY H 11 d_j42_66_8 (tw190 hw) (Ins.self E_a2) ?_
  refine r_ifeqF H 14 d_j42_66_11 (by decide) ?_
  refine r_aloadN H 15 d_j42_66_14 ?_
  refine r_castY H 18 d_j42_66_15 (tw190 hw) (Ins.self E_a2) ?_
  refine r_astoreN H 19 #[vR a1, vR a2, vR a2] d_j42_66_18 ?_
  refine r_gets H 22 d_j42_66_19 (tw83 hw) S_cs ?_
  refine r_ifeqF H 25 d_j42_66_22 hcs ?_
  refine r_aloadN H 26 d_j42_66_25 ?_
  refine r_getf H 29 d_j42_66_26 (tw84 hw) F_coder_a1 ?_
  refine r_aloadN H 30 d_j42_66_29 ?_
  refine r_getf H 33 d_j42_66_30 (tw84 hw) F_coder_a2 ?_
  refine r_icmpneF H 36 d_j42_66_33 rfl (by decide) ?_
  refine r_aloadN H 37 d_j42_66_36 ?_
  refine r_getf H 40 d_j42_66_37 (tw77 hw) F_value_a1 ?_
  refine r_aloadN H 41 d_j42_66_40 ?_
  refine r_getf H 44 d_j42_66_41 (tw77 hw) F_value_a2 ?_
  refine r_static (argsL := [.ref a3, .ref a4]) (rest := []) (W := 0) H 47 d_j42_66_44 (tw191 hw) (tw192 hw) (tw193 hw) (tw194 hw) (lenOf pd_29 rfl) (rm_equals_103 hw Ts a3 a4 i1 i2 c1 c2 h0 f Zf Z0 A_a3 A_a4) ?_
  rintro _ _ ⟨rfl, rfl⟩
  refine r_ifeqF H 50 d_j42_66_47 (by decide) ?_
  refine r_iconst H 51 1 d_j42_66_50 ?_
  refine r_goto H 55 d_j42_66_51 ?_
  exact r_nreturn (1 : Int32) H d_j42_66_55 (⟨rfl, rfl⟩)
def Q_compress_107 (Z : State) (a2 : Addr) (i1 : Int32) (c2 : ClassId) (h0 : Heap) (v : Option Value) (h : Heap) : Prop := v = some (.int 31) ∧ Keep h0 h [a2] ∧ Ar Z h a2 c2 .byte [.int 49, .int 32, .int 109, .int 97, .int 116, .int 99, .int 104, .int 101, .int 114, .int 32, .int 101, .int 120, .int 112, .int 101, .int 99, .int 116, .int 101, .int 100, .int 44, .int 32, .int i1, .int 32, .int 114, .int 101, .int 99, .int 111, .int 114, .int 100, .int 101, .int 100, .int 46] ∧ Exa Z h a2 "[B"
def R_compress_107 : Room := { frames := 0, cells := 0, slots := 0, locals := 0 }
theorem rm_compress_107 {w : Bool} {Z : State} {a0 : Array Value} (hw : HW a0 Z) (Ts : List String) (a1 : Addr) (a2 : Addr) (i1 : Int32) (c1 : ClassId) (c2 : ClassId) (h0 : Heap) (f : Nat) (Zf : Z.heap.size ≤ f) (Z0 : f ≤ h0.size) (A_a1 : Ar Z h0 a1 c1 .char [.int 49, .int 32, .int 109, .int 97, .int 116, .int 99, .int 104, .int 101, .int 114, .int 32, .int 101, .int 120, .int 112, .int 101, .int 99, .int 116, .int 101, .int 100, .int 44, .int 32, .int i1, .int 32, .int 114, .int 101, .int 99, .int 111, .int 114, .int 100, .int 101, .int 100, .int 46]) (A_a2 : Ar Z h0 a2 c2 .byte [.int 0, .int 0, .int 0, .int 0, .int 0, .int 0, .int 0, .int 0, .int 0, .int 0, .int 0, .int 0, .int 0, .int 0, .int 0, .int 0, .int 0, .int 0, .int 0, .int 0, .int 0, .int 0, .int 0, .int 0, .int 0, .int 0, .int 0, .int 0, .int 0, .int 0, .int 0]) (g_a2 : f ≤ a2) (E_a2 : Exa Z h0 a2 "[B") (E_a1 : Exa Z h0 a1 "[C") (r_i1 : 48 ≤ i1.toInt ∧ i1.toInt ≤ 57) :
  Con w [] Z mn30 jdk_52_method_21_code 7 (some .int) R_compress_107 Ts Ts f #[.ref a1, .int 0, .ref a2, .int 0, .int 31] h0 (Q_compress_107 Z a2 i1 c2 h0) := by
 refine con_of f #[vR a1, vI 0, vR a2, vI 0, vI 31, .unset, .unset] (plainFor_of_name pn_7) (fun m => rfl) Zf ?_
 intro C H hX0
 refine r_iconst H 1 0 d_j52_21_0 ?_
 refine r_istore H 3 #[vR a1, vI 0, vR a2, vI 0, vI 31, vI 0, .unset] d_j52_21_1 ?_
 refine r_iload H 5 d_j52_21_3 ?_
 refine r_iload H 7 d_j52_21_5 ?_
 refine r_icmpgeF H 10 d_j52_21_7 ?_
 refine r_aloadN H 11 d_j52_21_10 ?_
 refine r_iloadN H 12 d_j52_21_11 ?_
 refine r_caload H 13 49 d_j52_21_12 A_a1 ?_
 refine r_istore H 15 #[vR a1, vI 0, vR a2, vI 0, vI 31, vI 0, vI 49] d_j52_21_13 ?_
 refine r_iload H 17 d_j52_21_15 ?_
 refine r_sipush H 20 255 d_j52_21_17 ?_
 refine r_icmpleT H 26 d_j52_21_20 ?_
 refine r_aloadN H 27 d_j52_21_26 ?_
 refine r_iloadN H 28 d_j52_21_27 ?_
 refine r_iload H 30 d_j52_21_28 ?_
 refine r_i2b H 31 49 d_j52_21_30 ?_
 refine r_bastore H 32 49 d_j52_21_31 A_a2 g_a2 ?_
 intro h1 K1 A1
 change Ar Z h1 a2 c2 .byte [.int 49, .int 0, .int 0, .int 0, .int 0, .int 0, .int 0, .int 0, .int 0, .int 0, .int 0, .int 0, .int 0, .int 0, .int 0, .int 0, .int 0, .int 0, .int 0, .int 0, .int 0, .int 0, .int 0, .int 0, .int 0, .int 0, .int 0, .int 0, .int 0, .int 0, .int 0] at A1
 refine r_iinc H 35 #[vR a1, vI 1, vR a2, vI 0, vI 31, vI 0, vI 49] 1 d_j52_21_32 ?_
 refine r_iinc H 38 #[vR a1, vI 1, vR a2, vI 1, vI 31, vI 0, vI 49] 1 d_j52_21_35 ?_
 refine r_iinc H 41 #[vR a1, vI 1, vR a2, vI 1, vI 31, vI 1, vI 49] 1 d_j52_21_38 ?_
 refine r_goto H 3 d_j52_21_41 ?_
 refine r_iload H 5 d_j52_21_3 ?_
 refine r_iload H 7 d_j52_21_5 ?_
 refine r_icmpgeF H 10 d_j52_21_7 ?_
 refine r_aloadN H 11 d_j52_21_10 ?_
 refine r_iloadN H 12 d_j52_21_11 ?_
 have q2 := (E_a1.keep K1)
 have q3 := (E_a2.keep K1)
 have q4 := (A_a1.keep K1 (ninS (ne_exa q2 q3 (by decide)) nin0))
 refine r_caload H 13 32 d_j52_21_12 q4 ?_
 refine r_istore H 15 #[vR a1, vI 1, vR a2, vI 1, vI 31, vI 1, vI 32] d_j52_21_13 ?_
 refine r_iload H 17 d_j52_21_15 ?_
 refine r_sipush H 20 255 d_j52_21_17 ?_
 refine r_icmpleT H 26 d_j52_21_20 ?_
 refine r_aloadN H 27 d_j52_21_26 ?_
 refine r_iloadN H 28 d_j52_21_27 ?_
 refine r_iload H 30 d_j52_21_28 ?_
 refine r_i2b H 31 32 d_j52_21_30 ?_
 refine r_bastore H 32 32 d_j52_21_31 A1 g_a2 ?_
 intro h5 K5 A5
 change Ar Z h5 a2 c2 .byte [.int 49, .int 32, .int 0, .int 0, .int 0, .int 0, .int 0, .int 0, .int 0, .int 0, .int 0, .int 0, .int 0, .int 0, .int 0, .int 0, .int 0, .int 0, .int 0, .int 0, .int 0, .int 0, .int 0, .int 0, .int 0, .int 0, .int 0, .int 0, .int 0, .int 0, .int 0] at A5
 refine r_iinc H 35 #[vR a1, vI 2, vR a2, vI 1, vI 31, vI 1, vI 32] 2 d_j52_21_32 ?_
 refine r_iinc H 38 #[vR a1, vI 2, vR a2, vI 2, vI 31, vI 1, vI 32] 2 d_j52_21_35 ?_
 refine r_iinc H 41 #[vR a1, vI 2, vR a2, vI 2, vI 31, vI 2, vI 32] 2 d_j52_21_38 ?_
 refine r_goto H 3 d_j52_21_41 ?_
 refine r_iload H 5 d_j52_21_3 ?_
 refine r_iload H 7 d_j52_21_5 ?_
 refine r_icmpgeF H 10 d_j52_21_7 ?_
 refine r_aloadN H 11 d_j52_21_10 ?_
 refine r_iloadN H 12 d_j52_21_11 ?_
 have q6 := (q2.keep K5)
 have q7 := (q3.keep K5)
 have q8 := (q4.keep K5 (ninS (ne_exa q6 q7 (by decide)) nin0))
 refine r_caload H 13 109 d_j52_21_12 q8 ?_
 refine r_istore H 15 #[vR a1, vI 2, vR a2, vI 2, vI 31, vI 2, vI 109] d_j52_21_13 ?_
 refine r_iload H 17 d_j52_21_15 ?_
 refine r_sipush H 20 255 d_j52_21_17 ?_
 refine r_icmpleT H 26 d_j52_21_20 ?_
 refine r_aloadN H 27 d_j52_21_26 ?_
 refine r_iloadN H 28 d_j52_21_27 ?_
 refine r_iload H 30 d_j52_21_28 ?_
 refine r_i2b H 31 109 d_j52_21_30 ?_
 refine r_bastore H 32 109 d_j52_21_31 A5 g_a2 ?_
 intro h9 K9 A9
 change Ar Z h9 a2 c2 .byte [.int 49, .int 32, .int 109, .int 0, .int 0, .int 0, .int 0, .int 0, .int 0, .int 0, .int 0, .int 0, .int 0, .int 0, .int 0, .int 0, .int 0, .int 0, .int 0, .int 0, .int 0, .int 0, .int 0, .int 0, .int 0, .int 0, .int 0, .int 0, .int 0, .int 0, .int 0] at A9
 refine r_iinc H 35 #[vR a1, vI 3, vR a2, vI 2, vI 31, vI 2, vI 109] 3 d_j52_21_32 ?_
 refine r_iinc H 38 #[vR a1, vI 3, vR a2, vI 3, vI 31, vI 2, vI 109] 3 d_j52_21_35 ?_
 refine r_iinc H 41 #[vR a1, vI 3, vR a2, vI 3, vI 31, vI 3, vI 109] 3 d_j52_21_38 ?_
 refine r_goto H 3 d_j52_21_41 ?_
 refine r_iload H 5 d_j52_21_3 ?_
 refine r_iload H 7 d_j52_21_5 ?_
 refine r_icmpgeF H 10 d_j52_21_7 ?_
 refine r_aloadN H 11 d_j52_21_10 ?_
 refine r_iloadN H 12 d_j52_21_11 ?_
 have q10 := (q6.keep K9)
 have q11 := (q7.keep K9)
 have q12 := (q8.keep K9 (ninS (ne_exa q10 q11 (by decide)) nin0))
 refine r_caload H 13 97 d_j52_21_12 q12 ?_
 refine r_istore H 15 #[vR a1, vI 3, vR a2, vI 3, vI 31, vI 3, vI 97] d_j52_21_13 ?_
 refine r_iload H 17 d_j52_21_15 ?_
 refine r_sipush H 20 255 d_j52_21_17 ?_
 refine r_icmpleT H 26 d_j52_21_20 ?_
 refine r_aloadN H 27 d_j52_21_26 ?_
 refine r_iloadN H 28 d_j52_21_27 ?_
 refine r_iload H 30 d_j52_21_28 ?_
 refine r_i2b H 31 97 d_j52_21_30 ?_
 refine r_bastore H 32 97 d_j52_21_31 A9 g_a2 ?_
 intro h13 K13 A13
 change Ar Z h13 a2 c2 .byte [.int 49, .int 32, .int 109, .int 97, .int 0, .int 0, .int 0, .int 0, .int 0, .int 0, .int 0, .int 0, .int 0, .int 0, .int 0, .int 0, .int 0, .int 0, .int 0, .int 0, .int 0, .int 0, .int 0, .int 0, .int 0, .int 0, .int 0, .int 0, .int 0, .int 0, .int 0] at A13
 refine r_iinc H 35 #[vR a1, vI 4, vR a2, vI 3, vI 31, vI 3, vI 97] 4 d_j52_21_32 ?_
 refine r_iinc H 38 #[vR a1, vI 4, vR a2, vI 4, vI 31, vI 3, vI 97] 4 d_j52_21_35 ?_
 refine r_iinc H 41 #[vR a1, vI 4, vR a2, vI 4, vI 31, vI 4, vI 97] 4 d_j52_21_38 ?_
 refine r_goto H 3 d_j52_21_41 ?_
 refine r_iload H 5 d_j52_21_3 ?_
 refine r_iload H 7 d_j52_21_5 ?_
 refine r_icmpgeF H 10 d_j52_21_7 ?_
 refine r_aloadN H 11 d_j52_21_10 ?_
 refine r_iloadN H 12 d_j52_21_11 ?_
 have q14 := (q10.keep K13)
 have q15 := (q11.keep K13)
 have q16 := (q12.keep K13 (ninS (ne_exa q14 q15 (by decide)) nin0))
 refine r_caload H 13 116 d_j52_21_12 q16 ?_
 refine r_istore H 15 #[vR a1, vI 4, vR a2, vI 4, vI 31, vI 4, vI 116] d_j52_21_13 ?_
 refine r_iload H 17 d_j52_21_15 ?_
 refine r_sipush H 20 255 d_j52_21_17 ?_
 refine r_icmpleT H 26 d_j52_21_20 ?_
 refine r_aloadN H 27 d_j52_21_26 ?_
 refine r_iloadN H 28 d_j52_21_27 ?_
 refine r_iload H 30 d_j52_21_28 ?_
 refine r_i2b H 31 116 d_j52_21_30 ?_
 refine r_bastore H 32 116 d_j52_21_31 A13 g_a2 ?_
 intro h17 K17 A17
 change Ar Z h17 a2 c2 .byte [.int 49, .int 32, .int 109, .int 97, .int 116, .int 0, .int 0, .int 0, .int 0, .int 0, .int 0, .int 0, .int 0, .int 0, .int 0, .int 0, .int 0, .int 0, .int 0, .int 0, .int 0, .int 0, .int 0, .int 0, .int 0, .int 0, .int 0, .int 0, .int 0, .int 0, .int 0] at A17
 refine r_iinc H 35 #[vR a1, vI 5, vR a2, vI 4, vI 31, vI 4, vI 116] 5 d_j52_21_32 ?_
 refine r_iinc H 38 #[vR a1, vI 5, vR a2, vI 5, vI 31, vI 4, vI 116] 5 d_j52_21_35 ?_
 refine r_iinc H 41 #[vR a1, vI 5, vR a2, vI 5, vI 31, vI 5, vI 116] 5 d_j52_21_38 ?_
 refine r_goto H 3 d_j52_21_41 ?_
 refine r_iload H 5 d_j52_21_3 ?_
 refine r_iload H 7 d_j52_21_5 ?_
 refine r_icmpgeF H 10 d_j52_21_7 ?_
 refine r_aloadN H 11 d_j52_21_10 ?_
 refine r_iloadN H 12 d_j52_21_11 ?_
 have q18 := (q14.keep K17)
 have q19 := (q15.keep K17)
 have q20 := (q16.keep K17 (ninS (ne_exa q18 q19 (by decide)) nin0))
 refine r_caload H 13 99 d_j52_21_12 q20 ?_
 refine r_istore H 15 #[vR a1, vI 5, vR a2, vI 5, vI 31, vI 5, vI 99] d_j52_21_13 ?_
 refine r_iload H 17 d_j52_21_15 ?_
 refine r_sipush H 20 255 d_j52_21_17 ?_
 refine r_icmpleT H 26 d_j52_21_20 ?_
 refine r_aloadN H 27 d_j52_21_26 ?_
 refine r_iloadN H 28 d_j52_21_27 ?_
 refine r_iload H 30 d_j52_21_28 ?_
 refine r_i2b H 31 99 d_j52_21_30 ?_
 refine r_bastore H 32 99 d_j52_21_31 A17 g_a2 ?_
 intro h21 K21 A21
 change Ar Z h21 a2 c2 .byte [.int 49, .int 32, .int 109, .int 97, .int 116, .int 99, .int 0, .int 0, .int 0, .int 0, .int 0, .int 0, .int 0, .int 0, .int 0, .int 0, .int 0, .int 0, .int 0, .int 0, .int 0, .int 0, .int 0, .int 0, .int 0, .int 0, .int 0, .int 0, .int 0, .int 0, .int 0] at A21
 refine r_iinc H 35 #[vR a1, vI 6, vR a2, vI 5, vI 31, vI 5, vI 99] 6 d_j52_21_32 ?_
 refine r_iinc H 38 #[vR a1, vI 6, vR a2, vI 6, vI 31, vI 5, vI 99] 6 d_j52_21_35 ?_
 refine r_iinc H 41 #[vR a1, vI 6, vR a2, vI 6, vI 31, vI 6, vI 99] 6 d_j52_21_38 ?_
 refine r_goto H 3 d_j52_21_41 ?_
 refine r_iload H 5 d_j52_21_3 ?_
 refine r_iload H 7 d_j52_21_5 ?_
 refine r_icmpgeF H 10 d_j52_21_7 ?_
 refine r_aloadN H 11 d_j52_21_10 ?_
 refine r_iloadN H 12 d_j52_21_11 ?_
 have q22 := (q18.keep K21)
 have q23 := (q19.keep K21)
 have q24 := (q20.keep K21 (ninS (ne_exa q22 q23 (by decide)) nin0))
 refine r_caload H 13 104 d_j52_21_12 q24 ?_
 refine r_istore H 15 #[vR a1, vI 6, vR a2, vI 6, vI 31, vI 6, vI 104] d_j52_21_13 ?_
 refine r_iload H 17 d_j52_21_15 ?_
 refine r_sipush H 20 255 d_j52_21_17 ?_
 refine r_icmpleT H 26 d_j52_21_20 ?_
 refine r_aloadN H 27 d_j52_21_26 ?_
 refine r_iloadN H 28 d_j52_21_27 ?_
 refine r_iload H 30 d_j52_21_28 ?_
 refine r_i2b H 31 104 d_j52_21_30 ?_
 refine r_bastore H 32 104 d_j52_21_31 A21 g_a2 ?_
 intro h25 K25 A25
 change Ar Z h25 a2 c2 .byte [.int 49, .int 32, .int 109, .int 97, .int 116, .int 99, .int 104, .int 0, .int 0, .int 0, .int 0, .int 0, .int 0, .int 0, .int 0, .int 0, .int 0, .int 0, .int 0, .int 0, .int 0, .int 0, .int 0, .int 0, .int 0, .int 0, .int 0, .int 0, .int 0, .int 0, .int 0] at A25
 refine r_iinc H 35 #[vR a1, vI 7, vR a2, vI 6, vI 31, vI 6, vI 104] 7 d_j52_21_32 ?_
 refine r_iinc H 38 #[vR a1, vI 7, vR a2, vI 7, vI 31, vI 6, vI 104] 7 d_j52_21_35 ?_
 refine r_iinc H 41 #[vR a1, vI 7, vR a2, vI 7, vI 31, vI 7, vI 104] 7 d_j52_21_38 ?_
 refine r_goto H 3 d_j52_21_41 ?_
 refine r_iload H 5 d_j52_21_3 ?_
 refine r_iload H 7 d_j52_21_5 ?_
 refine r_icmpgeF H 10 d_j52_21_7 ?_
 refine r_aloadN H 11 d_j52_21_10 ?_
 refine r_iloadN H 12 d_j52_21_11 ?_
 have q26 := (q22.keep K25)
 have q27 := (q23.keep K25)
 have q28 := (q24.keep K25 (ninS (ne_exa q26 q27 (by decide)) nin0))
 refine r_caload H 13 101 d_j52_21_12 q28 ?_
 refine r_istore H 15 #[vR a1, vI 7, vR a2, vI 7, vI 31, vI 7, vI 101] d_j52_21_13 ?_
 refine r_iload H 17 d_j52_21_15 ?_
 refine r_sipush H 20 255 d_j52_21_17 ?_
 refine r_icmpleT H 26 d_j52_21_20 ?_
 refine r_aloadN H 27 d_j52_21_26 ?_
 refine r_iloadN H 28 d_j52_21_27 ?_
 refine r_iload H 30 d_j52_21_28 ?_
 refine r_i2b H 31 101 d_j52_21_30 ?_
 refine r_bastore H 32 101 d_j52_21_31 A25 g_a2 ?_
 intro h29 K29 A29
 change Ar Z h29 a2 c2 .byte [.int 49, .int 32, .int 109, .int 97, .int 116, .int 99, .int 104, .int 101, .int 0, .int 0, .int 0, .int 0, .int 0, .int 0, .int 0, .int 0, .int 0, .int 0, .int 0, .int 0, .int 0, .int 0, .int 0, .int 0, .int 0, .int 0, .int 0, .int 0, .int 0, .int 0, .int 0] at A29
 refine r_iinc H 35 #[vR a1, vI 8, vR a2, vI 7, vI 31, vI 7, vI 101] 8 d_j52_21_32 ?_
 refine r_iinc H 38 #[vR a1, vI 8, vR a2, vI 8, vI 31, vI 7, vI 101] 8 d_j52_21_35 ?_
 refine r_iinc H 41 #[vR a1, vI 8, vR a2, vI 8, vI 31, vI 8, vI 101] 8 d_j52_21_38 ?_
 refine r_goto H 3 d_j52_21_41 ?_
 refine r_iload H 5 d_j52_21_3 ?_
 refine r_iload H 7 d_j52_21_5 ?_
 refine r_icmpgeF H 10 d_j52_21_7 ?_
 refine r_aloadN H 11 d_j52_21_10 ?_
 refine r_iloadN H 12 d_j52_21_11 ?_
 have q30 := (q26.keep K29)
 have q31 := (q27.keep K29)
 have q32 := (q28.keep K29 (ninS (ne_exa q30 q31 (by decide)) nin0))
 refine r_caload H 13 114 d_j52_21_12 q32 ?_
 refine r_istore H 15 #[vR a1, vI 8, vR a2, vI 8, vI 31, vI 8, vI 114] d_j52_21_13 ?_
 refine r_iload H 17 d_j52_21_15 ?_
 refine r_sipush H 20 255 d_j52_21_17 ?_
 refine r_icmpleT H 26 d_j52_21_20 ?_
 refine r_aloadN H 27 d_j52_21_26 ?_
 refine r_iloadN H 28 d_j52_21_27 ?_
 refine r_iload H 30 d_j52_21_28 ?_
 refine r_i2b H 31 114 d_j52_21_30 ?_
 refine r_bastore H 32 114 d_j52_21_31 A29 g_a2 ?_
 intro h33 K33 A33
 change Ar Z h33 a2 c2 .byte [.int 49, .int 32, .int 109, .int 97, .int 116, .int 99, .int 104, .int 101, .int 114, .int 0, .int 0, .int 0, .int 0, .int 0, .int 0, .int 0, .int 0, .int 0, .int 0, .int 0, .int 0, .int 0, .int 0, .int 0, .int 0, .int 0, .int 0, .int 0, .int 0, .int 0, .int 0] at A33
 refine r_iinc H 35 #[vR a1, vI 9, vR a2, vI 8, vI 31, vI 8, vI 114] 9 d_j52_21_32 ?_
 refine r_iinc H 38 #[vR a1, vI 9, vR a2, vI 9, vI 31, vI 8, vI 114] 9 d_j52_21_35 ?_
 refine r_iinc H 41 #[vR a1, vI 9, vR a2, vI 9, vI 31, vI 9, vI 114] 9 d_j52_21_38 ?_
 refine r_goto H 3 d_j52_21_41 ?_
 refine r_iload H 5 d_j52_21_3 ?_
 refine r_iload H 7 d_j52_21_5 ?_
 refine r_icmpgeF H 10 d_j52_21_7 ?_
 refine r_aloadN H 11 d_j52_21_10 ?_
 refine r_iloadN H 12 d_j52_21_11 ?_
 have q34 := (q30.keep K33)
 have q35 := (q31.keep K33)
 have q36 := (q32.keep K33 (ninS (ne_exa q34 q35 (by decide)) nin0))
 refine r_caload H 13 32 d_j52_21_12 q36 ?_
 refine r_istore H 15 #[vR a1, vI 9, vR a2, vI 9, vI 31, vI 9, vI 32] d_j52_21_13 ?_
 refine r_iload H 17 d_j52_21_15 ?_
 refine r_sipush H 20 255 d_j52_21_17 ?_
 refine r_icmpleT H 26 d_j52_21_20 ?_
 refine r_aloadN H 27 d_j52_21_26 ?_
 refine r_iloadN H 28 d_j52_21_27 ?_
 refine r_iload H 30 d_j52_21_28 ?_
 refine r_i2b H 31 32 d_j52_21_30 ?_
 refine r_bastore H 32 32 d_j52_21_31 A33 g_a2 ?_
 intro h37 K37 A37
 change Ar Z h37 a2 c2 .byte [.int 49, .int 32, .int 109, .int 97, .int 116, .int 99, .int 104, .int 101, .int 114, .int 32, .int 0, .int 0, .int 0, .int 0, .int 0, .int 0, .int 0, .int 0, .int 0, .int 0, .int 0, .int 0, .int 0, .int 0, .int 0, .int 0, .int 0, .int 0, .int 0, .int 0, .int 0] at A37
 refine r_iinc H 35 #[vR a1, vI 10, vR a2, vI 9, vI 31, vI 9, vI 32] 10 d_j52_21_32 ?_
 refine r_iinc H 38 #[vR a1, vI 10, vR a2, vI 10, vI 31, vI 9, vI 32] 10 d_j52_21_35 ?_
 refine r_iinc H 41 #[vR a1, vI 10, vR a2, vI 10, vI 31, vI 10, vI 32] 10 d_j52_21_38 ?_
 refine r_goto H 3 d_j52_21_41 ?_
 refine r_iload H 5 d_j52_21_3 ?_
 refine r_iload H 7 d_j52_21_5 ?_
 refine r_icmpgeF H 10 d_j52_21_7 ?_
 refine r_aloadN H 11 d_j52_21_10 ?_
 refine r_iloadN H 12 d_j52_21_11 ?_
 have q38 := (q34.keep K37)
 have q39 := (q35.keep K37)
 have q40 := (q36.keep K37 (ninS (ne_exa q38 q39 (by decide)) nin0))
 refine r_caload H 13 101 d_j52_21_12 q40 ?_
 refine r_istore H 15 #[vR a1, vI 10, vR a2, vI 10, vI 31, vI 10, vI 101] d_j52_21_13 ?_
 refine r_iload H 17 d_j52_21_15 ?_
 refine r_sipush H 20 255 d_j52_21_17 ?_
 refine r_icmpleT H 26 d_j52_21_20 ?_
 refine r_aloadN H 27 d_j52_21_26 ?_
 refine r_iloadN H 28 d_j52_21_27 ?_
 refine r_iload H 30 d_j52_21_28 ?_
 refine r_i2b H 31 101 d_j52_21_30 ?_
 refine r_bastore H 32 101 d_j52_21_31 A37 g_a2 ?_
 intro h41 K41 A41
 change Ar Z h41 a2 c2 .byte [.int 49, .int 32, .int 109, .int 97, .int 116, .int 99, .int 104, .int 101, .int 114, .int 32, .int 101, .int 0, .int 0, .int 0, .int 0, .int 0, .int 0, .int 0, .int 0, .int 0, .int 0, .int 0, .int 0, .int 0, .int 0, .int 0, .int 0, .int 0, .int 0, .int 0, .int 0] at A41
 refine r_iinc H 35 #[vR a1, vI 11, vR a2, vI 10, vI 31, vI 10, vI 101] 11 d_j52_21_32 ?_
 refine r_iinc H 38 #[vR a1, vI 11, vR a2, vI 11, vI 31, vI 10, vI 101] 11 d_j52_21_35 ?_
 refine r_iinc H 41 #[vR a1, vI 11, vR a2, vI 11, vI 31, vI 11, vI 101] 11 d_j52_21_38 ?_
 refine r_goto H 3 d_j52_21_41 ?_
 refine r_iload H 5 d_j52_21_3 ?_
 refine r_iload H 7 d_j52_21_5 ?_
 refine r_icmpgeF H 10 d_j52_21_7 ?_
 refine r_aloadN H 11 d_j52_21_10 ?_
 refine r_iloadN H 12 d_j52_21_11 ?_
 have q42 := (q38.keep K41)
 have q43 := (q39.keep K41)
 have q44 := (q40.keep K41 (ninS (ne_exa q42 q43 (by decide)) nin0))
 refine r_caload H 13 120 d_j52_21_12 q44 ?_
 refine r_istore H 15 #[vR a1, vI 11, vR a2, vI 11, vI 31, vI 11, vI 120] d_j52_21_13 ?_
 refine r_iload H 17 d_j52_21_15 ?_
 refine r_sipush H 20 255 d_j52_21_17 ?_
 refine r_icmpleT H 26 d_j52_21_20 ?_
 refine r_aloadN H 27 d_j52_21_26 ?_
 refine r_iloadN H 28 d_j52_21_27 ?_
 refine r_iload H 30 d_j52_21_28 ?_
 refine r_i2b H 31 120 d_j52_21_30 ?_
 refine r_bastore H 32 120 d_j52_21_31 A41 g_a2 ?_
 intro h45 K45 A45
 change Ar Z h45 a2 c2 .byte [.int 49, .int 32, .int 109, .int 97, .int 116, .int 99, .int 104, .int 101, .int 114, .int 32, .int 101, .int 120, .int 0, .int 0, .int 0, .int 0, .int 0, .int 0, .int 0, .int 0, .int 0, .int 0, .int 0, .int 0, .int 0, .int 0, .int 0, .int 0, .int 0, .int 0, .int 0] at A45
 refine r_iinc H 35 #[vR a1, vI 12, vR a2, vI 11, vI 31, vI 11, vI 120] 12 d_j52_21_32 ?_
 refine r_iinc H 38 #[vR a1, vI 12, vR a2, vI 12, vI 31, vI 11, vI 120] 12 d_j52_21_35 ?_
 refine r_iinc H 41 #[vR a1, vI 12, vR a2, vI 12, vI 31, vI 12, vI 120] 12 d_j52_21_38 ?_
 refine r_goto H 3 d_j52_21_41 ?_
 refine r_iload H 5 d_j52_21_3 ?_
 refine r_iload H 7 d_j52_21_5 ?_
 refine r_icmpgeF H 10 d_j52_21_7 ?_
 refine r_aloadN H 11 d_j52_21_10 ?_
 refine r_iloadN H 12 d_j52_21_11 ?_
 have q46 := (q42.keep K45)
 have q47 := (q43.keep K45)
 have q48 := (q44.keep K45 (ninS (ne_exa q46 q47 (by decide)) nin0))
 refine r_caload H 13 112 d_j52_21_12 q48 ?_
 refine r_istore H 15 #[vR a1, vI 12, vR a2, vI 12, vI 31, vI 12, vI 112] d_j52_21_13 ?_
 refine r_iload H 17 d_j52_21_15 ?_
 refine r_sipush H 20 255 d_j52_21_17 ?_
 refine r_icmpleT H 26 d_j52_21_20 ?_
 refine r_aloadN H 27 d_j52_21_26 ?_
 refine r_iloadN H 28 d_j52_21_27 ?_
 refine r_iload H 30 d_j52_21_28 ?_
 refine r_i2b H 31 112 d_j52_21_30 ?_
 refine r_bastore H 32 112 d_j52_21_31 A45 g_a2 ?_
 intro h49 K49 A49
 change Ar Z h49 a2 c2 .byte [.int 49, .int 32, .int 109, .int 97, .int 116, .int 99, .int 104, .int 101, .int 114, .int 32, .int 101, .int 120, .int 112, .int 0, .int 0, .int 0, .int 0, .int 0, .int 0, .int 0, .int 0, .int 0, .int 0, .int 0, .int 0, .int 0, .int 0, .int 0, .int 0, .int 0, .int 0] at A49
 refine r_iinc H 35 #[vR a1, vI 13, vR a2, vI 12, vI 31, vI 12, vI 112] 13 d_j52_21_32 ?_
 refine r_iinc H 38 #[vR a1, vI 13, vR a2, vI 13, vI 31, vI 12, vI 112] 13 d_j52_21_35 ?_
 refine r_iinc H 41 #[vR a1, vI 13, vR a2, vI 13, vI 31, vI 13, vI 112] 13 d_j52_21_38 ?_
 refine r_goto H 3 d_j52_21_41 ?_
 refine r_iload H 5 d_j52_21_3 ?_
 refine r_iload H 7 d_j52_21_5 ?_
 refine r_icmpgeF H 10 d_j52_21_7 ?_
 refine r_aloadN H 11 d_j52_21_10 ?_
 refine r_iloadN H 12 d_j52_21_11 ?_
 have q50 := (q46.keep K49)
 have q51 := (q47.keep K49)
 have q52 := (q48.keep K49 (ninS (ne_exa q50 q51 (by decide)) nin0))
 refine r_caload H 13 101 d_j52_21_12 q52 ?_
 refine r_istore H 15 #[vR a1, vI 13, vR a2, vI 13, vI 31, vI 13, vI 101] d_j52_21_13 ?_
 refine r_iload H 17 d_j52_21_15 ?_
 refine r_sipush H 20 255 d_j52_21_17 ?_
 refine r_icmpleT H 26 d_j52_21_20 ?_
 refine r_aloadN H 27 d_j52_21_26 ?_
 refine r_iloadN H 28 d_j52_21_27 ?_
 refine r_iload H 30 d_j52_21_28 ?_
 refine r_i2b H 31 101 d_j52_21_30 ?_
 refine r_bastore H 32 101 d_j52_21_31 A49 g_a2 ?_
 intro h53 K53 A53
 change Ar Z h53 a2 c2 .byte [.int 49, .int 32, .int 109, .int 97, .int 116, .int 99, .int 104, .int 101, .int 114, .int 32, .int 101, .int 120, .int 112, .int 101, .int 0, .int 0, .int 0, .int 0, .int 0, .int 0, .int 0, .int 0, .int 0, .int 0, .int 0, .int 0, .int 0, .int 0, .int 0, .int 0, .int 0] at A53
 refine r_iinc H 35 #[vR a1, vI 14, vR a2, vI 13, vI 31, vI 13, vI 101] 14 d_j52_21_32 ?_
 refine r_iinc H 38 #[vR a1, vI 14, vR a2, vI 14, vI 31, vI 13, vI 101] 14 d_j52_21_35 ?_
 refine r_iinc H 41 #[vR a1, vI 14, vR a2, vI 14, vI 31, vI 14, vI 101] 14 d_j52_21_38 ?_
 refine r_goto H 3 d_j52_21_41 ?_
 refine r_iload H 5 d_j52_21_3 ?_
 refine r_iload H 7 d_j52_21_5 ?_
 refine r_icmpgeF H 10 d_j52_21_7 ?_
 refine r_aloadN H 11 d_j52_21_10 ?_
 refine r_iloadN H 12 d_j52_21_11 ?_
 have q54 := (q50.keep K53)
 have q55 := (q51.keep K53)
 have q56 := (q52.keep K53 (ninS (ne_exa q54 q55 (by decide)) nin0))
 refine r_caload H 13 99 d_j52_21_12 q56 ?_
 refine r_istore H 15 #[vR a1, vI 14, vR a2, vI 14, vI 31, vI 14, vI 99] d_j52_21_13 ?_
 refine r_iload H 17 d_j52_21_15 ?_
 refine r_sipush H 20 255 d_j52_21_17 ?_
 refine r_icmpleT H 26 d_j52_21_20 ?_
 refine r_aloadN H 27 d_j52_21_26 ?_
 refine r_iloadN H 28 d_j52_21_27 ?_
 refine r_iload H 30 d_j52_21_28 ?_
 refine r_i2b H 31 99 d_j52_21_30 ?_
 refine r_bastore H 32 99 d_j52_21_31 A53 g_a2 ?_
 intro h57 K57 A57
 change Ar Z h57 a2 c2 .byte [.int 49, .int 32, .int 109, .int 97, .int 116, .int 99, .int 104, .int 101, .int 114, .int 32, .int 101, .int 120, .int 112, .int 101, .int 99, .int 0, .int 0, .int 0, .int 0, .int 0, .int 0, .int 0, .int 0, .int 0, .int 0, .int 0, .int 0, .int 0, .int 0, .int 0, .int 0] at A57
 refine r_iinc H 35 #[vR a1, vI 15, vR a2, vI 14, vI 31, vI 14, vI 99] 15 d_j52_21_32 ?_
 refine r_iinc H 38 #[vR a1, vI 15, vR a2, vI 15, vI 31, vI 14, vI 99] 15 d_j52_21_35 ?_
 refine r_iinc H 41 #[vR a1, vI 15, vR a2, vI 15, vI 31, vI 15, vI 99] 15 d_j52_21_38 ?_
 refine r_goto H 3 d_j52_21_41 ?_
 refine r_iload H 5 d_j52_21_3 ?_
 refine r_iload H 7 d_j52_21_5 ?_
 refine r_icmpgeF H 10 d_j52_21_7 ?_
 refine r_aloadN H 11 d_j52_21_10 ?_
 refine r_iloadN H 12 d_j52_21_11 ?_
 have q58 := (q54.keep K57)
 have q59 := (q55.keep K57)
 have q60 := (q56.keep K57 (ninS (ne_exa q58 q59 (by decide)) nin0))
 refine r_caload H 13 116 d_j52_21_12 q60 ?_
 refine r_istore H 15 #[vR a1, vI 15, vR a2, vI 15, vI 31, vI 15, vI 116] d_j52_21_13 ?_
 refine r_iload H 17 d_j52_21_15 ?_
 refine r_sipush H 20 255 d_j52_21_17 ?_
 refine r_icmpleT H 26 d_j52_21_20 ?_
 refine r_aloadN H 27 d_j52_21_26 ?_
 refine r_iloadN H 28 d_j52_21_27 ?_
 refine r_iload H 30 d_j52_21_28 ?_
 refine r_i2b H 31 116 d_j52_21_30 ?_
 refine r_bastore H 32 116 d_j52_21_31 A57 g_a2 ?_
 intro h61 K61 A61
 change Ar Z h61 a2 c2 .byte [.int 49, .int 32, .int 109, .int 97, .int 116, .int 99, .int 104, .int 101, .int 114, .int 32, .int 101, .int 120, .int 112, .int 101, .int 99, .int 116, .int 0, .int 0, .int 0, .int 0, .int 0, .int 0, .int 0, .int 0, .int 0, .int 0, .int 0, .int 0, .int 0, .int 0, .int 0] at A61
 refine r_iinc H 35 #[vR a1, vI 16, vR a2, vI 15, vI 31, vI 15, vI 116] 16 d_j52_21_32 ?_
 refine r_iinc H 38 #[vR a1, vI 16, vR a2, vI 16, vI 31, vI 15, vI 116] 16 d_j52_21_35 ?_
 refine r_iinc H 41 #[vR a1, vI 16, vR a2, vI 16, vI 31, vI 16, vI 116] 16 d_j52_21_38 ?_
 refine r_goto H 3 d_j52_21_41 ?_
 refine r_iload H 5 d_j52_21_3 ?_
 refine r_iload H 7 d_j52_21_5 ?_
 refine r_icmpgeF H 10 d_j52_21_7 ?_
 refine r_aloadN H 11 d_j52_21_10 ?_
 refine r_iloadN H 12 d_j52_21_11 ?_
 have q62 := (q58.keep K61)
 have q63 := (q59.keep K61)
 have q64 := (q60.keep K61 (ninS (ne_exa q62 q63 (by decide)) nin0))
 refine r_caload H 13 101 d_j52_21_12 q64 ?_
 refine r_istore H 15 #[vR a1, vI 16, vR a2, vI 16, vI 31, vI 16, vI 101] d_j52_21_13 ?_
 refine r_iload H 17 d_j52_21_15 ?_
 refine r_sipush H 20 255 d_j52_21_17 ?_
 refine r_icmpleT H 26 d_j52_21_20 ?_
 refine r_aloadN H 27 d_j52_21_26 ?_
 refine r_iloadN H 28 d_j52_21_27 ?_
 refine r_iload H 30 d_j52_21_28 ?_
 refine r_i2b H 31 101 d_j52_21_30 ?_
 refine r_bastore H 32 101 d_j52_21_31 A61 g_a2 ?_
 intro h65 K65 A65
 change Ar Z h65 a2 c2 .byte [.int 49, .int 32, .int 109, .int 97, .int 116, .int 99, .int 104, .int 101, .int 114, .int 32, .int 101, .int 120, .int 112, .int 101, .int 99, .int 116, .int 101, .int 0, .int 0, .int 0, .int 0, .int 0, .int 0, .int 0, .int 0, .int 0, .int 0, .int 0, .int 0, .int 0, .int 0] at A65
 refine r_iinc H 35 #[vR a1, vI 17, vR a2, vI 16, vI 31, vI 16, vI 101] 17 d_j52_21_32 ?_
 refine r_iinc H 38 #[vR a1, vI 17, vR a2, vI 17, vI 31, vI 16, vI 101] 17 d_j52_21_35 ?_
 refine r_iinc H 41 #[vR a1, vI 17, vR a2, vI 17, vI 31, vI 17, vI 101] 17 d_j52_21_38 ?_
 refine r_goto H 3 d_j52_21_41 ?_
 refine r_iload H 5 d_j52_21_3 ?_
 refine r_iload H 7 d_j52_21_5 ?_
 refine r_icmpgeF H 10 d_j52_21_7 ?_
 refine r_aloadN H 11 d_j52_21_10 ?_
 refine r_iloadN H 12 d_j52_21_11 ?_
 have q66 := (q62.keep K65)
 have q67 := (q63.keep K65)
 have q68 := (q64.keep K65 (ninS (ne_exa q66 q67 (by decide)) nin0))
 refine r_caload H 13 100 d_j52_21_12 q68 ?_
 refine r_istore H 15 #[vR a1, vI 17, vR a2, vI 17, vI 31, vI 17, vI 100] d_j52_21_13 ?_
 refine r_iload H 17 d_j52_21_15 ?_
 refine r_sipush H 20 255 d_j52_21_17 ?_
 refine r_icmpleT H 26 d_j52_21_20 ?_
 refine r_aloadN H 27 d_j52_21_26 ?_
 refine r_iloadN H 28 d_j52_21_27 ?_
 refine r_iload H 30 d_j52_21_28 ?_
 refine r_i2b H 31 100 d_j52_21_30 ?_
 refine r_bastore H 32 100 d_j52_21_31 A65 g_a2 ?_
 intro h69 K69 A69
 change Ar Z h69 a2 c2 .byte [.int 49, .int 32, .int 109, .int 97, .int 116, .int 99, .int 104, .int 101, .int 114, .int 32, .int 101, .int 120, .int 112, .int 101, .int 99, .int 116, .int 101, .int 100, .int 0, .int 0, .int 0, .int 0, .int 0, .int 0, .int 0, .int 0, .int 0, .int 0, .int 0, .int 0, .int 0] at A69
 refine r_iinc H 35 #[vR a1, vI 18, vR a2, vI 17, vI 31, vI 17, vI 100] 18 d_j52_21_32 ?_
 refine r_iinc H 38 #[vR a1, vI 18, vR a2, vI 18, vI 31, vI 17, vI 100] 18 d_j52_21_35 ?_
 refine r_iinc H 41 #[vR a1, vI 18, vR a2, vI 18, vI 31, vI 18, vI 100] 18 d_j52_21_38 ?_
 refine r_goto H 3 d_j52_21_41 ?_
 refine r_iload H 5 d_j52_21_3 ?_
 refine r_iload H 7 d_j52_21_5 ?_
 refine r_icmpgeF H 10 d_j52_21_7 ?_
 refine r_aloadN H 11 d_j52_21_10 ?_
 refine r_iloadN H 12 d_j52_21_11 ?_
 have q70 := (q66.keep K69)
 have q71 := (q67.keep K69)
 have q72 := (q68.keep K69 (ninS (ne_exa q70 q71 (by decide)) nin0))
 refine r_caload H 13 44 d_j52_21_12 q72 ?_
 refine r_istore H 15 #[vR a1, vI 18, vR a2, vI 18, vI 31, vI 18, vI 44] d_j52_21_13 ?_
 refine r_iload H 17 d_j52_21_15 ?_
 refine r_sipush H 20 255 d_j52_21_17 ?_
 refine r_icmpleT H 26 d_j52_21_20 ?_
 refine r_aloadN H 27 d_j52_21_26 ?_
 refine r_iloadN H 28 d_j52_21_27 ?_
 refine r_iload H 30 d_j52_21_28 ?_
 refine r_i2b H 31 44 d_j52_21_30 ?_
 refine r_bastore H 32 44 d_j52_21_31 A69 g_a2 ?_
 intro h73 K73 A73
 change Ar Z h73 a2 c2 .byte [.int 49, .int 32, .int 109, .int 97, .int 116, .int 99, .int 104, .int 101, .int 114, .int 32, .int 101, .int 120, .int 112, .int 101, .int 99, .int 116, .int 101, .int 100, .int 44, .int 0, .int 0, .int 0, .int 0, .int 0, .int 0, .int 0, .int 0, .int 0, .int 0, .int 0, .int 0] at A73
 refine r_iinc H 35 #[vR a1, vI 19, vR a2, vI 18, vI 31, vI 18, vI 44] 19 d_j52_21_32 ?_
 refine r_iinc H 38 #[vR a1, vI 19, vR a2, vI 19, vI 31, vI 18, vI 44] 19 d_j52_21_35 ?_
 refine r_iinc H 41 #[vR a1, vI 19, vR a2, vI 19, vI 31, vI 19, vI 44] 19 d_j52_21_38 ?_
 refine r_goto H 3 d_j52_21_41 ?_
 refine r_iload H 5 d_j52_21_3 ?_
 refine r_iload H 7 d_j52_21_5 ?_
 refine r_icmpgeF H 10 d_j52_21_7 ?_
 refine r_aloadN H 11 d_j52_21_10 ?_
 refine r_iloadN H 12 d_j52_21_11 ?_
 have q74 := (q70.keep K73)
 have q75 := (q71.keep K73)
 have q76 := (q72.keep K73 (ninS (ne_exa q74 q75 (by decide)) nin0))
 refine r_caload H 13 32 d_j52_21_12 q76 ?_
 refine r_istore H 15 #[vR a1, vI 19, vR a2, vI 19, vI 31, vI 19, vI 32] d_j52_21_13 ?_
 refine r_iload H 17 d_j52_21_15 ?_
 refine r_sipush H 20 255 d_j52_21_17 ?_
 refine r_icmpleT H 26 d_j52_21_20 ?_
 refine r_aloadN H 27 d_j52_21_26 ?_
 refine r_iloadN H 28 d_j52_21_27 ?_
 refine r_iload H 30 d_j52_21_28 ?_
 refine r_i2b H 31 32 d_j52_21_30 ?_
 refine r_bastore H 32 32 d_j52_21_31 A73 g_a2 ?_
 intro h77 K77 A77
 change Ar Z h77 a2 c2 .byte [.int 49, .int 32, .int 109, .int 97, .int 116, .int 99, .int 104, .int 101, .int 114, .int 32, .int 101, .int 120, .int 112, .int 101, .int 99, .int 116, .int 101, .int 100, .int 44, .int 32, .int 0, .int 0, .int 0, .int 0, .int 0, .int 0, .int 0, .int 0, .int 0, .int 0, .int 0] at A77
 refine r_iinc H 35 #[vR a1, vI 20, vR a2, vI 19, vI 31, vI 19, vI 32] 20 d_j52_21_32 ?_
 refine r_iinc H 38 #[vR a1, vI 20, vR a2, vI 20, vI 31, vI 19, vI 32] 20 d_j52_21_35 ?_
 refine r_iinc H 41 #[vR a1, vI 20, vR a2, vI 20, vI 31, vI 20, vI 32] 20 d_j52_21_38 ?_
 refine r_goto H 3 d_j52_21_41 ?_
 refine r_iload H 5 d_j52_21_3 ?_
 refine r_iload H 7 d_j52_21_5 ?_
 refine r_icmpgeF H 10 d_j52_21_7 ?_
 refine r_aloadN H 11 d_j52_21_10 ?_
 refine r_iloadN H 12 d_j52_21_11 ?_
 have q78 := (q74.keep K77)
 have q79 := (q75.keep K77)
 have q80 := (q76.keep K77 (ninS (ne_exa q78 q79 (by decide)) nin0))
 refine r_caload H 13 i1 d_j52_21_12 q80 ?_
 refine r_istore H 15 #[vR a1, vI 20, vR a2, vI 20, vI 31, vI 20, vI i1] d_j52_21_13 ?_
 refine r_iload H 17 d_j52_21_15 ?_
 refine r_sipush H 20 255 d_j52_21_17 ?_
 refine r_icmpleT (c := (by have := r_i1; have : (255 : Int32).toInt = 255 := (by decide); simp only [Int32.lt_iff_toInt_lt, ← Int32.toInt_inj]; omega)) H 26 d_j52_21_20 ?_
 refine r_aloadN H 27 d_j52_21_26 ?_
 refine r_iloadN H 28 d_j52_21_27 ?_
 refine r_iload H 30 d_j52_21_28 ?_
 refine r_i2b (hz := (i2b_id (by have := r_i1; omega))) H 31 i1 d_j52_21_30 ?_
 refine r_bastore (hy := (nar_byte_id (by have := r_i1; omega))) H 32 i1 d_j52_21_31 A77 g_a2 ?_
 intro h81 K81 A81
 change Ar Z h81 a2 c2 .byte [.int 49, .int 32, .int 109, .int 97, .int 116, .int 99, .int 104, .int 101, .int 114, .int 32, .int 101, .int 120, .int 112, .int 101, .int 99, .int 116, .int 101, .int 100, .int 44, .int 32, .int i1, .int 0, .int 0, .int 0, .int 0, .int 0, .int 0, .int 0, .int 0, .int 0, .int 0] at A81
 refine r_iinc H 35 #[vR a1, vI 21, vR a2, vI 20, vI 31, vI 20, vI i1] 21 d_j52_21_32 ?_
 refine r_iinc H 38 #[vR a1, vI 21, vR a2, vI 21, vI 31, vI 20, vI i1] 21 d_j52_21_35 ?_
 refine r_iinc H 41 #[vR a1, vI 21, vR a2, vI 21, vI 31, vI 21, vI i1] 21 d_j52_21_38 ?_
 refine r_goto H 3 d_j52_21_41 ?_
 refine r_iload H 5 d_j52_21_3 ?_
 refine r_iload H 7 d_j52_21_5 ?_
 refine r_icmpgeF H 10 d_j52_21_7 ?_
 refine r_aloadN H 11 d_j52_21_10 ?_
 refine r_iloadN H 12 d_j52_21_11 ?_
 have q82 := (q78.keep K81)
 have q83 := (q79.keep K81)
 have q84 := (q80.keep K81 (ninS (ne_exa q82 q83 (by decide)) nin0))
 refine r_caload H 13 32 d_j52_21_12 q84 ?_
 refine r_istore H 15 #[vR a1, vI 21, vR a2, vI 21, vI 31, vI 21, vI 32] d_j52_21_13 ?_
 refine r_iload H 17 d_j52_21_15 ?_
 refine r_sipush H 20 255 d_j52_21_17 ?_
 refine r_icmpleT H 26 d_j52_21_20 ?_
 refine r_aloadN H 27 d_j52_21_26 ?_
 refine r_iloadN H 28 d_j52_21_27 ?_
 refine r_iload H 30 d_j52_21_28 ?_
 refine r_i2b H 31 32 d_j52_21_30 ?_
 refine r_bastore H 32 32 d_j52_21_31 A81 g_a2 ?_
 intro h85 K85 A85
 change Ar Z h85 a2 c2 .byte [.int 49, .int 32, .int 109, .int 97, .int 116, .int 99, .int 104, .int 101, .int 114, .int 32, .int 101, .int 120, .int 112, .int 101, .int 99, .int 116, .int 101, .int 100, .int 44, .int 32, .int i1, .int 32, .int 0, .int 0, .int 0, .int 0, .int 0, .int 0, .int 0, .int 0, .int 0] at A85
 refine r_iinc H 35 #[vR a1, vI 22, vR a2, vI 21, vI 31, vI 21, vI 32] 22 d_j52_21_32 ?_
 refine r_iinc H 38 #[vR a1, vI 22, vR a2, vI 22, vI 31, vI 21, vI 32] 22 d_j52_21_35 ?_
 refine r_iinc H 41 #[vR a1, vI 22, vR a2, vI 22, vI 31, vI 22, vI 32] 22 d_j52_21_38 ?_
 refine r_goto H 3 d_j52_21_41 ?_
 refine r_iload H 5 d_j52_21_3 ?_
 refine r_iload H 7 d_j52_21_5 ?_
 refine r_icmpgeF H 10 d_j52_21_7 ?_
 refine r_aloadN H 11 d_j52_21_10 ?_
 refine r_iloadN H 12 d_j52_21_11 ?_
 have q86 := (q82.keep K85)
 have q87 := (q83.keep K85)
 have q88 := (q84.keep K85 (ninS (ne_exa q86 q87 (by decide)) nin0))
 refine r_caload H 13 114 d_j52_21_12 q88 ?_
 refine r_istore H 15 #[vR a1, vI 22, vR a2, vI 22, vI 31, vI 22, vI 114] d_j52_21_13 ?_
 refine r_iload H 17 d_j52_21_15 ?_
 refine r_sipush H 20 255 d_j52_21_17 ?_
 refine r_icmpleT H 26 d_j52_21_20 ?_
 refine r_aloadN H 27 d_j52_21_26 ?_
 refine r_iloadN H 28 d_j52_21_27 ?_
 refine r_iload H 30 d_j52_21_28 ?_
 refine r_i2b H 31 114 d_j52_21_30 ?_
 refine r_bastore H 32 114 d_j52_21_31 A85 g_a2 ?_
 intro h89 K89 A89
 change Ar Z h89 a2 c2 .byte [.int 49, .int 32, .int 109, .int 97, .int 116, .int 99, .int 104, .int 101, .int 114, .int 32, .int 101, .int 120, .int 112, .int 101, .int 99, .int 116, .int 101, .int 100, .int 44, .int 32, .int i1, .int 32, .int 114, .int 0, .int 0, .int 0, .int 0, .int 0, .int 0, .int 0, .int 0] at A89
 refine r_iinc H 35 #[vR a1, vI 23, vR a2, vI 22, vI 31, vI 22, vI 114] 23 d_j52_21_32 ?_
 refine r_iinc H 38 #[vR a1, vI 23, vR a2, vI 23, vI 31, vI 22, vI 114] 23 d_j52_21_35 ?_
 refine r_iinc H 41 #[vR a1, vI 23, vR a2, vI 23, vI 31, vI 23, vI 114] 23 d_j52_21_38 ?_
 refine r_goto H 3 d_j52_21_41 ?_
 refine r_iload H 5 d_j52_21_3 ?_
 refine r_iload H 7 d_j52_21_5 ?_
 refine r_icmpgeF H 10 d_j52_21_7 ?_
 refine r_aloadN H 11 d_j52_21_10 ?_
 refine r_iloadN H 12 d_j52_21_11 ?_
 have q90 := (q86.keep K89)
 have q91 := (q87.keep K89)
 have q92 := (q88.keep K89 (ninS (ne_exa q90 q91 (by decide)) nin0))
 refine r_caload H 13 101 d_j52_21_12 q92 ?_
 refine r_istore H 15 #[vR a1, vI 23, vR a2, vI 23, vI 31, vI 23, vI 101] d_j52_21_13 ?_
 refine r_iload H 17 d_j52_21_15 ?_
 refine r_sipush H 20 255 d_j52_21_17 ?_
 refine r_icmpleT H 26 d_j52_21_20 ?_
 refine r_aloadN H 27 d_j52_21_26 ?_
 refine r_iloadN H 28 d_j52_21_27 ?_
 refine r_iload H 30 d_j52_21_28 ?_
 refine r_i2b H 31 101 d_j52_21_30 ?_
 refine r_bastore H 32 101 d_j52_21_31 A89 g_a2 ?_
 intro h93 K93 A93
 change Ar Z h93 a2 c2 .byte [.int 49, .int 32, .int 109, .int 97, .int 116, .int 99, .int 104, .int 101, .int 114, .int 32, .int 101, .int 120, .int 112, .int 101, .int 99, .int 116, .int 101, .int 100, .int 44, .int 32, .int i1, .int 32, .int 114, .int 101, .int 0, .int 0, .int 0, .int 0, .int 0, .int 0, .int 0] at A93
 refine r_iinc H 35 #[vR a1, vI 24, vR a2, vI 23, vI 31, vI 23, vI 101] 24 d_j52_21_32 ?_
 refine r_iinc H 38 #[vR a1, vI 24, vR a2, vI 24, vI 31, vI 23, vI 101] 24 d_j52_21_35 ?_
 refine r_iinc H 41 #[vR a1, vI 24, vR a2, vI 24, vI 31, vI 24, vI 101] 24 d_j52_21_38 ?_
 refine r_goto H 3 d_j52_21_41 ?_
 refine r_iload H 5 d_j52_21_3 ?_
 refine r_iload H 7 d_j52_21_5 ?_
 refine r_icmpgeF H 10 d_j52_21_7 ?_
 refine r_aloadN H 11 d_j52_21_10 ?_
 refine r_iloadN H 12 d_j52_21_11 ?_
 have q94 := (q90.keep K93)
 have q95 := (q91.keep K93)
 have q96 := (q92.keep K93 (ninS (ne_exa q94 q95 (by decide)) nin0))
 refine r_caload H 13 99 d_j52_21_12 q96 ?_
 refine r_istore H 15 #[vR a1, vI 24, vR a2, vI 24, vI 31, vI 24, vI 99] d_j52_21_13 ?_
 refine r_iload H 17 d_j52_21_15 ?_
 refine r_sipush H 20 255 d_j52_21_17 ?_
 refine r_icmpleT H 26 d_j52_21_20 ?_
 refine r_aloadN H 27 d_j52_21_26 ?_
 refine r_iloadN H 28 d_j52_21_27 ?_
 refine r_iload H 30 d_j52_21_28 ?_
 refine r_i2b H 31 99 d_j52_21_30 ?_
 refine r_bastore H 32 99 d_j52_21_31 A93 g_a2 ?_
 intro h97 K97 A97
 change Ar Z h97 a2 c2 .byte [.int 49, .int 32, .int 109, .int 97, .int 116, .int 99, .int 104, .int 101, .int 114, .int 32, .int 101, .int 120, .int 112, .int 101, .int 99, .int 116, .int 101, .int 100, .int 44, .int 32, .int i1, .int 32, .int 114, .int 101, .int 99, .int 0, .int 0, .int 0, .int 0, .int 0, .int 0] at A97
 refine r_iinc H 35 #[vR a1, vI 25, vR a2, vI 24, vI 31, vI 24, vI 99] 25 d_j52_21_32 ?_
 refine r_iinc H 38 #[vR a1, vI 25, vR a2, vI 25, vI 31, vI 24, vI 99] 25 d_j52_21_35 ?_
 refine r_iinc H 41 #[vR a1, vI 25, vR a2, vI 25, vI 31, vI 25, vI 99] 25 d_j52_21_38 ?_
 refine r_goto H 3 d_j52_21_41 ?_
 refine r_iload H 5 d_j52_21_3 ?_
 refine r_iload H 7 d_j52_21_5 ?_
 refine r_icmpgeF H 10 d_j52_21_7 ?_
 refine r_aloadN H 11 d_j52_21_10 ?_
 refine r_iloadN H 12 d_j52_21_11 ?_
 have q98 := (q94.keep K97)
 have q99 := (q95.keep K97)
 have q100 := (q96.keep K97 (ninS (ne_exa q98 q99 (by decide)) nin0))
 refine r_caload H 13 111 d_j52_21_12 q100 ?_
 refine r_istore H 15 #[vR a1, vI 25, vR a2, vI 25, vI 31, vI 25, vI 111] d_j52_21_13 ?_
 refine r_iload H 17 d_j52_21_15 ?_
 refine r_sipush H 20 255 d_j52_21_17 ?_
 refine r_icmpleT H 26 d_j52_21_20 ?_
 refine r_aloadN H 27 d_j52_21_26 ?_
 refine r_iloadN H 28 d_j52_21_27 ?_
 refine r_iload H 30 d_j52_21_28 ?_
 refine r_i2b H 31 111 d_j52_21_30 ?_
 refine r_bastore H 32 111 d_j52_21_31 A97 g_a2 ?_
 intro h101 K101 A101
 change Ar Z h101 a2 c2 .byte [.int 49, .int 32, .int 109, .int 97, .int 116, .int 99, .int 104, .int 101, .int 114, .int 32, .int 101, .int 120, .int 112, .int 101, .int 99, .int 116, .int 101, .int 100, .int 44, .int 32, .int i1, .int 32, .int 114, .int 101, .int 99, .int 111, .int 0, .int 0, .int 0, .int 0, .int 0] at A101
 refine r_iinc H 35 #[vR a1, vI 26, vR a2, vI 25, vI 31, vI 25, vI 111] 26 d_j52_21_32 ?_
 refine r_iinc H 38 #[vR a1, vI 26, vR a2, vI 26, vI 31, vI 25, vI 111] 26 d_j52_21_35 ?_
 refine r_iinc H 41 #[vR a1, vI 26, vR a2, vI 26, vI 31, vI 26, vI 111] 26 d_j52_21_38 ?_
 refine r_goto H 3 d_j52_21_41 ?_
 refine r_iload H 5 d_j52_21_3 ?_
 refine r_iload H 7 d_j52_21_5 ?_
 refine r_icmpgeF H 10 d_j52_21_7 ?_
 refine r_aloadN H 11 d_j52_21_10 ?_
 refine r_iloadN H 12 d_j52_21_11 ?_
 have q102 := (q98.keep K101)
 have q103 := (q99.keep K101)
 have q104 := (q100.keep K101 (ninS (ne_exa q102 q103 (by decide)) nin0))
 refine r_caload H 13 114 d_j52_21_12 q104 ?_
 refine r_istore H 15 #[vR a1, vI 26, vR a2, vI 26, vI 31, vI 26, vI 114] d_j52_21_13 ?_
 refine r_iload H 17 d_j52_21_15 ?_
 refine r_sipush H 20 255 d_j52_21_17 ?_
 refine r_icmpleT H 26 d_j52_21_20 ?_
 refine r_aloadN H 27 d_j52_21_26 ?_
 refine r_iloadN H 28 d_j52_21_27 ?_
 refine r_iload H 30 d_j52_21_28 ?_
 refine r_i2b H 31 114 d_j52_21_30 ?_
 refine r_bastore H 32 114 d_j52_21_31 A101 g_a2 ?_
 intro h105 K105 A105
 change Ar Z h105 a2 c2 .byte [.int 49, .int 32, .int 109, .int 97, .int 116, .int 99, .int 104, .int 101, .int 114, .int 32, .int 101, .int 120, .int 112, .int 101, .int 99, .int 116, .int 101, .int 100, .int 44, .int 32, .int i1, .int 32, .int 114, .int 101, .int 99, .int 111, .int 114, .int 0, .int 0, .int 0, .int 0] at A105
 refine r_iinc H 35 #[vR a1, vI 27, vR a2, vI 26, vI 31, vI 26, vI 114] 27 d_j52_21_32 ?_
 refine r_iinc H 38 #[vR a1, vI 27, vR a2, vI 27, vI 31, vI 26, vI 114] 27 d_j52_21_35 ?_
 refine r_iinc H 41 #[vR a1, vI 27, vR a2, vI 27, vI 31, vI 27, vI 114] 27 d_j52_21_38 ?_
 refine r_goto H 3 d_j52_21_41 ?_
 refine r_iload H 5 d_j52_21_3 ?_
 refine r_iload H 7 d_j52_21_5 ?_
 refine r_icmpgeF H 10 d_j52_21_7 ?_
 refine r_aloadN H 11 d_j52_21_10 ?_
 refine r_iloadN H 12 d_j52_21_11 ?_
 have q106 := (q102.keep K105)
 have q107 := (q103.keep K105)
 have q108 := (q104.keep K105 (ninS (ne_exa q106 q107 (by decide)) nin0))
 refine r_caload H 13 100 d_j52_21_12 q108 ?_
 refine r_istore H 15 #[vR a1, vI 27, vR a2, vI 27, vI 31, vI 27, vI 100] d_j52_21_13 ?_
 refine r_iload H 17 d_j52_21_15 ?_
 refine r_sipush H 20 255 d_j52_21_17 ?_
 refine r_icmpleT H 26 d_j52_21_20 ?_
 refine r_aloadN H 27 d_j52_21_26 ?_
 refine r_iloadN H 28 d_j52_21_27 ?_
 refine r_iload H 30 d_j52_21_28 ?_
 refine r_i2b H 31 100 d_j52_21_30 ?_
 refine r_bastore H 32 100 d_j52_21_31 A105 g_a2 ?_
 intro h109 K109 A109
 change Ar Z h109 a2 c2 .byte [.int 49, .int 32, .int 109, .int 97, .int 116, .int 99, .int 104, .int 101, .int 114, .int 32, .int 101, .int 120, .int 112, .int 101, .int 99, .int 116, .int 101, .int 100, .int 44, .int 32, .int i1, .int 32, .int 114, .int 101, .int 99, .int 111, .int 114, .int 100, .int 0, .int 0, .int 0] at A109
 refine r_iinc H 35 #[vR a1, vI 28, vR a2, vI 27, vI 31, vI 27, vI 100] 28 d_j52_21_32 ?_
 refine r_iinc H 38 #[vR a1, vI 28, vR a2, vI 28, vI 31, vI 27, vI 100] 28 d_j52_21_35 ?_
 refine r_iinc H 41 #[vR a1, vI 28, vR a2, vI 28, vI 31, vI 28, vI 100] 28 d_j52_21_38 ?_
 refine r_goto H 3 d_j52_21_41 ?_
 refine r_iload H 5 d_j52_21_3 ?_
 refine r_iload H 7 d_j52_21_5 ?_
 refine r_icmpgeF H 10 d_j52_21_7 ?_
 refine r_aloadN H 11 d_j52_21_10 ?_
 refine r_iloadN H 12 d_j52_21_11 ?_
 have q110 := (q106.keep K109)
 have q111 := (q107.keep K109)
 have q112 := (q108.keep K109 (ninS (ne_exa q110 q111 (by decide)) nin0))
 refine r_caload H 13 101 d_j52_21_12 q112 ?_
 refine r_istore H 15 #[vR a1, vI 28, vR a2, vI 28, vI 31, vI 28, vI 101] d_j52_21_13 ?_
 refine r_iload H 17 d_j52_21_15 ?_
 refine r_sipush H 20 255 d_j52_21_17 ?_
 refine r_icmpleT H 26 d_j52_21_20 ?_
 refine r_aloadN H 27 d_j52_21_26 ?_
 refine r_iloadN H 28 d_j52_21_27 ?_
 refine r_iload H 30 d_j52_21_28 ?_
 refine r_i2b H 31 101 d_j52_21_30 ?_
 refine r_bastore H 32 101 d_j52_21_31 A109 g_a2 ?_
 intro h113 K113 A113
 change Ar Z h113 a2 c2 .byte [.int 49, .int 32, .int 109, .int 97, .int 116, .int 99, .int 104, .int 101, .int 114, .int 32, .int 101, .int 120, .int 112, .int 101, .int 99, .int 116, .int 101, .int 100, .int 44, .int 32, .int i1, .int 32, .int 114, .int 101, .int 99, .int 111, .int 114, .int 100, .int 101, .int 0, .int 0] at A113
 refine r_iinc H 35 #[vR a1, vI 29, vR a2, vI 28, vI 31, vI 28, vI 101] 29 d_j52_21_32 ?_
 refine r_iinc H 38 #[vR a1, vI 29, vR a2, vI 29, vI 31, vI 28, vI 101] 29 d_j52_21_35 ?_
 refine r_iinc H 41 #[vR a1, vI 29, vR a2, vI 29, vI 31, vI 29, vI 101] 29 d_j52_21_38 ?_
 refine r_goto H 3 d_j52_21_41 ?_
 refine r_iload H 5 d_j52_21_3 ?_
 refine r_iload H 7 d_j52_21_5 ?_
 refine r_icmpgeF H 10 d_j52_21_7 ?_
 refine r_aloadN H 11 d_j52_21_10 ?_
 refine r_iloadN H 12 d_j52_21_11 ?_
 have q114 := (q110.keep K113)
 have q115 := (q111.keep K113)
 have q116 := (q112.keep K113 (ninS (ne_exa q114 q115 (by decide)) nin0))
 refine r_caload H 13 100 d_j52_21_12 q116 ?_
 refine r_istore H 15 #[vR a1, vI 29, vR a2, vI 29, vI 31, vI 29, vI 100] d_j52_21_13 ?_
 refine r_iload H 17 d_j52_21_15 ?_
 refine r_sipush H 20 255 d_j52_21_17 ?_
 refine r_icmpleT H 26 d_j52_21_20 ?_
 refine r_aloadN H 27 d_j52_21_26 ?_
 refine r_iloadN H 28 d_j52_21_27 ?_
 refine r_iload H 30 d_j52_21_28 ?_
 refine r_i2b H 31 100 d_j52_21_30 ?_
 refine r_bastore H 32 100 d_j52_21_31 A113 g_a2 ?_
 intro h117 K117 A117
 change Ar Z h117 a2 c2 .byte [.int 49, .int 32, .int 109, .int 97, .int 116, .int 99, .int 104, .int 101, .int 114, .int 32, .int 101, .int 120, .int 112, .int 101, .int 99, .int 116, .int 101, .int 100, .int 44, .int 32, .int i1, .int 32, .int 114, .int 101, .int 99, .int 111, .int 114, .int 100, .int 101, .int 100, .int 0] at A117
 refine r_iinc H 35 #[vR a1, vI 30, vR a2, vI 29, vI 31, vI 29, vI 100] 30 d_j52_21_32 ?_
 refine r_iinc H 38 #[vR a1, vI 30, vR a2, vI 30, vI 31, vI 29, vI 100] 30 d_j52_21_35 ?_
 refine r_iinc H 41 #[vR a1, vI 30, vR a2, vI 30, vI 31, vI 30, vI 100] 30 d_j52_21_38 ?_
 refine r_goto H 3 d_j52_21_41 ?_
 refine r_iload H 5 d_j52_21_3 ?_
 refine r_iload H 7 d_j52_21_5 ?_
 refine r_icmpgeF H 10 d_j52_21_7 ?_
 refine r_aloadN H 11 d_j52_21_10 ?_
 refine r_iloadN H 12 d_j52_21_11 ?_
 have q118 := (q114.keep K117)
 have q119 := (q115.keep K117)
 have q120 := (q116.keep K117 (ninS (ne_exa q118 q119 (by decide)) nin0))
 refine r_caload H 13 46 d_j52_21_12 q120 ?_
 refine r_istore H 15 #[vR a1, vI 30, vR a2, vI 30, vI 31, vI 30, vI 46] d_j52_21_13 ?_
 refine r_iload H 17 d_j52_21_15 ?_
 refine r_sipush H 20 255 d_j52_21_17 ?_
 refine r_icmpleT H 26 d_j52_21_20 ?_
 refine r_aloadN H 27 d_j52_21_26 ?_
 refine r_iloadN H 28 d_j52_21_27 ?_
 refine r_iload H 30 d_j52_21_28 ?_
 refine r_i2b H 31 46 d_j52_21_30 ?_
 refine r_bastore H 32 46 d_j52_21_31 A117 g_a2 ?_
 intro h121 K121 A121
 change Ar Z h121 a2 c2 .byte [.int 49, .int 32, .int 109, .int 97, .int 116, .int 99, .int 104, .int 101, .int 114, .int 32, .int 101, .int 120, .int 112, .int 101, .int 99, .int 116, .int 101, .int 100, .int 44, .int 32, .int i1, .int 32, .int 114, .int 101, .int 99, .int 111, .int 114, .int 100, .int 101, .int 100, .int 46] at A121
 refine r_iinc H 35 #[vR a1, vI 31, vR a2, vI 30, vI 31, vI 30, vI 46] 31 d_j52_21_32 ?_
 refine r_iinc H 38 #[vR a1, vI 31, vR a2, vI 31, vI 31, vI 30, vI 46] 31 d_j52_21_35 ?_
 refine r_iinc H 41 #[vR a1, vI 31, vR a2, vI 31, vI 31, vI 31, vI 46] 31 d_j52_21_38 ?_
 refine r_goto H 3 d_j52_21_41 ?_
 refine r_iload H 5 d_j52_21_3 ?_
 refine r_iload H 7 d_j52_21_5 ?_
 refine r_icmpgeT H 44 d_j52_21_7 ?_
 refine r_iload H 46 d_j52_21_44 ?_
 have k122 : Keep h0 h1 [a2] := Keep.trans (Keep.refl h0 [a2]) K1 (allS (Or.inl (List.mem_of_getElem? (i := 0) rfl)) all0)
 have k123 : Keep h0 h5 [a2] := Keep.trans k122 K5 (allS (Or.inl (List.mem_of_getElem? (i := 0) rfl)) all0)
 have k124 : Keep h0 h9 [a2] := Keep.trans k123 K9 (allS (Or.inl (List.mem_of_getElem? (i := 0) rfl)) all0)
 have k125 : Keep h0 h13 [a2] := Keep.trans k124 K13 (allS (Or.inl (List.mem_of_getElem? (i := 0) rfl)) all0)
 have k126 : Keep h0 h17 [a2] := Keep.trans k125 K17 (allS (Or.inl (List.mem_of_getElem? (i := 0) rfl)) all0)
 have k127 : Keep h0 h21 [a2] := Keep.trans k126 K21 (allS (Or.inl (List.mem_of_getElem? (i := 0) rfl)) all0)
 have k128 : Keep h0 h25 [a2] := Keep.trans k127 K25 (allS (Or.inl (List.mem_of_getElem? (i := 0) rfl)) all0)
 have k129 : Keep h0 h29 [a2] := Keep.trans k128 K29 (allS (Or.inl (List.mem_of_getElem? (i := 0) rfl)) all0)
 have k130 : Keep h0 h33 [a2] := Keep.trans k129 K33 (allS (Or.inl (List.mem_of_getElem? (i := 0) rfl)) all0)
 have k131 : Keep h0 h37 [a2] := Keep.trans k130 K37 (allS (Or.inl (List.mem_of_getElem? (i := 0) rfl)) all0)
 have k132 : Keep h0 h41 [a2] := Keep.trans k131 K41 (allS (Or.inl (List.mem_of_getElem? (i := 0) rfl)) all0)
 have k133 : Keep h0 h45 [a2] := Keep.trans k132 K45 (allS (Or.inl (List.mem_of_getElem? (i := 0) rfl)) all0)
 have k134 : Keep h0 h49 [a2] := Keep.trans k133 K49 (allS (Or.inl (List.mem_of_getElem? (i := 0) rfl)) all0)
 have k135 : Keep h0 h53 [a2] := Keep.trans k134 K53 (allS (Or.inl (List.mem_of_getElem? (i := 0) rfl)) all0)
 have k136 : Keep h0 h57 [a2] := Keep.trans k135 K57 (allS (Or.inl (List.mem_of_getElem? (i := 0) rfl)) all0)
 have k137 : Keep h0 h61 [a2] := Keep.trans k136 K61 (allS (Or.inl (List.mem_of_getElem? (i := 0) rfl)) all0)
 have k138 : Keep h0 h65 [a2] := Keep.trans k137 K65 (allS (Or.inl (List.mem_of_getElem? (i := 0) rfl)) all0)
 have k139 : Keep h0 h69 [a2] := Keep.trans k138 K69 (allS (Or.inl (List.mem_of_getElem? (i := 0) rfl)) all0)
 have k140 : Keep h0 h73 [a2] := Keep.trans k139 K73 (allS (Or.inl (List.mem_of_getElem? (i := 0) rfl)) all0)
 have k141 : Keep h0 h77 [a2] := Keep.trans k140 K77 (allS (Or.inl (List.mem_of_getElem? (i := 0) rfl)) all0)
 have k142 : Keep h0 h81 [a2] := Keep.trans k141 K81 (allS (Or.inl (List.mem_of_getElem? (i := 0) rfl)) all0)
 have k143 : Keep h0 h85 [a2] := Keep.trans k142 K85 (allS (Or.inl (List.mem_of_getElem? (i := 0) rfl)) all0)
 have k144 : Keep h0 h89 [a2] := Keep.trans k143 K89 (allS (Or.inl (List.mem_of_getElem? (i := 0) rfl)) all0)
 have k145 : Keep h0 h93 [a2] := Keep.trans k144 K93 (allS (Or.inl (List.mem_of_getElem? (i := 0) rfl)) all0)
 have k146 : Keep h0 h97 [a2] := Keep.trans k145 K97 (allS (Or.inl (List.mem_of_getElem? (i := 0) rfl)) all0)
 have k147 : Keep h0 h101 [a2] := Keep.trans k146 K101 (allS (Or.inl (List.mem_of_getElem? (i := 0) rfl)) all0)
 have k148 : Keep h0 h105 [a2] := Keep.trans k147 K105 (allS (Or.inl (List.mem_of_getElem? (i := 0) rfl)) all0)
 have k149 : Keep h0 h109 [a2] := Keep.trans k148 K109 (allS (Or.inl (List.mem_of_getElem? (i := 0) rfl)) all0)
 have k150 : Keep h0 h113 [a2] := Keep.trans k149 K113 (allS (Or.inl (List.mem_of_getElem? (i := 0) rfl)) all0)
 have k151 : Keep h0 h117 [a2] := Keep.trans k150 K117 (allS (Or.inl (List.mem_of_getElem? (i := 0) rfl)) all0)
 have k152 : Keep h0 h121 [a2] := Keep.trans k151 K121 (allS (Or.inl (List.mem_of_getElem? (i := 0) rfl)) all0)
 have q153 := (q119.keep K121)
 exact r_ireturn H d_j52_21_46 (⟨rfl, k152, A121, q153⟩)
def Q_compress_106 (Z : State) (i1 : Int32) (h0 : Heap) (v : Option Value) (h : Heap) : Prop := ∃ (b1 : Addr) (kc1 : ClassId), v = some (.ref b1) ∧ Keep h0 h [] ∧ h0.size ≤ b1 ∧ Ar Z h b1 kc1 .byte [.int 49, .int 32, .int 109, .int 97, .int 116, .int 99, .int 104, .int 101, .int 114, .int 32, .int 101, .int 120, .int 112, .int 101, .int 99, .int 116, .int 101, .int 100, .int 44, .int 32, .int i1, .int 32, .int 114, .int 101, .int 99, .int 111, .int 114, .int 100, .int 101, .int 100, .int 46] ∧ Exa Z h b1 "[B"
def R_compress_106 : Room := { frames := 1, cells := 1, slots := 31, locals := 18 }
theorem rm_compress_106 {w : Bool} {Z : State} {a0 : Array Value} (hw : HW a0 Z) (Ts : List String) (a1 : Addr) (i1 : Int32) (c1 : ClassId) (h0 : Heap) (f : Nat) (Zf : Z.heap.size ≤ f) (Z0 : f ≤ h0.size) (A_a1 : Ar Z h0 a1 c1 .char [.int 49, .int 32, .int 109, .int 97, .int 116, .int 99, .int 104, .int 101, .int 114, .int 32, .int 101, .int 120, .int 112, .int 101, .int 99, .int 116, .int 101, .int 100, .int 44, .int 32, .int i1, .int 32, .int 114, .int 101, .int 99, .int 111, .int 114, .int 100, .int 101, .int 100, .int 46]) (E_a1 : Exa Z h0 a1 "[C") (r_i1 : 48 ≤ i1.toInt ∧ i1.toInt ≤ 57) :
  Con w [] Z mn31 jdk_52_method_16_code 6 (some (.array .byte)) R_compress_106 Ts Ts f #[.ref a1, .int 0, .int 31] h0 (Q_compress_106 Z i1 h0) := by
 refine con_of f #[vR a1, vI 0, vI 31, .unset, .unset, .unset] (plainFor_of_name pn_7) (fun m => rfl) Zf ?_
 intro C H hX0
 refine r_iloadN H 1 d_j52_16_0 ?_
 refine r_newP H 3 "[B" 31 d_j52_16_1 (tw22 hw) ?_
 intro h1 b1 kc1 g1 l1 K1 E1 A1
 change Ar Z h1 b1 kc1 .byte [.int 0, .int 0, .int 0, .int 0, .int 0, .int 0, .int 0, .int 0, .int 0, .int 0, .int 0, .int 0, .int 0, .int 0, .int 0, .int 0, .int 0, .int 0, .int 0, .int 0, .int 0, .int 0, .int 0, .int 0, .int 0, .int 0, .int 0, .int 0, .int 0, .int 0, .int 0] at A1
 refine r_astoreN H 4 #[vR a1, vI 0, vI 31, vR b1, .unset, .unset] d_j52_16_3 ?_
 refine r_aloadN H 5 d_j52_16_4 ?_
 refine r_iloadN H 6 d_j52_16_5 ?_
 refine r_aloadN H 7 d_j52_16_6 ?_
 refine r_iconst H 8 0 d_j52_16_7 ?_
 refine r_iloadN H 9 d_j52_16_8 ?_
 have q2 := (A_a1.keep K1 nin0)
 have q3 := (E_a1.keep K1)
 refine r_static (argsL := [.ref a1, .int 0, .ref b1, .int 0, .int 31]) (rest := []) (W := 0) H 12 d_j52_16_9 (tw179 hw) (tw180 hw) (tw177 hw) (tw181 hw) (lenOf pd_24 rfl) (rm_compress_107 hw Ts a1 b1 i1 c1 kc1 h1 f Zf (nlt Z0 K1.1) q2 A1 (nlt Z0 (Nat.le_of_eq g1.symm)) E1 q3 r_i1) ?_
 rintro _ hh7 ⟨rfl, K4, q5, q6⟩
 refine r_istore H 14 #[vR a1, vI 0, vI 31, vR b1, vI 31, .unset] d_j52_16_12 ?_
 refine r_iload H 16 d_j52_16_14 ?_
 refine r_iloadN H 17 d_j52_16_16 ?_
 refine r_icmpeqT H 57 d_j52_16_17 ?_
 refine r_aloadN H 58 d_j52_16_57 ?_
 have k8 : Keep h0 h1 [] := Keep.trans (Keep.refl h0 []) K1 all0
 have k9 : Keep h0 hh7 [] := Keep.trans k8 K4 (allS (Or.inr (nlt nlr (Nat.le_of_eq g1.symm))) all0)
 exact r_areturn H d_j52_16_58 (⟨b1, kc1, rfl, k9, (nlt nlr (Nat.le_of_eq g1.symm)), q5, q6⟩)
def Q_coderFromArrayLen_108 (Z : State) (h0 : Heap) (v : Option Value) (h : Heap) : Prop := v = some (.int 0) ∧ h0 = h
def R_coderFromArrayLen_108 : Room := { frames := 0, cells := 0, slots := 0, locals := 0 }
theorem rm_coderFromArrayLen_108 {w : Bool} {Z : State} {a0 : Array Value} (hw : HW a0 Z) (Ts : List String) (a1 : Addr) (i1 : Int32) (c1 : ClassId) (h0 : Heap) (f : Nat) (Zf : Z.heap.size ≤ f) (Z0 : f ≤ h0.size) (A_a1 : Ar Z h0 a1 c1 .byte [.int 49, .int 32, .int 109, .int 97, .int 116, .int 99, .int 104, .int 101, .int 114, .int 32, .int 101, .int 120, .int 112, .int 101, .int 99, .int 116, .int 101, .int 100, .int 44, .int 32, .int i1, .int 32, .int 114, .int 101, .int 99, .int 111, .int 114, .int 100, .int 101, .int 100, .int 46]) :
  Con w [] Z mn32 jdk_52_method_15_code 2 (some .byte) R_coderFromArrayLen_108 Ts Ts f #[.ref a1, .int 31] h0 (Q_coderFromArrayLen_108 Z h0) := by
 refine con_of f #[vR a1, vI 31] (plainFor_of_name pn_7) (fun m => rfl) Zf ?_
 intro C H hX0
 refine r_iloadN H 1 d_j52_15_0 ?_
 refine r_aloadN H 2 d_j52_15_1 ?_
 refine r_alen H 3 31 d_j52_15_2 A_a1 ?_
 refine r_isub H 4 0 d_j52_15_3 ?_
 refine r_bipush H 6 31 d_j52_15_4 ?_
 refine r_iushr H 7 0 d_j52_15_6 ?_
 refine r_i2b H 8 0 d_j52_15_7 ?_
 exact r_nreturn (0 : Int32) H d_j52_15_8 (⟨rfl, rfl⟩)
def Q_init_105 (Z : State) (a1 : Addr) (i1 : Int32) (h0 : Heap) (v : Option Value) (h : Heap) : Prop := ∃ (b1 : Addr) (kc2 : ClassId), v = none ∧ Keep h0 h [a1] ∧ h0.size ≤ b1 ∧ Exa Z h a1 "java/lang/String" ∧ Fld Z h a1 "java/lang/String" "coder" "B" (.int 0) ∧ Fld Z h a1 "java/lang/String" "value" "[B" (.ref b1) ∧ Ar Z h b1 kc2 .byte [.int 49, .int 32, .int 109, .int 97, .int 116, .int 99, .int 104, .int 101, .int 114, .int 32, .int 101, .int 120, .int 112, .int 101, .int 99, .int 116, .int 101, .int 100, .int 44, .int 32, .int i1, .int 32, .int 114, .int 101, .int 99, .int 111, .int 114, .int 100, .int 101, .int 100, .int 46] ∧ Exa Z h b1 "[B"
def R_init_105 : Room := { frames := 2, cells := 1, slots := 31, locals := 35 }
theorem rm_init_105 {w : Bool} {Z : State} {a0 : Array Value} (hw : HW a0 Z) (Ts : List String) (a1 : Addr) (a2 : Addr) (i1 : Int32) (c1 : ClassId) (cs : Int32) (h0 : Heap) (f : Nat) (Zf : Z.heap.size ≤ f) (Z0 : f ≤ h0.size) (A_a2 : Ar Z h0 a2 c1 .char [.int 49, .int 32, .int 109, .int 97, .int 116, .int 99, .int 104, .int 101, .int 114, .int 32, .int 101, .int 120, .int 112, .int 101, .int 99, .int 116, .int 101, .int 100, .int 44, .int 32, .int i1, .int 32, .int 114, .int 101, .int 99, .int 111, .int 114, .int 100, .int 101, .int 100, .int 46]) (E_a2 : Exa Z h0 a2 "[C") (E_a1 : Exa Z h0 a1 "java/lang/String") (F_coder_a1 : Fld Z h0 a1 "java/lang/String" "coder" "B" (.int 0)) (g_a1 : f ≤ a1) (F_value_a1 : Fld Z h0 a1 "java/lang/String" "value" "[B" .null) (r_i1 : 48 ≤ i1.toInt ∧ i1.toInt ≤ 57) (S_cs : G_S_cs Z cs) (hcs : ¬ cs = 0) :
  Con w [] Z mn33 jdk_42_method_149_code 6 none R_init_105 Ts Ts f #[.ref a1, .ref a2, .int 0, .int 31, .null] h0 (Q_init_105 Z a1 i1 h0) := by
 refine con_of f #[vR a1, vR a2, vI 0, vI 31, .val .null, .unset] (plainFor_of_name pn_3) (fun m => rfl) Zf ?_
 intro C H hX0
 refine r_aloadN H 1 d_j42_149_0 ?_
 refine r_initO (W := 0) H 4 d_j42_149_1 (tw118 hw) (tw18 hw) (tw19 hw) ?_
 refine r_iloadN H 5 d_j42_149_4 ?_
 refine r_ifneT H 27 d_j42_149_5 ?_
 refine r_gets H 30 d_j42_149_27 (tw83 hw) S_cs ?_
 refine r_ifeqF H 33 d_j42_149_30 hcs ?_
 refine r_aloadN H 34 d_j42_149_33 ?_
 refine r_iloadN H 35 d_j42_149_34 ?_
 refine r_iloadN H 36 d_j42_149_35 ?_
 refine r_static (argsL := [.ref a2, .int 0, .int 31]) (rest := []) (W := 0) H 39 d_j42_149_36 (tw175 hw) (tw176 hw) (tw177 hw) (tw178 hw) (lenOf pd_25 rfl) (rm_compress_106 hw Ts a2 i1 c1 h0 f Zf Z0 A_a2 E_a2 r_i1) ?_
 rintro _ hh7 ⟨b1, kc2, rfl, K3, g4, q5, q6⟩
 refine r_astore H 41 #[vR a1, vR a2, vI 0, vI 31, .val .null, vR b1] d_j42_149_39 ?_
 refine r_aloadN H 42 d_j42_149_41 ?_
 refine r_aload H 44 d_j42_149_42 ?_
 refine r_iloadN H 45 d_j42_149_44 ?_
 refine r_static (argsL := [.ref b1, .int 31]) (rest := [.ref a1]) (W := 1) H 48 d_j42_149_45 (tw182 hw) (tw183 hw) (tw177 hw) (tw184 hw) (lenOf pd_26 rfl) (rm_coderFromArrayLen_108 hw Ts b1 i1 kc2 hh7 f Zf (nlt Z0 K3.1) q5) ?_
 rintro _ _ ⟨rfl, rfl⟩
 have q9 := (E_a1.keep K3)
 have q10 := (F_coder_a1.keep K3 nin0)
 refine r_putn (v' := (.int 0)) (ty := .byte) H 51 d_j42_149_48 (tw84 hw) q10 q9 (Or.inr ⟨(tw60 hw), rfl, rfl⟩) (tw58 hw) g_a1 ?_
 intro h11 W11 K11 E11 F11
 refine r_aloadN H 52 d_j42_149_51 ?_
 refine r_aload H 54 d_j42_149_52 ?_
 have q12 := ((F_value_a1.keep K3 nin0).other W11 (Or.inr (slot_ne (Or.inr (tw59 hw)) (Or.inr (tw60 hw)) (by decide) (t := (.array .byte)) (t' := .byte) (by decide) (by decide))))
 refine r_putf (ty := (.array .byte)) H 57 d_j42_149_54 (tw77 hw) q12 E11 (Or.inr ⟨(tw59 hw), rfl, rfl⟩) (tw58 hw) g_a1 ?_
 intro h13 W13 K13 E13 F13
 have k14 : Keep h0 hh7 [a1] := Keep.trans (Keep.refl h0 [a1]) K3 all0
 have k15 : Keep h0 h11 [a1] := Keep.trans k14 K11 (allS (Or.inl (List.mem_of_getElem? (i := 0) rfl)) all0)
 have k16 : Keep h0 h13 [a1] := Keep.trans k15 K13 (allS (Or.inl (List.mem_of_getElem? (i := 0) rfl)) all0)
 have q17 := (F11.other W13 (Or.inr (slot_ne (Or.inr (tw60 hw)) (Or.inr (tw59 hw)) (by decide) (t := .byte) (t' := (.array .byte)) (by decide) (by decide))))
 have q18 := ((q5.keep K11 (ninS (Ne.symm (Nat.ne_of_lt (Nat.lt_of_lt_of_le E_a1.lt (nlt nlr g4)))) nin0)).keep K13 (ninS (Ne.symm (Nat.ne_of_lt (Nat.lt_of_lt_of_le E_a1.lt (nlt nlr g4)))) nin0))
 have q19 := ((q6.keep K11).keep K13)
 exact r_return H d_j42_149_57 (⟨b1, kc2, rfl, k16, (nlt nlr g4), E13, q17, F13, q18, q19⟩)
def Q_init_104 (Z : State) (a1 : Addr) (i1 : Int32) (h0 : Heap) (v : Option Value) (h : Heap) : Prop := ∃ (b1 : Addr) (kc2 : ClassId), v = none ∧ Keep h0 h [a1] ∧ h0.size ≤ b1 ∧ Exa Z h a1 "java/lang/String" ∧ Fld Z h a1 "java/lang/String" "coder" "B" (.int 0) ∧ Fld Z h a1 "java/lang/String" "value" "[B" (.ref b1) ∧ Ar Z h b1 kc2 .byte [.int 49, .int 32, .int 109, .int 97, .int 116, .int 99, .int 104, .int 101, .int 114, .int 32, .int 101, .int 120, .int 112, .int 101, .int 99, .int 116, .int 101, .int 100, .int 44, .int 32, .int i1, .int 32, .int 114, .int 101, .int 99, .int 111, .int 114, .int 100, .int 101, .int 100, .int 46] ∧ Exa Z h b1 "[B"
def R_init_104 : Room := { frames := 3, cells := 1, slots := 31, locals := 52 }
theorem rm_init_104 {w : Bool} {Z : State} {a0 : Array Value} (hw : HW a0 Z) (Ts : List String) (a1 : Addr) (a2 : Addr) (i1 : Int32) (c1 : ClassId) (cs : Int32) (h0 : Heap) (f : Nat) (Zf : Z.heap.size ≤ f) (Z0 : f ≤ h0.size) (A_a2 : Ar Z h0 a2 c1 .char [.int 49, .int 32, .int 109, .int 97, .int 116, .int 99, .int 104, .int 101, .int 114, .int 32, .int 101, .int 120, .int 112, .int 101, .int 99, .int 116, .int 101, .int 100, .int 44, .int 32, .int i1, .int 32, .int 114, .int 101, .int 99, .int 111, .int 114, .int 100, .int 101, .int 100, .int 46]) (g_a1 : f ≤ a1) (E_a2 : Exa Z h0 a2 "[C") (E_a1 : Exa Z h0 a1 "java/lang/String") (F_coder_a1 : Fld Z h0 a1 "java/lang/String" "coder" "B" (.int 0)) (F_value_a1 : Fld Z h0 a1 "java/lang/String" "value" "[B" .null) (r_i1 : 48 ≤ i1.toInt ∧ i1.toInt ≤ 57) (S_cs : G_S_cs Z cs) (hcs : ¬ cs = 0) :
  Con w [] Z mn34 jdk_42_method_3_code 2 none R_init_104 Ts Ts f #[.ref a1, .ref a2] h0 (Q_init_104 Z a1 i1 h0) := by
 refine con_of f #[vR a1, vR a2] (plainFor_of_name pn_3) (fun m => rfl) Zf ?_
 intro C H hX0
 refine r_aloadN H 1 d_j42_3_0 ?_
 refine r_aloadN H 2 d_j42_3_1 ?_
 refine r_iconst H 3 0 d_j42_3_2 ?_
 refine r_aloadN H 4 d_j42_3_3 ?_
 refine r_alen H 5 31 d_j42_3_4 A_a2 ?_
 refine r_null H 6 d_j42_3_5 ?_
 refine r_special (a := a1) (argsL := [.ref a2, .int 0, .int 31, .null]) (rest := []) (W := 0) H 9 d_j42_3_6 (tw172 hw) (tw173 hw) (tw21 hw) (tw174 hw) (lenOf pd_27 rfl) (rm_init_105 hw Ts a1 a2 i1 c1 cs h0 f Zf Z0 A_a2 E_a2 E_a1 F_coder_a1 g_a1 F_value_a1 r_i1 S_cs hcs) ?_
 rintro _ hh10 ⟨b1, kc2, rfl, K3, g4, q5, q6, q7, q8, q9⟩
 have k11 : Keep h0 hh10 [a1] := Keep.trans (Keep.refl h0 [a1]) K3 (allS (Or.inl (List.mem_of_getElem? (i := 0) rfl)) all0)
 exact r_return H d_j42_3_9 (⟨b1, kc2, rfl, k11, (nlt nlr g4), q5, q6, q7, q8, q9⟩)
def Q_equals_110 (Z : State) (h0 : Heap) (v : Option Value) (h : Heap) : Prop := v = some (.int 1) ∧ h0 = h
def R_equals_110 : Room := { frames := 0, cells := 0, slots := 0, locals := 0 }
theorem rm_equals_110 {w : Bool} {Z : State} {a0 : Array Value} (hw : HW a0 Z) (Ts : List String) (a1 : Addr) (a2 : Addr) (i1 : Int32) (c1 : ClassId) (c2 : ClassId) (h0 : Heap) (f : Nat) (Zf : Z.heap.size ≤ f) (Z0 : f ≤ h0.size) (A_a1 : Ar Z h0 a1 c1 .byte [.int 49, .int 32, .int 109, .int 97, .int 116, .int 99, .int 104, .int 101, .int 114, .int 32, .int 101, .int 120, .int 112, .int 101, .int 99, .int 116, .int 101, .int 100, .int 44, .int 32, .int i1, .int 32, .int 114, .int 101, .int 99, .int 111, .int 114, .int 100, .int 101, .int 100, .int 46]) (A_a2 : Ar Z h0 a2 c2 .byte [.int 49, .int 32, .int 109, .int 97, .int 116, .int 99, .int 104, .int 101, .int 114, .int 32, .int 101, .int 120, .int 112, .int 101, .int 99, .int 116, .int 101, .int 100, .int 44, .int 32, .int i1, .int 32, .int 114, .int 101, .int 99, .int 111, .int 114, .int 100, .int 101, .int 100, .int 46]) :
  Con w [] Z mn35 jdk_43_method_13_code 3 (some .boolean) R_equals_110 Ts Ts f #[.ref a1, .ref a2] h0 (Q_equals_110 Z h0) := by
 refine con_of f #[vR a1, vR a2, .unset] (plainFor_of_name pn_8) (fun m => rfl) Zf ?_
 intro C H hX0
 refine r_aloadN H 1 d_j43_13_0 ?_
 refine r_alen H 2 31 d_j43_13_1 A_a1 ?_
 refine r_aloadN H 3 d_j43_13_2 ?_
 refine r_alen H 4 31 d_j43_13_3 A_a2 ?_
 refine r_icmpneF H 7 d_j43_13_4 rfl (by decide) ?_
 refine r_iconst H 8 0 d_j43_13_7 ?_
 refine r_istoreN H 9 #[vR a1, vR a2, vI 0] d_j43_13_8 ?_
 refine r_iloadN H 10 d_j43_13_9 ?_
 refine r_aloadN H 11 d_j43_13_10 ?_
 refine r_alen H 12 31 d_j43_13_11 A_a1 ?_
 refine r_icmpgeF H 15 d_j43_13_12 ?_
 refine r_aloadN H 16 d_j43_13_15 ?_
 refine r_iloadN H 17 d_j43_13_16 ?_
 refine r_baload H 18 49 d_j43_13_17 A_a1 ?_
 refine r_aloadN H 19 d_j43_13_18 ?_
 refine r_iloadN H 20 d_j43_13_19 ?_
 refine r_baload H 21 49 d_j43_13_20 A_a2 ?_
 refine r_icmpeqT H 26 d_j43_13_21 ?_
 refine r_iinc H 29 #[vR a1, vR a2, vI 1] 1 d_j43_13_26 ?_
 refine r_goto H 9 d_j43_13_29 ?_
 refine r_iloadN H 10 d_j43_13_9 ?_
 refine r_aloadN H 11 d_j43_13_10 ?_
 refine r_alen H 12 31 d_j43_13_11 A_a1 ?_
 refine r_icmpgeF H 15 d_j43_13_12 ?_
 refine r_aloadN H 16 d_j43_13_15 ?_
 refine r_iloadN H 17 d_j43_13_16 ?_
 refine r_baload H 18 32 d_j43_13_17 A_a1 ?_
 refine r_aloadN H 19 d_j43_13_18 ?_
 refine r_iloadN H 20 d_j43_13_19 ?_
 refine r_baload H 21 32 d_j43_13_20 A_a2 ?_
 refine r_icmpeqT H 26 d_j43_13_21 ?_
 refine r_iinc H 29 #[vR a1, vR a2, vI 2] 2 d_j43_13_26 ?_
 refine r_goto H 9 d_j43_13_29 ?_
 refine r_iloadN H 10 d_j43_13_9 ?_
 refine r_aloadN H 11 d_j43_13_10 ?_
 refine r_alen H 12 31 d_j43_13_11 A_a1 ?_
 refine r_icmpgeF H 15 d_j43_13_12 ?_
 refine r_aloadN H 16 d_j43_13_15 ?_
 refine r_iloadN H 17 d_j43_13_16 ?_
 refine r_baload H 18 109 d_j43_13_17 A_a1 ?_
 refine r_aloadN H 19 d_j43_13_18 ?_
 refine r_iloadN H 20 d_j43_13_19 ?_
 refine r_baload H 21 109 d_j43_13_20 A_a2 ?_
 refine r_icmpeqT H 26 d_j43_13_21 ?_
 refine r_iinc H 29 #[vR a1, vR a2, vI 3] 3 d_j43_13_26 ?_
 refine r_goto H 9 d_j43_13_29 ?_
 refine r_iloadN H 10 d_j43_13_9 ?_
 refine r_aloadN H 11 d_j43_13_10 ?_
 refine r_alen H 12 31 d_j43_13_11 A_a1 ?_
 refine r_icmpgeF H 15 d_j43_13_12 ?_
 refine r_aloadN H 16 d_j43_13_15 ?_
 refine r_iloadN H 17 d_j43_13_16 ?_
 refine r_baload H 18 97 d_j43_13_17 A_a1 ?_
 refine r_aloadN H 19 d_j43_13_18 ?_
 refine r_iloadN H 20 d_j43_13_19 ?_
 refine r_baload H 21 97 d_j43_13_20 A_a2 ?_
 refine r_icmpeqT H 26 d_j43_13_21 ?_
 refine r_iinc H 29 #[vR a1, vR a2, vI 4] 4 d_j43_13_26 ?_
 refine r_goto H 9 d_j43_13_29 ?_
 refine r_iloadN H 10 d_j43_13_9 ?_
 refine r_aloadN H 11 d_j43_13_10 ?_
 refine r_alen H 12 31 d_j43_13_11 A_a1 ?_
 refine r_icmpgeF H 15 d_j43_13_12 ?_
 refine r_aloadN H 16 d_j43_13_15 ?_
 refine r_iloadN H 17 d_j43_13_16 ?_
 refine r_baload H 18 116 d_j43_13_17 A_a1 ?_
 refine r_aloadN H 19 d_j43_13_18 ?_
 refine r_iloadN H 20 d_j43_13_19 ?_
 refine r_baload H 21 116 d_j43_13_20 A_a2 ?_
 refine r_icmpeqT H 26 d_j43_13_21 ?_
 refine r_iinc H 29 #[vR a1, vR a2, vI 5] 5 d_j43_13_26 ?_
 refine r_goto H 9 d_j43_13_29 ?_
 refine r_iloadN H 10 d_j43_13_9 ?_
 refine r_aloadN H 11 d_j43_13_10 ?_
 refine r_alen H 12 31 d_j43_13_11 A_a1 ?_
 refine r_icmpgeF H 15 d_j43_13_12 ?_
 refine r_aloadN H 16 d_j43_13_15 ?_
 refine r_iloadN H 17 d_j43_13_16 ?_
 refine r_baload H 18 99 d_j43_13_17 A_a1 ?_
 refine r_aloadN H 19 d_j43_13_18 ?_
 refine r_iloadN H 20 d_j43_13_19 ?_
 refine r_baload H 21 99 d_j43_13_20 A_a2 ?_
 refine r_icmpeqT H 26 d_j43_13_21 ?_
 refine r_iinc H 29 #[vR a1, vR a2, vI 6] 6 d_j43_13_26 ?_
 refine r_goto H 9 d_j43_13_29 ?_
 refine r_iloadN H 10 d_j43_13_9 ?_
 refine r_aloadN H 11 d_j43_13_10 ?_
 refine r_alen H 12 31 d_j43_13_11 A_a1 ?_
 refine r_icmpgeF H 15 d_j43_13_12 ?_
 refine r_aloadN H 16 d_j43_13_15 ?_
 refine r_iloadN H 17 d_j43_13_16 ?_
 refine r_baload H 18 104 d_j43_13_17 A_a1 ?_
 refine r_aloadN H 19 d_j43_13_18 ?_
 refine r_iloadN H 20 d_j43_13_19 ?_
 refine r_baload H 21 104 d_j43_13_20 A_a2 ?_
 refine r_icmpeqT H 26 d_j43_13_21 ?_
 refine r_iinc H 29 #[vR a1, vR a2, vI 7] 7 d_j43_13_26 ?_
 refine r_goto H 9 d_j43_13_29 ?_
 refine r_iloadN H 10 d_j43_13_9 ?_
 refine r_aloadN H 11 d_j43_13_10 ?_
 refine r_alen H 12 31 d_j43_13_11 A_a1 ?_
 refine r_icmpgeF H 15 d_j43_13_12 ?_
 refine r_aloadN H 16 d_j43_13_15 ?_
 refine r_iloadN H 17 d_j43_13_16 ?_
 refine r_baload H 18 101 d_j43_13_17 A_a1 ?_
 refine r_aloadN H 19 d_j43_13_18 ?_
 refine r_iloadN H 20 d_j43_13_19 ?_
 refine r_baload H 21 101 d_j43_13_20 A_a2 ?_
 refine r_icmpeqT H 26 d_j43_13_21 ?_
 refine r_iinc H 29 #[vR a1, vR a2, vI 8] 8 d_j43_13_26 ?_
 refine r_goto H 9 d_j43_13_29 ?_
 refine r_iloadN H 10 d_j43_13_9 ?_
 refine r_aloadN H 11 d_j43_13_10 ?_
 refine r_alen H 12 31 d_j43_13_11 A_a1 ?_
 refine r_icmpgeF H 15 d_j43_13_12 ?_
 refine r_aloadN H 16 d_j43_13_15 ?_
 refine r_iloadN H 17 d_j43_13_16 ?_
 refine r_baload H 18 114 d_j43_13_17 A_a1 ?_
 refine r_aloadN H 19 d_j43_13_18 ?_
 refine r_iloadN H 20 d_j43_13_19 ?_
 refine r_baload H 21 114 d_j43_13_20 A_a2 ?_
 refine r_icmpeqT H 26 d_j43_13_21 ?_
 refine r_iinc H 29 #[vR a1, vR a2, vI 9] 9 d_j43_13_26 ?_
 refine r_goto H 9 d_j43_13_29 ?_
 refine r_iloadN H 10 d_j43_13_9 ?_
 refine r_aloadN H 11 d_j43_13_10 ?_
 refine r_alen H 12 31 d_j43_13_11 A_a1 ?_
 refine r_icmpgeF H 15 d_j43_13_12 ?_
 refine r_aloadN H 16 d_j43_13_15 ?_
 refine r_iloadN H 17 d_j43_13_16 ?_
 refine r_baload H 18 32 d_j43_13_17 A_a1 ?_
 refine r_aloadN H 19 d_j43_13_18 ?_
 refine r_iloadN H 20 d_j43_13_19 ?_
 refine r_baload H 21 32 d_j43_13_20 A_a2 ?_
 refine r_icmpeqT H 26 d_j43_13_21 ?_
 refine r_iinc H 29 #[vR a1, vR a2, vI 10] 10 d_j43_13_26 ?_
 refine r_goto H 9 d_j43_13_29 ?_
 refine r_iloadN H 10 d_j43_13_9 ?_
 refine r_aloadN H 11 d_j43_13_10 ?_
 refine r_alen H 12 31 d_j43_13_11 A_a1 ?_
 refine r_icmpgeF H 15 d_j43_13_12 ?_
 refine r_aloadN H 16 d_j43_13_15 ?_
 refine r_iloadN H 17 d_j43_13_16 ?_
 refine r_baload H 18 101 d_j43_13_17 A_a1 ?_
 refine r_aloadN H 19 d_j43_13_18 ?_
 refine r_iloadN H 20 d_j43_13_19 ?_
 refine r_baload H 21 101 d_j43_13_20 A_a2 ?_
 refine r_icmpeqT H 26 d_j43_13_21 ?_
 refine r_iinc H 29 #[vR a1, vR a2, vI 11] 11 d_j43_13_26 ?_
 refine r_goto H 9 d_j43_13_29 ?_
 refine r_iloadN H 10 d_j43_13_9 ?_
 refine r_aloadN H 11 d_j43_13_10 ?_
 refine r_alen H 12 31 d_j43_13_11 A_a1 ?_
 refine r_icmpgeF H 15 d_j43_13_12 ?_
 refine r_aloadN H 16 d_j43_13_15 ?_
 refine r_iloadN H 17 d_j43_13_16 ?_
 refine r_baload H 18 120 d_j43_13_17 A_a1 ?_
 refine r_aloadN H 19 d_j43_13_18 ?_
 refine r_iloadN H 20 d_j43_13_19 ?_
 refine r_baload H 21 120 d_j43_13_20 A_a2 ?_
 refine r_icmpeqT H 26 d_j43_13_21 ?_
 refine r_iinc H 29 #[vR a1, vR a2, vI 12] 12 d_j43_13_26 ?_
 refine r_goto H 9 d_j43_13_29 ?_
 refine r_iloadN H 10 d_j43_13_9 ?_
 refine r_aloadN H 11 d_j43_13_10 ?_
 refine r_alen H 12 31 d_j43_13_11 A_a1 ?_
 refine r_icmpgeF H 15 d_j43_13_12 ?_
 refine r_aloadN H 16 d_j43_13_15 ?_
 refine r_iloadN H 17 d_j43_13_16 ?_
 refine r_baload H 18 112 d_j43_13_17 A_a1 ?_
 refine r_aloadN H 19 d_j43_13_18 ?_
 refine r_iloadN H 20 d_j43_13_19 ?_
 refine r_baload H 21 112 d_j43_13_20 A_a2 ?_
 refine r_icmpeqT H 26 d_j43_13_21 ?_
 refine r_iinc H 29 #[vR a1, vR a2, vI 13] 13 d_j43_13_26 ?_
 refine r_goto H 9 d_j43_13_29 ?_
 refine r_iloadN H 10 d_j43_13_9 ?_
 refine r_aloadN H 11 d_j43_13_10 ?_
 refine r_alen H 12 31 d_j43_13_11 A_a1 ?_
 refine r_icmpgeF H 15 d_j43_13_12 ?_
 refine r_aloadN H 16 d_j43_13_15 ?_
 refine r_iloadN H 17 d_j43_13_16 ?_
 refine r_baload H 18 101 d_j43_13_17 A_a1 ?_
 refine r_aloadN H 19 d_j43_13_18 ?_
 refine r_iloadN H 20 d_j43_13_19 ?_
 refine r_baload H 21 101 d_j43_13_20 A_a2 ?_
 refine r_icmpeqT H 26 d_j43_13_21 ?_
 refine r_iinc H 29 #[vR a1, vR a2, vI 14] 14 d_j43_13_26 ?_
 refine r_goto H 9 d_j43_13_29 ?_
 refine r_iloadN H 10 d_j43_13_9 ?_
 refine r_aloadN H 11 d_j43_13_10 ?_
 refine r_alen H 12 31 d_j43_13_11 A_a1 ?_
 refine r_icmpgeF H 15 d_j43_13_12 ?_
 refine r_aloadN H 16 d_j43_13_15 ?_
 refine r_iloadN H 17 d_j43_13_16 ?_
 refine r_baload H 18 99 d_j43_13_17 A_a1 ?_
 refine r_aloadN H 19 d_j43_13_18 ?_
 refine r_iloadN H 20 d_j43_13_19 ?_
 refine r_baload H 21 99 d_j43_13_20 A_a2 ?_
 refine r_icmpeqT H 26 d_j43_13_21 ?_
 refine r_iinc H 29 #[vR a1, vR a2, vI 15] 15 d_j43_13_26 ?_
 refine r_goto H 9 d_j43_13_29 ?_
 refine r_iloadN H 10 d_j43_13_9 ?_
 refine r_aloadN H 11 d_j43_13_10 ?_
 refine r_alen H 12 31 d_j43_13_11 A_a1 ?_
 refine r_icmpgeF H 15 d_j43_13_12 ?_
 refine r_aloadN H 16 d_j43_13_15 ?_
 refine r_iloadN H 17 d_j43_13_16 ?_
 refine r_baload H 18 116 d_j43_13_17 A_a1 ?_
 refine r_aloadN H 19 d_j43_13_18 ?_
 refine r_iloadN H 20 d_j43_13_19 ?_
 refine r_baload H 21 116 d_j43_13_20 A_a2 ?_
 refine r_icmpeqT H 26 d_j43_13_21 ?_
 refine r_iinc H 29 #[vR a1, vR a2, vI 16] 16 d_j43_13_26 ?_
 refine r_goto H 9 d_j43_13_29 ?_
 refine r_iloadN H 10 d_j43_13_9 ?_
 refine r_aloadN H 11 d_j43_13_10 ?_
 refine r_alen H 12 31 d_j43_13_11 A_a1 ?_
 refine r_icmpgeF H 15 d_j43_13_12 ?_
 refine r_aloadN H 16 d_j43_13_15 ?_
 refine r_iloadN H 17 d_j43_13_16 ?_
 refine r_baload H 18 101 d_j43_13_17 A_a1 ?_
 refine r_aloadN H 19 d_j43_13_18 ?_
 refine r_iloadN H 20 d_j43_13_19 ?_
 refine r_baload H 21 101 d_j43_13_20 A_a2 ?_
 refine r_icmpeqT H 26 d_j43_13_21 ?_
 refine r_iinc H 29 #[vR a1, vR a2, vI 17] 17 d_j43_13_26 ?_
 refine r_goto H 9 d_j43_13_29 ?_
 refine r_iloadN H 10 d_j43_13_9 ?_
 refine r_aloadN H 11 d_j43_13_10 ?_
 refine r_alen H 12 31 d_j43_13_11 A_a1 ?_
 refine r_icmpgeF H 15 d_j43_13_12 ?_
 refine r_aloadN H 16 d_j43_13_15 ?_
 refine r_iloadN H 17 d_j43_13_16 ?_
 refine r_baload H 18 100 d_j43_13_17 A_a1 ?_
 refine r_aloadN H 19 d_j43_13_18 ?_
 refine r_iloadN H 20 d_j43_13_19 ?_
 refine r_baload H 21 100 d_j43_13_20 A_a2 ?_
 refine r_icmpeqT H 26 d_j43_13_21 ?_
 refine r_iinc H 29 #[vR a1, vR a2, vI 18] 18 d_j43_13_26 ?_
 refine r_goto H 9 d_j43_13_29 ?_
 refine r_iloadN H 10 d_j43_13_9 ?_
 refine r_aloadN H 11 d_j43_13_10 ?_
 refine r_alen H 12 31 d_j43_13_11 A_a1 ?_
 refine r_icmpgeF H 15 d_j43_13_12 ?_
 refine r_aloadN H 16 d_j43_13_15 ?_
 refine r_iloadN H 17 d_j43_13_16 ?_
 refine r_baload H 18 44 d_j43_13_17 A_a1 ?_
 refine r_aloadN H 19 d_j43_13_18 ?_
 refine r_iloadN H 20 d_j43_13_19 ?_
 refine r_baload H 21 44 d_j43_13_20 A_a2 ?_
 refine r_icmpeqT H 26 d_j43_13_21 ?_
 refine r_iinc H 29 #[vR a1, vR a2, vI 19] 19 d_j43_13_26 ?_
 refine r_goto H 9 d_j43_13_29 ?_
 refine r_iloadN H 10 d_j43_13_9 ?_
 refine r_aloadN H 11 d_j43_13_10 ?_
 refine r_alen H 12 31 d_j43_13_11 A_a1 ?_
 refine r_icmpgeF H 15 d_j43_13_12 ?_
 refine r_aloadN H 16 d_j43_13_15 ?_
 refine r_iloadN H 17 d_j43_13_16 ?_
 refine r_baload H 18 32 d_j43_13_17 A_a1 ?_
 refine r_aloadN H 19 d_j43_13_18 ?_
 refine r_iloadN H 20 d_j43_13_19 ?_
 refine r_baload H 21 32 d_j43_13_20 A_a2 ?_
 refine r_icmpeqT H 26 d_j43_13_21 ?_
 refine r_iinc H 29 #[vR a1, vR a2, vI 20] 20 d_j43_13_26 ?_
 refine r_goto H 9 d_j43_13_29 ?_
 refine r_iloadN H 10 d_j43_13_9 ?_
 refine r_aloadN H 11 d_j43_13_10 ?_
 refine r_alen H 12 31 d_j43_13_11 A_a1 ?_
 refine r_icmpgeF H 15 d_j43_13_12 ?_
 refine r_aloadN H 16 d_j43_13_15 ?_
 refine r_iloadN H 17 d_j43_13_16 ?_
 refine r_baload H 18 i1 d_j43_13_17 A_a1 ?_
 refine r_aloadN H 19 d_j43_13_18 ?_
 refine r_iloadN H 20 d_j43_13_19 ?_
 refine r_baload H 21 i1 d_j43_13_20 A_a2 ?_
 refine r_icmpeqT (c := rfl) H 26 d_j43_13_21 ?_
 refine r_iinc H 29 #[vR a1, vR a2, vI 21] 21 d_j43_13_26 ?_
 refine r_goto H 9 d_j43_13_29 ?_
 refine r_iloadN H 10 d_j43_13_9 ?_
 refine r_aloadN H 11 d_j43_13_10 ?_
 refine r_alen H 12 31 d_j43_13_11 A_a1 ?_
 refine r_icmpgeF H 15 d_j43_13_12 ?_
 refine r_aloadN H 16 d_j43_13_15 ?_
 refine r_iloadN H 17 d_j43_13_16 ?_
 refine r_baload H 18 32 d_j43_13_17 A_a1 ?_
 refine r_aloadN H 19 d_j43_13_18 ?_
 refine r_iloadN H 20 d_j43_13_19 ?_
 refine r_baload H 21 32 d_j43_13_20 A_a2 ?_
 refine r_icmpeqT H 26 d_j43_13_21 ?_
 refine r_iinc H 29 #[vR a1, vR a2, vI 22] 22 d_j43_13_26 ?_
 refine r_goto H 9 d_j43_13_29 ?_
 refine r_iloadN H 10 d_j43_13_9 ?_
 refine r_aloadN H 11 d_j43_13_10 ?_
 refine r_alen H 12 31 d_j43_13_11 A_a1 ?_
 refine r_icmpgeF H 15 d_j43_13_12 ?_
 refine r_aloadN H 16 d_j43_13_15 ?_
 refine r_iloadN H 17 d_j43_13_16 ?_
 refine r_baload H 18 114 d_j43_13_17 A_a1 ?_
 refine r_aloadN H 19 d_j43_13_18 ?_
 refine r_iloadN H 20 d_j43_13_19 ?_
 refine r_baload H 21 114 d_j43_13_20 A_a2 ?_
 refine r_icmpeqT H 26 d_j43_13_21 ?_
 refine r_iinc H 29 #[vR a1, vR a2, vI 23] 23 d_j43_13_26 ?_
 refine r_goto H 9 d_j43_13_29 ?_
 refine r_iloadN H 10 d_j43_13_9 ?_
 refine r_aloadN H 11 d_j43_13_10 ?_
 refine r_alen H 12 31 d_j43_13_11 A_a1 ?_
 refine r_icmpgeF H 15 d_j43_13_12 ?_
 refine r_aloadN H 16 d_j43_13_15 ?_
 refine r_iloadN H 17 d_j43_13_16 ?_
 refine r_baload H 18 101 d_j43_13_17 A_a1 ?_
 refine r_aloadN H 19 d_j43_13_18 ?_
 refine r_iloadN H 20 d_j43_13_19 ?_
 refine r_baload H 21 101 d_j43_13_20 A_a2 ?_
 refine r_icmpeqT H 26 d_j43_13_21 ?_
 refine r_iinc H 29 #[vR a1, vR a2, vI 24] 24 d_j43_13_26 ?_
 refine r_goto H 9 d_j43_13_29 ?_
 refine r_iloadN H 10 d_j43_13_9 ?_
 refine r_aloadN H 11 d_j43_13_10 ?_
 refine r_alen H 12 31 d_j43_13_11 A_a1 ?_
 refine r_icmpgeF H 15 d_j43_13_12 ?_
 refine r_aloadN H 16 d_j43_13_15 ?_
 refine r_iloadN H 17 d_j43_13_16 ?_
 refine r_baload H 18 99 d_j43_13_17 A_a1 ?_
 refine r_aloadN H 19 d_j43_13_18 ?_
 refine r_iloadN H 20 d_j43_13_19 ?_
 refine r_baload H 21 99 d_j43_13_20 A_a2 ?_
 refine r_icmpeqT H 26 d_j43_13_21 ?_
 refine r_iinc H 29 #[vR a1, vR a2, vI 25] 25 d_j43_13_26 ?_
 refine r_goto H 9 d_j43_13_29 ?_
 refine r_iloadN H 10 d_j43_13_9 ?_
 refine r_aloadN H 11 d_j43_13_10 ?_
 refine r_alen H 12 31 d_j43_13_11 A_a1 ?_
 refine r_icmpgeF H 15 d_j43_13_12 ?_
 refine r_aloadN H 16 d_j43_13_15 ?_
 refine r_iloadN H 17 d_j43_13_16 ?_
 refine r_baload H 18 111 d_j43_13_17 A_a1 ?_
 refine r_aloadN H 19 d_j43_13_18 ?_
 refine r_iloadN H 20 d_j43_13_19 ?_
 refine r_baload H 21 111 d_j43_13_20 A_a2 ?_
 refine r_icmpeqT H 26 d_j43_13_21 ?_
 refine r_iinc H 29 #[vR a1, vR a2, vI 26] 26 d_j43_13_26 ?_
 refine r_goto H 9 d_j43_13_29 ?_
 refine r_iloadN H 10 d_j43_13_9 ?_
 refine r_aloadN H 11 d_j43_13_10 ?_
 refine r_alen H 12 31 d_j43_13_11 A_a1 ?_
 refine r_icmpgeF H 15 d_j43_13_12 ?_
 refine r_aloadN H 16 d_j43_13_15 ?_
 refine r_iloadN H 17 d_j43_13_16 ?_
 refine r_baload H 18 114 d_j43_13_17 A_a1 ?_
 refine r_aloadN H 19 d_j43_13_18 ?_
 refine r_iloadN H 20 d_j43_13_19 ?_
 refine r_baload H 21 114 d_j43_13_20 A_a2 ?_
 refine r_icmpeqT H 26 d_j43_13_21 ?_
 refine r_iinc H 29 #[vR a1, vR a2, vI 27] 27 d_j43_13_26 ?_
 refine r_goto H 9 d_j43_13_29 ?_
 refine r_iloadN H 10 d_j43_13_9 ?_
 refine r_aloadN H 11 d_j43_13_10 ?_
 refine r_alen H 12 31 d_j43_13_11 A_a1 ?_
 refine r_icmpgeF H 15 d_j43_13_12 ?_
 refine r_aloadN H 16 d_j43_13_15 ?_
 refine r_iloadN H 17 d_j43_13_16 ?_
 refine r_baload H 18 100 d_j43_13_17 A_a1 ?_
 refine r_aloadN H 19 d_j43_13_18 ?_
 refine r_iloadN H 20 d_j43_13_19 ?_
 refine r_baload H 21 100 d_j43_13_20 A_a2 ?_
 refine r_icmpeqT H 26 d_j43_13_21 ?_
 refine r_iinc H 29 #[vR a1, vR a2, vI 28] 28 d_j43_13_26 ?_
 refine r_goto H 9 d_j43_13_29 ?_
 refine r_iloadN H 10 d_j43_13_9 ?_
 refine r_aloadN H 11 d_j43_13_10 ?_
 refine r_alen H 12 31 d_j43_13_11 A_a1 ?_
 refine r_icmpgeF H 15 d_j43_13_12 ?_
 refine r_aloadN H 16 d_j43_13_15 ?_
 refine r_iloadN H 17 d_j43_13_16 ?_
 refine r_baload H 18 101 d_j43_13_17 A_a1 ?_
 refine r_aloadN H 19 d_j43_13_18 ?_
 refine r_iloadN H 20 d_j43_13_19 ?_
 refine r_baload H 21 101 d_j43_13_20 A_a2 ?_
 refine r_icmpeqT H 26 d_j43_13_21 ?_
 refine r_iinc H 29 #[vR a1, vR a2, vI 29] 29 d_j43_13_26 ?_
 refine r_goto H 9 d_j43_13_29 ?_
 refine r_iloadN H 10 d_j43_13_9 ?_
 refine r_aloadN H 11 d_j43_13_10 ?_
 refine r_alen H 12 31 d_j43_13_11 A_a1 ?_
 refine r_icmpgeF H 15 d_j43_13_12 ?_
 refine r_aloadN H 16 d_j43_13_15 ?_
 refine r_iloadN H 17 d_j43_13_16 ?_
 refine r_baload H 18 100 d_j43_13_17 A_a1 ?_
 refine r_aloadN H 19 d_j43_13_18 ?_
 refine r_iloadN H 20 d_j43_13_19 ?_
 refine r_baload H 21 100 d_j43_13_20 A_a2 ?_
 refine r_icmpeqT H 26 d_j43_13_21 ?_
 refine r_iinc H 29 #[vR a1, vR a2, vI 30] 30 d_j43_13_26 ?_
 refine r_goto H 9 d_j43_13_29 ?_
 refine r_iloadN H 10 d_j43_13_9 ?_
 refine r_aloadN H 11 d_j43_13_10 ?_
 refine r_alen H 12 31 d_j43_13_11 A_a1 ?_
 refine r_icmpgeF H 15 d_j43_13_12 ?_
 refine r_aloadN H 16 d_j43_13_15 ?_
 refine r_iloadN H 17 d_j43_13_16 ?_
 refine r_baload H 18 46 d_j43_13_17 A_a1 ?_
 refine r_aloadN H 19 d_j43_13_18 ?_
 refine r_iloadN H 20 d_j43_13_19 ?_
 refine r_baload H 21 46 d_j43_13_20 A_a2 ?_
 refine r_icmpeqT H 26 d_j43_13_21 ?_
 refine r_iinc H 29 #[vR a1, vR a2, vI 31] 31 d_j43_13_26 ?_
 refine r_goto H 9 d_j43_13_29 ?_
 refine r_iloadN H 10 d_j43_13_9 ?_
 refine r_aloadN H 11 d_j43_13_10 ?_
 refine r_alen H 12 31 d_j43_13_11 A_a1 ?_
 refine r_icmpgeT H 32 d_j43_13_12 ?_
 refine r_iconst H 33 1 d_j43_13_32 ?_
 exact r_nreturn (1 : Int32) H d_j43_13_33 (⟨rfl, rfl⟩)
def Q_equals_109 (Z : State) (h0 : Heap) (v : Option Value) (h : Heap) : Prop := v = some (.int 1) ∧ h0 = h
def R_equals_109 : Room := { frames := 1, cells := 0, slots := 0, locals := 14 }
theorem rm_equals_109 {w : Bool} {Z : State} {a0 : Array Value} (hw : HW a0 Z) (Ts : List String) (a1 : Addr) (a2 : Addr) (a3 : Addr) (a4 : Addr) (i1 : Int32) (c1 : ClassId) (c2 : ClassId) (cs : Int32) (h0 : Heap) (f : Nat) (Zf : Z.heap.size ≤ f) (Z0 : f ≤ h0.size) (F_value_a1 : Fld Z h0 a1 "java/lang/String" "value" "[B" (.ref a3)) (F_value_a2 : Fld Z h0 a2 "java/lang/String" "value" "[B" (.ref a4)) (A_a3 : Ar Z h0 a3 c1 .byte [.int 49, .int 32, .int 109, .int 97, .int 116, .int 99, .int 104, .int 101, .int 114, .int 32, .int 101, .int 120, .int 112, .int 101, .int 99, .int 116, .int 101, .int 100, .int 44, .int 32, .int i1, .int 32, .int 114, .int 101, .int 99, .int 111, .int 114, .int 100, .int 101, .int 100, .int 46]) (A_a4 : Ar Z h0 a4 c2 .byte [.int 49, .int 32, .int 109, .int 97, .int 116, .int 99, .int 104, .int 101, .int 114, .int 32, .int 101, .int 120, .int 112, .int 101, .int 99, .int 116, .int 101, .int 100, .int 44, .int 32, .int i1, .int 32, .int 114, .int 101, .int 99, .int 111, .int 114, .int 100, .int 101, .int 100, .int 46]) (E_a2 : Exa Z h0 a2 "java/lang/String") (F_coder_a1 : Fld Z h0 a1 "java/lang/String" "coder" "B" (.int 0)) (F_coder_a2 : Fld Z h0 a2 "java/lang/String" "coder" "B" (.int 0)) (S_cs : G_S_cs Z cs) (hcs : ¬ cs = 0) :
  Con w [] Z mn36 jdk_42_method_66_code 3 (some .boolean) R_equals_109 Ts Ts f #[.ref a1, .ref a2] h0 (Q_equals_109 Z h0) := by
 refine con_of f #[vR a1, vR a2, .unset] (plainFor_of_name pn_3) (fun m => rfl) Zf ?_
 intro C H hX0
 refine r_aloadN H 1 d_j42_66_0 ?_
 refine r_aloadN H 2 d_j42_66_1 ?_
 by_cases hab1 : a1 = a2
 ·
  refine r_acmp H 5 true d_j42_66_2 (decide_eq_true (congrArg Value.ref hab1)) ?_
  refine r_iconst H 6 1 d_j42_66_5 ?_
  exact r_nreturn (1 : Int32) H d_j42_66_6 (⟨rfl, rfl⟩)
 ·
  refine r_acmp H 7 false d_j42_66_2 (decide_eq_false fun q => hab1 (Value.ref.inj q)) ?_
  refine r_aloadN H 8 d_j42_66_7 ?_
  refine r_instY H 11 d_j42_66_8 (tw190 hw) (Ins.self E_a2) ?_
  refine r_ifeqF H 14 d_j42_66_11 (by decide) ?_
  refine r_aloadN H 15 d_j42_66_14 ?_
  refine r_castY H 18 d_j42_66_15 (tw190 hw) (Ins.self E_a2) ?_
  refine r_astoreN H 19 #[vR a1, vR a2, vR a2] d_j42_66_18 ?_
  refine r_gets H 22 d_j42_66_19 (tw83 hw) S_cs ?_
  refine r_ifeqF H 25 d_j42_66_22 hcs ?_
  refine r_aloadN H 26 d_j42_66_25 ?_
  refine r_getf H 29 d_j42_66_26 (tw84 hw) F_coder_a1 ?_
  refine r_aloadN H 30 d_j42_66_29 ?_
  refine r_getf H 33 d_j42_66_30 (tw84 hw) F_coder_a2 ?_
  refine r_icmpneF H 36 d_j42_66_33 rfl (by decide) ?_
  refine r_aloadN H 37 d_j42_66_36 ?_
  refine r_getf H 40 d_j42_66_37 (tw77 hw) F_value_a1 ?_
  refine r_aloadN H 41 d_j42_66_40 ?_
  refine r_getf H 44 d_j42_66_41 (tw77 hw) F_value_a2 ?_
  refine r_static (argsL := [.ref a3, .ref a4]) (rest := []) (W := 0) H 47 d_j42_66_44 (tw191 hw) (tw192 hw) (tw193 hw) (tw194 hw) (lenOf pd_29 rfl) (rm_equals_110 hw Ts a3 a4 i1 c1 c2 h0 f Zf Z0 A_a3 A_a4) ?_
  rintro _ _ ⟨rfl, rfl⟩
  refine r_ifeqF H 50 d_j42_66_47 (by decide) ?_
  refine r_iconst H 51 1 d_j42_66_50 ?_
  refine r_goto H 55 d_j42_66_51 ?_
  exact r_nreturn (1 : Int32) H d_j42_66_55 (⟨rfl, rfl⟩)

set_option maxRecDepth 65536 in
set_option maxHeartbeats 40000000 in
theorem rm_law {Z : State} {a0 : Array Value} (hw : ∀ d ∈ tables_1, d.before a0 Z = true) (Ts : List String) (hTs : Ts = []) (x0 : Int32) (x1 : Int32) (cs : Int32) (gDigitOnes : Addr) (kDigitOnes : ClassId) (h0 : Heap) (f : Nat) (Zf : Z.heap.size ≤ f) (Z0 : f ≤ h0.size) (S_cs : Sta Z Z.heap "java/lang/String" "COMPACT_STRINGS" "Z" (.int cs)) (S_DigitOnes : Sta Z Z.heap "java/lang/Integer" "DigitOnes" "[B" (.ref gDigitOnes)) (A_DigitOnes : Ar Z Z.heap gDigitOnes kDigitOnes .byte own_DigitOnes) (wS : ∀ a ∈ Bundle.stringAtoms, a.before a0 Z = true) (hcw : Jvm.Lit.compactW.before a0 Z = true) (hh1 : Jvm.Lit.constHeld Z "com/example/faithful_doubles/faithfuldoubles/doubles/ArgumentMatcher" 66) (hh0 : Jvm.Lit.constHeld Z "com/example/faithful_doubles/faithfuldoubles/doubles/ArgumentMatcher" 57) (hh2 : Jvm.Lit.constHeld Z "com/example/faithful_doubles/faithfuldoubles/doubles/ArgumentMatcher" 75) (hh3 : Jvm.Lit.constHeld Z "com/example/faithful_doubles/faithfuldoubles/doubles/ArgumentMatcher" 77) (hcs : ¬ cs = 0) :
  Con true tables_1 Z x code maxLocals ret room_1 Ts (" matchers" :: "1 matcher" :: " expected, " :: " recorded." :: Ts) f #[.int x0, .int x1] h0 (fun v _ => v = some (.int 1)) := by
 have hT__20_matchers : " matchers" ∉ Ts := by rw [hTs]; exact List.not_mem_nil
 have hT_1_20_matcher : "1 matcher" ∉ Ts := by rw [hTs]; exact List.not_mem_nil
 have hT__20_expected_2c__20_ : " expected, " ∉ Ts := by rw [hTs]; exact List.not_mem_nil
 have hT__20_recorded_2e_ : " recorded." ∉ Ts := by rw [hTs]; exact List.not_mem_nil
 refine con_of h0.size #[vI x0, vI x1, .unset, .unset, .unset, .unset, .unset, .unset] (plainFor_of_name pn_9) (fun m => by first | rfl | (simp [entryFrame, mkF, argsToLocals, Value.category, maxLocals]; done)) (nlt Zf Z0) ?_
 intro C H hX0
 refine r_iloadN H 1 at_0 ?_
 refine r_ldcI H 3 at_1 (tw0 hw) ?_
 obtain ⟨p1, ep1, rp1⟩ : ∃ p : Int32, (x0 &&& (2147483647 : Int32)) = p ∧ 0 ≤ p.toInt ∧ p.toInt ≤ 2147483647 := ⟨_, rfl, (by have h := c_and x0 (2147483647 : Int32) (by decide); have : (2147483647 : Int32).toInt = 2147483647 := (by decide); omega)⟩
 refine r_iand H 4 p1 at_3 ep1 ?_
 refine r_bipush H 6 10 at_4 ?_
 obtain ⟨p2, ep2, rp2⟩ : ∃ p : Int32, (p1 % (10 : Int32)) = p ∧ 0 ≤ p.toInt ∧ p.toInt ≤ 9 := ⟨_, rfl, (by have := rp1; have h := (c_irem p1 (10 : Int32) 10 (by decide)).1 (by omega); omega)⟩
 refine r_irem H 7 p2 at_6 ep2 ?_
 refine r_istoreN H 8 #[vI x0, vI x1, vI p2, .unset, .unset, .unset, .unset, .unset] at_7 ?_
 refine r_iloadN H 9 at_8 ?_
 refine r_ldcI H 11 at_9 (tw0 hw) ?_
 obtain ⟨p3, ep3, rp3⟩ : ∃ p : Int32, (x1 &&& (2147483647 : Int32)) = p ∧ 0 ≤ p.toInt ∧ p.toInt ≤ 2147483647 := ⟨_, rfl, (by have h := c_and x1 (2147483647 : Int32) (by decide); have : (2147483647 : Int32).toInt = 2147483647 := (by decide); omega)⟩
 refine r_iand H 12 p3 at_11 ep3 ?_
 refine r_bipush H 14 10 at_12 ?_
 obtain ⟨p4, ep4, rp4⟩ : ∃ p : Int32, (p3 % (10 : Int32)) = p ∧ 0 ≤ p.toInt ∧ p.toInt ≤ 9 := ⟨_, rfl, (by have := rp3; have h := (c_irem p3 (10 : Int32) 10 (by decide)).1 (by omega); omega)⟩
 refine r_irem H 15 p4 at_14 ep4 ?_
 refine r_istoreN H 16 #[vI x0, vI x1, vI p2, vI p4, .unset, .unset, .unset, .unset] at_15 ?_
 refine r_bipush H 18 48 at_16 ?_
 refine r_iloadN H 19 at_18 ?_
 obtain ⟨p5, ep5, rp5⟩ : ∃ p : Int32, ((48 : Int32) + p2) = p ∧ 48 ≤ p.toInt ∧ p.toInt ≤ 57 := ⟨_, rfl, (by have : (48 : Int32).toInt = 48 := (by decide); have := rp2; have h1 := c_iadd (48 : Int32) p2; have h2 := rng32 ((48 : Int32) + p2); omega)⟩
 refine r_iadd (hz := ep5) H 20 p5 at_19 ?_
 refine r_i2c H 21 p5 at_20 (i2c_id (by have := rp5; omega)) ?_
 refine r_istore H 23 #[vI x0, vI x1, vI p2, vI p4, vI p5, .unset, .unset, .unset] at_21 ?_
 refine r_bipush H 25 48 at_23 ?_
 refine r_iloadN H 26 at_25 ?_
 obtain ⟨p6, ep6, rp6⟩ : ∃ p : Int32, ((48 : Int32) + p4) = p ∧ 48 ≤ p.toInt ∧ p.toInt ≤ 57 := ⟨_, rfl, (by have : (48 : Int32).toInt = 48 := (by decide); have := rp4; have h1 := c_iadd (48 : Int32) p4; have h2 := rng32 ((48 : Int32) + p4); omega)⟩
 refine r_iadd (hz := ep6) H 27 p6 at_26 ?_
 refine r_i2c H 28 p6 at_27 (i2c_id (by have := rp6; omega)) ?_
 refine r_istore H 30 #[vI x0, vI x1, vI p2, vI p4, vI p5, vI p6, .unset, .unset] at_28 ?_
 refine r_iloadN H 31 at_30 ?_
 refine r_iloadN H 32 at_31 ?_
 refine r_static (argsL := [.int p2, .int p4]) (rest := []) (W := 0) H 35 at_32 (tw1 hw) (tw2 hw) (tw3 hw) (tw4 hw) (lenOf pd_23 rfl) (rm_counted_1 hw Ts p2 p4 cs gDigitOnes kDigitOnes h0 h0.size (nlt Zf Z0) nlr rp2 rp4 S_cs S_DigitOnes A_DigitOnes wS hcw hh1 hh0 hh2 hh3 hT__20_matchers hT_1_20_matcher hT__20_expected_2c__20_ hT__20_recorded_2e_ hcs) ?_
 rintro _ hh33 (⟨b7, b8, kc9, rfl, c11, K10, g12, g13, g14, q15, q16, q17, q18, q19⟩ | ⟨b20, b21, kc22, rfl, c24, K23, g25, g26, g27, q28, q29, q30, q31, q32⟩)
 ·
  rw [ep5] at q18
  rw [ep6] at q18
  refine r_astore H 37 #[vI x0, vI x1, vI p2, vI p4, vI p5, vI p6, vR b7, .unset] at_35 ?_
  refine r_iloadN H 38 at_37 ?_
  refine r_iconst H 39 1 at_38 ?_
  refine r_icmpneT H 238 at_39 (by decide) (by decide) c11 ?_
  refine r_new H 241 at_238 (tw167 hw) (tw58 hw) (tw21 hw) ?_
  intro h34 b34 g34 l34 K34 E34 D34
  refine r_dup H 242 at_241 ?_
  refine r_bipush H 244 32 at_242 ?_
  refine r_newP H 246 "[C" 32 at_244 (tw168 hw) ?_
  intro h35 b35 kc35 g35 l35 K35 E35 A35
  change Ar Z h35 b35 kc35 .char [.int 0, .int 0, .int 0, .int 0, .int 0, .int 0, .int 0, .int 0, .int 0, .int 0, .int 0, .int 0, .int 0, .int 0, .int 0, .int 0, .int 0, .int 0, .int 0, .int 0, .int 0, .int 0, .int 0, .int 0, .int 0, .int 0, .int 0, .int 0, .int 0, .int 0, .int 0, .int 0] at A35
  refine r_dup H 247 at_246 ?_
  refine r_iconst H 248 0 at_247 ?_
  refine r_iload H 250 at_248 ?_
  have z37 := Nat.le_trans K10.1 K34.1
  refine r_castore (hy := (nar_char_id (by have := rp5; omega))) H 251 p5 at_250 A35 (nlt z37 (Nat.le_of_eq g35.symm)) ?_
  intro h36 K36 A36
  change Ar Z h36 b35 kc35 .char [.int p5, .int 0, .int 0, .int 0, .int 0, .int 0, .int 0, .int 0, .int 0, .int 0, .int 0, .int 0, .int 0, .int 0, .int 0, .int 0, .int 0, .int 0, .int 0, .int 0, .int 0, .int 0, .int 0, .int 0, .int 0, .int 0, .int 0, .int 0, .int 0, .int 0, .int 0, .int 0] at A36
  refine r_dup H 252 at_251 ?_
  refine r_iconst H 253 1 at_252 ?_
  refine r_bipush H 255 32 at_253 ?_
  refine r_castore H 256 32 at_255 A36 (nlt z37 (Nat.le_of_eq g35.symm)) ?_
  intro h38 K38 A38
  have q39 := (E35.keep K36)
  change Ar Z h38 b35 kc35 .char [.int p5, .int 32, .int 0, .int 0, .int 0, .int 0, .int 0, .int 0, .int 0, .int 0, .int 0, .int 0, .int 0, .int 0, .int 0, .int 0, .int 0, .int 0, .int 0, .int 0, .int 0, .int 0, .int 0, .int 0, .int 0, .int 0, .int 0, .int 0, .int 0, .int 0, .int 0, .int 0] at A38
  refine r_dup H 257 at_256 ?_
  refine r_iconst H 258 2 at_257 ?_
  refine r_bipush H 260 109 at_258 ?_
  refine r_castore H 261 109 at_260 A38 (nlt z37 (Nat.le_of_eq g35.symm)) ?_
  intro h40 K40 A40
  have q41 := (q39.keep K38)
  change Ar Z h40 b35 kc35 .char [.int p5, .int 32, .int 109, .int 0, .int 0, .int 0, .int 0, .int 0, .int 0, .int 0, .int 0, .int 0, .int 0, .int 0, .int 0, .int 0, .int 0, .int 0, .int 0, .int 0, .int 0, .int 0, .int 0, .int 0, .int 0, .int 0, .int 0, .int 0, .int 0, .int 0, .int 0, .int 0] at A40
  refine r_dup H 262 at_261 ?_
  refine r_iconst H 263 3 at_262 ?_
  refine r_bipush H 265 97 at_263 ?_
  refine r_castore H 266 97 at_265 A40 (nlt z37 (Nat.le_of_eq g35.symm)) ?_
  intro h42 K42 A42
  have q43 := (q41.keep K40)
  change Ar Z h42 b35 kc35 .char [.int p5, .int 32, .int 109, .int 97, .int 0, .int 0, .int 0, .int 0, .int 0, .int 0, .int 0, .int 0, .int 0, .int 0, .int 0, .int 0, .int 0, .int 0, .int 0, .int 0, .int 0, .int 0, .int 0, .int 0, .int 0, .int 0, .int 0, .int 0, .int 0, .int 0, .int 0, .int 0] at A42
  refine r_dup H 267 at_266 ?_
  refine r_iconst H 268 4 at_267 ?_
  refine r_bipush H 270 116 at_268 ?_
  refine r_castore H 271 116 at_270 A42 (nlt z37 (Nat.le_of_eq g35.symm)) ?_
  intro h44 K44 A44
  have q45 := (q43.keep K42)
  change Ar Z h44 b35 kc35 .char [.int p5, .int 32, .int 109, .int 97, .int 116, .int 0, .int 0, .int 0, .int 0, .int 0, .int 0, .int 0, .int 0, .int 0, .int 0, .int 0, .int 0, .int 0, .int 0, .int 0, .int 0, .int 0, .int 0, .int 0, .int 0, .int 0, .int 0, .int 0, .int 0, .int 0, .int 0, .int 0] at A44
  refine r_dup H 272 at_271 ?_
  refine r_iconst H 273 5 at_272 ?_
  refine r_bipush H 275 99 at_273 ?_
  refine r_castore H 276 99 at_275 A44 (nlt z37 (Nat.le_of_eq g35.symm)) ?_
  intro h46 K46 A46
  have q47 := (q45.keep K44)
  change Ar Z h46 b35 kc35 .char [.int p5, .int 32, .int 109, .int 97, .int 116, .int 99, .int 0, .int 0, .int 0, .int 0, .int 0, .int 0, .int 0, .int 0, .int 0, .int 0, .int 0, .int 0, .int 0, .int 0, .int 0, .int 0, .int 0, .int 0, .int 0, .int 0, .int 0, .int 0, .int 0, .int 0, .int 0, .int 0] at A46
  refine r_dup H 277 at_276 ?_
  refine r_bipush H 279 6 at_277 ?_
  refine r_bipush H 281 104 at_279 ?_
  refine r_castore H 282 104 at_281 A46 (nlt z37 (Nat.le_of_eq g35.symm)) ?_
  intro h48 K48 A48
  have q49 := (q47.keep K46)
  change Ar Z h48 b35 kc35 .char [.int p5, .int 32, .int 109, .int 97, .int 116, .int 99, .int 104, .int 0, .int 0, .int 0, .int 0, .int 0, .int 0, .int 0, .int 0, .int 0, .int 0, .int 0, .int 0, .int 0, .int 0, .int 0, .int 0, .int 0, .int 0, .int 0, .int 0, .int 0, .int 0, .int 0, .int 0, .int 0] at A48
  refine r_dup H 283 at_282 ?_
  refine r_bipush H 285 7 at_283 ?_
  refine r_bipush H 287 101 at_285 ?_
  refine r_castore H 288 101 at_287 A48 (nlt z37 (Nat.le_of_eq g35.symm)) ?_
  intro h50 K50 A50
  have q51 := (q49.keep K48)
  change Ar Z h50 b35 kc35 .char [.int p5, .int 32, .int 109, .int 97, .int 116, .int 99, .int 104, .int 101, .int 0, .int 0, .int 0, .int 0, .int 0, .int 0, .int 0, .int 0, .int 0, .int 0, .int 0, .int 0, .int 0, .int 0, .int 0, .int 0, .int 0, .int 0, .int 0, .int 0, .int 0, .int 0, .int 0, .int 0] at A50
  refine r_dup H 289 at_288 ?_
  refine r_bipush H 291 8 at_289 ?_
  refine r_bipush H 293 114 at_291 ?_
  refine r_castore H 294 114 at_293 A50 (nlt z37 (Nat.le_of_eq g35.symm)) ?_
  intro h52 K52 A52
  have q53 := (q51.keep K50)
  change Ar Z h52 b35 kc35 .char [.int p5, .int 32, .int 109, .int 97, .int 116, .int 99, .int 104, .int 101, .int 114, .int 0, .int 0, .int 0, .int 0, .int 0, .int 0, .int 0, .int 0, .int 0, .int 0, .int 0, .int 0, .int 0, .int 0, .int 0, .int 0, .int 0, .int 0, .int 0, .int 0, .int 0, .int 0, .int 0] at A52
  refine r_dup H 295 at_294 ?_
  refine r_bipush H 297 9 at_295 ?_
  refine r_bipush H 299 115 at_297 ?_
  refine r_castore H 300 115 at_299 A52 (nlt z37 (Nat.le_of_eq g35.symm)) ?_
  intro h54 K54 A54
  have q55 := (q53.keep K52)
  change Ar Z h54 b35 kc35 .char [.int p5, .int 32, .int 109, .int 97, .int 116, .int 99, .int 104, .int 101, .int 114, .int 115, .int 0, .int 0, .int 0, .int 0, .int 0, .int 0, .int 0, .int 0, .int 0, .int 0, .int 0, .int 0, .int 0, .int 0, .int 0, .int 0, .int 0, .int 0, .int 0, .int 0, .int 0, .int 0] at A54
  refine r_dup H 301 at_300 ?_
  refine r_bipush H 303 10 at_301 ?_
  refine r_bipush H 305 32 at_303 ?_
  refine r_castore H 306 32 at_305 A54 (nlt z37 (Nat.le_of_eq g35.symm)) ?_
  intro h56 K56 A56
  have q57 := (q55.keep K54)
  change Ar Z h56 b35 kc35 .char [.int p5, .int 32, .int 109, .int 97, .int 116, .int 99, .int 104, .int 101, .int 114, .int 115, .int 32, .int 0, .int 0, .int 0, .int 0, .int 0, .int 0, .int 0, .int 0, .int 0, .int 0, .int 0, .int 0, .int 0, .int 0, .int 0, .int 0, .int 0, .int 0, .int 0, .int 0, .int 0] at A56
  refine r_dup H 307 at_306 ?_
  refine r_bipush H 309 11 at_307 ?_
  refine r_bipush H 311 101 at_309 ?_
  refine r_castore H 312 101 at_311 A56 (nlt z37 (Nat.le_of_eq g35.symm)) ?_
  intro h58 K58 A58
  have q59 := (q57.keep K56)
  change Ar Z h58 b35 kc35 .char [.int p5, .int 32, .int 109, .int 97, .int 116, .int 99, .int 104, .int 101, .int 114, .int 115, .int 32, .int 101, .int 0, .int 0, .int 0, .int 0, .int 0, .int 0, .int 0, .int 0, .int 0, .int 0, .int 0, .int 0, .int 0, .int 0, .int 0, .int 0, .int 0, .int 0, .int 0, .int 0] at A58
  refine r_dup H 313 at_312 ?_
  refine r_bipush H 315 12 at_313 ?_
  refine r_bipush H 317 120 at_315 ?_
  refine r_castore H 318 120 at_317 A58 (nlt z37 (Nat.le_of_eq g35.symm)) ?_
  intro h60 K60 A60
  have q61 := (q59.keep K58)
  change Ar Z h60 b35 kc35 .char [.int p5, .int 32, .int 109, .int 97, .int 116, .int 99, .int 104, .int 101, .int 114, .int 115, .int 32, .int 101, .int 120, .int 0, .int 0, .int 0, .int 0, .int 0, .int 0, .int 0, .int 0, .int 0, .int 0, .int 0, .int 0, .int 0, .int 0, .int 0, .int 0, .int 0, .int 0, .int 0] at A60
  refine r_dup H 319 at_318 ?_
  refine r_bipush H 321 13 at_319 ?_
  refine r_bipush H 323 112 at_321 ?_
  refine r_castore H 324 112 at_323 A60 (nlt z37 (Nat.le_of_eq g35.symm)) ?_
  intro h62 K62 A62
  have q63 := (q61.keep K60)
  change Ar Z h62 b35 kc35 .char [.int p5, .int 32, .int 109, .int 97, .int 116, .int 99, .int 104, .int 101, .int 114, .int 115, .int 32, .int 101, .int 120, .int 112, .int 0, .int 0, .int 0, .int 0, .int 0, .int 0, .int 0, .int 0, .int 0, .int 0, .int 0, .int 0, .int 0, .int 0, .int 0, .int 0, .int 0, .int 0] at A62
  refine r_dup H 325 at_324 ?_
  refine r_bipush H 327 14 at_325 ?_
  refine r_bipush H 329 101 at_327 ?_
  refine r_castore H 330 101 at_329 A62 (nlt z37 (Nat.le_of_eq g35.symm)) ?_
  intro h64 K64 A64
  have q65 := (q63.keep K62)
  change Ar Z h64 b35 kc35 .char [.int p5, .int 32, .int 109, .int 97, .int 116, .int 99, .int 104, .int 101, .int 114, .int 115, .int 32, .int 101, .int 120, .int 112, .int 101, .int 0, .int 0, .int 0, .int 0, .int 0, .int 0, .int 0, .int 0, .int 0, .int 0, .int 0, .int 0, .int 0, .int 0, .int 0, .int 0, .int 0] at A64
  refine r_dup H 331 at_330 ?_
  refine r_bipush H 333 15 at_331 ?_
  refine r_bipush H 335 99 at_333 ?_
  refine r_castore H 336 99 at_335 A64 (nlt z37 (Nat.le_of_eq g35.symm)) ?_
  intro h66 K66 A66
  have q67 := (q65.keep K64)
  change Ar Z h66 b35 kc35 .char [.int p5, .int 32, .int 109, .int 97, .int 116, .int 99, .int 104, .int 101, .int 114, .int 115, .int 32, .int 101, .int 120, .int 112, .int 101, .int 99, .int 0, .int 0, .int 0, .int 0, .int 0, .int 0, .int 0, .int 0, .int 0, .int 0, .int 0, .int 0, .int 0, .int 0, .int 0, .int 0] at A66
  refine r_dup H 337 at_336 ?_
  refine r_bipush H 339 16 at_337 ?_
  refine r_bipush H 341 116 at_339 ?_
  refine r_castore H 342 116 at_341 A66 (nlt z37 (Nat.le_of_eq g35.symm)) ?_
  intro h68 K68 A68
  have q69 := (q67.keep K66)
  change Ar Z h68 b35 kc35 .char [.int p5, .int 32, .int 109, .int 97, .int 116, .int 99, .int 104, .int 101, .int 114, .int 115, .int 32, .int 101, .int 120, .int 112, .int 101, .int 99, .int 116, .int 0, .int 0, .int 0, .int 0, .int 0, .int 0, .int 0, .int 0, .int 0, .int 0, .int 0, .int 0, .int 0, .int 0, .int 0] at A68
  refine r_dup H 343 at_342 ?_
  refine r_bipush H 345 17 at_343 ?_
  refine r_bipush H 347 101 at_345 ?_
  refine r_castore H 348 101 at_347 A68 (nlt z37 (Nat.le_of_eq g35.symm)) ?_
  intro h70 K70 A70
  have q71 := (q69.keep K68)
  change Ar Z h70 b35 kc35 .char [.int p5, .int 32, .int 109, .int 97, .int 116, .int 99, .int 104, .int 101, .int 114, .int 115, .int 32, .int 101, .int 120, .int 112, .int 101, .int 99, .int 116, .int 101, .int 0, .int 0, .int 0, .int 0, .int 0, .int 0, .int 0, .int 0, .int 0, .int 0, .int 0, .int 0, .int 0, .int 0] at A70
  refine r_dup H 349 at_348 ?_
  refine r_bipush H 351 18 at_349 ?_
  refine r_bipush H 353 100 at_351 ?_
  refine r_castore H 354 100 at_353 A70 (nlt z37 (Nat.le_of_eq g35.symm)) ?_
  intro h72 K72 A72
  have q73 := (q71.keep K70)
  change Ar Z h72 b35 kc35 .char [.int p5, .int 32, .int 109, .int 97, .int 116, .int 99, .int 104, .int 101, .int 114, .int 115, .int 32, .int 101, .int 120, .int 112, .int 101, .int 99, .int 116, .int 101, .int 100, .int 0, .int 0, .int 0, .int 0, .int 0, .int 0, .int 0, .int 0, .int 0, .int 0, .int 0, .int 0, .int 0] at A72
  refine r_dup H 355 at_354 ?_
  refine r_bipush H 357 19 at_355 ?_
  refine r_bipush H 359 44 at_357 ?_
  refine r_castore H 360 44 at_359 A72 (nlt z37 (Nat.le_of_eq g35.symm)) ?_
  intro h74 K74 A74
  have q75 := (q73.keep K72)
  change Ar Z h74 b35 kc35 .char [.int p5, .int 32, .int 109, .int 97, .int 116, .int 99, .int 104, .int 101, .int 114, .int 115, .int 32, .int 101, .int 120, .int 112, .int 101, .int 99, .int 116, .int 101, .int 100, .int 44, .int 0, .int 0, .int 0, .int 0, .int 0, .int 0, .int 0, .int 0, .int 0, .int 0, .int 0, .int 0] at A74
  refine r_dup H 361 at_360 ?_
  refine r_bipush H 363 20 at_361 ?_
  refine r_bipush H 365 32 at_363 ?_
  refine r_castore H 366 32 at_365 A74 (nlt z37 (Nat.le_of_eq g35.symm)) ?_
  intro h76 K76 A76
  have q77 := (q75.keep K74)
  change Ar Z h76 b35 kc35 .char [.int p5, .int 32, .int 109, .int 97, .int 116, .int 99, .int 104, .int 101, .int 114, .int 115, .int 32, .int 101, .int 120, .int 112, .int 101, .int 99, .int 116, .int 101, .int 100, .int 44, .int 32, .int 0, .int 0, .int 0, .int 0, .int 0, .int 0, .int 0, .int 0, .int 0, .int 0, .int 0] at A76
  refine r_dup H 367 at_366 ?_
  refine r_bipush H 369 21 at_367 ?_
  refine r_iload H 371 at_369 ?_
  refine r_castore (hy := (nar_char_id (by have := rp6; omega))) H 372 p6 at_371 A76 (nlt z37 (Nat.le_of_eq g35.symm)) ?_
  intro h78 K78 A78
  have q79 := (q77.keep K76)
  change Ar Z h78 b35 kc35 .char [.int p5, .int 32, .int 109, .int 97, .int 116, .int 99, .int 104, .int 101, .int 114, .int 115, .int 32, .int 101, .int 120, .int 112, .int 101, .int 99, .int 116, .int 101, .int 100, .int 44, .int 32, .int p6, .int 0, .int 0, .int 0, .int 0, .int 0, .int 0, .int 0, .int 0, .int 0, .int 0] at A78
  refine r_dup H 373 at_372 ?_
  refine r_bipush H 375 22 at_373 ?_
  refine r_bipush H 377 32 at_375 ?_
  refine r_castore H 378 32 at_377 A78 (nlt z37 (Nat.le_of_eq g35.symm)) ?_
  intro h80 K80 A80
  have q81 := (q79.keep K78)
  change Ar Z h80 b35 kc35 .char [.int p5, .int 32, .int 109, .int 97, .int 116, .int 99, .int 104, .int 101, .int 114, .int 115, .int 32, .int 101, .int 120, .int 112, .int 101, .int 99, .int 116, .int 101, .int 100, .int 44, .int 32, .int p6, .int 32, .int 0, .int 0, .int 0, .int 0, .int 0, .int 0, .int 0, .int 0, .int 0] at A80
  refine r_dup H 379 at_378 ?_
  refine r_bipush H 381 23 at_379 ?_
  refine r_bipush H 383 114 at_381 ?_
  refine r_castore H 384 114 at_383 A80 (nlt z37 (Nat.le_of_eq g35.symm)) ?_
  intro h82 K82 A82
  have q83 := (q81.keep K80)
  change Ar Z h82 b35 kc35 .char [.int p5, .int 32, .int 109, .int 97, .int 116, .int 99, .int 104, .int 101, .int 114, .int 115, .int 32, .int 101, .int 120, .int 112, .int 101, .int 99, .int 116, .int 101, .int 100, .int 44, .int 32, .int p6, .int 32, .int 114, .int 0, .int 0, .int 0, .int 0, .int 0, .int 0, .int 0, .int 0] at A82
  refine r_dup H 385 at_384 ?_
  refine r_bipush H 387 24 at_385 ?_
  refine r_bipush H 389 101 at_387 ?_
  refine r_castore H 390 101 at_389 A82 (nlt z37 (Nat.le_of_eq g35.symm)) ?_
  intro h84 K84 A84
  have q85 := (q83.keep K82)
  change Ar Z h84 b35 kc35 .char [.int p5, .int 32, .int 109, .int 97, .int 116, .int 99, .int 104, .int 101, .int 114, .int 115, .int 32, .int 101, .int 120, .int 112, .int 101, .int 99, .int 116, .int 101, .int 100, .int 44, .int 32, .int p6, .int 32, .int 114, .int 101, .int 0, .int 0, .int 0, .int 0, .int 0, .int 0, .int 0] at A84
  refine r_dup H 391 at_390 ?_
  refine r_bipush H 393 25 at_391 ?_
  refine r_bipush H 395 99 at_393 ?_
  refine r_castore H 396 99 at_395 A84 (nlt z37 (Nat.le_of_eq g35.symm)) ?_
  intro h86 K86 A86
  have q87 := (q85.keep K84)
  change Ar Z h86 b35 kc35 .char [.int p5, .int 32, .int 109, .int 97, .int 116, .int 99, .int 104, .int 101, .int 114, .int 115, .int 32, .int 101, .int 120, .int 112, .int 101, .int 99, .int 116, .int 101, .int 100, .int 44, .int 32, .int p6, .int 32, .int 114, .int 101, .int 99, .int 0, .int 0, .int 0, .int 0, .int 0, .int 0] at A86
  refine r_dup H 397 at_396 ?_
  refine r_bipush H 399 26 at_397 ?_
  refine r_bipush H 401 111 at_399 ?_
  refine r_castore H 402 111 at_401 A86 (nlt z37 (Nat.le_of_eq g35.symm)) ?_
  intro h88 K88 A88
  have q89 := (q87.keep K86)
  change Ar Z h88 b35 kc35 .char [.int p5, .int 32, .int 109, .int 97, .int 116, .int 99, .int 104, .int 101, .int 114, .int 115, .int 32, .int 101, .int 120, .int 112, .int 101, .int 99, .int 116, .int 101, .int 100, .int 44, .int 32, .int p6, .int 32, .int 114, .int 101, .int 99, .int 111, .int 0, .int 0, .int 0, .int 0, .int 0] at A88
  refine r_dup H 403 at_402 ?_
  refine r_bipush H 405 27 at_403 ?_
  refine r_bipush H 407 114 at_405 ?_
  refine r_castore H 408 114 at_407 A88 (nlt z37 (Nat.le_of_eq g35.symm)) ?_
  intro h90 K90 A90
  have q91 := (q89.keep K88)
  change Ar Z h90 b35 kc35 .char [.int p5, .int 32, .int 109, .int 97, .int 116, .int 99, .int 104, .int 101, .int 114, .int 115, .int 32, .int 101, .int 120, .int 112, .int 101, .int 99, .int 116, .int 101, .int 100, .int 44, .int 32, .int p6, .int 32, .int 114, .int 101, .int 99, .int 111, .int 114, .int 0, .int 0, .int 0, .int 0] at A90
  refine r_dup H 409 at_408 ?_
  refine r_bipush H 411 28 at_409 ?_
  refine r_bipush H 413 100 at_411 ?_
  refine r_castore H 414 100 at_413 A90 (nlt z37 (Nat.le_of_eq g35.symm)) ?_
  intro h92 K92 A92
  have q93 := (q91.keep K90)
  change Ar Z h92 b35 kc35 .char [.int p5, .int 32, .int 109, .int 97, .int 116, .int 99, .int 104, .int 101, .int 114, .int 115, .int 32, .int 101, .int 120, .int 112, .int 101, .int 99, .int 116, .int 101, .int 100, .int 44, .int 32, .int p6, .int 32, .int 114, .int 101, .int 99, .int 111, .int 114, .int 100, .int 0, .int 0, .int 0] at A92
  refine r_dup H 415 at_414 ?_
  refine r_bipush H 417 29 at_415 ?_
  refine r_bipush H 419 101 at_417 ?_
  refine r_castore H 420 101 at_419 A92 (nlt z37 (Nat.le_of_eq g35.symm)) ?_
  intro h94 K94 A94
  have q95 := (q93.keep K92)
  change Ar Z h94 b35 kc35 .char [.int p5, .int 32, .int 109, .int 97, .int 116, .int 99, .int 104, .int 101, .int 114, .int 115, .int 32, .int 101, .int 120, .int 112, .int 101, .int 99, .int 116, .int 101, .int 100, .int 44, .int 32, .int p6, .int 32, .int 114, .int 101, .int 99, .int 111, .int 114, .int 100, .int 101, .int 0, .int 0] at A94
  refine r_dup H 421 at_420 ?_
  refine r_bipush H 423 30 at_421 ?_
  refine r_bipush H 425 100 at_423 ?_
  refine r_castore H 426 100 at_425 A94 (nlt z37 (Nat.le_of_eq g35.symm)) ?_
  intro h96 K96 A96
  have q97 := (q95.keep K94)
  change Ar Z h96 b35 kc35 .char [.int p5, .int 32, .int 109, .int 97, .int 116, .int 99, .int 104, .int 101, .int 114, .int 115, .int 32, .int 101, .int 120, .int 112, .int 101, .int 99, .int 116, .int 101, .int 100, .int 44, .int 32, .int p6, .int 32, .int 114, .int 101, .int 99, .int 111, .int 114, .int 100, .int 101, .int 100, .int 0] at A96
  refine r_dup H 427 at_426 ?_
  refine r_bipush H 429 31 at_427 ?_
  refine r_bipush H 431 46 at_429 ?_
  refine r_castore H 432 46 at_431 A96 (nlt z37 (Nat.le_of_eq g35.symm)) ?_
  intro h98 K98 A98
  have q99 := (q97.keep K96)
  change Ar Z h98 b35 kc35 .char [.int p5, .int 32, .int 109, .int 97, .int 116, .int 99, .int 104, .int 101, .int 114, .int 115, .int 32, .int 101, .int 120, .int 112, .int 101, .int 99, .int 116, .int 101, .int 100, .int 44, .int 32, .int p6, .int 32, .int 114, .int 101, .int 99, .int 111, .int 114, .int 100, .int 101, .int 100, .int 46] at A98
  have q100 := (q99.keep K98)
  have q101 := (((((((((((((((((((((((((((((((((E34.keep K35).keep K36).keep K38).keep K40).keep K42).keep K44).keep K46).keep K48).keep K50).keep K52).keep K54).keep K56).keep K58).keep K60).keep K62).keep K64).keep K66).keep K68).keep K70).keep K72).keep K74).keep K76).keep K78).keep K80).keep K82).keep K84).keep K86).keep K88).keep K90).keep K92).keep K94).keep K96).keep K98)
  have q102 := ((((((((((((((((((((((((((((((((((show Fld Z h34 b34 "java/lang/String" "coder" "B" (.int 0) from D34 (Or.inr (tw60 hw)) (ty := .byte) (by decide)).keep K35 nin0).keep K36 (ninS (Nat.ne_of_lt (Nat.lt_of_lt_of_le E34.lt (nlt nlr (Nat.le_of_eq g35.symm)))) nin0)).keep K38 (ninS (Nat.ne_of_lt (Nat.lt_of_lt_of_le E34.lt (nlt nlr (Nat.le_of_eq g35.symm)))) nin0)).keep K40 (ninS (Nat.ne_of_lt (Nat.lt_of_lt_of_le E34.lt (nlt nlr (Nat.le_of_eq g35.symm)))) nin0)).keep K42 (ninS (Nat.ne_of_lt (Nat.lt_of_lt_of_le E34.lt (nlt nlr (Nat.le_of_eq g35.symm)))) nin0)).keep K44 (ninS (Nat.ne_of_lt (Nat.lt_of_lt_of_le E34.lt (nlt nlr (Nat.le_of_eq g35.symm)))) nin0)).keep K46 (ninS (Nat.ne_of_lt (Nat.lt_of_lt_of_le E34.lt (nlt nlr (Nat.le_of_eq g35.symm)))) nin0)).keep K48 (ninS (Nat.ne_of_lt (Nat.lt_of_lt_of_le E34.lt (nlt nlr (Nat.le_of_eq g35.symm)))) nin0)).keep K50 (ninS (Nat.ne_of_lt (Nat.lt_of_lt_of_le E34.lt (nlt nlr (Nat.le_of_eq g35.symm)))) nin0)).keep K52 (ninS (Nat.ne_of_lt (Nat.lt_of_lt_of_le E34.lt (nlt nlr (Nat.le_of_eq g35.symm)))) nin0)).keep K54 (ninS (Nat.ne_of_lt (Nat.lt_of_lt_of_le E34.lt (nlt nlr (Nat.le_of_eq g35.symm)))) nin0)).keep K56 (ninS (Nat.ne_of_lt (Nat.lt_of_lt_of_le E34.lt (nlt nlr (Nat.le_of_eq g35.symm)))) nin0)).keep K58 (ninS (Nat.ne_of_lt (Nat.lt_of_lt_of_le E34.lt (nlt nlr (Nat.le_of_eq g35.symm)))) nin0)).keep K60 (ninS (Nat.ne_of_lt (Nat.lt_of_lt_of_le E34.lt (nlt nlr (Nat.le_of_eq g35.symm)))) nin0)).keep K62 (ninS (Nat.ne_of_lt (Nat.lt_of_lt_of_le E34.lt (nlt nlr (Nat.le_of_eq g35.symm)))) nin0)).keep K64 (ninS (Nat.ne_of_lt (Nat.lt_of_lt_of_le E34.lt (nlt nlr (Nat.le_of_eq g35.symm)))) nin0)).keep K66 (ninS (Nat.ne_of_lt (Nat.lt_of_lt_of_le E34.lt (nlt nlr (Nat.le_of_eq g35.symm)))) nin0)).keep K68 (ninS (Nat.ne_of_lt (Nat.lt_of_lt_of_le E34.lt (nlt nlr (Nat.le_of_eq g35.symm)))) nin0)).keep K70 (ninS (Nat.ne_of_lt (Nat.lt_of_lt_of_le E34.lt (nlt nlr (Nat.le_of_eq g35.symm)))) nin0)).keep K72 (ninS (Nat.ne_of_lt (Nat.lt_of_lt_of_le E34.lt (nlt nlr (Nat.le_of_eq g35.symm)))) nin0)).keep K74 (ninS (Nat.ne_of_lt (Nat.lt_of_lt_of_le E34.lt (nlt nlr (Nat.le_of_eq g35.symm)))) nin0)).keep K76 (ninS (Nat.ne_of_lt (Nat.lt_of_lt_of_le E34.lt (nlt nlr (Nat.le_of_eq g35.symm)))) nin0)).keep K78 (ninS (Nat.ne_of_lt (Nat.lt_of_lt_of_le E34.lt (nlt nlr (Nat.le_of_eq g35.symm)))) nin0)).keep K80 (ninS (Nat.ne_of_lt (Nat.lt_of_lt_of_le E34.lt (nlt nlr (Nat.le_of_eq g35.symm)))) nin0)).keep K82 (ninS (Nat.ne_of_lt (Nat.lt_of_lt_of_le E34.lt (nlt nlr (Nat.le_of_eq g35.symm)))) nin0)).keep K84 (ninS (Nat.ne_of_lt (Nat.lt_of_lt_of_le E34.lt (nlt nlr (Nat.le_of_eq g35.symm)))) nin0)).keep K86 (ninS (Nat.ne_of_lt (Nat.lt_of_lt_of_le E34.lt (nlt nlr (Nat.le_of_eq g35.symm)))) nin0)).keep K88 (ninS (Nat.ne_of_lt (Nat.lt_of_lt_of_le E34.lt (nlt nlr (Nat.le_of_eq g35.symm)))) nin0)).keep K90 (ninS (Nat.ne_of_lt (Nat.lt_of_lt_of_le E34.lt (nlt nlr (Nat.le_of_eq g35.symm)))) nin0)).keep K92 (ninS (Nat.ne_of_lt (Nat.lt_of_lt_of_le E34.lt (nlt nlr (Nat.le_of_eq g35.symm)))) nin0)).keep K94 (ninS (Nat.ne_of_lt (Nat.lt_of_lt_of_le E34.lt (nlt nlr (Nat.le_of_eq g35.symm)))) nin0)).keep K96 (ninS (Nat.ne_of_lt (Nat.lt_of_lt_of_le E34.lt (nlt nlr (Nat.le_of_eq g35.symm)))) nin0)).keep K98 (ninS (Nat.ne_of_lt (Nat.lt_of_lt_of_le E34.lt (nlt nlr (Nat.le_of_eq g35.symm)))) nin0))
  have q103 := ((((((((((((((((((((((((((((((((((show Fld Z h34 b34 "java/lang/String" "value" "[B" .null from D34 (Or.inr (tw59 hw)) (ty := (.array .byte)) (by decide)).keep K35 nin0).keep K36 (ninS (Nat.ne_of_lt (Nat.lt_of_lt_of_le E34.lt (nlt nlr (Nat.le_of_eq g35.symm)))) nin0)).keep K38 (ninS (Nat.ne_of_lt (Nat.lt_of_lt_of_le E34.lt (nlt nlr (Nat.le_of_eq g35.symm)))) nin0)).keep K40 (ninS (Nat.ne_of_lt (Nat.lt_of_lt_of_le E34.lt (nlt nlr (Nat.le_of_eq g35.symm)))) nin0)).keep K42 (ninS (Nat.ne_of_lt (Nat.lt_of_lt_of_le E34.lt (nlt nlr (Nat.le_of_eq g35.symm)))) nin0)).keep K44 (ninS (Nat.ne_of_lt (Nat.lt_of_lt_of_le E34.lt (nlt nlr (Nat.le_of_eq g35.symm)))) nin0)).keep K46 (ninS (Nat.ne_of_lt (Nat.lt_of_lt_of_le E34.lt (nlt nlr (Nat.le_of_eq g35.symm)))) nin0)).keep K48 (ninS (Nat.ne_of_lt (Nat.lt_of_lt_of_le E34.lt (nlt nlr (Nat.le_of_eq g35.symm)))) nin0)).keep K50 (ninS (Nat.ne_of_lt (Nat.lt_of_lt_of_le E34.lt (nlt nlr (Nat.le_of_eq g35.symm)))) nin0)).keep K52 (ninS (Nat.ne_of_lt (Nat.lt_of_lt_of_le E34.lt (nlt nlr (Nat.le_of_eq g35.symm)))) nin0)).keep K54 (ninS (Nat.ne_of_lt (Nat.lt_of_lt_of_le E34.lt (nlt nlr (Nat.le_of_eq g35.symm)))) nin0)).keep K56 (ninS (Nat.ne_of_lt (Nat.lt_of_lt_of_le E34.lt (nlt nlr (Nat.le_of_eq g35.symm)))) nin0)).keep K58 (ninS (Nat.ne_of_lt (Nat.lt_of_lt_of_le E34.lt (nlt nlr (Nat.le_of_eq g35.symm)))) nin0)).keep K60 (ninS (Nat.ne_of_lt (Nat.lt_of_lt_of_le E34.lt (nlt nlr (Nat.le_of_eq g35.symm)))) nin0)).keep K62 (ninS (Nat.ne_of_lt (Nat.lt_of_lt_of_le E34.lt (nlt nlr (Nat.le_of_eq g35.symm)))) nin0)).keep K64 (ninS (Nat.ne_of_lt (Nat.lt_of_lt_of_le E34.lt (nlt nlr (Nat.le_of_eq g35.symm)))) nin0)).keep K66 (ninS (Nat.ne_of_lt (Nat.lt_of_lt_of_le E34.lt (nlt nlr (Nat.le_of_eq g35.symm)))) nin0)).keep K68 (ninS (Nat.ne_of_lt (Nat.lt_of_lt_of_le E34.lt (nlt nlr (Nat.le_of_eq g35.symm)))) nin0)).keep K70 (ninS (Nat.ne_of_lt (Nat.lt_of_lt_of_le E34.lt (nlt nlr (Nat.le_of_eq g35.symm)))) nin0)).keep K72 (ninS (Nat.ne_of_lt (Nat.lt_of_lt_of_le E34.lt (nlt nlr (Nat.le_of_eq g35.symm)))) nin0)).keep K74 (ninS (Nat.ne_of_lt (Nat.lt_of_lt_of_le E34.lt (nlt nlr (Nat.le_of_eq g35.symm)))) nin0)).keep K76 (ninS (Nat.ne_of_lt (Nat.lt_of_lt_of_le E34.lt (nlt nlr (Nat.le_of_eq g35.symm)))) nin0)).keep K78 (ninS (Nat.ne_of_lt (Nat.lt_of_lt_of_le E34.lt (nlt nlr (Nat.le_of_eq g35.symm)))) nin0)).keep K80 (ninS (Nat.ne_of_lt (Nat.lt_of_lt_of_le E34.lt (nlt nlr (Nat.le_of_eq g35.symm)))) nin0)).keep K82 (ninS (Nat.ne_of_lt (Nat.lt_of_lt_of_le E34.lt (nlt nlr (Nat.le_of_eq g35.symm)))) nin0)).keep K84 (ninS (Nat.ne_of_lt (Nat.lt_of_lt_of_le E34.lt (nlt nlr (Nat.le_of_eq g35.symm)))) nin0)).keep K86 (ninS (Nat.ne_of_lt (Nat.lt_of_lt_of_le E34.lt (nlt nlr (Nat.le_of_eq g35.symm)))) nin0)).keep K88 (ninS (Nat.ne_of_lt (Nat.lt_of_lt_of_le E34.lt (nlt nlr (Nat.le_of_eq g35.symm)))) nin0)).keep K90 (ninS (Nat.ne_of_lt (Nat.lt_of_lt_of_le E34.lt (nlt nlr (Nat.le_of_eq g35.symm)))) nin0)).keep K92 (ninS (Nat.ne_of_lt (Nat.lt_of_lt_of_le E34.lt (nlt nlr (Nat.le_of_eq g35.symm)))) nin0)).keep K94 (ninS (Nat.ne_of_lt (Nat.lt_of_lt_of_le E34.lt (nlt nlr (Nat.le_of_eq g35.symm)))) nin0)).keep K96 (ninS (Nat.ne_of_lt (Nat.lt_of_lt_of_le E34.lt (nlt nlr (Nat.le_of_eq g35.symm)))) nin0)).keep K98 (ninS (Nat.ne_of_lt (Nat.lt_of_lt_of_le E34.lt (nlt nlr (Nat.le_of_eq g35.symm)))) nin0))
  have z104 := Nat.le_trans z37 K35.1
  have z105 := Nat.le_trans z104 K36.1
  have z106 := Nat.le_trans z105 K38.1
  have z107 := Nat.le_trans z106 K40.1
  have z108 := Nat.le_trans z107 K42.1
  have z109 := Nat.le_trans z108 K44.1
  have z110 := Nat.le_trans z109 K46.1
  have z111 := Nat.le_trans z110 K48.1
  have z112 := Nat.le_trans z111 K50.1
  have z113 := Nat.le_trans z112 K52.1
  have z114 := Nat.le_trans z113 K54.1
  have z115 := Nat.le_trans z114 K56.1
  have z116 := Nat.le_trans z115 K58.1
  have z117 := Nat.le_trans z116 K60.1
  have z118 := Nat.le_trans z117 K62.1
  have z119 := Nat.le_trans z118 K64.1
  have z120 := Nat.le_trans z119 K66.1
  have z121 := Nat.le_trans z120 K68.1
  have z122 := Nat.le_trans z121 K70.1
  have z123 := Nat.le_trans z122 K72.1
  have z124 := Nat.le_trans z123 K74.1
  have z125 := Nat.le_trans z124 K76.1
  have z126 := Nat.le_trans z125 K78.1
  have z127 := Nat.le_trans z126 K80.1
  have z128 := Nat.le_trans z127 K82.1
  have z129 := Nat.le_trans z128 K84.1
  have z130 := Nat.le_trans z129 K86.1
  have z131 := Nat.le_trans z130 K88.1
  have z132 := Nat.le_trans z131 K90.1
  have z133 := Nat.le_trans z132 K92.1
  have z134 := Nat.le_trans z133 K94.1
  have z135 := Nat.le_trans z134 K96.1
  have z136 := Nat.le_trans z135 K98.1
  refine r_special (a := b34) (argsL := [.ref b35]) (rest := [.ref b34]) (W := 1) H 435 at_432 (tw169 hw) (tw170 hw) (tw21 hw) (tw171 hw) (lenOf pd_28 rfl) (rm_init_97 hw (" matchers" :: "1 matcher" :: " expected, " :: " recorded." :: Ts) b34 b35 p5 p6 kc35 cs h98 h0.size (nlt Zf Z0) z136 A98 (nlt K10.1 (Nat.le_of_eq g34.symm)) q100 q101 q102 q103 rp5 rp6 S_cs hcs) ?_
  rintro _ hh146 ⟨b137, kc138, rfl, K139, g140, q141, q142, q143, q144, q145⟩
  refine r_astore H 437 #[vI x0, vI x1, vI p2, vI p4, vI p5, vI p6, vR b7, vR b34] at_435 ?_
  refine r_aload H 439 at_437 ?_
  refine r_aload H 441 at_439 ?_
  have q147 := (((((((((((((((((((((((((((((((((((q17.keep K34 nin0).keep K35 nin0).keep K36 (ninS (Nat.ne_of_lt (Nat.lt_of_lt_of_le q15.lt (nlt K34.1 (Nat.le_of_eq g35.symm)))) nin0)).keep K38 (ninS (Nat.ne_of_lt (Nat.lt_of_lt_of_le q15.lt (nlt K34.1 (Nat.le_of_eq g35.symm)))) nin0)).keep K40 (ninS (Nat.ne_of_lt (Nat.lt_of_lt_of_le q15.lt (nlt K34.1 (Nat.le_of_eq g35.symm)))) nin0)).keep K42 (ninS (Nat.ne_of_lt (Nat.lt_of_lt_of_le q15.lt (nlt K34.1 (Nat.le_of_eq g35.symm)))) nin0)).keep K44 (ninS (Nat.ne_of_lt (Nat.lt_of_lt_of_le q15.lt (nlt K34.1 (Nat.le_of_eq g35.symm)))) nin0)).keep K46 (ninS (Nat.ne_of_lt (Nat.lt_of_lt_of_le q15.lt (nlt K34.1 (Nat.le_of_eq g35.symm)))) nin0)).keep K48 (ninS (Nat.ne_of_lt (Nat.lt_of_lt_of_le q15.lt (nlt K34.1 (Nat.le_of_eq g35.symm)))) nin0)).keep K50 (ninS (Nat.ne_of_lt (Nat.lt_of_lt_of_le q15.lt (nlt K34.1 (Nat.le_of_eq g35.symm)))) nin0)).keep K52 (ninS (Nat.ne_of_lt (Nat.lt_of_lt_of_le q15.lt (nlt K34.1 (Nat.le_of_eq g35.symm)))) nin0)).keep K54 (ninS (Nat.ne_of_lt (Nat.lt_of_lt_of_le q15.lt (nlt K34.1 (Nat.le_of_eq g35.symm)))) nin0)).keep K56 (ninS (Nat.ne_of_lt (Nat.lt_of_lt_of_le q15.lt (nlt K34.1 (Nat.le_of_eq g35.symm)))) nin0)).keep K58 (ninS (Nat.ne_of_lt (Nat.lt_of_lt_of_le q15.lt (nlt K34.1 (Nat.le_of_eq g35.symm)))) nin0)).keep K60 (ninS (Nat.ne_of_lt (Nat.lt_of_lt_of_le q15.lt (nlt K34.1 (Nat.le_of_eq g35.symm)))) nin0)).keep K62 (ninS (Nat.ne_of_lt (Nat.lt_of_lt_of_le q15.lt (nlt K34.1 (Nat.le_of_eq g35.symm)))) nin0)).keep K64 (ninS (Nat.ne_of_lt (Nat.lt_of_lt_of_le q15.lt (nlt K34.1 (Nat.le_of_eq g35.symm)))) nin0)).keep K66 (ninS (Nat.ne_of_lt (Nat.lt_of_lt_of_le q15.lt (nlt K34.1 (Nat.le_of_eq g35.symm)))) nin0)).keep K68 (ninS (Nat.ne_of_lt (Nat.lt_of_lt_of_le q15.lt (nlt K34.1 (Nat.le_of_eq g35.symm)))) nin0)).keep K70 (ninS (Nat.ne_of_lt (Nat.lt_of_lt_of_le q15.lt (nlt K34.1 (Nat.le_of_eq g35.symm)))) nin0)).keep K72 (ninS (Nat.ne_of_lt (Nat.lt_of_lt_of_le q15.lt (nlt K34.1 (Nat.le_of_eq g35.symm)))) nin0)).keep K74 (ninS (Nat.ne_of_lt (Nat.lt_of_lt_of_le q15.lt (nlt K34.1 (Nat.le_of_eq g35.symm)))) nin0)).keep K76 (ninS (Nat.ne_of_lt (Nat.lt_of_lt_of_le q15.lt (nlt K34.1 (Nat.le_of_eq g35.symm)))) nin0)).keep K78 (ninS (Nat.ne_of_lt (Nat.lt_of_lt_of_le q15.lt (nlt K34.1 (Nat.le_of_eq g35.symm)))) nin0)).keep K80 (ninS (Nat.ne_of_lt (Nat.lt_of_lt_of_le q15.lt (nlt K34.1 (Nat.le_of_eq g35.symm)))) nin0)).keep K82 (ninS (Nat.ne_of_lt (Nat.lt_of_lt_of_le q15.lt (nlt K34.1 (Nat.le_of_eq g35.symm)))) nin0)).keep K84 (ninS (Nat.ne_of_lt (Nat.lt_of_lt_of_le q15.lt (nlt K34.1 (Nat.le_of_eq g35.symm)))) nin0)).keep K86 (ninS (Nat.ne_of_lt (Nat.lt_of_lt_of_le q15.lt (nlt K34.1 (Nat.le_of_eq g35.symm)))) nin0)).keep K88 (ninS (Nat.ne_of_lt (Nat.lt_of_lt_of_le q15.lt (nlt K34.1 (Nat.le_of_eq g35.symm)))) nin0)).keep K90 (ninS (Nat.ne_of_lt (Nat.lt_of_lt_of_le q15.lt (nlt K34.1 (Nat.le_of_eq g35.symm)))) nin0)).keep K92 (ninS (Nat.ne_of_lt (Nat.lt_of_lt_of_le q15.lt (nlt K34.1 (Nat.le_of_eq g35.symm)))) nin0)).keep K94 (ninS (Nat.ne_of_lt (Nat.lt_of_lt_of_le q15.lt (nlt K34.1 (Nat.le_of_eq g35.symm)))) nin0)).keep K96 (ninS (Nat.ne_of_lt (Nat.lt_of_lt_of_le q15.lt (nlt K34.1 (Nat.le_of_eq g35.symm)))) nin0)).keep K98 (ninS (Nat.ne_of_lt (Nat.lt_of_lt_of_le q15.lt (nlt K34.1 (Nat.le_of_eq g35.symm)))) nin0)).keep K139 (ninS (Nat.ne_of_lt (Nat.lt_of_lt_of_le q15.lt (nlt nlr (Nat.le_of_eq g34.symm)))) nin0))
  have q148 := (((((((((((((((((((((((((((((((((((q18.keep K34 nin0).keep K35 nin0).keep K36 (ninS (Nat.ne_of_lt (Nat.lt_of_lt_of_le q18.lt (nlt K34.1 (Nat.le_of_eq g35.symm)))) nin0)).keep K38 (ninS (Nat.ne_of_lt (Nat.lt_of_lt_of_le q18.lt (nlt K34.1 (Nat.le_of_eq g35.symm)))) nin0)).keep K40 (ninS (Nat.ne_of_lt (Nat.lt_of_lt_of_le q18.lt (nlt K34.1 (Nat.le_of_eq g35.symm)))) nin0)).keep K42 (ninS (Nat.ne_of_lt (Nat.lt_of_lt_of_le q18.lt (nlt K34.1 (Nat.le_of_eq g35.symm)))) nin0)).keep K44 (ninS (Nat.ne_of_lt (Nat.lt_of_lt_of_le q18.lt (nlt K34.1 (Nat.le_of_eq g35.symm)))) nin0)).keep K46 (ninS (Nat.ne_of_lt (Nat.lt_of_lt_of_le q18.lt (nlt K34.1 (Nat.le_of_eq g35.symm)))) nin0)).keep K48 (ninS (Nat.ne_of_lt (Nat.lt_of_lt_of_le q18.lt (nlt K34.1 (Nat.le_of_eq g35.symm)))) nin0)).keep K50 (ninS (Nat.ne_of_lt (Nat.lt_of_lt_of_le q18.lt (nlt K34.1 (Nat.le_of_eq g35.symm)))) nin0)).keep K52 (ninS (Nat.ne_of_lt (Nat.lt_of_lt_of_le q18.lt (nlt K34.1 (Nat.le_of_eq g35.symm)))) nin0)).keep K54 (ninS (Nat.ne_of_lt (Nat.lt_of_lt_of_le q18.lt (nlt K34.1 (Nat.le_of_eq g35.symm)))) nin0)).keep K56 (ninS (Nat.ne_of_lt (Nat.lt_of_lt_of_le q18.lt (nlt K34.1 (Nat.le_of_eq g35.symm)))) nin0)).keep K58 (ninS (Nat.ne_of_lt (Nat.lt_of_lt_of_le q18.lt (nlt K34.1 (Nat.le_of_eq g35.symm)))) nin0)).keep K60 (ninS (Nat.ne_of_lt (Nat.lt_of_lt_of_le q18.lt (nlt K34.1 (Nat.le_of_eq g35.symm)))) nin0)).keep K62 (ninS (Nat.ne_of_lt (Nat.lt_of_lt_of_le q18.lt (nlt K34.1 (Nat.le_of_eq g35.symm)))) nin0)).keep K64 (ninS (Nat.ne_of_lt (Nat.lt_of_lt_of_le q18.lt (nlt K34.1 (Nat.le_of_eq g35.symm)))) nin0)).keep K66 (ninS (Nat.ne_of_lt (Nat.lt_of_lt_of_le q18.lt (nlt K34.1 (Nat.le_of_eq g35.symm)))) nin0)).keep K68 (ninS (Nat.ne_of_lt (Nat.lt_of_lt_of_le q18.lt (nlt K34.1 (Nat.le_of_eq g35.symm)))) nin0)).keep K70 (ninS (Nat.ne_of_lt (Nat.lt_of_lt_of_le q18.lt (nlt K34.1 (Nat.le_of_eq g35.symm)))) nin0)).keep K72 (ninS (Nat.ne_of_lt (Nat.lt_of_lt_of_le q18.lt (nlt K34.1 (Nat.le_of_eq g35.symm)))) nin0)).keep K74 (ninS (Nat.ne_of_lt (Nat.lt_of_lt_of_le q18.lt (nlt K34.1 (Nat.le_of_eq g35.symm)))) nin0)).keep K76 (ninS (Nat.ne_of_lt (Nat.lt_of_lt_of_le q18.lt (nlt K34.1 (Nat.le_of_eq g35.symm)))) nin0)).keep K78 (ninS (Nat.ne_of_lt (Nat.lt_of_lt_of_le q18.lt (nlt K34.1 (Nat.le_of_eq g35.symm)))) nin0)).keep K80 (ninS (Nat.ne_of_lt (Nat.lt_of_lt_of_le q18.lt (nlt K34.1 (Nat.le_of_eq g35.symm)))) nin0)).keep K82 (ninS (Nat.ne_of_lt (Nat.lt_of_lt_of_le q18.lt (nlt K34.1 (Nat.le_of_eq g35.symm)))) nin0)).keep K84 (ninS (Nat.ne_of_lt (Nat.lt_of_lt_of_le q18.lt (nlt K34.1 (Nat.le_of_eq g35.symm)))) nin0)).keep K86 (ninS (Nat.ne_of_lt (Nat.lt_of_lt_of_le q18.lt (nlt K34.1 (Nat.le_of_eq g35.symm)))) nin0)).keep K88 (ninS (Nat.ne_of_lt (Nat.lt_of_lt_of_le q18.lt (nlt K34.1 (Nat.le_of_eq g35.symm)))) nin0)).keep K90 (ninS (Nat.ne_of_lt (Nat.lt_of_lt_of_le q18.lt (nlt K34.1 (Nat.le_of_eq g35.symm)))) nin0)).keep K92 (ninS (Nat.ne_of_lt (Nat.lt_of_lt_of_le q18.lt (nlt K34.1 (Nat.le_of_eq g35.symm)))) nin0)).keep K94 (ninS (Nat.ne_of_lt (Nat.lt_of_lt_of_le q18.lt (nlt K34.1 (Nat.le_of_eq g35.symm)))) nin0)).keep K96 (ninS (Nat.ne_of_lt (Nat.lt_of_lt_of_le q18.lt (nlt K34.1 (Nat.le_of_eq g35.symm)))) nin0)).keep K98 (ninS (Nat.ne_of_lt (Nat.lt_of_lt_of_le q18.lt (nlt K34.1 (Nat.le_of_eq g35.symm)))) nin0)).keep K139 (ninS (Nat.ne_of_lt (Nat.lt_of_lt_of_le q18.lt (nlt nlr (Nat.le_of_eq g34.symm)))) nin0))
  have q149 := (((((((((((((((((((((((((((((((((((q16.keep K34 nin0).keep K35 nin0).keep K36 (ninS (Nat.ne_of_lt (Nat.lt_of_lt_of_le q15.lt (nlt K34.1 (Nat.le_of_eq g35.symm)))) nin0)).keep K38 (ninS (Nat.ne_of_lt (Nat.lt_of_lt_of_le q15.lt (nlt K34.1 (Nat.le_of_eq g35.symm)))) nin0)).keep K40 (ninS (Nat.ne_of_lt (Nat.lt_of_lt_of_le q15.lt (nlt K34.1 (Nat.le_of_eq g35.symm)))) nin0)).keep K42 (ninS (Nat.ne_of_lt (Nat.lt_of_lt_of_le q15.lt (nlt K34.1 (Nat.le_of_eq g35.symm)))) nin0)).keep K44 (ninS (Nat.ne_of_lt (Nat.lt_of_lt_of_le q15.lt (nlt K34.1 (Nat.le_of_eq g35.symm)))) nin0)).keep K46 (ninS (Nat.ne_of_lt (Nat.lt_of_lt_of_le q15.lt (nlt K34.1 (Nat.le_of_eq g35.symm)))) nin0)).keep K48 (ninS (Nat.ne_of_lt (Nat.lt_of_lt_of_le q15.lt (nlt K34.1 (Nat.le_of_eq g35.symm)))) nin0)).keep K50 (ninS (Nat.ne_of_lt (Nat.lt_of_lt_of_le q15.lt (nlt K34.1 (Nat.le_of_eq g35.symm)))) nin0)).keep K52 (ninS (Nat.ne_of_lt (Nat.lt_of_lt_of_le q15.lt (nlt K34.1 (Nat.le_of_eq g35.symm)))) nin0)).keep K54 (ninS (Nat.ne_of_lt (Nat.lt_of_lt_of_le q15.lt (nlt K34.1 (Nat.le_of_eq g35.symm)))) nin0)).keep K56 (ninS (Nat.ne_of_lt (Nat.lt_of_lt_of_le q15.lt (nlt K34.1 (Nat.le_of_eq g35.symm)))) nin0)).keep K58 (ninS (Nat.ne_of_lt (Nat.lt_of_lt_of_le q15.lt (nlt K34.1 (Nat.le_of_eq g35.symm)))) nin0)).keep K60 (ninS (Nat.ne_of_lt (Nat.lt_of_lt_of_le q15.lt (nlt K34.1 (Nat.le_of_eq g35.symm)))) nin0)).keep K62 (ninS (Nat.ne_of_lt (Nat.lt_of_lt_of_le q15.lt (nlt K34.1 (Nat.le_of_eq g35.symm)))) nin0)).keep K64 (ninS (Nat.ne_of_lt (Nat.lt_of_lt_of_le q15.lt (nlt K34.1 (Nat.le_of_eq g35.symm)))) nin0)).keep K66 (ninS (Nat.ne_of_lt (Nat.lt_of_lt_of_le q15.lt (nlt K34.1 (Nat.le_of_eq g35.symm)))) nin0)).keep K68 (ninS (Nat.ne_of_lt (Nat.lt_of_lt_of_le q15.lt (nlt K34.1 (Nat.le_of_eq g35.symm)))) nin0)).keep K70 (ninS (Nat.ne_of_lt (Nat.lt_of_lt_of_le q15.lt (nlt K34.1 (Nat.le_of_eq g35.symm)))) nin0)).keep K72 (ninS (Nat.ne_of_lt (Nat.lt_of_lt_of_le q15.lt (nlt K34.1 (Nat.le_of_eq g35.symm)))) nin0)).keep K74 (ninS (Nat.ne_of_lt (Nat.lt_of_lt_of_le q15.lt (nlt K34.1 (Nat.le_of_eq g35.symm)))) nin0)).keep K76 (ninS (Nat.ne_of_lt (Nat.lt_of_lt_of_le q15.lt (nlt K34.1 (Nat.le_of_eq g35.symm)))) nin0)).keep K78 (ninS (Nat.ne_of_lt (Nat.lt_of_lt_of_le q15.lt (nlt K34.1 (Nat.le_of_eq g35.symm)))) nin0)).keep K80 (ninS (Nat.ne_of_lt (Nat.lt_of_lt_of_le q15.lt (nlt K34.1 (Nat.le_of_eq g35.symm)))) nin0)).keep K82 (ninS (Nat.ne_of_lt (Nat.lt_of_lt_of_le q15.lt (nlt K34.1 (Nat.le_of_eq g35.symm)))) nin0)).keep K84 (ninS (Nat.ne_of_lt (Nat.lt_of_lt_of_le q15.lt (nlt K34.1 (Nat.le_of_eq g35.symm)))) nin0)).keep K86 (ninS (Nat.ne_of_lt (Nat.lt_of_lt_of_le q15.lt (nlt K34.1 (Nat.le_of_eq g35.symm)))) nin0)).keep K88 (ninS (Nat.ne_of_lt (Nat.lt_of_lt_of_le q15.lt (nlt K34.1 (Nat.le_of_eq g35.symm)))) nin0)).keep K90 (ninS (Nat.ne_of_lt (Nat.lt_of_lt_of_le q15.lt (nlt K34.1 (Nat.le_of_eq g35.symm)))) nin0)).keep K92 (ninS (Nat.ne_of_lt (Nat.lt_of_lt_of_le q15.lt (nlt K34.1 (Nat.le_of_eq g35.symm)))) nin0)).keep K94 (ninS (Nat.ne_of_lt (Nat.lt_of_lt_of_le q15.lt (nlt K34.1 (Nat.le_of_eq g35.symm)))) nin0)).keep K96 (ninS (Nat.ne_of_lt (Nat.lt_of_lt_of_le q15.lt (nlt K34.1 (Nat.le_of_eq g35.symm)))) nin0)).keep K98 (ninS (Nat.ne_of_lt (Nat.lt_of_lt_of_le q15.lt (nlt K34.1 (Nat.le_of_eq g35.symm)))) nin0)).keep K139 (ninS (Nat.ne_of_lt (Nat.lt_of_lt_of_le q15.lt (nlt nlr (Nat.le_of_eq g34.symm)))) nin0))
  have z150 := Nat.le_trans z136 K139.1
  have q151 := (((((((((((((((((((((((((((((((((((q15.keep K34).keep K35).keep K36).keep K38).keep K40).keep K42).keep K44).keep K46).keep K48).keep K50).keep K52).keep K54).keep K56).keep K58).keep K60).keep K62).keep K64).keep K66).keep K68).keep K70).keep K72).keep K74).keep K76).keep K78).keep K80).keep K82).keep K84).keep K86).keep K88).keep K90).keep K92).keep K94).keep K96).keep K98).keep K139)
  refine r_virtual (z := mn36) (a := b7) (argsL := [.ref b34]) (rest := []) (W := 0) H 444 at_441 (tw185 hw) (tw186 hw) (nf_sel (tw188 hw)) (tw188 hw) (tw187 hw) (tw21 hw) (tw189 hw) q151 (lenOf pd_30 rfl) (rm_equals_102 hw (" matchers" :: "1 matcher" :: " expected, " :: " recorded." :: Ts) b7 b34 b8 b137 p5 p6 kc9 kc138 cs hh146 h0.size (nlt Zf Z0) z150 q147 q143 q148 q144 q141 q149 q142 S_cs hcs) ?_
  rintro _ _ ⟨rfl, rfl⟩
  exact r_nreturn (hf := Z0) (1 : Int32) H at_444 rfl
 ·
  rw [ep6] at q31
  have rr153 : 1 ≤ p2.toInt ∧ p2.toInt ≤ 1 := by have := rp2; have : (1 : Int32).toInt = 1 := (by decide); have hc_ := c24; simp only [Int32.lt_iff_toInt_lt, ← Int32.toInt_inj] at hc_; omega
  refine r_astore H 37 #[vI x0, vI x1, vI p2, vI p4, vI p5, vI p6, vR b20, .unset] at_35 ?_
  refine r_iloadN H 38 at_37 ?_
  refine r_iconst H 39 1 at_38 ?_
  refine r_icmpneF H 42 at_39 rfl (by have := rr153; have : (1 : Int32).toInt = 1 := (by decide); simp only [Int32.lt_iff_toInt_lt, ← Int32.toInt_inj]; omega) ?_
  refine r_new H 45 at_42 (tw167 hw) (tw58 hw) (tw21 hw) ?_
  intro h154 b154 g154 l154 K154 E154 D154
  refine r_dup H 46 at_45 ?_
  refine r_bipush H 48 31 at_46 ?_
  refine r_newP H 50 "[C" 31 at_48 (tw168 hw) ?_
  intro h155 b155 kc155 g155 l155 K155 E155 A155
  change Ar Z h155 b155 kc155 .char [.int 0, .int 0, .int 0, .int 0, .int 0, .int 0, .int 0, .int 0, .int 0, .int 0, .int 0, .int 0, .int 0, .int 0, .int 0, .int 0, .int 0, .int 0, .int 0, .int 0, .int 0, .int 0, .int 0, .int 0, .int 0, .int 0, .int 0, .int 0, .int 0, .int 0, .int 0] at A155
  refine r_dup H 51 at_50 ?_
  refine r_iconst H 52 0 at_51 ?_
  refine r_bipush H 54 49 at_52 ?_
  have z157 := Nat.le_trans K23.1 K154.1
  refine r_castore H 55 49 at_54 A155 (nlt z157 (Nat.le_of_eq g155.symm)) ?_
  intro h156 K156 A156
  change Ar Z h156 b155 kc155 .char [.int 49, .int 0, .int 0, .int 0, .int 0, .int 0, .int 0, .int 0, .int 0, .int 0, .int 0, .int 0, .int 0, .int 0, .int 0, .int 0, .int 0, .int 0, .int 0, .int 0, .int 0, .int 0, .int 0, .int 0, .int 0, .int 0, .int 0, .int 0, .int 0, .int 0, .int 0] at A156
  refine r_dup H 56 at_55 ?_
  refine r_iconst H 57 1 at_56 ?_
  refine r_bipush H 59 32 at_57 ?_
  refine r_castore H 60 32 at_59 A156 (nlt z157 (Nat.le_of_eq g155.symm)) ?_
  intro h158 K158 A158
  have q159 := (E155.keep K156)
  change Ar Z h158 b155 kc155 .char [.int 49, .int 32, .int 0, .int 0, .int 0, .int 0, .int 0, .int 0, .int 0, .int 0, .int 0, .int 0, .int 0, .int 0, .int 0, .int 0, .int 0, .int 0, .int 0, .int 0, .int 0, .int 0, .int 0, .int 0, .int 0, .int 0, .int 0, .int 0, .int 0, .int 0, .int 0] at A158
  refine r_dup H 61 at_60 ?_
  refine r_iconst H 62 2 at_61 ?_
  refine r_bipush H 64 109 at_62 ?_
  refine r_castore H 65 109 at_64 A158 (nlt z157 (Nat.le_of_eq g155.symm)) ?_
  intro h160 K160 A160
  have q161 := (q159.keep K158)
  change Ar Z h160 b155 kc155 .char [.int 49, .int 32, .int 109, .int 0, .int 0, .int 0, .int 0, .int 0, .int 0, .int 0, .int 0, .int 0, .int 0, .int 0, .int 0, .int 0, .int 0, .int 0, .int 0, .int 0, .int 0, .int 0, .int 0, .int 0, .int 0, .int 0, .int 0, .int 0, .int 0, .int 0, .int 0] at A160
  refine r_dup H 66 at_65 ?_
  refine r_iconst H 67 3 at_66 ?_
  refine r_bipush H 69 97 at_67 ?_
  refine r_castore H 70 97 at_69 A160 (nlt z157 (Nat.le_of_eq g155.symm)) ?_
  intro h162 K162 A162
  have q163 := (q161.keep K160)
  change Ar Z h162 b155 kc155 .char [.int 49, .int 32, .int 109, .int 97, .int 0, .int 0, .int 0, .int 0, .int 0, .int 0, .int 0, .int 0, .int 0, .int 0, .int 0, .int 0, .int 0, .int 0, .int 0, .int 0, .int 0, .int 0, .int 0, .int 0, .int 0, .int 0, .int 0, .int 0, .int 0, .int 0, .int 0] at A162
  refine r_dup H 71 at_70 ?_
  refine r_iconst H 72 4 at_71 ?_
  refine r_bipush H 74 116 at_72 ?_
  refine r_castore H 75 116 at_74 A162 (nlt z157 (Nat.le_of_eq g155.symm)) ?_
  intro h164 K164 A164
  have q165 := (q163.keep K162)
  change Ar Z h164 b155 kc155 .char [.int 49, .int 32, .int 109, .int 97, .int 116, .int 0, .int 0, .int 0, .int 0, .int 0, .int 0, .int 0, .int 0, .int 0, .int 0, .int 0, .int 0, .int 0, .int 0, .int 0, .int 0, .int 0, .int 0, .int 0, .int 0, .int 0, .int 0, .int 0, .int 0, .int 0, .int 0] at A164
  refine r_dup H 76 at_75 ?_
  refine r_iconst H 77 5 at_76 ?_
  refine r_bipush H 79 99 at_77 ?_
  refine r_castore H 80 99 at_79 A164 (nlt z157 (Nat.le_of_eq g155.symm)) ?_
  intro h166 K166 A166
  have q167 := (q165.keep K164)
  change Ar Z h166 b155 kc155 .char [.int 49, .int 32, .int 109, .int 97, .int 116, .int 99, .int 0, .int 0, .int 0, .int 0, .int 0, .int 0, .int 0, .int 0, .int 0, .int 0, .int 0, .int 0, .int 0, .int 0, .int 0, .int 0, .int 0, .int 0, .int 0, .int 0, .int 0, .int 0, .int 0, .int 0, .int 0] at A166
  refine r_dup H 81 at_80 ?_
  refine r_bipush H 83 6 at_81 ?_
  refine r_bipush H 85 104 at_83 ?_
  refine r_castore H 86 104 at_85 A166 (nlt z157 (Nat.le_of_eq g155.symm)) ?_
  intro h168 K168 A168
  have q169 := (q167.keep K166)
  change Ar Z h168 b155 kc155 .char [.int 49, .int 32, .int 109, .int 97, .int 116, .int 99, .int 104, .int 0, .int 0, .int 0, .int 0, .int 0, .int 0, .int 0, .int 0, .int 0, .int 0, .int 0, .int 0, .int 0, .int 0, .int 0, .int 0, .int 0, .int 0, .int 0, .int 0, .int 0, .int 0, .int 0, .int 0] at A168
  refine r_dup H 87 at_86 ?_
  refine r_bipush H 89 7 at_87 ?_
  refine r_bipush H 91 101 at_89 ?_
  refine r_castore H 92 101 at_91 A168 (nlt z157 (Nat.le_of_eq g155.symm)) ?_
  intro h170 K170 A170
  have q171 := (q169.keep K168)
  change Ar Z h170 b155 kc155 .char [.int 49, .int 32, .int 109, .int 97, .int 116, .int 99, .int 104, .int 101, .int 0, .int 0, .int 0, .int 0, .int 0, .int 0, .int 0, .int 0, .int 0, .int 0, .int 0, .int 0, .int 0, .int 0, .int 0, .int 0, .int 0, .int 0, .int 0, .int 0, .int 0, .int 0, .int 0] at A170
  refine r_dup H 93 at_92 ?_
  refine r_bipush H 95 8 at_93 ?_
  refine r_bipush H 97 114 at_95 ?_
  refine r_castore H 98 114 at_97 A170 (nlt z157 (Nat.le_of_eq g155.symm)) ?_
  intro h172 K172 A172
  have q173 := (q171.keep K170)
  change Ar Z h172 b155 kc155 .char [.int 49, .int 32, .int 109, .int 97, .int 116, .int 99, .int 104, .int 101, .int 114, .int 0, .int 0, .int 0, .int 0, .int 0, .int 0, .int 0, .int 0, .int 0, .int 0, .int 0, .int 0, .int 0, .int 0, .int 0, .int 0, .int 0, .int 0, .int 0, .int 0, .int 0, .int 0] at A172
  refine r_dup H 99 at_98 ?_
  refine r_bipush H 101 9 at_99 ?_
  refine r_bipush H 103 32 at_101 ?_
  refine r_castore H 104 32 at_103 A172 (nlt z157 (Nat.le_of_eq g155.symm)) ?_
  intro h174 K174 A174
  have q175 := (q173.keep K172)
  change Ar Z h174 b155 kc155 .char [.int 49, .int 32, .int 109, .int 97, .int 116, .int 99, .int 104, .int 101, .int 114, .int 32, .int 0, .int 0, .int 0, .int 0, .int 0, .int 0, .int 0, .int 0, .int 0, .int 0, .int 0, .int 0, .int 0, .int 0, .int 0, .int 0, .int 0, .int 0, .int 0, .int 0, .int 0] at A174
  refine r_dup H 105 at_104 ?_
  refine r_bipush H 107 10 at_105 ?_
  refine r_bipush H 109 101 at_107 ?_
  refine r_castore H 110 101 at_109 A174 (nlt z157 (Nat.le_of_eq g155.symm)) ?_
  intro h176 K176 A176
  have q177 := (q175.keep K174)
  change Ar Z h176 b155 kc155 .char [.int 49, .int 32, .int 109, .int 97, .int 116, .int 99, .int 104, .int 101, .int 114, .int 32, .int 101, .int 0, .int 0, .int 0, .int 0, .int 0, .int 0, .int 0, .int 0, .int 0, .int 0, .int 0, .int 0, .int 0, .int 0, .int 0, .int 0, .int 0, .int 0, .int 0, .int 0] at A176
  refine r_dup H 111 at_110 ?_
  refine r_bipush H 113 11 at_111 ?_
  refine r_bipush H 115 120 at_113 ?_
  refine r_castore H 116 120 at_115 A176 (nlt z157 (Nat.le_of_eq g155.symm)) ?_
  intro h178 K178 A178
  have q179 := (q177.keep K176)
  change Ar Z h178 b155 kc155 .char [.int 49, .int 32, .int 109, .int 97, .int 116, .int 99, .int 104, .int 101, .int 114, .int 32, .int 101, .int 120, .int 0, .int 0, .int 0, .int 0, .int 0, .int 0, .int 0, .int 0, .int 0, .int 0, .int 0, .int 0, .int 0, .int 0, .int 0, .int 0, .int 0, .int 0, .int 0] at A178
  refine r_dup H 117 at_116 ?_
  refine r_bipush H 119 12 at_117 ?_
  refine r_bipush H 121 112 at_119 ?_
  refine r_castore H 122 112 at_121 A178 (nlt z157 (Nat.le_of_eq g155.symm)) ?_
  intro h180 K180 A180
  have q181 := (q179.keep K178)
  change Ar Z h180 b155 kc155 .char [.int 49, .int 32, .int 109, .int 97, .int 116, .int 99, .int 104, .int 101, .int 114, .int 32, .int 101, .int 120, .int 112, .int 0, .int 0, .int 0, .int 0, .int 0, .int 0, .int 0, .int 0, .int 0, .int 0, .int 0, .int 0, .int 0, .int 0, .int 0, .int 0, .int 0, .int 0] at A180
  refine r_dup H 123 at_122 ?_
  refine r_bipush H 125 13 at_123 ?_
  refine r_bipush H 127 101 at_125 ?_
  refine r_castore H 128 101 at_127 A180 (nlt z157 (Nat.le_of_eq g155.symm)) ?_
  intro h182 K182 A182
  have q183 := (q181.keep K180)
  change Ar Z h182 b155 kc155 .char [.int 49, .int 32, .int 109, .int 97, .int 116, .int 99, .int 104, .int 101, .int 114, .int 32, .int 101, .int 120, .int 112, .int 101, .int 0, .int 0, .int 0, .int 0, .int 0, .int 0, .int 0, .int 0, .int 0, .int 0, .int 0, .int 0, .int 0, .int 0, .int 0, .int 0, .int 0] at A182
  refine r_dup H 129 at_128 ?_
  refine r_bipush H 131 14 at_129 ?_
  refine r_bipush H 133 99 at_131 ?_
  refine r_castore H 134 99 at_133 A182 (nlt z157 (Nat.le_of_eq g155.symm)) ?_
  intro h184 K184 A184
  have q185 := (q183.keep K182)
  change Ar Z h184 b155 kc155 .char [.int 49, .int 32, .int 109, .int 97, .int 116, .int 99, .int 104, .int 101, .int 114, .int 32, .int 101, .int 120, .int 112, .int 101, .int 99, .int 0, .int 0, .int 0, .int 0, .int 0, .int 0, .int 0, .int 0, .int 0, .int 0, .int 0, .int 0, .int 0, .int 0, .int 0, .int 0] at A184
  refine r_dup H 135 at_134 ?_
  refine r_bipush H 137 15 at_135 ?_
  refine r_bipush H 139 116 at_137 ?_
  refine r_castore H 140 116 at_139 A184 (nlt z157 (Nat.le_of_eq g155.symm)) ?_
  intro h186 K186 A186
  have q187 := (q185.keep K184)
  change Ar Z h186 b155 kc155 .char [.int 49, .int 32, .int 109, .int 97, .int 116, .int 99, .int 104, .int 101, .int 114, .int 32, .int 101, .int 120, .int 112, .int 101, .int 99, .int 116, .int 0, .int 0, .int 0, .int 0, .int 0, .int 0, .int 0, .int 0, .int 0, .int 0, .int 0, .int 0, .int 0, .int 0, .int 0] at A186
  refine r_dup H 141 at_140 ?_
  refine r_bipush H 143 16 at_141 ?_
  refine r_bipush H 145 101 at_143 ?_
  refine r_castore H 146 101 at_145 A186 (nlt z157 (Nat.le_of_eq g155.symm)) ?_
  intro h188 K188 A188
  have q189 := (q187.keep K186)
  change Ar Z h188 b155 kc155 .char [.int 49, .int 32, .int 109, .int 97, .int 116, .int 99, .int 104, .int 101, .int 114, .int 32, .int 101, .int 120, .int 112, .int 101, .int 99, .int 116, .int 101, .int 0, .int 0, .int 0, .int 0, .int 0, .int 0, .int 0, .int 0, .int 0, .int 0, .int 0, .int 0, .int 0, .int 0] at A188
  refine r_dup H 147 at_146 ?_
  refine r_bipush H 149 17 at_147 ?_
  refine r_bipush H 151 100 at_149 ?_
  refine r_castore H 152 100 at_151 A188 (nlt z157 (Nat.le_of_eq g155.symm)) ?_
  intro h190 K190 A190
  have q191 := (q189.keep K188)
  change Ar Z h190 b155 kc155 .char [.int 49, .int 32, .int 109, .int 97, .int 116, .int 99, .int 104, .int 101, .int 114, .int 32, .int 101, .int 120, .int 112, .int 101, .int 99, .int 116, .int 101, .int 100, .int 0, .int 0, .int 0, .int 0, .int 0, .int 0, .int 0, .int 0, .int 0, .int 0, .int 0, .int 0, .int 0] at A190
  refine r_dup H 153 at_152 ?_
  refine r_bipush H 155 18 at_153 ?_
  refine r_bipush H 157 44 at_155 ?_
  refine r_castore H 158 44 at_157 A190 (nlt z157 (Nat.le_of_eq g155.symm)) ?_
  intro h192 K192 A192
  have q193 := (q191.keep K190)
  change Ar Z h192 b155 kc155 .char [.int 49, .int 32, .int 109, .int 97, .int 116, .int 99, .int 104, .int 101, .int 114, .int 32, .int 101, .int 120, .int 112, .int 101, .int 99, .int 116, .int 101, .int 100, .int 44, .int 0, .int 0, .int 0, .int 0, .int 0, .int 0, .int 0, .int 0, .int 0, .int 0, .int 0, .int 0] at A192
  refine r_dup H 159 at_158 ?_
  refine r_bipush H 161 19 at_159 ?_
  refine r_bipush H 163 32 at_161 ?_
  refine r_castore H 164 32 at_163 A192 (nlt z157 (Nat.le_of_eq g155.symm)) ?_
  intro h194 K194 A194
  have q195 := (q193.keep K192)
  change Ar Z h194 b155 kc155 .char [.int 49, .int 32, .int 109, .int 97, .int 116, .int 99, .int 104, .int 101, .int 114, .int 32, .int 101, .int 120, .int 112, .int 101, .int 99, .int 116, .int 101, .int 100, .int 44, .int 32, .int 0, .int 0, .int 0, .int 0, .int 0, .int 0, .int 0, .int 0, .int 0, .int 0, .int 0] at A194
  refine r_dup H 165 at_164 ?_
  refine r_bipush H 167 20 at_165 ?_
  refine r_iload H 169 at_167 ?_
  refine r_castore (hy := (nar_char_id (by have := rp6; omega))) H 170 p6 at_169 A194 (nlt z157 (Nat.le_of_eq g155.symm)) ?_
  intro h196 K196 A196
  have q197 := (q195.keep K194)
  change Ar Z h196 b155 kc155 .char [.int 49, .int 32, .int 109, .int 97, .int 116, .int 99, .int 104, .int 101, .int 114, .int 32, .int 101, .int 120, .int 112, .int 101, .int 99, .int 116, .int 101, .int 100, .int 44, .int 32, .int p6, .int 0, .int 0, .int 0, .int 0, .int 0, .int 0, .int 0, .int 0, .int 0, .int 0] at A196
  refine r_dup H 171 at_170 ?_
  refine r_bipush H 173 21 at_171 ?_
  refine r_bipush H 175 32 at_173 ?_
  refine r_castore H 176 32 at_175 A196 (nlt z157 (Nat.le_of_eq g155.symm)) ?_
  intro h198 K198 A198
  have q199 := (q197.keep K196)
  change Ar Z h198 b155 kc155 .char [.int 49, .int 32, .int 109, .int 97, .int 116, .int 99, .int 104, .int 101, .int 114, .int 32, .int 101, .int 120, .int 112, .int 101, .int 99, .int 116, .int 101, .int 100, .int 44, .int 32, .int p6, .int 32, .int 0, .int 0, .int 0, .int 0, .int 0, .int 0, .int 0, .int 0, .int 0] at A198
  refine r_dup H 177 at_176 ?_
  refine r_bipush H 179 22 at_177 ?_
  refine r_bipush H 181 114 at_179 ?_
  refine r_castore H 182 114 at_181 A198 (nlt z157 (Nat.le_of_eq g155.symm)) ?_
  intro h200 K200 A200
  have q201 := (q199.keep K198)
  change Ar Z h200 b155 kc155 .char [.int 49, .int 32, .int 109, .int 97, .int 116, .int 99, .int 104, .int 101, .int 114, .int 32, .int 101, .int 120, .int 112, .int 101, .int 99, .int 116, .int 101, .int 100, .int 44, .int 32, .int p6, .int 32, .int 114, .int 0, .int 0, .int 0, .int 0, .int 0, .int 0, .int 0, .int 0] at A200
  refine r_dup H 183 at_182 ?_
  refine r_bipush H 185 23 at_183 ?_
  refine r_bipush H 187 101 at_185 ?_
  refine r_castore H 188 101 at_187 A200 (nlt z157 (Nat.le_of_eq g155.symm)) ?_
  intro h202 K202 A202
  have q203 := (q201.keep K200)
  change Ar Z h202 b155 kc155 .char [.int 49, .int 32, .int 109, .int 97, .int 116, .int 99, .int 104, .int 101, .int 114, .int 32, .int 101, .int 120, .int 112, .int 101, .int 99, .int 116, .int 101, .int 100, .int 44, .int 32, .int p6, .int 32, .int 114, .int 101, .int 0, .int 0, .int 0, .int 0, .int 0, .int 0, .int 0] at A202
  refine r_dup H 189 at_188 ?_
  refine r_bipush H 191 24 at_189 ?_
  refine r_bipush H 193 99 at_191 ?_
  refine r_castore H 194 99 at_193 A202 (nlt z157 (Nat.le_of_eq g155.symm)) ?_
  intro h204 K204 A204
  have q205 := (q203.keep K202)
  change Ar Z h204 b155 kc155 .char [.int 49, .int 32, .int 109, .int 97, .int 116, .int 99, .int 104, .int 101, .int 114, .int 32, .int 101, .int 120, .int 112, .int 101, .int 99, .int 116, .int 101, .int 100, .int 44, .int 32, .int p6, .int 32, .int 114, .int 101, .int 99, .int 0, .int 0, .int 0, .int 0, .int 0, .int 0] at A204
  refine r_dup H 195 at_194 ?_
  refine r_bipush H 197 25 at_195 ?_
  refine r_bipush H 199 111 at_197 ?_
  refine r_castore H 200 111 at_199 A204 (nlt z157 (Nat.le_of_eq g155.symm)) ?_
  intro h206 K206 A206
  have q207 := (q205.keep K204)
  change Ar Z h206 b155 kc155 .char [.int 49, .int 32, .int 109, .int 97, .int 116, .int 99, .int 104, .int 101, .int 114, .int 32, .int 101, .int 120, .int 112, .int 101, .int 99, .int 116, .int 101, .int 100, .int 44, .int 32, .int p6, .int 32, .int 114, .int 101, .int 99, .int 111, .int 0, .int 0, .int 0, .int 0, .int 0] at A206
  refine r_dup H 201 at_200 ?_
  refine r_bipush H 203 26 at_201 ?_
  refine r_bipush H 205 114 at_203 ?_
  refine r_castore H 206 114 at_205 A206 (nlt z157 (Nat.le_of_eq g155.symm)) ?_
  intro h208 K208 A208
  have q209 := (q207.keep K206)
  change Ar Z h208 b155 kc155 .char [.int 49, .int 32, .int 109, .int 97, .int 116, .int 99, .int 104, .int 101, .int 114, .int 32, .int 101, .int 120, .int 112, .int 101, .int 99, .int 116, .int 101, .int 100, .int 44, .int 32, .int p6, .int 32, .int 114, .int 101, .int 99, .int 111, .int 114, .int 0, .int 0, .int 0, .int 0] at A208
  refine r_dup H 207 at_206 ?_
  refine r_bipush H 209 27 at_207 ?_
  refine r_bipush H 211 100 at_209 ?_
  refine r_castore H 212 100 at_211 A208 (nlt z157 (Nat.le_of_eq g155.symm)) ?_
  intro h210 K210 A210
  have q211 := (q209.keep K208)
  change Ar Z h210 b155 kc155 .char [.int 49, .int 32, .int 109, .int 97, .int 116, .int 99, .int 104, .int 101, .int 114, .int 32, .int 101, .int 120, .int 112, .int 101, .int 99, .int 116, .int 101, .int 100, .int 44, .int 32, .int p6, .int 32, .int 114, .int 101, .int 99, .int 111, .int 114, .int 100, .int 0, .int 0, .int 0] at A210
  refine r_dup H 213 at_212 ?_
  refine r_bipush H 215 28 at_213 ?_
  refine r_bipush H 217 101 at_215 ?_
  refine r_castore H 218 101 at_217 A210 (nlt z157 (Nat.le_of_eq g155.symm)) ?_
  intro h212 K212 A212
  have q213 := (q211.keep K210)
  change Ar Z h212 b155 kc155 .char [.int 49, .int 32, .int 109, .int 97, .int 116, .int 99, .int 104, .int 101, .int 114, .int 32, .int 101, .int 120, .int 112, .int 101, .int 99, .int 116, .int 101, .int 100, .int 44, .int 32, .int p6, .int 32, .int 114, .int 101, .int 99, .int 111, .int 114, .int 100, .int 101, .int 0, .int 0] at A212
  refine r_dup H 219 at_218 ?_
  refine r_bipush H 221 29 at_219 ?_
  refine r_bipush H 223 100 at_221 ?_
  refine r_castore H 224 100 at_223 A212 (nlt z157 (Nat.le_of_eq g155.symm)) ?_
  intro h214 K214 A214
  have q215 := (q213.keep K212)
  change Ar Z h214 b155 kc155 .char [.int 49, .int 32, .int 109, .int 97, .int 116, .int 99, .int 104, .int 101, .int 114, .int 32, .int 101, .int 120, .int 112, .int 101, .int 99, .int 116, .int 101, .int 100, .int 44, .int 32, .int p6, .int 32, .int 114, .int 101, .int 99, .int 111, .int 114, .int 100, .int 101, .int 100, .int 0] at A214
  refine r_dup H 225 at_224 ?_
  refine r_bipush H 227 30 at_225 ?_
  refine r_bipush H 229 46 at_227 ?_
  refine r_castore H 230 46 at_229 A214 (nlt z157 (Nat.le_of_eq g155.symm)) ?_
  intro h216 K216 A216
  have q217 := (q215.keep K214)
  change Ar Z h216 b155 kc155 .char [.int 49, .int 32, .int 109, .int 97, .int 116, .int 99, .int 104, .int 101, .int 114, .int 32, .int 101, .int 120, .int 112, .int 101, .int 99, .int 116, .int 101, .int 100, .int 44, .int 32, .int p6, .int 32, .int 114, .int 101, .int 99, .int 111, .int 114, .int 100, .int 101, .int 100, .int 46] at A216
  have q218 := (q217.keep K216)
  have q219 := ((((((((((((((((((((((((((((((((E154.keep K155).keep K156).keep K158).keep K160).keep K162).keep K164).keep K166).keep K168).keep K170).keep K172).keep K174).keep K176).keep K178).keep K180).keep K182).keep K184).keep K186).keep K188).keep K190).keep K192).keep K194).keep K196).keep K198).keep K200).keep K202).keep K204).keep K206).keep K208).keep K210).keep K212).keep K214).keep K216)
  have q220 := (((((((((((((((((((((((((((((((((show Fld Z h154 b154 "java/lang/String" "coder" "B" (.int 0) from D154 (Or.inr (tw60 hw)) (ty := .byte) (by decide)).keep K155 nin0).keep K156 (ninS (Nat.ne_of_lt (Nat.lt_of_lt_of_le E154.lt (nlt nlr (Nat.le_of_eq g155.symm)))) nin0)).keep K158 (ninS (Nat.ne_of_lt (Nat.lt_of_lt_of_le E154.lt (nlt nlr (Nat.le_of_eq g155.symm)))) nin0)).keep K160 (ninS (Nat.ne_of_lt (Nat.lt_of_lt_of_le E154.lt (nlt nlr (Nat.le_of_eq g155.symm)))) nin0)).keep K162 (ninS (Nat.ne_of_lt (Nat.lt_of_lt_of_le E154.lt (nlt nlr (Nat.le_of_eq g155.symm)))) nin0)).keep K164 (ninS (Nat.ne_of_lt (Nat.lt_of_lt_of_le E154.lt (nlt nlr (Nat.le_of_eq g155.symm)))) nin0)).keep K166 (ninS (Nat.ne_of_lt (Nat.lt_of_lt_of_le E154.lt (nlt nlr (Nat.le_of_eq g155.symm)))) nin0)).keep K168 (ninS (Nat.ne_of_lt (Nat.lt_of_lt_of_le E154.lt (nlt nlr (Nat.le_of_eq g155.symm)))) nin0)).keep K170 (ninS (Nat.ne_of_lt (Nat.lt_of_lt_of_le E154.lt (nlt nlr (Nat.le_of_eq g155.symm)))) nin0)).keep K172 (ninS (Nat.ne_of_lt (Nat.lt_of_lt_of_le E154.lt (nlt nlr (Nat.le_of_eq g155.symm)))) nin0)).keep K174 (ninS (Nat.ne_of_lt (Nat.lt_of_lt_of_le E154.lt (nlt nlr (Nat.le_of_eq g155.symm)))) nin0)).keep K176 (ninS (Nat.ne_of_lt (Nat.lt_of_lt_of_le E154.lt (nlt nlr (Nat.le_of_eq g155.symm)))) nin0)).keep K178 (ninS (Nat.ne_of_lt (Nat.lt_of_lt_of_le E154.lt (nlt nlr (Nat.le_of_eq g155.symm)))) nin0)).keep K180 (ninS (Nat.ne_of_lt (Nat.lt_of_lt_of_le E154.lt (nlt nlr (Nat.le_of_eq g155.symm)))) nin0)).keep K182 (ninS (Nat.ne_of_lt (Nat.lt_of_lt_of_le E154.lt (nlt nlr (Nat.le_of_eq g155.symm)))) nin0)).keep K184 (ninS (Nat.ne_of_lt (Nat.lt_of_lt_of_le E154.lt (nlt nlr (Nat.le_of_eq g155.symm)))) nin0)).keep K186 (ninS (Nat.ne_of_lt (Nat.lt_of_lt_of_le E154.lt (nlt nlr (Nat.le_of_eq g155.symm)))) nin0)).keep K188 (ninS (Nat.ne_of_lt (Nat.lt_of_lt_of_le E154.lt (nlt nlr (Nat.le_of_eq g155.symm)))) nin0)).keep K190 (ninS (Nat.ne_of_lt (Nat.lt_of_lt_of_le E154.lt (nlt nlr (Nat.le_of_eq g155.symm)))) nin0)).keep K192 (ninS (Nat.ne_of_lt (Nat.lt_of_lt_of_le E154.lt (nlt nlr (Nat.le_of_eq g155.symm)))) nin0)).keep K194 (ninS (Nat.ne_of_lt (Nat.lt_of_lt_of_le E154.lt (nlt nlr (Nat.le_of_eq g155.symm)))) nin0)).keep K196 (ninS (Nat.ne_of_lt (Nat.lt_of_lt_of_le E154.lt (nlt nlr (Nat.le_of_eq g155.symm)))) nin0)).keep K198 (ninS (Nat.ne_of_lt (Nat.lt_of_lt_of_le E154.lt (nlt nlr (Nat.le_of_eq g155.symm)))) nin0)).keep K200 (ninS (Nat.ne_of_lt (Nat.lt_of_lt_of_le E154.lt (nlt nlr (Nat.le_of_eq g155.symm)))) nin0)).keep K202 (ninS (Nat.ne_of_lt (Nat.lt_of_lt_of_le E154.lt (nlt nlr (Nat.le_of_eq g155.symm)))) nin0)).keep K204 (ninS (Nat.ne_of_lt (Nat.lt_of_lt_of_le E154.lt (nlt nlr (Nat.le_of_eq g155.symm)))) nin0)).keep K206 (ninS (Nat.ne_of_lt (Nat.lt_of_lt_of_le E154.lt (nlt nlr (Nat.le_of_eq g155.symm)))) nin0)).keep K208 (ninS (Nat.ne_of_lt (Nat.lt_of_lt_of_le E154.lt (nlt nlr (Nat.le_of_eq g155.symm)))) nin0)).keep K210 (ninS (Nat.ne_of_lt (Nat.lt_of_lt_of_le E154.lt (nlt nlr (Nat.le_of_eq g155.symm)))) nin0)).keep K212 (ninS (Nat.ne_of_lt (Nat.lt_of_lt_of_le E154.lt (nlt nlr (Nat.le_of_eq g155.symm)))) nin0)).keep K214 (ninS (Nat.ne_of_lt (Nat.lt_of_lt_of_le E154.lt (nlt nlr (Nat.le_of_eq g155.symm)))) nin0)).keep K216 (ninS (Nat.ne_of_lt (Nat.lt_of_lt_of_le E154.lt (nlt nlr (Nat.le_of_eq g155.symm)))) nin0))
  have q221 := (((((((((((((((((((((((((((((((((show Fld Z h154 b154 "java/lang/String" "value" "[B" .null from D154 (Or.inr (tw59 hw)) (ty := (.array .byte)) (by decide)).keep K155 nin0).keep K156 (ninS (Nat.ne_of_lt (Nat.lt_of_lt_of_le E154.lt (nlt nlr (Nat.le_of_eq g155.symm)))) nin0)).keep K158 (ninS (Nat.ne_of_lt (Nat.lt_of_lt_of_le E154.lt (nlt nlr (Nat.le_of_eq g155.symm)))) nin0)).keep K160 (ninS (Nat.ne_of_lt (Nat.lt_of_lt_of_le E154.lt (nlt nlr (Nat.le_of_eq g155.symm)))) nin0)).keep K162 (ninS (Nat.ne_of_lt (Nat.lt_of_lt_of_le E154.lt (nlt nlr (Nat.le_of_eq g155.symm)))) nin0)).keep K164 (ninS (Nat.ne_of_lt (Nat.lt_of_lt_of_le E154.lt (nlt nlr (Nat.le_of_eq g155.symm)))) nin0)).keep K166 (ninS (Nat.ne_of_lt (Nat.lt_of_lt_of_le E154.lt (nlt nlr (Nat.le_of_eq g155.symm)))) nin0)).keep K168 (ninS (Nat.ne_of_lt (Nat.lt_of_lt_of_le E154.lt (nlt nlr (Nat.le_of_eq g155.symm)))) nin0)).keep K170 (ninS (Nat.ne_of_lt (Nat.lt_of_lt_of_le E154.lt (nlt nlr (Nat.le_of_eq g155.symm)))) nin0)).keep K172 (ninS (Nat.ne_of_lt (Nat.lt_of_lt_of_le E154.lt (nlt nlr (Nat.le_of_eq g155.symm)))) nin0)).keep K174 (ninS (Nat.ne_of_lt (Nat.lt_of_lt_of_le E154.lt (nlt nlr (Nat.le_of_eq g155.symm)))) nin0)).keep K176 (ninS (Nat.ne_of_lt (Nat.lt_of_lt_of_le E154.lt (nlt nlr (Nat.le_of_eq g155.symm)))) nin0)).keep K178 (ninS (Nat.ne_of_lt (Nat.lt_of_lt_of_le E154.lt (nlt nlr (Nat.le_of_eq g155.symm)))) nin0)).keep K180 (ninS (Nat.ne_of_lt (Nat.lt_of_lt_of_le E154.lt (nlt nlr (Nat.le_of_eq g155.symm)))) nin0)).keep K182 (ninS (Nat.ne_of_lt (Nat.lt_of_lt_of_le E154.lt (nlt nlr (Nat.le_of_eq g155.symm)))) nin0)).keep K184 (ninS (Nat.ne_of_lt (Nat.lt_of_lt_of_le E154.lt (nlt nlr (Nat.le_of_eq g155.symm)))) nin0)).keep K186 (ninS (Nat.ne_of_lt (Nat.lt_of_lt_of_le E154.lt (nlt nlr (Nat.le_of_eq g155.symm)))) nin0)).keep K188 (ninS (Nat.ne_of_lt (Nat.lt_of_lt_of_le E154.lt (nlt nlr (Nat.le_of_eq g155.symm)))) nin0)).keep K190 (ninS (Nat.ne_of_lt (Nat.lt_of_lt_of_le E154.lt (nlt nlr (Nat.le_of_eq g155.symm)))) nin0)).keep K192 (ninS (Nat.ne_of_lt (Nat.lt_of_lt_of_le E154.lt (nlt nlr (Nat.le_of_eq g155.symm)))) nin0)).keep K194 (ninS (Nat.ne_of_lt (Nat.lt_of_lt_of_le E154.lt (nlt nlr (Nat.le_of_eq g155.symm)))) nin0)).keep K196 (ninS (Nat.ne_of_lt (Nat.lt_of_lt_of_le E154.lt (nlt nlr (Nat.le_of_eq g155.symm)))) nin0)).keep K198 (ninS (Nat.ne_of_lt (Nat.lt_of_lt_of_le E154.lt (nlt nlr (Nat.le_of_eq g155.symm)))) nin0)).keep K200 (ninS (Nat.ne_of_lt (Nat.lt_of_lt_of_le E154.lt (nlt nlr (Nat.le_of_eq g155.symm)))) nin0)).keep K202 (ninS (Nat.ne_of_lt (Nat.lt_of_lt_of_le E154.lt (nlt nlr (Nat.le_of_eq g155.symm)))) nin0)).keep K204 (ninS (Nat.ne_of_lt (Nat.lt_of_lt_of_le E154.lt (nlt nlr (Nat.le_of_eq g155.symm)))) nin0)).keep K206 (ninS (Nat.ne_of_lt (Nat.lt_of_lt_of_le E154.lt (nlt nlr (Nat.le_of_eq g155.symm)))) nin0)).keep K208 (ninS (Nat.ne_of_lt (Nat.lt_of_lt_of_le E154.lt (nlt nlr (Nat.le_of_eq g155.symm)))) nin0)).keep K210 (ninS (Nat.ne_of_lt (Nat.lt_of_lt_of_le E154.lt (nlt nlr (Nat.le_of_eq g155.symm)))) nin0)).keep K212 (ninS (Nat.ne_of_lt (Nat.lt_of_lt_of_le E154.lt (nlt nlr (Nat.le_of_eq g155.symm)))) nin0)).keep K214 (ninS (Nat.ne_of_lt (Nat.lt_of_lt_of_le E154.lt (nlt nlr (Nat.le_of_eq g155.symm)))) nin0)).keep K216 (ninS (Nat.ne_of_lt (Nat.lt_of_lt_of_le E154.lt (nlt nlr (Nat.le_of_eq g155.symm)))) nin0))
  have z222 := Nat.le_trans z157 K155.1
  have z223 := Nat.le_trans z222 K156.1
  have z224 := Nat.le_trans z223 K158.1
  have z225 := Nat.le_trans z224 K160.1
  have z226 := Nat.le_trans z225 K162.1
  have z227 := Nat.le_trans z226 K164.1
  have z228 := Nat.le_trans z227 K166.1
  have z229 := Nat.le_trans z228 K168.1
  have z230 := Nat.le_trans z229 K170.1
  have z231 := Nat.le_trans z230 K172.1
  have z232 := Nat.le_trans z231 K174.1
  have z233 := Nat.le_trans z232 K176.1
  have z234 := Nat.le_trans z233 K178.1
  have z235 := Nat.le_trans z234 K180.1
  have z236 := Nat.le_trans z235 K182.1
  have z237 := Nat.le_trans z236 K184.1
  have z238 := Nat.le_trans z237 K186.1
  have z239 := Nat.le_trans z238 K188.1
  have z240 := Nat.le_trans z239 K190.1
  have z241 := Nat.le_trans z240 K192.1
  have z242 := Nat.le_trans z241 K194.1
  have z243 := Nat.le_trans z242 K196.1
  have z244 := Nat.le_trans z243 K198.1
  have z245 := Nat.le_trans z244 K200.1
  have z246 := Nat.le_trans z245 K202.1
  have z247 := Nat.le_trans z246 K204.1
  have z248 := Nat.le_trans z247 K206.1
  have z249 := Nat.le_trans z248 K208.1
  have z250 := Nat.le_trans z249 K210.1
  have z251 := Nat.le_trans z250 K212.1
  have z252 := Nat.le_trans z251 K214.1
  have z253 := Nat.le_trans z252 K216.1
  refine r_special (a := b154) (argsL := [.ref b155]) (rest := [.ref b154]) (W := 1) H 233 at_230 (tw169 hw) (tw170 hw) (tw21 hw) (tw171 hw) (lenOf pd_28 rfl) (rm_init_104 hw (" matchers" :: "1 matcher" :: " expected, " :: " recorded." :: Ts) b154 b155 p6 kc155 cs h216 h0.size (nlt Zf Z0) z253 A216 (nlt K23.1 (Nat.le_of_eq g154.symm)) q218 q219 q220 q221 rp6 S_cs hcs) ?_
  rintro _ hh263 ⟨b254, kc255, rfl, K256, g257, q258, q259, q260, q261, q262⟩
  refine r_astore H 235 #[vI x0, vI x1, vI p2, vI p4, vI p5, vI p6, vR b20, vR b154] at_233 ?_
  refine r_goto H 437 at_235 ?_
  refine r_aload H 439 at_437 ?_
  refine r_aload H 441 at_439 ?_
  have q264 := ((((((((((((((((((((((((((((((((((q30.keep K154 nin0).keep K155 nin0).keep K156 (ninS (Nat.ne_of_lt (Nat.lt_of_lt_of_le q28.lt (nlt K154.1 (Nat.le_of_eq g155.symm)))) nin0)).keep K158 (ninS (Nat.ne_of_lt (Nat.lt_of_lt_of_le q28.lt (nlt K154.1 (Nat.le_of_eq g155.symm)))) nin0)).keep K160 (ninS (Nat.ne_of_lt (Nat.lt_of_lt_of_le q28.lt (nlt K154.1 (Nat.le_of_eq g155.symm)))) nin0)).keep K162 (ninS (Nat.ne_of_lt (Nat.lt_of_lt_of_le q28.lt (nlt K154.1 (Nat.le_of_eq g155.symm)))) nin0)).keep K164 (ninS (Nat.ne_of_lt (Nat.lt_of_lt_of_le q28.lt (nlt K154.1 (Nat.le_of_eq g155.symm)))) nin0)).keep K166 (ninS (Nat.ne_of_lt (Nat.lt_of_lt_of_le q28.lt (nlt K154.1 (Nat.le_of_eq g155.symm)))) nin0)).keep K168 (ninS (Nat.ne_of_lt (Nat.lt_of_lt_of_le q28.lt (nlt K154.1 (Nat.le_of_eq g155.symm)))) nin0)).keep K170 (ninS (Nat.ne_of_lt (Nat.lt_of_lt_of_le q28.lt (nlt K154.1 (Nat.le_of_eq g155.symm)))) nin0)).keep K172 (ninS (Nat.ne_of_lt (Nat.lt_of_lt_of_le q28.lt (nlt K154.1 (Nat.le_of_eq g155.symm)))) nin0)).keep K174 (ninS (Nat.ne_of_lt (Nat.lt_of_lt_of_le q28.lt (nlt K154.1 (Nat.le_of_eq g155.symm)))) nin0)).keep K176 (ninS (Nat.ne_of_lt (Nat.lt_of_lt_of_le q28.lt (nlt K154.1 (Nat.le_of_eq g155.symm)))) nin0)).keep K178 (ninS (Nat.ne_of_lt (Nat.lt_of_lt_of_le q28.lt (nlt K154.1 (Nat.le_of_eq g155.symm)))) nin0)).keep K180 (ninS (Nat.ne_of_lt (Nat.lt_of_lt_of_le q28.lt (nlt K154.1 (Nat.le_of_eq g155.symm)))) nin0)).keep K182 (ninS (Nat.ne_of_lt (Nat.lt_of_lt_of_le q28.lt (nlt K154.1 (Nat.le_of_eq g155.symm)))) nin0)).keep K184 (ninS (Nat.ne_of_lt (Nat.lt_of_lt_of_le q28.lt (nlt K154.1 (Nat.le_of_eq g155.symm)))) nin0)).keep K186 (ninS (Nat.ne_of_lt (Nat.lt_of_lt_of_le q28.lt (nlt K154.1 (Nat.le_of_eq g155.symm)))) nin0)).keep K188 (ninS (Nat.ne_of_lt (Nat.lt_of_lt_of_le q28.lt (nlt K154.1 (Nat.le_of_eq g155.symm)))) nin0)).keep K190 (ninS (Nat.ne_of_lt (Nat.lt_of_lt_of_le q28.lt (nlt K154.1 (Nat.le_of_eq g155.symm)))) nin0)).keep K192 (ninS (Nat.ne_of_lt (Nat.lt_of_lt_of_le q28.lt (nlt K154.1 (Nat.le_of_eq g155.symm)))) nin0)).keep K194 (ninS (Nat.ne_of_lt (Nat.lt_of_lt_of_le q28.lt (nlt K154.1 (Nat.le_of_eq g155.symm)))) nin0)).keep K196 (ninS (Nat.ne_of_lt (Nat.lt_of_lt_of_le q28.lt (nlt K154.1 (Nat.le_of_eq g155.symm)))) nin0)).keep K198 (ninS (Nat.ne_of_lt (Nat.lt_of_lt_of_le q28.lt (nlt K154.1 (Nat.le_of_eq g155.symm)))) nin0)).keep K200 (ninS (Nat.ne_of_lt (Nat.lt_of_lt_of_le q28.lt (nlt K154.1 (Nat.le_of_eq g155.symm)))) nin0)).keep K202 (ninS (Nat.ne_of_lt (Nat.lt_of_lt_of_le q28.lt (nlt K154.1 (Nat.le_of_eq g155.symm)))) nin0)).keep K204 (ninS (Nat.ne_of_lt (Nat.lt_of_lt_of_le q28.lt (nlt K154.1 (Nat.le_of_eq g155.symm)))) nin0)).keep K206 (ninS (Nat.ne_of_lt (Nat.lt_of_lt_of_le q28.lt (nlt K154.1 (Nat.le_of_eq g155.symm)))) nin0)).keep K208 (ninS (Nat.ne_of_lt (Nat.lt_of_lt_of_le q28.lt (nlt K154.1 (Nat.le_of_eq g155.symm)))) nin0)).keep K210 (ninS (Nat.ne_of_lt (Nat.lt_of_lt_of_le q28.lt (nlt K154.1 (Nat.le_of_eq g155.symm)))) nin0)).keep K212 (ninS (Nat.ne_of_lt (Nat.lt_of_lt_of_le q28.lt (nlt K154.1 (Nat.le_of_eq g155.symm)))) nin0)).keep K214 (ninS (Nat.ne_of_lt (Nat.lt_of_lt_of_le q28.lt (nlt K154.1 (Nat.le_of_eq g155.symm)))) nin0)).keep K216 (ninS (Nat.ne_of_lt (Nat.lt_of_lt_of_le q28.lt (nlt K154.1 (Nat.le_of_eq g155.symm)))) nin0)).keep K256 (ninS (Nat.ne_of_lt (Nat.lt_of_lt_of_le q28.lt (nlt nlr (Nat.le_of_eq g154.symm)))) nin0))
  have q265 := ((((((((((((((((((((((((((((((((((q31.keep K154 nin0).keep K155 nin0).keep K156 (ninS (Nat.ne_of_lt (Nat.lt_of_lt_of_le q31.lt (nlt K154.1 (Nat.le_of_eq g155.symm)))) nin0)).keep K158 (ninS (Nat.ne_of_lt (Nat.lt_of_lt_of_le q31.lt (nlt K154.1 (Nat.le_of_eq g155.symm)))) nin0)).keep K160 (ninS (Nat.ne_of_lt (Nat.lt_of_lt_of_le q31.lt (nlt K154.1 (Nat.le_of_eq g155.symm)))) nin0)).keep K162 (ninS (Nat.ne_of_lt (Nat.lt_of_lt_of_le q31.lt (nlt K154.1 (Nat.le_of_eq g155.symm)))) nin0)).keep K164 (ninS (Nat.ne_of_lt (Nat.lt_of_lt_of_le q31.lt (nlt K154.1 (Nat.le_of_eq g155.symm)))) nin0)).keep K166 (ninS (Nat.ne_of_lt (Nat.lt_of_lt_of_le q31.lt (nlt K154.1 (Nat.le_of_eq g155.symm)))) nin0)).keep K168 (ninS (Nat.ne_of_lt (Nat.lt_of_lt_of_le q31.lt (nlt K154.1 (Nat.le_of_eq g155.symm)))) nin0)).keep K170 (ninS (Nat.ne_of_lt (Nat.lt_of_lt_of_le q31.lt (nlt K154.1 (Nat.le_of_eq g155.symm)))) nin0)).keep K172 (ninS (Nat.ne_of_lt (Nat.lt_of_lt_of_le q31.lt (nlt K154.1 (Nat.le_of_eq g155.symm)))) nin0)).keep K174 (ninS (Nat.ne_of_lt (Nat.lt_of_lt_of_le q31.lt (nlt K154.1 (Nat.le_of_eq g155.symm)))) nin0)).keep K176 (ninS (Nat.ne_of_lt (Nat.lt_of_lt_of_le q31.lt (nlt K154.1 (Nat.le_of_eq g155.symm)))) nin0)).keep K178 (ninS (Nat.ne_of_lt (Nat.lt_of_lt_of_le q31.lt (nlt K154.1 (Nat.le_of_eq g155.symm)))) nin0)).keep K180 (ninS (Nat.ne_of_lt (Nat.lt_of_lt_of_le q31.lt (nlt K154.1 (Nat.le_of_eq g155.symm)))) nin0)).keep K182 (ninS (Nat.ne_of_lt (Nat.lt_of_lt_of_le q31.lt (nlt K154.1 (Nat.le_of_eq g155.symm)))) nin0)).keep K184 (ninS (Nat.ne_of_lt (Nat.lt_of_lt_of_le q31.lt (nlt K154.1 (Nat.le_of_eq g155.symm)))) nin0)).keep K186 (ninS (Nat.ne_of_lt (Nat.lt_of_lt_of_le q31.lt (nlt K154.1 (Nat.le_of_eq g155.symm)))) nin0)).keep K188 (ninS (Nat.ne_of_lt (Nat.lt_of_lt_of_le q31.lt (nlt K154.1 (Nat.le_of_eq g155.symm)))) nin0)).keep K190 (ninS (Nat.ne_of_lt (Nat.lt_of_lt_of_le q31.lt (nlt K154.1 (Nat.le_of_eq g155.symm)))) nin0)).keep K192 (ninS (Nat.ne_of_lt (Nat.lt_of_lt_of_le q31.lt (nlt K154.1 (Nat.le_of_eq g155.symm)))) nin0)).keep K194 (ninS (Nat.ne_of_lt (Nat.lt_of_lt_of_le q31.lt (nlt K154.1 (Nat.le_of_eq g155.symm)))) nin0)).keep K196 (ninS (Nat.ne_of_lt (Nat.lt_of_lt_of_le q31.lt (nlt K154.1 (Nat.le_of_eq g155.symm)))) nin0)).keep K198 (ninS (Nat.ne_of_lt (Nat.lt_of_lt_of_le q31.lt (nlt K154.1 (Nat.le_of_eq g155.symm)))) nin0)).keep K200 (ninS (Nat.ne_of_lt (Nat.lt_of_lt_of_le q31.lt (nlt K154.1 (Nat.le_of_eq g155.symm)))) nin0)).keep K202 (ninS (Nat.ne_of_lt (Nat.lt_of_lt_of_le q31.lt (nlt K154.1 (Nat.le_of_eq g155.symm)))) nin0)).keep K204 (ninS (Nat.ne_of_lt (Nat.lt_of_lt_of_le q31.lt (nlt K154.1 (Nat.le_of_eq g155.symm)))) nin0)).keep K206 (ninS (Nat.ne_of_lt (Nat.lt_of_lt_of_le q31.lt (nlt K154.1 (Nat.le_of_eq g155.symm)))) nin0)).keep K208 (ninS (Nat.ne_of_lt (Nat.lt_of_lt_of_le q31.lt (nlt K154.1 (Nat.le_of_eq g155.symm)))) nin0)).keep K210 (ninS (Nat.ne_of_lt (Nat.lt_of_lt_of_le q31.lt (nlt K154.1 (Nat.le_of_eq g155.symm)))) nin0)).keep K212 (ninS (Nat.ne_of_lt (Nat.lt_of_lt_of_le q31.lt (nlt K154.1 (Nat.le_of_eq g155.symm)))) nin0)).keep K214 (ninS (Nat.ne_of_lt (Nat.lt_of_lt_of_le q31.lt (nlt K154.1 (Nat.le_of_eq g155.symm)))) nin0)).keep K216 (ninS (Nat.ne_of_lt (Nat.lt_of_lt_of_le q31.lt (nlt K154.1 (Nat.le_of_eq g155.symm)))) nin0)).keep K256 (ninS (Nat.ne_of_lt (Nat.lt_of_lt_of_le q31.lt (nlt nlr (Nat.le_of_eq g154.symm)))) nin0))
  have q266 := ((((((((((((((((((((((((((((((((((q29.keep K154 nin0).keep K155 nin0).keep K156 (ninS (Nat.ne_of_lt (Nat.lt_of_lt_of_le q28.lt (nlt K154.1 (Nat.le_of_eq g155.symm)))) nin0)).keep K158 (ninS (Nat.ne_of_lt (Nat.lt_of_lt_of_le q28.lt (nlt K154.1 (Nat.le_of_eq g155.symm)))) nin0)).keep K160 (ninS (Nat.ne_of_lt (Nat.lt_of_lt_of_le q28.lt (nlt K154.1 (Nat.le_of_eq g155.symm)))) nin0)).keep K162 (ninS (Nat.ne_of_lt (Nat.lt_of_lt_of_le q28.lt (nlt K154.1 (Nat.le_of_eq g155.symm)))) nin0)).keep K164 (ninS (Nat.ne_of_lt (Nat.lt_of_lt_of_le q28.lt (nlt K154.1 (Nat.le_of_eq g155.symm)))) nin0)).keep K166 (ninS (Nat.ne_of_lt (Nat.lt_of_lt_of_le q28.lt (nlt K154.1 (Nat.le_of_eq g155.symm)))) nin0)).keep K168 (ninS (Nat.ne_of_lt (Nat.lt_of_lt_of_le q28.lt (nlt K154.1 (Nat.le_of_eq g155.symm)))) nin0)).keep K170 (ninS (Nat.ne_of_lt (Nat.lt_of_lt_of_le q28.lt (nlt K154.1 (Nat.le_of_eq g155.symm)))) nin0)).keep K172 (ninS (Nat.ne_of_lt (Nat.lt_of_lt_of_le q28.lt (nlt K154.1 (Nat.le_of_eq g155.symm)))) nin0)).keep K174 (ninS (Nat.ne_of_lt (Nat.lt_of_lt_of_le q28.lt (nlt K154.1 (Nat.le_of_eq g155.symm)))) nin0)).keep K176 (ninS (Nat.ne_of_lt (Nat.lt_of_lt_of_le q28.lt (nlt K154.1 (Nat.le_of_eq g155.symm)))) nin0)).keep K178 (ninS (Nat.ne_of_lt (Nat.lt_of_lt_of_le q28.lt (nlt K154.1 (Nat.le_of_eq g155.symm)))) nin0)).keep K180 (ninS (Nat.ne_of_lt (Nat.lt_of_lt_of_le q28.lt (nlt K154.1 (Nat.le_of_eq g155.symm)))) nin0)).keep K182 (ninS (Nat.ne_of_lt (Nat.lt_of_lt_of_le q28.lt (nlt K154.1 (Nat.le_of_eq g155.symm)))) nin0)).keep K184 (ninS (Nat.ne_of_lt (Nat.lt_of_lt_of_le q28.lt (nlt K154.1 (Nat.le_of_eq g155.symm)))) nin0)).keep K186 (ninS (Nat.ne_of_lt (Nat.lt_of_lt_of_le q28.lt (nlt K154.1 (Nat.le_of_eq g155.symm)))) nin0)).keep K188 (ninS (Nat.ne_of_lt (Nat.lt_of_lt_of_le q28.lt (nlt K154.1 (Nat.le_of_eq g155.symm)))) nin0)).keep K190 (ninS (Nat.ne_of_lt (Nat.lt_of_lt_of_le q28.lt (nlt K154.1 (Nat.le_of_eq g155.symm)))) nin0)).keep K192 (ninS (Nat.ne_of_lt (Nat.lt_of_lt_of_le q28.lt (nlt K154.1 (Nat.le_of_eq g155.symm)))) nin0)).keep K194 (ninS (Nat.ne_of_lt (Nat.lt_of_lt_of_le q28.lt (nlt K154.1 (Nat.le_of_eq g155.symm)))) nin0)).keep K196 (ninS (Nat.ne_of_lt (Nat.lt_of_lt_of_le q28.lt (nlt K154.1 (Nat.le_of_eq g155.symm)))) nin0)).keep K198 (ninS (Nat.ne_of_lt (Nat.lt_of_lt_of_le q28.lt (nlt K154.1 (Nat.le_of_eq g155.symm)))) nin0)).keep K200 (ninS (Nat.ne_of_lt (Nat.lt_of_lt_of_le q28.lt (nlt K154.1 (Nat.le_of_eq g155.symm)))) nin0)).keep K202 (ninS (Nat.ne_of_lt (Nat.lt_of_lt_of_le q28.lt (nlt K154.1 (Nat.le_of_eq g155.symm)))) nin0)).keep K204 (ninS (Nat.ne_of_lt (Nat.lt_of_lt_of_le q28.lt (nlt K154.1 (Nat.le_of_eq g155.symm)))) nin0)).keep K206 (ninS (Nat.ne_of_lt (Nat.lt_of_lt_of_le q28.lt (nlt K154.1 (Nat.le_of_eq g155.symm)))) nin0)).keep K208 (ninS (Nat.ne_of_lt (Nat.lt_of_lt_of_le q28.lt (nlt K154.1 (Nat.le_of_eq g155.symm)))) nin0)).keep K210 (ninS (Nat.ne_of_lt (Nat.lt_of_lt_of_le q28.lt (nlt K154.1 (Nat.le_of_eq g155.symm)))) nin0)).keep K212 (ninS (Nat.ne_of_lt (Nat.lt_of_lt_of_le q28.lt (nlt K154.1 (Nat.le_of_eq g155.symm)))) nin0)).keep K214 (ninS (Nat.ne_of_lt (Nat.lt_of_lt_of_le q28.lt (nlt K154.1 (Nat.le_of_eq g155.symm)))) nin0)).keep K216 (ninS (Nat.ne_of_lt (Nat.lt_of_lt_of_le q28.lt (nlt K154.1 (Nat.le_of_eq g155.symm)))) nin0)).keep K256 (ninS (Nat.ne_of_lt (Nat.lt_of_lt_of_le q28.lt (nlt nlr (Nat.le_of_eq g154.symm)))) nin0))
  have z267 := Nat.le_trans z253 K256.1
  have q268 := ((((((((((((((((((((((((((((((((((q28.keep K154).keep K155).keep K156).keep K158).keep K160).keep K162).keep K164).keep K166).keep K168).keep K170).keep K172).keep K174).keep K176).keep K178).keep K180).keep K182).keep K184).keep K186).keep K188).keep K190).keep K192).keep K194).keep K196).keep K198).keep K200).keep K202).keep K204).keep K206).keep K208).keep K210).keep K212).keep K214).keep K216).keep K256)
  refine r_virtual (z := mn36) (a := b20) (argsL := [.ref b154]) (rest := []) (W := 0) H 444 at_441 (tw185 hw) (tw186 hw) (nf_sel (tw188 hw)) (tw188 hw) (tw187 hw) (tw21 hw) (tw189 hw) q268 (lenOf pd_30 rfl) (rm_equals_109 hw (" matchers" :: "1 matcher" :: " expected, " :: " recorded." :: Ts) b20 b154 b21 b254 p6 kc22 kc255 cs hh263 h0.size (nlt Zf Z0) z267 q264 q260 q265 q261 q258 q266 q259 S_cs hcs) ?_
  rintro _ _ ⟨rfl, rfl⟩
  exact r_nreturn (hf := Z0) (1 : Int32) H at_444 rfl
set_option maxRecDepth 65536 in
set_option maxHeartbeats 40000000 in
theorem comes_1 {Post : Tables → Env → Array Value → State → Outcome → State → Prop} (hpost : ∀ tb e args s v u, (limb_1_1.after args s (.returned v) u = true ∧ limb_1_2.after args s (.returned v) u = true ∧ True) → ReturnedEndW s (.returned v) u (Jvm.fieldLocs frame_1_writes args s ++ Jvm.arrayLocs frame_1_arrays args s ++ Jvm.staticLocs frame_1_statics s) 40 4608 → Post tb e args s (.returned v) u) :
    ArmFor flags0 classFile x code maxLocals ret World_1 tables_1 room_1 Calls_1 rest_1 Pre_1 Post := by
  intro l hfl _ _ p e ha hc hk s m args below hf hA hF happ hP
  obtain ⟨hcalls, hrest, hpre⟩ := hP
  obtain ⟨-, -, -, hnamed, -, -, -, hat⟩ := (Spec.applies_iff hf).mp happ
  obtain ⟨hg, hn⟩ := and_e (Cond.before_iff.mp (show (Jvm.Cond.and given_1 narrow_1).before args s = true from hpre))
  obtain ⟨hcnt, hg0⟩ := and_e hg
  obtain ⟨ga0, hg1⟩ := and_e hg0
  obtain ⟨w0, w1, rfl⟩ : ∃ w0 w1 : Value, args = #[w0, w1] := by
    have hs : args.size = 2 := by simpa [Cond.value, given_1] using hcnt
    obtain ⟨L⟩ := args
    match L, hs with
    | [w0, w1], _ => exact ⟨w0, w1, rfl⟩
  have hw := fun d (hd : d ∈ tables_1) => atoms_spec (ws := Jvm.Cond.code x code maxLocals ret :: tables_1) hat d (List.mem_cons_of_mem _ hd)
  obtain ⟨hsets, hown0⟩ := atoms_of _ (rest_1_c_eq ▸ (show rest_1_c.before _ s = true from hrest))
  obtain ⟨i0, ei0⟩ := is_v ga0
  obtain rfl : w0 = (.int i0) := Option.some.inj ei0
  obtain ⟨i1, ei1⟩ := is_v hg1
  obtain rfl : w1 = (.int i1) := Option.some.inj ei1
  have ncs := not_v (Cond.before_iff.mp (hsets _ (List.mem_of_getElem? (i := 2) rfl)))
  obtain ⟨cs, ecs⟩ := is_v (Cond.before_iff.mp (hsets _ (List.mem_of_getElem? (i := 1) rfl)))
  have S_cs : Sta s s.heap "java/lang/String" "COMPACT_STRINGS" "Z" (.int cs) := Sta.start ecs (Or.inl (hsets _ (List.mem_of_getElem? (i := 0) rfl)))
  have hcs : ¬ (cs = (0 : Int32)) := gotF (Cond.eq_ints ecs (Term.int_eval (0))) ncs
  obtain ⟨gDigitOnes, kDigitOnes, eDigitOnes, A_DigitOnes⟩ := own_tab (F := fun r => 48 + r % 10) (hsets _ (List.mem_of_getElem? (i := 12) rfl)) (hsets _ (List.mem_of_getElem? (i := 13) rfl)) (hsets _ (List.mem_of_getElem? (i := 14) rfl)) (tw22 hw) (own_tDigitOnes s _) own_fDigitOnes
  have S_DigitOnes : Sta s s.heap "java/lang/Integer" "DigitOnes" "[B" (.ref gDigitOnes) := Sta.start eDigitOnes (Or.inl (hsets _ (List.mem_of_getElem? (i := 11) rfl)))
  have wS : ∀ a ∈ Bundle.stringAtoms, a.before #[.int i0, .int i1] s = true := by
    intro a ha'
    simp only [Bundle.stringAtoms, List.mem_cons, List.not_mem_nil, or_false] at ha'
    rcases ha' with rfl | rfl | rfl | rfl | rfl | rfl | rfl
    · exact (tw21 hw)
    · exact (tw58 hw)
    · exact (tw22 hw)
    · exact (tw59 hw)
    · exact (tw60 hw)
    · exact (tw61 hw)
    · exact (tw62 hw)
  have hcw : Jvm.Lit.compactW.before #[.int i0, .int i1] s = true := (hsets _ (List.mem_of_getElem? (i := 2) rfl))
  have hh1 : Jvm.Lit.constHeld s "com/example/faithful_doubles/faithfuldoubles/doubles/ArgumentMatcher" 66 := hcalls.1 _ (List.mem_of_getElem? (i := 1) rfl)
  have hh0 : Jvm.Lit.constHeld s "com/example/faithful_doubles/faithfuldoubles/doubles/ArgumentMatcher" 57 := hcalls.1 _ (List.mem_of_getElem? (i := 0) rfl)
  have hh2 : Jvm.Lit.constHeld s "com/example/faithful_doubles/faithfuldoubles/doubles/ArgumentMatcher" 75 := hcalls.1 _ (List.mem_of_getElem? (i := 2) rfl)
  have hh3 : Jvm.Lit.constHeld s "com/example/faithful_doubles/faithfuldoubles/doubles/ArgumentMatcher" 77 := hcalls.1 _ (List.mem_of_getElem? (i := 3) rfl)
  obtain ⟨n, o, h1, h2, h3, _, L, rfl, ⟨rfl, N, -, -⟩, hq⟩ := rm_law hw [] rfl i0 i1 cs gDigitOnes kDigitOnes s.heap s.heap.size (Nat.le_refl _) (Nat.le_refl _) S_cs S_DigitOnes A_DigitOnes wS hcw hh1 hh0 hh2 hh3 hcs l p e ha hc hk s m _ below hf ((Spec.applies_iff_loose hf).mp happ).1 ⟨rfl, State.Warmed39.refl s, rfl, IB.start, ⟨Nat.le_refl _, fun _ _ q => q⟩⟩ trivial
  refine ⟨n, _, h1, h2, h3, hpost _ _ _ _ _ _ ⟨Cond.after_iff.mpr rfl, Cond.after_iff.mpr (eq_i res_at (Term.int_eval (1)) rfl), trivial⟩ ⟨hq.1, hq.2.1, hq.2.2.1, (hq.2.2.2.sift fun y hy => Or.inr (N y hy)).mono (by decide) (by decide)⟩⟩
theorem main_1_1 : Claimed_1_1 := comes_1 fun _ _ _ _ _ _ h hF => ⟨h.1, hF⟩
theorem main_1_2 : Claimed_1_2 := comes_1 fun _ _ _ _ _ _ h hF => ⟨h.2.1, hF⟩
end Jvm.Pilot.@@N@@
namespace Jvm.Pilot.@@N@@
open Jvm Jvm.ClassFile Sem Op Lib Jvm.Free Jvm.Stand Jvm.Pilot.@@N@@.Jvm.D
/-! MADE BY PROGRAM (witnessworld.py) out of the Statement's table words and the real class files: 29 classes; the members and pool entries that the words name. The judged class is class 1, her method 1. -/
namespace start1
open Jvm.ClassFile
def u (s : String) : CpInfo := .utf8 (stringToUtf16 s)
/-- a pool by its gaps: so many unusable entries, then the entry; so many at the end -/
def gap : Nat → List CpInfo → List CpInfo
  | 0, r => r
  | n + 1, r => .unusable :: gap n r
def poolList (es : List (Nat × CpInfo)) (last : Nat) : List CpInfo := es.foldr (fun e r => gap e.1 (e.2 :: r)) (gap last [])
def pool (es : List (Nat × CpInfo)) (last : Nat) : Array CpInfo := ⟨poolList es last⟩
def fileOf (pool : Array CpInfo) (this : Nat) (attrs : Array Attribute := #[]) (ms : Array MethodInfo := #[]) (fl : Nat := 33) (sup : Nat := 0) (ifs : Array Nat := #[]) (fds : Array FieldInfo := #[]) : ClassFile where
  minorVersion := 0
  majorVersion := 65
  constantPool := pool
  accessFlags := fl
  thisClass := this
  superClass := sup
  interfaces := ifs
  fields := fds
  methods := ms
  attributes := attrs
def plain (name : String) (sup : Option ClassId) : Class where
  name := name
  kind := .ordinary
  loader := none
  accessFlags := 33
  super := sup
  interfaces := #[]
  cf := none
  fields := #[]
  methods := #[]
  instanceTypes := #[]
  staticTypes := #[]
  resolved := #[]
  callSites := []
  init := .initialized
  statics := none
  mirror := none

def pool0 : Array CpInfo := pool [(5, u "<init>"), (0, u "()V"), (1, .class_ 10), (1, u "java/lang/Object")] 113

def k0c0 : Code := { maxStack := 0, maxLocals := 1, code := object_method_1_code, exceptionTable := #[], attributes := #[] }
def k0m0 : Method := { name := "<init>", desc := "()V", sig := { parameters := [], returnType := none }, accessFlags := 1, code := some k0c0 }
/-- java/lang/Object -/
def k0 : Class := { plain "java/lang/Object" none with
  accessFlags := 33
  interfaces := #[]
  cf := some (fileOf pool0 8 #[] #[{ accessFlags := 1, nameIndex := 5, descriptorIndex := 6, attributes := #[] }] 33 0 #[] #[])
  fields := #[]
  methods := #[k0m0]
  instanceTypes := #[]
  staticTypes := #[]
  resolved := Array.replicate 124 none
  statics := none }

def pool1 : Array CpInfo := pool [(2, .class_ 4), (1, u "java/lang/Object"), (0, u "<init>"), (0, u "()V"), (0, .integer 2147483647), (0, .methodref 9 10), (0, .class_ 11), (0, .nameAndType 12 13), (0, u "com/example/faithful_doubles/faithfuldoubles/doubles/ArgumentMatcher"), (0, u "counted"), (0, u "(II)Ljava/lang/String;"), (0, .class_ 15), (0, u "java/lang/String"), (0, .methodref 14 17), (0, .nameAndType 5 18), (0, u "([C)V"), (0, .methodref 14 20), (0, .nameAndType 21 22), (0, u "equals"), (0, u "(Ljava/lang/Object;)Z"), (0, .class_ 24), (0, u "com/example/faithful_doubles/faithfuldoubles/doubles/ArgumentMatcherCountedPinLaw"), (2, u "law"), (0, u "(II)Z")] 3

def k1m0 : Method := { name := "<init>", desc := "()V", sig := { parameters := [], returnType := none }, accessFlags := 2, code := none }
def k1c1 : Code := { maxStack := 6, maxLocals := 8, code := code, exceptionTable := #[], attributes := #[] }
def k1m1 : Method := { name := "law", desc := "(II)Z", sig := { parameters := [.int, .int], returnType := some .boolean }, accessFlags := 9, code := some k1c1 }
/-- com/example/faithful_doubles/faithfuldoubles/doubles/ArgumentMatcherCountedPinLaw -/
def k1 : Class := { plain "com/example/faithful_doubles/faithfuldoubles/doubles/ArgumentMatcherCountedPinLaw" (some 0) with
  accessFlags := 49
  interfaces := #[]
  cf := some (fileOf pool1 23 #[] #[{ accessFlags := 2, nameIndex := 5, descriptorIndex := 6, attributes := #[] }, { accessFlags := 9, nameIndex := 27, descriptorIndex := 28, attributes := #[] }] 49 2 #[] #[])
  fields := #[]
  methods := #[k1m0, k1m1]
  instanceTypes := #[]
  staticTypes := #[]
  resolved := Array.replicate 32 none
  statics := none }

def pool2 : Array CpInfo := pool [(2, .class_ 4), (1, u "java/lang/Object"), (0, u "<init>"), (0, u "()V"), (0, .class_ 8), (0, u "java/lang/Record")] 13

def k2m0 : Method := { name := "<init>", desc := "()V", sig := { parameters := [], returnType := none }, accessFlags := 4, code := none }
/-- java/lang/Record -/
def k2 : Class := { plain "java/lang/Record" (some 0) with
  accessFlags := 1057
  interfaces := #[]
  cf := some (fileOf pool2 7 #[] #[{ accessFlags := 4, nameIndex := 5, descriptorIndex := 6, attributes := #[] }] 1057 2 #[] #[])
  fields := #[]
  methods := #[k2m0]
  instanceTypes := #[]
  staticTypes := #[]
  resolved := Array.replicate 22 none
  statics := none }

def pool3 : Array CpInfo := pool [(2, .class_ 4), (0, .nameAndType 5 6), (0, u "java/lang/Record"), (0, u "<init>"), (0, u "()V"), (1, .class_ 10), (1, u "com/example/faithful_doubles/faithfuldoubles/doubles/ArgumentMatcher"), (0, u "description"), (0, u "Ljava/util/function/Supplier;"), (2, u "primitive"), (0, u "Ljava/lang/Class;"), (2, u "rule"), (0, u "Ljava/util/function/Predicate;"), (36, .string 58), (0, u "1 matcher"), (0, .class_ 60), (0, u "java/lang/StringBuilder"), (0, .methodref 59 3), (0, .methodref 59 63), (0, .nameAndType 64 65), (0, u "append"), (0, u "(I)Ljava/lang/StringBuilder;"), (0, .string 67), (0, u " matchers"), (0, .methodref 59 69), (0, .nameAndType 64 70), (0, u "(Ljava/lang/String;)Ljava/lang/StringBuilder;"), (0, .methodref 59 72), (0, .nameAndType 73 74), (0, u "toString"), (0, u "()Ljava/lang/String;"), (0, .string 76), (0, u " expected, "), (0, .string 78), (0, u " recorded."), (46, u "counted"), (0, u "(II)Ljava/lang/String;")] 52

def k3c0 : Code := { maxStack := 2, maxLocals := 3, code := prog_5_method_5_code, exceptionTable := #[], attributes := #[] }
def k3m0 : Method := { name := "counted", desc := "(II)Ljava/lang/String;", sig := { parameters := [.int, .int], returnType := some (.object "java/lang/String") }, accessFlags := 8, code := some k3c0 }
/-- com/example/faithful_doubles/faithfuldoubles/doubles/ArgumentMatcher -/
def k3 : Class := { plain "com/example/faithful_doubles/faithfuldoubles/doubles/ArgumentMatcher" (some 2) with
  accessFlags := 48
  interfaces := #[]
  cf := some (fileOf pool3 8 #[] #[{ accessFlags := 8, nameIndex := 125, descriptorIndex := 126, attributes := #[] }] 48 2 #[] #[{ accessFlags := 18, nameIndex := 11, descriptorIndex := 12, attributes := #[] }, { accessFlags := 18, nameIndex := 15, descriptorIndex := 16, attributes := #[] }, { accessFlags := 18, nameIndex := 19, descriptorIndex := 20, attributes := #[] }])
  fields := #[{ name := "description", type := (.object "java/util/function/Supplier"), accessFlags := 18, slot := 0, constantValue := 0 }, { name := "primitive", type := (.object "java/lang/Class"), accessFlags := 18, slot := 1, constantValue := 0 }, { name := "rule", type := (.object "java/util/function/Predicate"), accessFlags := 18, slot := 2, constantValue := 0 }]
  methods := #[k3m0]
  instanceTypes := #[(.object "java/util/function/Supplier"), (.object "java/lang/Class"), (.object "java/util/function/Predicate")]
  staticTypes := #[]
  resolved := Array.replicate 179 none
  statics := none }

def pool4 : Array CpInfo := pool [(1, .class_ 2), (0, u "java/lang/Appendable"), (0, .class_ 4), (0, u "java/lang/Object")] 9

/-- java/lang/Appendable -/
def k4 : Class := { plain "java/lang/Appendable" (some 0) with
  accessFlags := 1537
  interfaces := #[]
  cf := some (fileOf pool4 1 #[] #[] 1537 3 #[] #[])
  fields := #[]
  methods := #[]
  instanceTypes := #[]
  staticTypes := #[]
  resolved := Array.replicate 14 none
  statics := none }

def pool5 : Array CpInfo := pool [(2, .class_ 4), (1, u "java/lang/CharSequence"), (42, .class_ 48), (0, u "java/lang/CharSequence$1CodePointIterator"), (10, .class_ 60), (0, u "java/lang/CharSequence$1CharIterator"), (5, .class_ 67), (0, u "java/lang/Object")] 63

/-- java/lang/CharSequence -/
def k5 : Class := { plain "java/lang/CharSequence" (some 0) with
  accessFlags := 1537
  interfaces := #[]
  cf := some (fileOf pool5 2 #[.nestMembers #[47, 59]] #[] 1537 66 #[] #[])
  fields := #[]
  methods := #[]
  instanceTypes := #[]
  staticTypes := #[]
  resolved := Array.replicate 131 none
  statics := none }

def pool6 : Array CpInfo := pool [(1, .class_ 2), (0, u "java/lang/String"), (0, .methodref 4 5), (0, .class_ 6), (0, .nameAndType 7 8), (0, u "java/lang/Object"), (0, u "<init>"), (0, u "()V"), (1, .class_ 12), (1, u "java/lang/AbstractStringBuilder"), (0, u "EMPTYVALUE"), (0, u "[B"), (0, .fieldref 10 16), (0, .nameAndType 17 14), (0, u "value"), (0, .fieldref 1 19), (0, .nameAndType 20 21), (0, u "COMPACT_STRINGS"), (0, u "Z"), (0, .fieldref 10 23), (0, .nameAndType 24 25), (0, u "coder"), (0, u "B"), (6, .methodref 1 33), (0, .nameAndType 34 35), (0, u "length"), (0, u "()I"), (0, .class_ 37), (0, u "java/lang/Integer"), (1, .integer 2147483647), (0, .methodref 1 41), (0, .nameAndType 24 42), (0, u "()B"), (2, u "append"), (0, u "(Ljava/lang/String;)Ljava/lang/AbstractStringBuilder;"), (1, .class_ 49), (0, u "java/lang/CharSequence"), (19, u "(Ljava/lang/String;)V"), (5, u "maybeLatin1"), (3, .fieldref 10 80), (0, .nameAndType 81 82), (0, u "count"), (0, u "I"), (0, .methodref 10 84), (0, .nameAndType 85 86), (0, u "isLatin1"), (0, u "()Z"), (13, .methodref 10 101), (0, .nameAndType 102 103), (0, u "ensureCapacityInternal"), (0, u "(I)V"), (0, .methodref 10 105), (0, .nameAndType 106 107), (0, u "newCapacity"), (0, u "(I)I"), (0, .methodref 109 110), (0, .class_ 111), (0, .nameAndType 112 113), (0, u "java/util/Arrays"), (0, u "copyOf"), (0, u "([BI)[B"), (0, .methodref 115 116), (0, .class_ 117), (0, .nameAndType 118 119), (0, u "jdk/internal/util/ArraysSupport"), (0, u "newLength"), (0, u "(III)I"), (68, u "getChars"), (19, .methodref 10 209), (0, .nameAndType 210 211), (0, u "putStringAt"), (0, u "(ILjava/lang/String;)V"), (5, u "inflateIfNeededFor"), (2, .nameAndType 221 222), (0, u "getBytes"), (0, u "([BIB)V"), (22, .methodref 36 246), (0, .nameAndType 247 107), (0, u "stringSize"), (0, .methodref 36 249), (0, .nameAndType 188 250), (0, u "(II[B)I"), (146, .methodref 10 398), (0, .nameAndType 217 69), (0, .methodref 1 220), (3, u "()[B"), (40, .class_ 445), (0, u "java/lang/Appendable"), (65, u "(I)Ljava/lang/AbstractStringBuilder;"), (40, u "getValue")] 56

def k6m0 : Method := { name := "<init>", desc := "()V", sig := { parameters := [], returnType := none }, accessFlags := 0, code := none }
def k6c1 : Code := { maxStack := 2, maxLocals := 2, code := jdk_68_method_2_code, exceptionTable := #[], attributes := #[] }
def k6m1 : Method := { name := "<init>", desc := "(I)V", sig := { parameters := [.int], returnType := none }, accessFlags := 0, code := some k6c1 }
def k6c2 : Code := { maxStack := 1, maxLocals := 1, code := jdk_68_method_6_code, exceptionTable := #[], attributes := #[] }
def k6m2 : Method := { name := "length", desc := "()I", sig := { parameters := [], returnType := some .int }, accessFlags := 1, code := some k6c2 }
def k6c3 : Code := { maxStack := 4, maxLocals := 3, code := jdk_68_method_9_code, exceptionTable := #[], attributes := #[] }
def k6m3 : Method := { name := "ensureCapacityInternal", desc := "(I)V", sig := { parameters := [.int], returnType := none }, accessFlags := 2, code := some k6c3 }
def k6c4 : Code := { maxStack := 5, maxLocals := 6, code := jdk_68_method_10_code, exceptionTable := #[], attributes := #[] }
def k6m4 : Method := { name := "newCapacity", desc := "(I)I", sig := { parameters := [.int], returnType := some .int }, accessFlags := 2, code := some k6c4 }
def k6c5 : Code := { maxStack := 3, maxLocals := 3, code := jdk_68_method_22_code, exceptionTable := #[], attributes := #[] }
def k6m5 : Method := { name := "append", desc := "(Ljava/lang/String;)Ljava/lang/AbstractStringBuilder;", sig := { parameters := [(.object "java/lang/String")], returnType := some (.object "java/lang/AbstractStringBuilder") }, accessFlags := 1, code := some k6c5 }
def k6c6 : Code := { maxStack := 4, maxLocals := 4, code := jdk_68_method_32_code, exceptionTable := #[], attributes := #[] }
def k6m6 : Method := { name := "append", desc := "(I)Ljava/lang/AbstractStringBuilder;", sig := { parameters := [.int], returnType := some (.object "java/lang/AbstractStringBuilder") }, accessFlags := 1, code := some k6c6 }
def k6c7 : Code := { maxStack := 1, maxLocals := 1, code := jdk_68_method_64_code, exceptionTable := #[], attributes := #[] }
def k6m7 : Method := { name := "getValue", desc := "()[B", sig := { parameters := [], returnType := some (.array .byte) }, accessFlags := 16, code := some k6c7 }
def k6c8 : Code := { maxStack := 1, maxLocals := 1, code := jdk_68_method_68_code, exceptionTable := #[], attributes := #[] }
def k6m8 : Method := { name := "isLatin1", desc := "()Z", sig := { parameters := [], returnType := some .boolean }, accessFlags := 16, code := some k6c8 }
def k6c9 : Code := { maxStack := 2, maxLocals := 2, code := jdk_68_method_71_code, exceptionTable := #[], attributes := #[] }
def k6m9 : Method := { name := "inflateIfNeededFor", desc := "(Ljava/lang/String;)V", sig := { parameters := [(.object "java/lang/String")], returnType := none }, accessFlags := 2, code := some k6c9 }
def k6c10 : Code := { maxStack := 4, maxLocals := 3, code := jdk_68_method_73_code, exceptionTable := #[], attributes := #[] }
def k6m10 : Method := { name := "putStringAt", desc := "(ILjava/lang/String;)V", sig := { parameters := [.int, (.object "java/lang/String")], returnType := none }, accessFlags := 2, code := some k6c10 }
/-- java/lang/AbstractStringBuilder -/
def k6 : Class := { plain "java/lang/AbstractStringBuilder" (some 0) with
  accessFlags := 1056
  interfaces := #[4, 5]
  cf := some (fileOf pool6 10 #[] #[{ accessFlags := 0, nameIndex := 7, descriptorIndex := 8, attributes := #[] }, { accessFlags := 0, nameIndex := 7, descriptorIndex := 103, attributes := #[] }, { accessFlags := 1, nameIndex := 34, descriptorIndex := 35, attributes := #[] }, { accessFlags := 2, nameIndex := 102, descriptorIndex := 103, attributes := #[] }, { accessFlags := 2, nameIndex := 106, descriptorIndex := 107, attributes := #[] }, { accessFlags := 1, nameIndex := 45, descriptorIndex := 46, attributes := #[] }, { accessFlags := 1, nameIndex := 45, descriptorIndex := 511, attributes := #[] }, { accessFlags := 16, nameIndex := 552, descriptorIndex := 403, attributes := #[] }, { accessFlags := 16, nameIndex := 85, descriptorIndex := 86, attributes := #[] }, { accessFlags := 2, nameIndex := 217, descriptorIndex := 69, attributes := #[] }, { accessFlags := 2, nameIndex := 210, descriptorIndex := 211, attributes := #[] }] 1056 4 #[444, 48] #[{ accessFlags := 0, nameIndex := 17, descriptorIndex := 14, attributes := #[] }, { accessFlags := 0, nameIndex := 24, descriptorIndex := 25, attributes := #[] }, { accessFlags := 0, nameIndex := 75, descriptorIndex := 21, attributes := #[] }, { accessFlags := 0, nameIndex := 81, descriptorIndex := 82, attributes := #[] }, { accessFlags := 26, nameIndex := 13, descriptorIndex := 14, attributes := #[] }])
  fields := #[{ name := "value", type := (.array .byte), accessFlags := 0, slot := 0, constantValue := 0 }, { name := "coder", type := .byte, accessFlags := 0, slot := 1, constantValue := 0 }, { name := "maybeLatin1", type := .boolean, accessFlags := 0, slot := 2, constantValue := 0 }, { name := "count", type := .int, accessFlags := 0, slot := 3, constantValue := 0 }, { name := "EMPTYVALUE", type := (.array .byte), accessFlags := 26, slot := 0, constantValue := 0 }]
  methods := #[k6m0, k6m1, k6m2, k6m3, k6m4, k6m5, k6m6, k6m7, k6m8, k6m9, k6m10]
  instanceTypes := #[(.array .byte), .byte, .boolean, .int]
  staticTypes := #[(.array .byte)]
  resolved := Array.replicate 609 none
  statics := none }

def pool7 : Array CpInfo := pool [(1, .class_ 2), (0, u "java/io/Serializable"), (0, .class_ 4), (0, u "java/lang/Object")] 2

/-- java/io/Serializable -/
def k7 : Class := { plain "java/io/Serializable" (some 0) with
  accessFlags := 1537
  interfaces := #[]
  cf := some (fileOf pool7 1 #[] #[] 1537 3 #[] #[])
  fields := #[]
  methods := #[]
  instanceTypes := #[]
  staticTypes := #[]
  resolved := Array.replicate 7 none
  statics := none }

def pool8 : Array CpInfo := pool [(1, .class_ 2), (0, u "java/lang/Comparable"), (0, .class_ 4), (0, u "java/lang/Object")] 7

/-- java/lang/Comparable -/
def k8 : Class := { plain "java/lang/Comparable" (some 0) with
  accessFlags := 1537
  interfaces := #[]
  cf := some (fileOf pool8 1 #[] #[] 1537 3 #[] #[])
  fields := #[]
  methods := #[]
  instanceTypes := #[]
  staticTypes := #[]
  resolved := Array.replicate 12 none
  statics := none }

def pool9 : Array CpInfo := pool [(1, .methodref 2 3), (0, .class_ 4), (0, .nameAndType 5 6), (0, u "java/lang/AbstractStringBuilder"), (0, u "<init>"), (0, u "(I)V"), (11, .class_ 20), (1, u "java/lang/String"), (3, .class_ 26), (1, u "java/lang/StringBuilder"), (0, u "append"), (0, u "(Ljava/lang/String;)Ljava/lang/StringBuilder;"), (0, .methodref 2 30), (0, .nameAndType 27 31), (0, u "(Ljava/lang/String;)Ljava/lang/AbstractStringBuilder;"), (21, .methodref 2 54), (0, .nameAndType 27 55), (0, u "(I)Ljava/lang/AbstractStringBuilder;"), (81, .methodref 18 138), (0, .nameAndType 5 139), (0, u "(Ljava/lang/StringBuilder;)V"), (5, u "()V"), (10, u "()I"), (111, u "(I)Ljava/lang/StringBuilder;"), (74, .methodref 2 344), (0, .nameAndType 345 156), (0, u "length"), (3, .class_ 350), (0, u "java/lang/Appendable"), (0, .class_ 352), (0, u "java/io/Serializable"), (0, .class_ 354), (0, u "java/lang/Comparable"), (0, .class_ 356), (0, u "java/lang/CharSequence"), (0, u "serialVersionUID"), (0, u "J"), (40, u "toString"), (0, u "()Ljava/lang/String;")] 21

def k9c0 : Code := { maxStack := 2, maxLocals := 1, code := jdk_67_method_1_code, exceptionTable := #[], attributes := #[] }
def k9m0 : Method := { name := "<init>", desc := "()V", sig := { parameters := [], returnType := none }, accessFlags := 1, code := some k9c0 }
def k9c1 : Code := { maxStack := 2, maxLocals := 2, code := jdk_67_method_7_code, exceptionTable := #[], attributes := #[] }
def k9m1 : Method := { name := "append", desc := "(Ljava/lang/String;)Ljava/lang/StringBuilder;", sig := { parameters := [(.object "java/lang/String")], returnType := some (.object "java/lang/StringBuilder") }, accessFlags := 1, code := some k9c1 }
def k9c2 : Code := { maxStack := 2, maxLocals := 2, code := jdk_67_method_15_code, exceptionTable := #[], attributes := #[] }
def k9m2 : Method := { name := "append", desc := "(I)Ljava/lang/StringBuilder;", sig := { parameters := [.int], returnType := some (.object "java/lang/StringBuilder") }, accessFlags := 1, code := some k9c2 }
def k9c3 : Code := { maxStack := 3, maxLocals := 1, code := jdk_67_method_42_code, exceptionTable := #[], attributes := #[] }
def k9m3 : Method := { name := "toString", desc := "()Ljava/lang/String;", sig := { parameters := [], returnType := some (.object "java/lang/String") }, accessFlags := 1, code := some k9c3 }
def k9c4 : Code := { maxStack := 1, maxLocals := 1, code := jdk_67_method_93_code, exceptionTable := #[], attributes := #[] }
def k9m4 : Method := { name := "length", desc := "()I", sig := { parameters := [], returnType := some .int }, accessFlags := 4161, code := some k9c4 }
/-- java/lang/StringBuilder -/
def k9 : Class := { plain "java/lang/StringBuilder" (some 6) with
  accessFlags := 49
  interfaces := #[4, 7, 8, 5]
  cf := some (fileOf pool9 24 #[] #[{ accessFlags := 1, nameIndex := 5, descriptorIndex := 145, attributes := #[] }, { accessFlags := 1, nameIndex := 27, descriptorIndex := 28, attributes := #[] }, { accessFlags := 1, nameIndex := 27, descriptorIndex := 268, attributes := #[] }, { accessFlags := 1, nameIndex := 399, descriptorIndex := 400, attributes := #[] }, { accessFlags := 4161, nameIndex := 345, descriptorIndex := 156, attributes := #[] }] 49 2 #[349, 351, 353, 355] #[{ accessFlags := 24, nameIndex := 357, descriptorIndex := 358, attributes := #[] }])
  fields := #[{ name := "serialVersionUID", type := .long, accessFlags := 24, slot := 0, constantValue := 0 }]
  methods := #[k9m0, k9m1, k9m2, k9m3, k9m4]
  instanceTypes := #[(.array .byte), .byte, .boolean, .int]
  staticTypes := #[.long]
  resolved := Array.replicate 422 none
  statics := none }

def pool10 : Array CpInfo := pool [(1, .class_ 2), (0, u "java/lang/constant/Constable"), (0, .class_ 4), (0, u "java/lang/Object")] 6

/-- java/lang/constant/Constable -/
def k10 : Class := { plain "java/lang/constant/Constable" (some 0) with
  accessFlags := 1537
  interfaces := #[]
  cf := some (fileOf pool10 1 #[] #[] 1537 3 #[] #[])
  fields := #[]
  methods := #[]
  instanceTypes := #[]
  staticTypes := #[]
  resolved := Array.replicate 11 none
  statics := none }

def pool11 : Array CpInfo := pool [(1, .class_ 2), (0, u "java/lang/constant/ConstantDesc"), (0, .class_ 4), (0, u "java/lang/Object")] 32

/-- java/lang/constant/ConstantDesc -/
def k11 : Class := { plain "java/lang/constant/ConstantDesc" (some 0) with
  accessFlags := 1537
  interfaces := #[]
  cf := some (fileOf pool11 1 #[] #[] 1537 3 #[] #[])
  fields := #[]
  methods := #[]
  instanceTypes := #[]
  staticTypes := #[]
  resolved := Array.replicate 37 none
  statics := none }

def pool12 : Array CpInfo := pool [(1, .methodref 2 3), (0, .class_ 4), (0, .nameAndType 5 6), (0, u "java/lang/Object"), (0, u "<init>"), (0, u "()V"), (2, .fieldref 10 11), (0, .class_ 12), (0, .nameAndType 13 14), (0, u "java/lang/String"), (0, u "value"), (0, u "[B"), (0, .fieldref 10 16), (0, .nameAndType 17 18), (0, u "coder"), (0, u "B"), (2, u "hash"), (0, u "I"), (2, u "hashIsZero"), (0, u "Z"), (0, .methodref 10 28), (0, .nameAndType 5 29), (0, u "([CIILjava/lang/Void;)V"), (8, .fieldref 10 39), (0, .nameAndType 40 26), (0, u "COMPACT_STRINGS"), (1, .class_ 44), (1, u "java/lang/StringUTF16"), (0, u "compress"), (1, .methodref 42 48), (0, .nameAndType 49 50), (0, u "coderFromArrayLen"), (0, u "([BI)B"), (3, .methodref 55 56), (0, .class_ 57), (0, .nameAndType 58 59), (0, u "java/util/Arrays"), (0, u "copyOfRange"), (0, u "([BII)[B"), (47, .class_ 109), (1, u "java/lang/StringLatin1"), (32, u "()Z"), (34, .methodref 42 178), (0, .nameAndType 45 179), (0, u "([CII)[B"), (13, .class_ 195), (1, u "java/lang/System"), (16, .methodref 193 213), (0, .nameAndType 214 215), (0, u "arraycopy"), (0, u "(Ljava/lang/Object;ILjava/lang/Object;II)V"), (118, u "()I"), (0, .methodref 10 336), (0, .nameAndType 17 337), (0, u "()B"), (2, u "()[B"), (148, .methodref 10 490), (0, .nameAndType 5 491), (0, u "(Ljava/lang/AbstractStringBuilder;Ljava/lang/Void;)V"), (1, .nameAndType 494 142), (0, u "isLatin1"), (11, .nameAndType 507 334), (0, u "length"), (24, u "getBytes"), (8, .methodref 107 542), (0, .nameAndType 543 544), (0, u "equals"), (0, u "([B[B)Z"), (4, .methodref 550 506), (0, .class_ 551), (0, u "java/lang/AbstractStringBuilder"), (0, .methodref 550 553), (0, .nameAndType 554 340), (0, u "getValue"), (18, u "(Ljava/lang/Object;)Z"), (1, .class_ 576), (0, u "java/lang/CharSequence"), (22, u "CASE_INSENSITIVE_ORDER"), (0, u "Ljava/util/Comparator;"), (220, u "([BIB)V"), (188, u "([C)V"), (36, .methodref 550 493), (53, u "serialPersistentFields"), (0, u "[Ljava/io/ObjectStreamField;"), (0, .class_ 1104), (0, u "java/lang/String$CaseInsensitiveComparator"), (1, .class_ 1107), (0, u "java/io/Serializable"), (0, .class_ 1109), (0, u "java/lang/Comparable"), (0, .class_ 1111), (0, u "java/lang/constant/Constable"), (0, .class_ 1113), (0, u "java/lang/constant/ConstantDesc"), (2, u "serialVersionUID"), (0, u "J"), (3, u "REPL"), (0, u "C"), (2, u "LATIN1"), (1, u "UTF16"), (105, u "(Ljava/lang/StringBuilder;)V")] 217

def k12m0 : Method := { name := "<init>", desc := "()V", sig := { parameters := [], returnType := none }, accessFlags := 1, code := none }
def k12c1 : Code := { maxStack := 5, maxLocals := 2, code := jdk_42_method_3_code, exceptionTable := #[], attributes := #[] }
def k12m1 : Method := { name := "<init>", desc := "([C)V", sig := { parameters := [(.array .char)], returnType := none }, accessFlags := 1, code := some k12c1 }
def k12c2 : Code := { maxStack := 3, maxLocals := 2, code := jdk_42_method_53_code, exceptionTable := #[], attributes := #[] }
def k12m2 : Method := { name := "<init>", desc := "(Ljava/lang/StringBuilder;)V", sig := { parameters := [(.object "java/lang/StringBuilder")], returnType := none }, accessFlags := 1, code := some k12c2 }
def k12c3 : Code := { maxStack := 2, maxLocals := 1, code := jdk_42_method_54_code, exceptionTable := #[], attributes := #[] }
def k12m3 : Method := { name := "length", desc := "()I", sig := { parameters := [], returnType := some .int }, accessFlags := 1, code := some k12c3 }
def k12c4 : Code := { maxStack := 2, maxLocals := 3, code := jdk_42_method_66_code, exceptionTable := #[], attributes := #[] }
def k12m4 : Method := { name := "equals", desc := "(Ljava/lang/Object;)Z", sig := { parameters := [(.object "java/lang/Object")], returnType := some .boolean }, accessFlags := 1, code := some k12c4 }
def k12c5 : Code := { maxStack := 5, maxLocals := 4, code := jdk_42_method_147_code, exceptionTable := #[], attributes := #[] }
def k12m5 : Method := { name := "getBytes", desc := "([BIB)V", sig := { parameters := [(.array .byte), .int, .byte], returnType := none }, accessFlags := 0, code := some k12c5 }
def k12c6 : Code := { maxStack := 4, maxLocals := 6, code := jdk_42_method_149_code, exceptionTable := #[], attributes := #[] }
def k12m6 : Method := { name := "<init>", desc := "([CIILjava/lang/Void;)V", sig := { parameters := [(.array .char), .int, .int, (.object "java/lang/Void")], returnType := none }, accessFlags := 2, code := some k12c6 }
def k12c7 : Code := { maxStack := 5, maxLocals := 5, code := jdk_42_method_150_code, exceptionTable := #[], attributes := #[] }
def k12m7 : Method := { name := "<init>", desc := "(Ljava/lang/AbstractStringBuilder;Ljava/lang/Void;)V", sig := { parameters := [(.object "java/lang/AbstractStringBuilder"), (.object "java/lang/Void")], returnType := none }, accessFlags := 0, code := some k12c7 }
def k12c8 : Code := { maxStack := 1, maxLocals := 1, code := jdk_42_method_152_code, exceptionTable := #[], attributes := #[] }
def k12m8 : Method := { name := "coder", desc := "()B", sig := { parameters := [], returnType := some .byte }, accessFlags := 0, code := some k12c8 }
/-- java/lang/String -/
def k12 : Class := { plain "java/lang/String" (some 0) with
  accessFlags := 49
  interfaces := #[7, 8, 5, 10, 11]
  cf := some (fileOf pool12 10 #[.nestMembers #[1103]] #[{ accessFlags := 1, nameIndex := 5, descriptorIndex := 6, attributes := #[] }, { accessFlags := 1, nameIndex := 5, descriptorIndex := 1010, attributes := #[] }, { accessFlags := 1, nameIndex := 5, descriptorIndex := 1233, attributes := #[] }, { accessFlags := 1, nameIndex := 507, descriptorIndex := 334, attributes := #[] }, { accessFlags := 1, nameIndex := 543, descriptorIndex := 573, attributes := #[] }, { accessFlags := 0, nameIndex := 532, descriptorIndex := 821, attributes := #[] }, { accessFlags := 2, nameIndex := 5, descriptorIndex := 29, attributes := #[] }, { accessFlags := 0, nameIndex := 5, descriptorIndex := 491, attributes := #[] }, { accessFlags := 0, nameIndex := 17, descriptorIndex := 337, attributes := #[] }] 49 2 #[1106, 1108, 575, 1110, 1112] #[{ accessFlags := 18, nameIndex := 13, descriptorIndex := 14, attributes := #[] }, { accessFlags := 18, nameIndex := 17, descriptorIndex := 18, attributes := #[] }, { accessFlags := 2, nameIndex := 21, descriptorIndex := 22, attributes := #[] }, { accessFlags := 2, nameIndex := 25, descriptorIndex := 26, attributes := #[] }, { accessFlags := 26, nameIndex := 1116, descriptorIndex := 1117, attributes := #[] }, { accessFlags := 24, nameIndex := 40, descriptorIndex := 26, attributes := #[] }, { accessFlags := 26, nameIndex := 1101, descriptorIndex := 1102, attributes := #[] }, { accessFlags := 26, nameIndex := 1121, descriptorIndex := 1122, attributes := #[] }, { accessFlags := 25, nameIndex := 599, descriptorIndex := 600, attributes := #[] }, { accessFlags := 24, nameIndex := 1125, descriptorIndex := 18, attributes := #[] }, { accessFlags := 24, nameIndex := 1127, descriptorIndex := 18, attributes := #[] }])
  fields := #[{ name := "value", type := (.array .byte), accessFlags := 18, slot := 0, constantValue := 0 }, { name := "coder", type := .byte, accessFlags := 18, slot := 1, constantValue := 0 }, { name := "hash", type := .int, accessFlags := 2, slot := 2, constantValue := 0 }, { name := "hashIsZero", type := .boolean, accessFlags := 2, slot := 3, constantValue := 0 }, { name := "serialVersionUID", type := .long, accessFlags := 26, slot := 0, constantValue := 0 }, { name := "COMPACT_STRINGS", type := .boolean, accessFlags := 24, slot := 1, constantValue := 0 }, { name := "serialPersistentFields", type := (.array (.object "java/io/ObjectStreamField")), accessFlags := 26, slot := 2, constantValue := 0 }, { name := "REPL", type := .char, accessFlags := 26, slot := 3, constantValue := 0 }, { name := "CASE_INSENSITIVE_ORDER", type := (.object "java/util/Comparator"), accessFlags := 25, slot := 4, constantValue := 0 }, { name := "LATIN1", type := .byte, accessFlags := 24, slot := 5, constantValue := 0 }, { name := "UTF16", type := .byte, accessFlags := 24, slot := 6, constantValue := 0 }]
  methods := #[k12m0, k12m1, k12m2, k12m3, k12m4, k12m5, k12m6, k12m7, k12m8]
  instanceTypes := #[(.array .byte), .byte, .int, .boolean]
  staticTypes := #[.long, .boolean, (.array (.object "java/io/ObjectStreamField")), .char, (.object "java/util/Comparator"), .byte, .byte]
  resolved := Array.replicate 1451 none
  statics := some 0 }

def pool13 : Array CpInfo := pool [(2, .class_ 4), (1, u "java/lang/Object"), (0, u "<init>"), (0, u "()V"), (1, .class_ 10), (1, u "java/lang/Number"), (2, .class_ 14), (0, u "java/io/Serializable"), (0, u "serialVersionUID"), (0, u "J")] 20

def k13m0 : Method := { name := "<init>", desc := "()V", sig := { parameters := [], returnType := none }, accessFlags := 1, code := none }
/-- java/lang/Number -/
def k13 : Class := { plain "java/lang/Number" (some 0) with
  accessFlags := 1057
  interfaces := #[7]
  cf := some (fileOf pool13 8 #[] #[{ accessFlags := 1, nameIndex := 5, descriptorIndex := 6, attributes := #[] }] 1057 2 #[13] #[{ accessFlags := 26, nameIndex := 15, descriptorIndex := 16, attributes := #[] }])
  fields := #[{ name := "serialVersionUID", type := .long, accessFlags := 26, slot := 0, constantValue := 0 }]
  methods := #[k13m0]
  instanceTypes := #[]
  staticTypes := #[.long]
  resolved := Array.replicate 37 none
  statics := none }

def pool14 : Array CpInfo := pool [(1, .class_ 2), (0, u "java/lang/Integer"), (16, u "digits"), (0, u "[C"), (33, u "(I)I"), (19, u "stringSize"), (2, u "getChars"), (0, u "(II[B)I"), (4, .fieldref 1 84), (0, .nameAndType 85 86), (0, u "DigitOnes"), (0, u "[B"), (2, u "DigitTens"), (99, .class_ 190), (0, u "java/lang/Integer$IntegerCache"), (3, u "I"), (8, .class_ 204), (0, u "java/lang/Number"), (2, u "value"), (94, u "TYPE"), (0, u "Ljava/lang/Class;"), (0, .class_ 305), (0, u "java/lang/Comparable"), (0, .class_ 307), (0, u "java/lang/constant/Constable"), (0, .class_ 309), (0, u "java/lang/constant/ConstantDesc"), (0, u "MIN_VALUE"), (1, u "MAX_VALUE"), (3, u "SIZE"), (1, u "BYTES"), (1, u "serialVersionUID"), (0, u "J")] 131

def k14c0 : Code := { maxStack := 4, maxLocals := 7, code := jdk_33_method_12_code, exceptionTable := #[], attributes := #[] }
def k14m0 : Method := { name := "getChars", desc := "(II[B)I", sig := { parameters := [.int, .int, (.array .byte)], returnType := some .int }, accessFlags := 8, code := some k14c0 }
def k14c1 : Code := { maxStack := 2, maxLocals := 4, code := jdk_33_method_13_code, exceptionTable := #[], attributes := #[] }
def k14m1 : Method := { name := "stringSize", desc := "(I)I", sig := { parameters := [.int], returnType := some .int }, accessFlags := 8, code := some k14c1 }
/-- java/lang/Integer -/
def k14 : Class := { plain "java/lang/Integer" (some 13) with
  accessFlags := 49
  interfaces := #[8, 10, 11]
  cf := some (fileOf pool14 1 #[.nestMembers #[189]] #[{ accessFlags := 8, nameIndex := 77, descriptorIndex := 78, attributes := #[] }, { accessFlags := 8, nameIndex := 74, descriptorIndex := 54, attributes := #[] }] 49 203 #[304, 306, 308] #[{ accessFlags := 25, nameIndex := 310, descriptorIndex := 194, attributes := #[] }, { accessFlags := 25, nameIndex := 312, descriptorIndex := 194, attributes := #[] }, { accessFlags := 25, nameIndex := 302, descriptorIndex := 303, attributes := #[] }, { accessFlags := 24, nameIndex := 19, descriptorIndex := 20, attributes := #[] }, { accessFlags := 24, nameIndex := 89, descriptorIndex := 86, attributes := #[] }, { accessFlags := 24, nameIndex := 85, descriptorIndex := 86, attributes := #[] }, { accessFlags := 18, nameIndex := 207, descriptorIndex := 194, attributes := #[] }, { accessFlags := 25, nameIndex := 316, descriptorIndex := 194, attributes := #[] }, { accessFlags := 25, nameIndex := 318, descriptorIndex := 194, attributes := #[] }, { accessFlags := 26, nameIndex := 320, descriptorIndex := 321, attributes := #[] }])
  fields := #[{ name := "MIN_VALUE", type := .int, accessFlags := 25, slot := 0, constantValue := 0 }, { name := "MAX_VALUE", type := .int, accessFlags := 25, slot := 1, constantValue := 0 }, { name := "TYPE", type := (.object "java/lang/Class"), accessFlags := 25, slot := 2, constantValue := 0 }, { name := "digits", type := (.array .char), accessFlags := 24, slot := 3, constantValue := 0 }, { name := "DigitTens", type := (.array .byte), accessFlags := 24, slot := 4, constantValue := 0 }, { name := "DigitOnes", type := (.array .byte), accessFlags := 24, slot := 5, constantValue := 0 }, { name := "value", type := .int, accessFlags := 18, slot := 0, constantValue := 0 }, { name := "SIZE", type := .int, accessFlags := 25, slot := 6, constantValue := 0 }, { name := "BYTES", type := .int, accessFlags := 25, slot := 7, constantValue := 0 }, { name := "serialVersionUID", type := .long, accessFlags := 26, slot := 8, constantValue := 0 }]
  methods := #[k14m0, k14m1]
  instanceTypes := #[.int]
  staticTypes := #[.int, .int, (.object "java/lang/Class"), (.array .char), (.array .byte), (.array .byte), .int, .int, .long]
  resolved := Array.replicate 453 none
  statics := some 1 }

def pool15 : Array CpInfo := pool [(2, .class_ 4), (1, u "java/lang/Object"), (0, u "<init>"), (0, u "()V"), (1, .class_ 10), (1, u "java/lang/System"), (0, u "allowSecurityManager"), (0, u "I"), (16, u "cons"), (0, u "Ljava/io/Console;"), (77, .class_ 110), (1, u "java/lang/System$CallersHolder"), (43, u "initialErrStream"), (0, u "Ljava/io/PrintStream;"), (19, u "security"), (0, u "Ljava/lang/SecurityManager;"), (31, .class_ 209), (0, u "java/lang/System$1"), (7, u "props"), (0, u "Ljava/util/Properties;"), (2, u "lineSeparator"), (0, u "Ljava/lang/String;"), (96, .class_ 321), (1, u "java/lang/System$LoggerFinder"), (5, .class_ 328), (0, u "java/lang/System$Logger"), (67, u "err"), (2, u "out"), (91, u "notSupportedJnuEncoding"), (15, u "in"), (17, u "initialIn"), (0, u "Ljava/io/InputStream;"), (35, u "bootLayer"), (0, u "Ljava/lang/ModuleLayer;"), (99, .class_ 664), (0, u "java/lang/System$2"), (9, u "NEVER"), (2, u "MAYBE"), (49, u "arraycopy"), (0, u "(Ljava/lang/Object;ILjava/lang/Object;II)V"), (72, .class_ 802), (0, u "java/lang/System$Logger$Level")] 31

def k15m0 : Method := { name := "<init>", desc := "()V", sig := { parameters := [], returnType := none }, accessFlags := 2, code := none }
def k15m1 : Method := { name := "arraycopy", desc := "(Ljava/lang/Object;ILjava/lang/Object;II)V", sig := { parameters := [(.object "java/lang/Object"), .int, (.object "java/lang/Object"), .int, .int], returnType := none }, accessFlags := 265, code := none }
/-- java/lang/System -/
def k15 : Class := { plain "java/lang/System" (some 0) with
  accessFlags := 49
  interfaces := #[]
  cf := some (fileOf pool15 8 #[.nestMembers #[319, 327, 801, 108, 663, 208]] #[{ accessFlags := 2, nameIndex := 5, descriptorIndex := 6, attributes := #[] }, { accessFlags := 265, nameIndex := 727, descriptorIndex := 728, attributes := #[] }] 49 2 #[] #[{ accessFlags := 25, nameIndex := 507, descriptorIndex := 526, attributes := #[] }, { accessFlags := 25, nameIndex := 399, descriptorIndex := 155, attributes := #[] }, { accessFlags := 25, nameIndex := 396, descriptorIndex := 155, attributes := #[] }, { accessFlags := 10, nameIndex := 525, descriptorIndex := 526, attributes := #[] }, { accessFlags := 26, nameIndex := 674, descriptorIndex := 12, attributes := #[] }, { accessFlags := 26, nameIndex := 677, descriptorIndex := 12, attributes := #[] }, { accessFlags := 10, nameIndex := 11, descriptorIndex := 12, attributes := #[] }, { accessFlags := 74, nameIndex := 175, descriptorIndex := 176, attributes := #[] }, { accessFlags := 10, nameIndex := 491, descriptorIndex := 222, attributes := #[] }, { accessFlags := 74, nameIndex := 29, descriptorIndex := 30, attributes := #[] }, { accessFlags := 74, nameIndex := 154, descriptorIndex := 155, attributes := #[] }, { accessFlags := 10, nameIndex := 217, descriptorIndex := 218, attributes := #[] }, { accessFlags := 10, nameIndex := 221, descriptorIndex := 222, attributes := #[] }, { accessFlags := 8, nameIndex := 562, descriptorIndex := 563, attributes := #[] }])
  fields := #[{ name := "in", type := (.object "java/io/InputStream"), accessFlags := 25, slot := 0, constantValue := 0 }, { name := "out", type := (.object "java/io/PrintStream"), accessFlags := 25, slot := 1, constantValue := 0 }, { name := "err", type := (.object "java/io/PrintStream"), accessFlags := 25, slot := 2, constantValue := 0 }, { name := "initialIn", type := (.object "java/io/InputStream"), accessFlags := 10, slot := 3, constantValue := 0 }, { name := "NEVER", type := .int, accessFlags := 26, slot := 4, constantValue := 0 }, { name := "MAYBE", type := .int, accessFlags := 26, slot := 5, constantValue := 0 }, { name := "allowSecurityManager", type := .int, accessFlags := 10, slot := 6, constantValue := 0 }, { name := "security", type := (.object "java/lang/SecurityManager"), accessFlags := 74, slot := 7, constantValue := 0 }, { name := "notSupportedJnuEncoding", type := (.object "java/lang/String"), accessFlags := 10, slot := 8, constantValue := 0 }, { name := "cons", type := (.object "java/io/Console"), accessFlags := 74, slot := 9, constantValue := 0 }, { name := "initialErrStream", type := (.object "java/io/PrintStream"), accessFlags := 74, slot := 10, constantValue := 0 }, { name := "props", type := (.object "java/util/Properties"), accessFlags := 10, slot := 11, constantValue := 0 }, { name := "lineSeparator", type := (.object "java/lang/String"), accessFlags := 10, slot := 12, constantValue := 0 }, { name := "bootLayer", type := (.object "java/lang/ModuleLayer"), accessFlags := 8, slot := 13, constantValue := 0 }]
  methods := #[k15m0, k15m1]
  instanceTypes := #[]
  staticTypes := #[(.object "java/io/InputStream"), (.object "java/io/PrintStream"), (.object "java/io/PrintStream"), (.object "java/io/InputStream"), .int, .int, .int, (.object "java/lang/SecurityManager"), (.object "java/lang/String"), (.object "java/io/Console"), (.object "java/io/PrintStream"), (.object "java/util/Properties"), (.object "java/lang/String"), (.object "java/lang/ModuleLayer")]
  resolved := Array.replicate 834 none
  statics := none }

def pool16 : Array CpInfo := pool [(2, .class_ 4), (1, u "java/lang/Object"), (0, u "<init>"), (0, u "()V"), (7, .class_ 16), (1, u "java/util/Arrays"), (57, .class_ 76), (1, u "java/util/Arrays$NaturalOrder"), (36, .class_ 115), (1, u "java/util/Arrays$LegacyMergeSort"), (1, u "Z"), (21, u "copyOfRange"), (10, .methodref 151 152), (0, .class_ 153), (0, .nameAndType 154 155), (0, u "java/lang/System"), (0, u "arraycopy"), (0, u "(Ljava/lang/Object;ILjava/lang/Object;II)V"), (146, u "copyOf"), (1, .methodref 305 306), (0, .class_ 307), (0, .nameAndType 308 309), (0, u "java/lang/Math"), (0, u "min"), (0, u "(II)I"), (29, .methodref 14 340), (0, .nameAndType 341 342), (0, u "copyOfRangeByte"), (0, u "([BII)[B"), (0, .methodref 14 344), (0, .nameAndType 345 346), (0, u "checkLength"), (0, u "(II)V"), (28, .class_ 376), (0, u "java/util/Arrays$ArrayList"), (68, u "$assertionsDisabled"), (269, u "MIN_ARRAY_SORT_GRAN"), (0, u "I"), (2, u "INSERTIONSORT_THRESHOLD"), (149, u "([BI)[B"), (105, .class_ 976), (0, u "java/util/Arrays$ArrayItr")] 52

def k16m0 : Method := { name := "<init>", desc := "()V", sig := { parameters := [], returnType := none }, accessFlags := 2, code := none }
def k16c1 : Code := { maxStack := 6, maxLocals := 3, code := jdk_65_method_121_code, exceptionTable := #[], attributes := #[] }
def k16m1 : Method := { name := "copyOf", desc := "([BI)[B", sig := { parameters := [(.array .byte), .int], returnType := some (.array .byte) }, accessFlags := 9, code := some k16c1 }
def k16c2 : Code := { maxStack := 4, maxLocals := 2, code := jdk_65_method_131_code, exceptionTable := #[], attributes := #[] }
def k16m2 : Method := { name := "checkLength", desc := "(II)V", sig := { parameters := [.int, .int], returnType := none }, accessFlags := 10, code := some k16c2 }
def k16c3 : Code := { maxStack := 3, maxLocals := 3, code := jdk_65_method_132_code, exceptionTable := #[], attributes := #[] }
def k16m3 : Method := { name := "copyOfRange", desc := "([BII)[B", sig := { parameters := [(.array .byte), .int, .int], returnType := some (.array .byte) }, accessFlags := 9, code := some k16c3 }
def k16c4 : Code := { maxStack := 6, maxLocals := 5, code := jdk_65_method_133_code, exceptionTable := #[], attributes := #[] }
def k16m4 : Method := { name := "copyOfRangeByte", desc := "([BII)[B", sig := { parameters := [(.array .byte), .int, .int], returnType := some (.array .byte) }, accessFlags := 10, code := some k16c4 }
/-- java/util/Arrays -/
def k16 : Class := { plain "java/util/Arrays" (some 0) with
  accessFlags := 49
  interfaces := #[]
  cf := some (fileOf pool16 14 #[.nestMembers #[975, 375, 113, 74]] #[{ accessFlags := 2, nameIndex := 5, descriptorIndex := 6, attributes := #[] }, { accessFlags := 9, nameIndex := 302, descriptorIndex := 869, attributes := #[] }, { accessFlags := 10, nameIndex := 345, descriptorIndex := 346, attributes := #[] }, { accessFlags := 9, nameIndex := 139, descriptorIndex := 342, attributes := #[] }, { accessFlags := 10, nameIndex := 341, descriptorIndex := 342, attributes := #[] }] 49 2 #[] #[{ accessFlags := 26, nameIndex := 715, descriptorIndex := 716, attributes := #[] }, { accessFlags := 26, nameIndex := 719, descriptorIndex := 716, attributes := #[] }, { accessFlags := 4120, nameIndex := 445, descriptorIndex := 117, attributes := #[] }])
  fields := #[{ name := "MIN_ARRAY_SORT_GRAN", type := .int, accessFlags := 26, slot := 0, constantValue := 0 }, { name := "INSERTIONSORT_THRESHOLD", type := .int, accessFlags := 26, slot := 1, constantValue := 0 }, { name := "$assertionsDisabled", type := .boolean, accessFlags := 4120, slot := 2, constantValue := 0 }]
  methods := #[k16m0, k16m1, k16m2, k16m3, k16m4]
  instanceTypes := #[]
  staticTypes := #[.int, .int, .boolean]
  resolved := Array.replicate 1029 none
  statics := none }

def pool17 : Array CpInfo := pool [(1, .class_ 2), (0, u "java/lang/Math"), (1, .class_ 6), (1, u "java/lang/Object"), (0, u "<init>"), (0, u "()V"), (89, .class_ 100), (1, u "java/lang/Math$RandomNumberGeneratorHolder"), (71, u "negativeZeroFloatBits"), (0, u "J"), (2, u "negativeZeroDoubleBits"), (21, u "max"), (2, u "min"), (43, u "$assertionsDisabled"), (0, u "Z"), (88, u "(II)I"), (2, u "twoToTheDoubleScaleDown"), (0, u "D"), (4, u "twoToTheDoubleScaleUp"), (9, u "E"), (3, u "PI"), (2, u "TAU"), (2, u "DEGREES_TO_RADIANS"), (0, u "RADIANS_TO_DEGREES")] 94

def k17m0 : Method := { name := "<init>", desc := "()V", sig := { parameters := [], returnType := none }, accessFlags := 2, code := none }
def k17c1 : Code := { maxStack := 2, maxLocals := 2, code := jdk_29_method_65_code, exceptionTable := #[], attributes := #[] }
def k17m1 : Method := { name := "max", desc := "(II)I", sig := { parameters := [.int, .int], returnType := some .int }, accessFlags := 9, code := some k17c1 }
def k17c2 : Code := { maxStack := 2, maxLocals := 2, code := jdk_29_method_69_code, exceptionTable := #[], attributes := #[] }
def k17m2 : Method := { name := "min", desc := "(II)I", sig := { parameters := [.int, .int], returnType := some .int }, accessFlags := 9, code := some k17c2 }
/-- java/lang/Math -/
def k17 : Class := { plain "java/lang/Math" (some 0) with
  accessFlags := 49
  interfaces := #[]
  cf := some (fileOf pool17 1 #[.nestMembers #[98]] #[{ accessFlags := 2, nameIndex := 7, descriptorIndex := 8, attributes := #[] }, { accessFlags := 9, nameIndex := 198, descriptorIndex := 335, attributes := #[] }, { accessFlags := 9, nameIndex := 201, descriptorIndex := 335, attributes := #[] }] 49 4 #[] #[{ accessFlags := 25, nameIndex := 354, descriptorIndex := 339, attributes := #[] }, { accessFlags := 25, nameIndex := 358, descriptorIndex := 339, attributes := #[] }, { accessFlags := 25, nameIndex := 361, descriptorIndex := 339, attributes := #[] }, { accessFlags := 26, nameIndex := 364, descriptorIndex := 339, attributes := #[] }, { accessFlags := 26, nameIndex := 365, descriptorIndex := 339, attributes := #[] }, { accessFlags := 26, nameIndex := 172, descriptorIndex := 173, attributes := #[] }, { accessFlags := 26, nameIndex := 176, descriptorIndex := 173, attributes := #[] }, { accessFlags := 8, nameIndex := 344, descriptorIndex := 339, attributes := #[] }, { accessFlags := 8, nameIndex := 338, descriptorIndex := 339, attributes := #[] }, { accessFlags := 4120, nameIndex := 245, descriptorIndex := 246, attributes := #[] }])
  fields := #[{ name := "E", type := .double, accessFlags := 25, slot := 0, constantValue := 0 }, { name := "PI", type := .double, accessFlags := 25, slot := 1, constantValue := 0 }, { name := "TAU", type := .double, accessFlags := 25, slot := 2, constantValue := 0 }, { name := "DEGREES_TO_RADIANS", type := .double, accessFlags := 26, slot := 3, constantValue := 0 }, { name := "RADIANS_TO_DEGREES", type := .double, accessFlags := 26, slot := 4, constantValue := 0 }, { name := "negativeZeroFloatBits", type := .long, accessFlags := 26, slot := 5, constantValue := 0 }, { name := "negativeZeroDoubleBits", type := .long, accessFlags := 26, slot := 6, constantValue := 0 }, { name := "twoToTheDoubleScaleUp", type := .double, accessFlags := 8, slot := 7, constantValue := 0 }, { name := "twoToTheDoubleScaleDown", type := .double, accessFlags := 8, slot := 8, constantValue := 0 }, { name := "$assertionsDisabled", type := .boolean, accessFlags := 4120, slot := 9, constantValue := 0 }]
  methods := #[k17m0, k17m1, k17m2]
  instanceTypes := #[]
  staticTypes := #[.double, .double, .double, .double, .double, .long, .long, .double, .double, .boolean]
  resolved := Array.replicate 460 none
  statics := none }

def pool18 : Array CpInfo := pool [(9, u "<init>"), (6, .class_ 18), (1, u "java/lang/Object"), (0, u "()V"), (1, .class_ 23), (1, u "jdk/internal/util/ArraysSupport"), (0, u "LOG2_ARRAY_LONG_INDEX_SCALE"), (0, u "I"), (2, u "U"), (0, u "Ljdk/internal/misc/Unsafe;"), (8, u "BIG_ENDIAN"), (0, u "Z"), (8, u "LOG2_BYTE_BIT_SIZE"), (4, u "LOG2_ARRAY_INT_INDEX_SCALE"), (54, u "JLA"), (0, u "Ljdk/internal/access/JavaLangAccess;"), (11, u "LOG2_ARRAY_BOOLEAN_INDEX_SCALE"), (9, u "LOG2_ARRAY_BYTE_INDEX_SCALE"), (5, u "LOG2_ARRAY_CHAR_INDEX_SCALE"), (5, u "LOG2_ARRAY_SHORT_INDEX_SCALE"), (18, u "LOG2_ARRAY_FLOAT_INDEX_SCALE"), (24, u "LOG2_ARRAY_DOUBLE_INDEX_SCALE"), (6, .methodref 195 196), (0, .class_ 197), (0, .nameAndType 198 199), (0, u "java/lang/Math"), (0, u "max"), (0, u "(II)I"), (0, .integer 2147483639), (76, u "T_BOOLEAN"), (2, u "T_CHAR"), (1, u "T_FLOAT"), (1, u "T_DOUBLE"), (1, u "T_BYTE"), (1, u "T_SHORT"), (1, u "T_INT"), (1, u "T_LONG"), (1, u "SOFT_MAX_ARRAY_LENGTH"), (56, u "newLength"), (0, u "(III)I")] 25

def k18m0 : Method := { name := "<init>", desc := "()V", sig := { parameters := [], returnType := none }, accessFlags := 2, code := none }
def k18c1 : Code := { maxStack := 3, maxLocals := 4, code := jdk_48_method_27_code, exceptionTable := #[], attributes := #[] }
def k18m1 : Method := { name := "newLength", desc := "(III)I", sig := { parameters := [.int, .int, .int], returnType := some .int }, accessFlags := 9, code := some k18c1 }
/-- jdk/internal/util/ArraysSupport -/
def k18 : Class := { plain "jdk/internal/util/ArraysSupport" (some 0) with
  accessFlags := 33
  interfaces := #[]
  cf := some (fileOf pool18 21 #[] #[{ accessFlags := 2, nameIndex := 9, descriptorIndex := 19, attributes := #[] }, { accessFlags := 9, nameIndex := 351, descriptorIndex := 352, attributes := #[] }] 33 16 #[] #[{ accessFlags := 24, nameIndex := 28, descriptorIndex := 29, attributes := #[] }, { accessFlags := 26, nameIndex := 38, descriptorIndex := 39, attributes := #[] }, { accessFlags := 25, nameIndex := 121, descriptorIndex := 25, attributes := #[] }, { accessFlags := 25, nameIndex := 131, descriptorIndex := 25, attributes := #[] }, { accessFlags := 25, nameIndex := 137, descriptorIndex := 25, attributes := #[] }, { accessFlags := 25, nameIndex := 143, descriptorIndex := 25, attributes := #[] }, { accessFlags := 25, nameIndex := 53, descriptorIndex := 25, attributes := #[] }, { accessFlags := 25, nameIndex := 24, descriptorIndex := 25, attributes := #[] }, { accessFlags := 25, nameIndex := 162, descriptorIndex := 25, attributes := #[] }, { accessFlags := 25, nameIndex := 187, descriptorIndex := 25, attributes := #[] }, { accessFlags := 26, nameIndex := 48, descriptorIndex := 25, attributes := #[] }, { accessFlags := 25, nameIndex := 277, descriptorIndex := 25, attributes := #[] }, { accessFlags := 25, nameIndex := 280, descriptorIndex := 25, attributes := #[] }, { accessFlags := 25, nameIndex := 282, descriptorIndex := 25, attributes := #[] }, { accessFlags := 25, nameIndex := 284, descriptorIndex := 25, attributes := #[] }, { accessFlags := 25, nameIndex := 286, descriptorIndex := 25, attributes := #[] }, { accessFlags := 25, nameIndex := 288, descriptorIndex := 25, attributes := #[] }, { accessFlags := 25, nameIndex := 290, descriptorIndex := 25, attributes := #[] }, { accessFlags := 25, nameIndex := 292, descriptorIndex := 25, attributes := #[] }, { accessFlags := 26, nameIndex := 108, descriptorIndex := 109, attributes := #[] }, { accessFlags := 25, nameIndex := 294, descriptorIndex := 25, attributes := #[] }])
  fields := #[{ name := "U", type := (.object "jdk/internal/misc/Unsafe"), accessFlags := 24, slot := 0, constantValue := 0 }, { name := "BIG_ENDIAN", type := .boolean, accessFlags := 26, slot := 1, constantValue := 0 }, { name := "LOG2_ARRAY_BOOLEAN_INDEX_SCALE", type := .int, accessFlags := 25, slot := 2, constantValue := 0 }, { name := "LOG2_ARRAY_BYTE_INDEX_SCALE", type := .int, accessFlags := 25, slot := 3, constantValue := 0 }, { name := "LOG2_ARRAY_CHAR_INDEX_SCALE", type := .int, accessFlags := 25, slot := 4, constantValue := 0 }, { name := "LOG2_ARRAY_SHORT_INDEX_SCALE", type := .int, accessFlags := 25, slot := 5, constantValue := 0 }, { name := "LOG2_ARRAY_INT_INDEX_SCALE", type := .int, accessFlags := 25, slot := 6, constantValue := 0 }, { name := "LOG2_ARRAY_LONG_INDEX_SCALE", type := .int, accessFlags := 25, slot := 7, constantValue := 0 }, { name := "LOG2_ARRAY_FLOAT_INDEX_SCALE", type := .int, accessFlags := 25, slot := 8, constantValue := 0 }, { name := "LOG2_ARRAY_DOUBLE_INDEX_SCALE", type := .int, accessFlags := 25, slot := 9, constantValue := 0 }, { name := "LOG2_BYTE_BIT_SIZE", type := .int, accessFlags := 26, slot := 10, constantValue := 0 }, { name := "T_BOOLEAN", type := .int, accessFlags := 25, slot := 11, constantValue := 0 }, { name := "T_CHAR", type := .int, accessFlags := 25, slot := 12, constantValue := 0 }, { name := "T_FLOAT", type := .int, accessFlags := 25, slot := 13, constantValue := 0 }, { name := "T_DOUBLE", type := .int, accessFlags := 25, slot := 14, constantValue := 0 }, { name := "T_BYTE", type := .int, accessFlags := 25, slot := 15, constantValue := 0 }, { name := "T_SHORT", type := .int, accessFlags := 25, slot := 16, constantValue := 0 }, { name := "T_INT", type := .int, accessFlags := 25, slot := 17, constantValue := 0 }, { name := "T_LONG", type := .int, accessFlags := 25, slot := 18, constantValue := 0 }, { name := "JLA", type := (.object "jdk/internal/access/JavaLangAccess"), accessFlags := 26, slot := 19, constantValue := 0 }, { name := "SOFT_MAX_ARRAY_LENGTH", type := .int, accessFlags := 25, slot := 20, constantValue := 0 }]
  methods := #[k18m0, k18m1]
  instanceTypes := #[]
  staticTypes := #[(.object "jdk/internal/misc/Unsafe"), .boolean, .int, .int, .int, .int, .int, .int, .int, .int, .int, .int, .int, .int, .int, .int, .int, .int, .int, (.object "jdk/internal/access/JavaLangAccess"), .int]
  resolved := Array.replicate 378 none
  statics := none }

def pool19 : Array CpInfo := pool [(6, .class_ 8), (1, u "java/lang/Object"), (0, u "<init>"), (0, u "()V"), (1, .class_ 14), (1, u "java/lang/StringUTF16"), (31, u "$assertionsDisabled"), (0, u "Z"), (13, u "HI_BYTE_SHIFT"), (0, u "I"), (2, u "LO_BYTE_SHIFT"), (49, .methodref 12 116), (0, .nameAndType 117 118), (0, u "compress"), (0, u "([CI[BII)I"), (3, u "([CII)[B"), (138, u "coderFromArrayLen"), (0, u "([BI)B"), (106, .class_ 371), (1, u "java/lang/StringUTF16$LinesSpliterator"), (58, u "MAX_LENGTH"), (196, .class_ 628), (0, u "java/lang/StringUTF16$CodePointsSpliterator"), (0, .class_ 630), (0, u "java/lang/StringUTF16$CharsSpliterator")] 4

def k19m0 : Method := { name := "<init>", desc := "()V", sig := { parameters := [], returnType := none }, accessFlags := 0, code := none }
def k19c1 : Code := { maxStack := 2, maxLocals := 2, code := jdk_52_method_15_code, exceptionTable := #[], attributes := #[] }
def k19m1 : Method := { name := "coderFromArrayLen", desc := "([BI)B", sig := { parameters := [(.array .byte), .int], returnType := some .byte }, accessFlags := 8, code := some k19c1 }
def k19c2 : Code := { maxStack := 5, maxLocals := 6, code := jdk_52_method_16_code, exceptionTable := #[], attributes := #[] }
def k19m2 : Method := { name := "compress", desc := "([CII)[B", sig := { parameters := [(.array .char), .int, .int], returnType := some (.array .byte) }, accessFlags := 9, code := some k19c2 }
def k19c3 : Code := { maxStack := 3, maxLocals := 7, code := jdk_52_method_21_code, exceptionTable := #[], attributes := #[] }
def k19m3 : Method := { name := "compress", desc := "([CI[BII)I", sig := { parameters := [(.array .char), .int, (.array .byte), .int, .int], returnType := some .int }, accessFlags := 9, code := some k19c3 }
/-- java/lang/StringUTF16 -/
def k19 : Class := { plain "java/lang/StringUTF16" (some 0) with
  accessFlags := 48
  interfaces := #[]
  cf := some (fileOf pool19 12 #[.nestMembers #[627, 629, 369]] #[{ accessFlags := 0, nameIndex := 9, descriptorIndex := 10, attributes := #[] }, { accessFlags := 8, nameIndex := 261, descriptorIndex := 262, attributes := #[] }, { accessFlags := 9, nameIndex := 117, descriptorIndex := 122, attributes := #[] }, { accessFlags := 9, nameIndex := 117, descriptorIndex := 118, attributes := #[] }] 48 6 #[] #[{ accessFlags := 26, nameIndex := 61, descriptorIndex := 62, attributes := #[] }, { accessFlags := 26, nameIndex := 65, descriptorIndex := 62, attributes := #[] }, { accessFlags := 24, nameIndex := 430, descriptorIndex := 62, attributes := #[] }, { accessFlags := 4120, nameIndex := 46, descriptorIndex := 47, attributes := #[] }])
  fields := #[{ name := "HI_BYTE_SHIFT", type := .int, accessFlags := 26, slot := 0, constantValue := 0 }, { name := "LO_BYTE_SHIFT", type := .int, accessFlags := 26, slot := 1, constantValue := 0 }, { name := "MAX_LENGTH", type := .int, accessFlags := 24, slot := 2, constantValue := 0 }, { name := "$assertionsDisabled", type := .boolean, accessFlags := 4120, slot := 3, constantValue := 0 }]
  methods := #[k19m0, k19m1, k19m2, k19m3]
  instanceTypes := #[]
  staticTypes := #[.int, .int, .int, .boolean]
  resolved := Array.replicate 635 none
  statics := none }

def pool20 : Array CpInfo := pool [(4, .class_ 6), (1, u "java/lang/Object"), (0, u "<init>"), (0, u "()V"), (5, .class_ 16), (1, u "java/lang/StringLatin1"), (104, u "$assertionsDisabled"), (0, u "Z"), (98, .class_ 223), (1, u "java/lang/StringLatin1$LinesSpliterator"), (57, u "equals"), (0, u "([B[B)Z"), (107, .class_ 391), (0, u "java/lang/StringLatin1$CharsSpliterator")] 3

def k20m0 : Method := { name := "<init>", desc := "()V", sig := { parameters := [], returnType := none }, accessFlags := 0, code := none }
def k20c1 : Code := { maxStack := 3, maxLocals := 3, code := jdk_43_method_13_code, exceptionTable := #[], attributes := #[] }
def k20m1 : Method := { name := "equals", desc := "([B[B)Z", sig := { parameters := [(.array .byte), (.array .byte)], returnType := some .boolean }, accessFlags := 9, code := some k20c1 }
/-- java/lang/StringLatin1 -/
def k20 : Class := { plain "java/lang/StringLatin1" (some 0) with
  accessFlags := 48
  interfaces := #[]
  cf := some (fileOf pool20 14 #[.nestMembers #[390, 221]] #[{ accessFlags := 0, nameIndex := 7, descriptorIndex := 8, attributes := #[] }, { accessFlags := 9, nameIndex := 281, descriptorIndex := 282, attributes := #[] }] 48 4 #[] #[{ accessFlags := 4120, nameIndex := 121, descriptorIndex := 122, attributes := #[] }])
  fields := #[{ name := "$assertionsDisabled", type := .boolean, accessFlags := 4120, slot := 0, constantValue := 0 }]
  methods := #[k20m0, k20m1]
  instanceTypes := #[]
  staticTypes := #[.boolean]
  resolved := Array.replicate 395 none
  statics := none }

def pool21 : Array CpInfo := pool [(2, .class_ 4), (1, u "java/lang/Object"), (0, u "<init>"), (0, u "()V"), (17, .class_ 26), (1, u "jdk/internal/util/Preconditions"), (28, .class_ 56), (0, u "jdk/internal/util/Preconditions$4"), (57, .class_ 115), (0, u "jdk/internal/util/Preconditions$1"), (7, u "SIOOBE_FORMATTER"), (0, u "Ljava/util/function/BiFunction;"), (0, .class_ 126), (0, u "jdk/internal/util/Preconditions$2"), (3, u "AIOOBE_FORMATTER"), (0, .class_ 132), (0, u "jdk/internal/util/Preconditions$3"), (3, u "IOOBE_FORMATTER")] 57

def k21m0 : Method := { name := "<init>", desc := "()V", sig := { parameters := [], returnType := none }, accessFlags := 1, code := none }
/-- jdk/internal/util/Preconditions -/
def k21 : Class := { plain "jdk/internal/util/Preconditions" (some 0) with
  accessFlags := 33
  interfaces := #[]
  cf := some (fileOf pool21 24 #[.nestMembers #[55, 131, 125, 114]] #[{ accessFlags := 1, nameIndex := 5, descriptorIndex := 6, attributes := #[] }] 33 2 #[] #[{ accessFlags := 25, nameIndex := 123, descriptorIndex := 124, attributes := #[] }, { accessFlags := 25, nameIndex := 130, descriptorIndex := 124, attributes := #[] }, { accessFlags := 25, nameIndex := 136, descriptorIndex := 124, attributes := #[] }])
  fields := #[{ name := "SIOOBE_FORMATTER", type := (.object "java/util/function/BiFunction"), accessFlags := 25, slot := 0, constantValue := 0 }, { name := "AIOOBE_FORMATTER", type := (.object "java/util/function/BiFunction"), accessFlags := 25, slot := 1, constantValue := 0 }, { name := "IOOBE_FORMATTER", type := (.object "java/util/function/BiFunction"), accessFlags := 25, slot := 2, constantValue := 0 }]
  methods := #[k21m0]
  instanceTypes := #[]
  staticTypes := #[(.object "java/util/function/BiFunction"), (.object "java/util/function/BiFunction"), (.object "java/util/function/BiFunction")]
  resolved := Array.replicate 194 none
  statics := some 2 }

def pool22 : Array CpInfo := pool [(1, u "java/lang/Cloneable"), (0, .class_ 1), (0, u "java/lang/Object"), (0, .class_ 3)] 3

/-- java/lang/Cloneable -/
def k22 : Class := { plain "java/lang/Cloneable" (some 0) with
  accessFlags := 1537
  interfaces := #[]
  cf := some (fileOf pool22 2 #[] #[] 1537 4 #[] #[])
  fields := #[]
  methods := #[]
  instanceTypes := #[]
  staticTypes := #[]
  resolved := Array.replicate 8 none
  statics := none }

/-- the primitive byte -/
def k23 : Class := { plain "byte" none with kind := .primitive 'B', accessFlags := 0x411 }
/-- [B -/
def k24 : Class := { plain "[B" (some 0) with kind := .array 23 .byte, interfaces := #[22, 7], accessFlags := 1041 }

/-- the primitive char -/
def k25 : Class := { plain "char" none with kind := .primitive 'C', accessFlags := 0x411 }
/-- [C -/
def k26 : Class := { plain "[C" (some 0) with kind := .array 25 .char, interfaces := #[22, 7], accessFlags := 1041 }

/-- the primitive int -/
def k27 : Class := { plain "int" none with kind := .primitive 'I', accessFlags := 0x411 }
/-- [I -/
def k28 : Class := { plain "[I" (some 0) with kind := .array 27 .int, interfaces := #[22, 7], accessFlags := 1041 }

def heap : Heap := #[{ cls := 12, slots := #[.long 0, .int 1, .null, .int 0, .null, .int 0, .int 0], vm := .statics 12 },
  { cls := 14, slots := #[.int 0, .int 0, .null, .null, .ref 4, .ref 3, .int 0, .int 0, .long 0], vm := .statics 14 },
  { cls := 21, slots := #[.null, .null, .null], vm := .statics 21 },
  { cls := 24, slots := #[.int 48, .int 49, .int 50, .int 51, .int 52, .int 53, .int 54, .int 55, .int 56, .int 57, .int 48, .int 49, .int 50, .int 51, .int 52, .int 53, .int 54, .int 55, .int 56, .int 57, .int 48, .int 49, .int 50, .int 51, .int 52, .int 53, .int 54, .int 55, .int 56, .int 57, .int 48, .int 49, .int 50, .int 51, .int 52, .int 53, .int 54, .int 55, .int 56, .int 57, .int 48, .int 49, .int 50, .int 51, .int 52, .int 53, .int 54, .int 55, .int 56, .int 57, .int 48, .int 49, .int 50, .int 51, .int 52, .int 53, .int 54, .int 55, .int 56, .int 57, .int 48, .int 49, .int 50, .int 51, .int 52, .int 53, .int 54, .int 55, .int 56, .int 57, .int 48, .int 49, .int 50, .int 51, .int 52, .int 53, .int 54, .int 55, .int 56, .int 57, .int 48, .int 49, .int 50, .int 51, .int 52, .int 53, .int 54, .int 55, .int 56, .int 57, .int 48, .int 49, .int 50, .int 51, .int 52, .int 53, .int 54, .int 55, .int 56, .int 57], vm := .none },
  { cls := 24, slots := #[.int 48, .int 48, .int 48, .int 48, .int 48, .int 48, .int 48, .int 48, .int 48, .int 48, .int 49, .int 49, .int 49, .int 49, .int 49, .int 49, .int 49, .int 49, .int 49, .int 49, .int 50, .int 50, .int 50, .int 50, .int 50, .int 50, .int 50, .int 50, .int 50, .int 50, .int 51, .int 51, .int 51, .int 51, .int 51, .int 51, .int 51, .int 51, .int 51, .int 51, .int 52, .int 52, .int 52, .int 52, .int 52, .int 52, .int 52, .int 52, .int 52, .int 52, .int 53, .int 53, .int 53, .int 53, .int 53, .int 53, .int 53, .int 53, .int 53, .int 53, .int 54, .int 54, .int 54, .int 54, .int 54, .int 54, .int 54, .int 54, .int 54, .int 54, .int 55, .int 55, .int 55, .int 55, .int 55, .int 55, .int 55, .int 55, .int 55, .int 55, .int 56, .int 56, .int 56, .int 56, .int 56, .int 56, .int 56, .int 56, .int 56, .int 56, .int 57, .int 57, .int 57, .int 57, .int 57, .int 57, .int 57, .int 57, .int 57, .int 57], vm := .none }]
def classes : Array Class := #[k0, k1, k2, k3, k4, k5, k6, k7, k8, k9, k10, k11, k12, k13, k14, k15, k16, k17, k18, k19, k20, k21, k22, k23, k24, k25, k26, k27, k28]
def interned : List (Array UInt16 × Addr) := []
def slotsUsed : Nat := 219
def theMethod : MethodId := ⟨1, 1⟩
def args0 : Array Value := #[.int 65, .int 66]
def aboutOver (below : List Frame) : State where
  vm := { classes := classes, interned := interned.toArray }
  heap := heap
  slotsUsed := slotsUsed
  threads := #[{ frames := .invoking theMethod args0 :: below }]
def below0 : List Frame := [.native { method := ⟨0, 0⟩, args := #[] }]
def about1 : State := aboutOver below0
def p0 : Program := .bare "" "" ""
def e0 : Env := launch0.env 0 0 0
theorem w_frames : about1.frames = Frame.invoking theMethod args0 :: below0 := rfl
set_option maxRecDepth 65536 in
theorem w_args : argsFit about1.vm theMethod args0 = true := by decide +kernel
set_option maxRecDepth 65536 in
theorem w_heap : heapFits about1 = true := by decide +kernel
set_option maxRecDepth 65536 in
theorem w_runnable : about1.curStatus? = some .runnable := by decide +kernel
set_option maxRecDepth 65536 in
theorem w_alone : about1.alone = true := by decide +kernel
set_option maxRecDepth 65536 in
theorem w_named : about1.methodNamed? x = some theMethod := by decide +kernel
set_option maxRecDepth 65536 in
theorem w_hears : about1.hears theMethod below0 = true := by decide +kernel
set_option maxRecDepth 65536 in
theorem w_ripe : about1.ripe theMethod args0 below0 = true := by decide +kernel
theorem w_running : about1.status = .running := rfl
set_option maxRecDepth 65536 in
theorem w_room : about1.hasRoom e0.platform room_1 = true :=
  launch0.hasRoom_least _ room_1 (by decide +kernel) (by decide +kernel) (by decide +kernel) (by decide +kernel) (by decide +kernel) (by decide +kernel)
theorem allAtoms_all (ts : List Jvm.Cond) (a : Array Jvm.Value) (st : Jvm.State) : (allAtoms ts).before a st = ts.all (fun c => c.before a st) := by
  induction ts with
  | nil => rfl
  | cons c t ih =>
    show (Jvm.Cond.and c (allAtoms t)).before a st = _
    rw [Jvm.Cond.before_and, ih, List.all_cons]
def words1 : List Jvm.Cond := Jvm.Cond.code x code maxLocals ret :: tables_1
/-- a 'code' word, met by the world's own term for the bytes: nothing is compared byte by byte -/
theorem code_word {y : MethodName} {bytes : ByteArray} {mx : Nat} {rt : Option FieldType} {a : Array Value} {s : State} {m : MethodId} {meth : Method} {c : Code} (h1 : s.methodNamed? y = some m) (h2 : s.vm.method? m = some meth) (h3 : meth.code = some c) (h4 : c.code = bytes)
    (h5 : (c.maxLocals == mx && c.exceptionTable.isEmpty && decide (c.maxStack ≤ mostOperands) && decide (meth.sig.returnType = rt) && !meth.locks && decide (parseMethodDescriptor y.desc = some meth.sig)) = true) : (Jvm.Cond.code y bytes mx rt).before a s = true := by
  simp only [Bool.and_eq_true, beq_iff_eq, Bool.not_eq_true', decide_eq_true_eq] at h5
  obtain ⟨⟨⟨⟨⟨g1, g2⟩, g3⟩, g4⟩, g5⟩, g6⟩ := h5
  simp [Cond.before, Cond.holds, Cond.value, h1, h2, h3, h4, g1, g2, g3, g4, g5, g6]
def isCode : Jvm.Cond → Bool
  | .code _ _ _ _ => true
  | _ => false
theorem all_split {L : List Jvm.Cond} {P : Jvm.Cond → Bool} (h1 : L.all (fun c => isCode c || P c) = true) (h2 : ∀ c ∈ L.filter isCode, P c = true) : L.all P = true := by
  refine List.all_eq_true.mpr fun c hc => ?_
  have h := List.all_eq_true.mp h1 c hc
  rcases Bool.eq_false_or_eq_true (isCode c) with hi | hi
  · exact h2 c (List.mem_filter.mpr ⟨hc, hi⟩)
  · simpa [hi] using h
set_option maxRecDepth 65536 in
theorem w_c0 : (Jvm.Cond.code x code maxLocals ret).before args0 about1 = true := code_word (m := ⟨1, 1⟩) (meth := k1m1) (c := k1c1) (by decide +kernel) rfl rfl rfl (by decide +kernel)
set_option maxRecDepth 65536 in
theorem w_c1 : (Jvm.Cond.code ({ cls := "com/example/faithful_doubles/faithfuldoubles/doubles/ArgumentMatcher", name := "counted", desc := "(II)Ljava/lang/String;" } : Jvm.MethodName) prog_5_method_5_code (3 : Nat) (Option.some (Jvm.ClassFile.FieldType.object "java/lang/String"))).before args0 about1 = true := code_word (m := ⟨3, 0⟩) (meth := k3m0) (c := k3c0) (by decide +kernel) rfl rfl rfl (by decide +kernel)
set_option maxRecDepth 65536 in
theorem w_c2 : (Jvm.Cond.code ({ cls := "java/lang/StringBuilder", name := "<init>", desc := "()V" } : Jvm.MethodName) jdk_67_method_1_code (1 : Nat) (Option.none : Option Jvm.ClassFile.FieldType)).before args0 about1 = true := code_word (m := ⟨9, 0⟩) (meth := k9m0) (c := k9c0) (by decide +kernel) rfl rfl rfl (by decide +kernel)
set_option maxRecDepth 65536 in
theorem w_c3 : (Jvm.Cond.code ({ cls := "java/lang/AbstractStringBuilder", name := "<init>", desc := "(I)V" } : Jvm.MethodName) jdk_68_method_2_code (2 : Nat) (Option.none : Option Jvm.ClassFile.FieldType)).before args0 about1 = true := code_word (m := ⟨6, 1⟩) (meth := k6m1) (c := k6c1) (by decide +kernel) rfl rfl rfl (by decide +kernel)
set_option maxRecDepth 65536 in
theorem w_c4 : (Jvm.Cond.code ({ cls := "java/lang/Object", name := "<init>", desc := "()V" } : Jvm.MethodName) object_method_1_code (1 : Nat) (Option.none : Option Jvm.ClassFile.FieldType)).before args0 about1 = true := code_word (m := ⟨0, 0⟩) (meth := k0m0) (c := k0c0) (by decide +kernel) rfl rfl rfl (by decide +kernel)
set_option maxRecDepth 65536 in
theorem w_c5 : (Jvm.Cond.code ({ cls := "java/lang/StringBuilder", name := "append", desc := "(I)Ljava/lang/StringBuilder;" } : Jvm.MethodName) jdk_67_method_15_code (2 : Nat) (Option.some (Jvm.ClassFile.FieldType.object "java/lang/StringBuilder"))).before args0 about1 = true := code_word (m := ⟨9, 2⟩) (meth := k9m2) (c := k9c2) (by decide +kernel) rfl rfl rfl (by decide +kernel)
set_option maxRecDepth 65536 in
theorem w_c6 : (Jvm.Cond.code ({ cls := "java/lang/AbstractStringBuilder", name := "append", desc := "(I)Ljava/lang/AbstractStringBuilder;" } : Jvm.MethodName) jdk_68_method_32_code (4 : Nat) (Option.some (Jvm.ClassFile.FieldType.object "java/lang/AbstractStringBuilder"))).before args0 about1 = true := code_word (m := ⟨6, 6⟩) (meth := k6m6) (c := k6c6) (by decide +kernel) rfl rfl rfl (by decide +kernel)
set_option maxRecDepth 65536 in
theorem w_c7 : (Jvm.Cond.code ({ cls := "java/lang/Integer", name := "stringSize", desc := "(I)I" } : Jvm.MethodName) jdk_33_method_13_code (4 : Nat) (Option.some Jvm.ClassFile.FieldType.int)).before args0 about1 = true := code_word (m := ⟨14, 1⟩) (meth := k14m1) (c := k14c1) (by decide +kernel) rfl rfl rfl (by decide +kernel)
set_option maxRecDepth 65536 in
theorem w_c8 : (Jvm.Cond.code ({ cls := "java/lang/AbstractStringBuilder", name := "ensureCapacityInternal", desc := "(I)V" } : Jvm.MethodName) jdk_68_method_9_code (3 : Nat) (Option.none : Option Jvm.ClassFile.FieldType)).before args0 about1 = true := code_word (m := ⟨6, 3⟩) (meth := k6m3) (c := k6c3) (by decide +kernel) rfl rfl rfl (by decide +kernel)
set_option maxRecDepth 65536 in
theorem w_c9 : (Jvm.Cond.code ({ cls := "java/lang/AbstractStringBuilder", name := "isLatin1", desc := "()Z" } : Jvm.MethodName) jdk_68_method_68_code (1 : Nat) (Option.some Jvm.ClassFile.FieldType.boolean)).before args0 about1 = true := code_word (m := ⟨6, 8⟩) (meth := k6m8) (c := k6c8) (by decide +kernel) rfl rfl rfl (by decide +kernel)
set_option maxRecDepth 65536 in
theorem w_c10 : (Jvm.Cond.code ({ cls := "java/lang/Integer", name := "getChars", desc := "(II[B)I" } : Jvm.MethodName) jdk_33_method_12_code (7 : Nat) (Option.some Jvm.ClassFile.FieldType.int)).before args0 about1 = true := code_word (m := ⟨14, 0⟩) (meth := k14m0) (c := k14c0) (by decide +kernel) rfl rfl rfl (by decide +kernel)
set_option maxRecDepth 65536 in
theorem w_c11 : (Jvm.Cond.code ({ cls := "java/lang/StringBuilder", name := "append", desc := "(Ljava/lang/String;)Ljava/lang/StringBuilder;" } : Jvm.MethodName) jdk_67_method_7_code (2 : Nat) (Option.some (Jvm.ClassFile.FieldType.object "java/lang/StringBuilder"))).before args0 about1 = true := code_word (m := ⟨9, 1⟩) (meth := k9m1) (c := k9c1) (by decide +kernel) rfl rfl rfl (by decide +kernel)
set_option maxRecDepth 65536 in
theorem w_c12 : (Jvm.Cond.code ({ cls := "java/lang/AbstractStringBuilder", name := "append", desc := "(Ljava/lang/String;)Ljava/lang/AbstractStringBuilder;" } : Jvm.MethodName) jdk_68_method_22_code (3 : Nat) (Option.some (Jvm.ClassFile.FieldType.object "java/lang/AbstractStringBuilder"))).before args0 about1 = true := code_word (m := ⟨6, 5⟩) (meth := k6m5) (c := k6c5) (by decide +kernel) rfl rfl rfl (by decide +kernel)
set_option maxRecDepth 65536 in
theorem w_c13 : (Jvm.Cond.code ({ cls := "java/lang/String", name := "length", desc := "()I" } : Jvm.MethodName) jdk_42_method_54_code (1 : Nat) (Option.some Jvm.ClassFile.FieldType.int)).before args0 about1 = true := code_word (m := ⟨12, 3⟩) (meth := k12m3) (c := k12c3) (by decide +kernel) rfl rfl rfl (by decide +kernel)
set_option maxRecDepth 65536 in
theorem w_c14 : (Jvm.Cond.code ({ cls := "java/lang/String", name := "coder", desc := "()B" } : Jvm.MethodName) jdk_42_method_152_code (1 : Nat) (Option.some Jvm.ClassFile.FieldType.byte)).before args0 about1 = true := code_word (m := ⟨12, 8⟩) (meth := k12m8) (c := k12c8) (by decide +kernel) rfl rfl rfl (by decide +kernel)
set_option maxRecDepth 65536 in
theorem w_c15 : (Jvm.Cond.code ({ cls := "java/lang/AbstractStringBuilder", name := "putStringAt", desc := "(ILjava/lang/String;)V" } : Jvm.MethodName) jdk_68_method_73_code (3 : Nat) (Option.none : Option Jvm.ClassFile.FieldType)).before args0 about1 = true := code_word (m := ⟨6, 10⟩) (meth := k6m10) (c := k6c10) (by decide +kernel) rfl rfl rfl (by decide +kernel)
set_option maxRecDepth 65536 in
theorem w_c16 : (Jvm.Cond.code ({ cls := "java/lang/AbstractStringBuilder", name := "inflateIfNeededFor", desc := "(Ljava/lang/String;)V" } : Jvm.MethodName) jdk_68_method_71_code (2 : Nat) (Option.none : Option Jvm.ClassFile.FieldType)).before args0 about1 = true := code_word (m := ⟨6, 9⟩) (meth := k6m9) (c := k6c9) (by decide +kernel) rfl rfl rfl (by decide +kernel)
set_option maxRecDepth 65536 in
theorem w_c17 : (Jvm.Cond.code ({ cls := "java/lang/String", name := "getBytes", desc := "([BIB)V" } : Jvm.MethodName) jdk_42_method_147_code (4 : Nat) (Option.none : Option Jvm.ClassFile.FieldType)).before args0 about1 = true := code_word (m := ⟨12, 5⟩) (meth := k12m5) (c := k12c5) (by decide +kernel) rfl rfl rfl (by decide +kernel)
set_option maxRecDepth 65536 in
theorem w_c18 : (Jvm.Cond.code ({ cls := "java/lang/StringBuilder", name := "toString", desc := "()Ljava/lang/String;" } : Jvm.MethodName) jdk_67_method_42_code (1 : Nat) (Option.some (Jvm.ClassFile.FieldType.object "java/lang/String"))).before args0 about1 = true := code_word (m := ⟨9, 3⟩) (meth := k9m3) (c := k9c3) (by decide +kernel) rfl rfl rfl (by decide +kernel)
set_option maxRecDepth 65536 in
theorem w_c19 : (Jvm.Cond.code ({ cls := "java/lang/String", name := "<init>", desc := "(Ljava/lang/StringBuilder;)V" } : Jvm.MethodName) jdk_42_method_53_code (2 : Nat) (Option.none : Option Jvm.ClassFile.FieldType)).before args0 about1 = true := code_word (m := ⟨12, 2⟩) (meth := k12m2) (c := k12c2) (by decide +kernel) rfl rfl rfl (by decide +kernel)
set_option maxRecDepth 65536 in
theorem w_c20 : (Jvm.Cond.code ({ cls := "java/lang/String", name := "<init>", desc := "(Ljava/lang/AbstractStringBuilder;Ljava/lang/Void;)V" } : Jvm.MethodName) jdk_42_method_150_code (5 : Nat) (Option.none : Option Jvm.ClassFile.FieldType)).before args0 about1 = true := code_word (m := ⟨12, 7⟩) (meth := k12m7) (c := k12c7) (by decide +kernel) rfl rfl rfl (by decide +kernel)
set_option maxRecDepth 65536 in
theorem w_c21 : (Jvm.Cond.code ({ cls := "java/lang/AbstractStringBuilder", name := "getValue", desc := "()[B" } : Jvm.MethodName) jdk_68_method_64_code (1 : Nat) (Option.some (Jvm.ClassFile.FieldType.array Jvm.ClassFile.FieldType.byte))).before args0 about1 = true := code_word (m := ⟨6, 7⟩) (meth := k6m7) (c := k6c7) (by decide +kernel) rfl rfl rfl (by decide +kernel)
set_option maxRecDepth 65536 in
theorem w_c22 : (Jvm.Cond.code ({ cls := "java/lang/StringBuilder", name := "length", desc := "()I" } : Jvm.MethodName) jdk_67_method_93_code (1 : Nat) (Option.some Jvm.ClassFile.FieldType.int)).before args0 about1 = true := code_word (m := ⟨9, 4⟩) (meth := k9m4) (c := k9c4) (by decide +kernel) rfl rfl rfl (by decide +kernel)
set_option maxRecDepth 65536 in
theorem w_c23 : (Jvm.Cond.code ({ cls := "java/lang/AbstractStringBuilder", name := "length", desc := "()I" } : Jvm.MethodName) jdk_68_method_6_code (1 : Nat) (Option.some Jvm.ClassFile.FieldType.int)).before args0 about1 = true := code_word (m := ⟨6, 2⟩) (meth := k6m2) (c := k6c2) (by decide +kernel) rfl rfl rfl (by decide +kernel)
set_option maxRecDepth 65536 in
theorem w_c24 : (Jvm.Cond.code ({ cls := "java/util/Arrays", name := "copyOfRange", desc := "([BII)[B" } : Jvm.MethodName) jdk_65_method_132_code (3 : Nat) (Option.some (Jvm.ClassFile.FieldType.array Jvm.ClassFile.FieldType.byte))).before args0 about1 = true := code_word (m := ⟨16, 3⟩) (meth := k16m3) (c := k16c3) (by decide +kernel) rfl rfl rfl (by decide +kernel)
set_option maxRecDepth 65536 in
theorem w_c25 : (Jvm.Cond.code ({ cls := "java/util/Arrays", name := "copyOfRangeByte", desc := "([BII)[B" } : Jvm.MethodName) jdk_65_method_133_code (5 : Nat) (Option.some (Jvm.ClassFile.FieldType.array Jvm.ClassFile.FieldType.byte))).before args0 about1 = true := code_word (m := ⟨16, 4⟩) (meth := k16m4) (c := k16c4) (by decide +kernel) rfl rfl rfl (by decide +kernel)
set_option maxRecDepth 65536 in
theorem w_c26 : (Jvm.Cond.code ({ cls := "java/util/Arrays", name := "checkLength", desc := "(II)V" } : Jvm.MethodName) jdk_65_method_131_code (2 : Nat) (Option.none : Option Jvm.ClassFile.FieldType)).before args0 about1 = true := code_word (m := ⟨16, 2⟩) (meth := k16m2) (c := k16c2) (by decide +kernel) rfl rfl rfl (by decide +kernel)
set_option maxRecDepth 65536 in
theorem w_c27 : (Jvm.Cond.code ({ cls := "java/lang/Math", name := "min", desc := "(II)I" } : Jvm.MethodName) jdk_29_method_69_code (2 : Nat) (Option.some Jvm.ClassFile.FieldType.int)).before args0 about1 = true := code_word (m := ⟨17, 2⟩) (meth := k17m2) (c := k17c2) (by decide +kernel) rfl rfl rfl (by decide +kernel)
set_option maxRecDepth 65536 in
theorem w_c28 : (Jvm.Cond.code ({ cls := "java/lang/AbstractStringBuilder", name := "newCapacity", desc := "(I)I" } : Jvm.MethodName) jdk_68_method_10_code (6 : Nat) (Option.some Jvm.ClassFile.FieldType.int)).before args0 about1 = true := code_word (m := ⟨6, 4⟩) (meth := k6m4) (c := k6c4) (by decide +kernel) rfl rfl rfl (by decide +kernel)
set_option maxRecDepth 65536 in
theorem w_c29 : (Jvm.Cond.code ({ cls := "jdk/internal/util/ArraysSupport", name := "newLength", desc := "(III)I" } : Jvm.MethodName) jdk_48_method_27_code (4 : Nat) (Option.some Jvm.ClassFile.FieldType.int)).before args0 about1 = true := code_word (m := ⟨18, 1⟩) (meth := k18m1) (c := k18c1) (by decide +kernel) rfl rfl rfl (by decide +kernel)
set_option maxRecDepth 65536 in
theorem w_c30 : (Jvm.Cond.code ({ cls := "java/lang/Math", name := "max", desc := "(II)I" } : Jvm.MethodName) jdk_29_method_65_code (2 : Nat) (Option.some Jvm.ClassFile.FieldType.int)).before args0 about1 = true := code_word (m := ⟨17, 1⟩) (meth := k17m1) (c := k17c1) (by decide +kernel) rfl rfl rfl (by decide +kernel)
set_option maxRecDepth 65536 in
theorem w_c31 : (Jvm.Cond.code ({ cls := "java/util/Arrays", name := "copyOf", desc := "([BI)[B" } : Jvm.MethodName) jdk_65_method_121_code (3 : Nat) (Option.some (Jvm.ClassFile.FieldType.array Jvm.ClassFile.FieldType.byte))).before args0 about1 = true := code_word (m := ⟨16, 1⟩) (meth := k16m1) (c := k16c1) (by decide +kernel) rfl rfl rfl (by decide +kernel)
set_option maxRecDepth 65536 in
theorem w_c32 : (Jvm.Cond.code ({ cls := "java/lang/String", name := "<init>", desc := "([C)V" } : Jvm.MethodName) jdk_42_method_3_code (2 : Nat) (Option.none : Option Jvm.ClassFile.FieldType)).before args0 about1 = true := code_word (m := ⟨12, 1⟩) (meth := k12m1) (c := k12c1) (by decide +kernel) rfl rfl rfl (by decide +kernel)
set_option maxRecDepth 65536 in
theorem w_c33 : (Jvm.Cond.code ({ cls := "java/lang/String", name := "<init>", desc := "([CIILjava/lang/Void;)V" } : Jvm.MethodName) jdk_42_method_149_code (6 : Nat) (Option.none : Option Jvm.ClassFile.FieldType)).before args0 about1 = true := code_word (m := ⟨12, 6⟩) (meth := k12m6) (c := k12c6) (by decide +kernel) rfl rfl rfl (by decide +kernel)
set_option maxRecDepth 65536 in
theorem w_c34 : (Jvm.Cond.code ({ cls := "java/lang/StringUTF16", name := "compress", desc := "([CII)[B" } : Jvm.MethodName) jdk_52_method_16_code (6 : Nat) (Option.some (Jvm.ClassFile.FieldType.array Jvm.ClassFile.FieldType.byte))).before args0 about1 = true := code_word (m := ⟨19, 2⟩) (meth := k19m2) (c := k19c2) (by decide +kernel) rfl rfl rfl (by decide +kernel)
set_option maxRecDepth 65536 in
theorem w_c35 : (Jvm.Cond.code ({ cls := "java/lang/StringUTF16", name := "compress", desc := "([CI[BII)I" } : Jvm.MethodName) jdk_52_method_21_code (7 : Nat) (Option.some Jvm.ClassFile.FieldType.int)).before args0 about1 = true := code_word (m := ⟨19, 3⟩) (meth := k19m3) (c := k19c3) (by decide +kernel) rfl rfl rfl (by decide +kernel)
set_option maxRecDepth 65536 in
theorem w_c36 : (Jvm.Cond.code ({ cls := "java/lang/StringUTF16", name := "coderFromArrayLen", desc := "([BI)B" } : Jvm.MethodName) jdk_52_method_15_code (2 : Nat) (Option.some Jvm.ClassFile.FieldType.byte)).before args0 about1 = true := code_word (m := ⟨19, 1⟩) (meth := k19m1) (c := k19c1) (by decide +kernel) rfl rfl rfl (by decide +kernel)
set_option maxRecDepth 65536 in
theorem w_c37 : (Jvm.Cond.code ({ cls := "java/lang/String", name := "equals", desc := "(Ljava/lang/Object;)Z" } : Jvm.MethodName) jdk_42_method_66_code (3 : Nat) (Option.some Jvm.ClassFile.FieldType.boolean)).before args0 about1 = true := code_word (m := ⟨12, 4⟩) (meth := k12m4) (c := k12c4) (by decide +kernel) rfl rfl rfl (by decide +kernel)
set_option maxRecDepth 65536 in
theorem w_c38 : (Jvm.Cond.code ({ cls := "java/lang/StringLatin1", name := "equals", desc := "([B[B)Z" } : Jvm.MethodName) jdk_43_method_13_code (3 : Nat) (Option.some Jvm.ClassFile.FieldType.boolean)).before args0 about1 = true := code_word (m := ⟨20, 1⟩) (meth := k20m1) (c := k20c1) (by decide +kernel) rfl rfl rfl (by decide +kernel)
def codes1 : List Jvm.Cond := [Jvm.Cond.code x code maxLocals ret, Jvm.Cond.code ({ cls := "com/example/faithful_doubles/faithfuldoubles/doubles/ArgumentMatcher", name := "counted", desc := "(II)Ljava/lang/String;" } : Jvm.MethodName) prog_5_method_5_code (3 : Nat) (Option.some (Jvm.ClassFile.FieldType.object "java/lang/String")), Jvm.Cond.code ({ cls := "java/lang/StringBuilder", name := "<init>", desc := "()V" } : Jvm.MethodName) jdk_67_method_1_code (1 : Nat) (Option.none : Option Jvm.ClassFile.FieldType), Jvm.Cond.code ({ cls := "java/lang/AbstractStringBuilder", name := "<init>", desc := "(I)V" } : Jvm.MethodName) jdk_68_method_2_code (2 : Nat) (Option.none : Option Jvm.ClassFile.FieldType), Jvm.Cond.code ({ cls := "java/lang/Object", name := "<init>", desc := "()V" } : Jvm.MethodName) object_method_1_code (1 : Nat) (Option.none : Option Jvm.ClassFile.FieldType), Jvm.Cond.code ({ cls := "java/lang/StringBuilder", name := "append", desc := "(I)Ljava/lang/StringBuilder;" } : Jvm.MethodName) jdk_67_method_15_code (2 : Nat) (Option.some (Jvm.ClassFile.FieldType.object "java/lang/StringBuilder")), Jvm.Cond.code ({ cls := "java/lang/AbstractStringBuilder", name := "append", desc := "(I)Ljava/lang/AbstractStringBuilder;" } : Jvm.MethodName) jdk_68_method_32_code (4 : Nat) (Option.some (Jvm.ClassFile.FieldType.object "java/lang/AbstractStringBuilder")), Jvm.Cond.code ({ cls := "java/lang/Integer", name := "stringSize", desc := "(I)I" } : Jvm.MethodName) jdk_33_method_13_code (4 : Nat) (Option.some Jvm.ClassFile.FieldType.int), Jvm.Cond.code ({ cls := "java/lang/AbstractStringBuilder", name := "ensureCapacityInternal", desc := "(I)V" } : Jvm.MethodName) jdk_68_method_9_code (3 : Nat) (Option.none : Option Jvm.ClassFile.FieldType), Jvm.Cond.code ({ cls := "java/lang/AbstractStringBuilder", name := "isLatin1", desc := "()Z" } : Jvm.MethodName) jdk_68_method_68_code (1 : Nat) (Option.some Jvm.ClassFile.FieldType.boolean), Jvm.Cond.code ({ cls := "java/lang/Integer", name := "getChars", desc := "(II[B)I" } : Jvm.MethodName) jdk_33_method_12_code (7 : Nat) (Option.some Jvm.ClassFile.FieldType.int), Jvm.Cond.code ({ cls := "java/lang/StringBuilder", name := "append", desc := "(Ljava/lang/String;)Ljava/lang/StringBuilder;" } : Jvm.MethodName) jdk_67_method_7_code (2 : Nat) (Option.some (Jvm.ClassFile.FieldType.object "java/lang/StringBuilder")), Jvm.Cond.code ({ cls := "java/lang/AbstractStringBuilder", name := "append", desc := "(Ljava/lang/String;)Ljava/lang/AbstractStringBuilder;" } : Jvm.MethodName) jdk_68_method_22_code (3 : Nat) (Option.some (Jvm.ClassFile.FieldType.object "java/lang/AbstractStringBuilder")), Jvm.Cond.code ({ cls := "java/lang/String", name := "length", desc := "()I" } : Jvm.MethodName) jdk_42_method_54_code (1 : Nat) (Option.some Jvm.ClassFile.FieldType.int), Jvm.Cond.code ({ cls := "java/lang/String", name := "coder", desc := "()B" } : Jvm.MethodName) jdk_42_method_152_code (1 : Nat) (Option.some Jvm.ClassFile.FieldType.byte), Jvm.Cond.code ({ cls := "java/lang/AbstractStringBuilder", name := "putStringAt", desc := "(ILjava/lang/String;)V" } : Jvm.MethodName) jdk_68_method_73_code (3 : Nat) (Option.none : Option Jvm.ClassFile.FieldType), Jvm.Cond.code ({ cls := "java/lang/AbstractStringBuilder", name := "inflateIfNeededFor", desc := "(Ljava/lang/String;)V" } : Jvm.MethodName) jdk_68_method_71_code (2 : Nat) (Option.none : Option Jvm.ClassFile.FieldType), Jvm.Cond.code ({ cls := "java/lang/String", name := "getBytes", desc := "([BIB)V" } : Jvm.MethodName) jdk_42_method_147_code (4 : Nat) (Option.none : Option Jvm.ClassFile.FieldType), Jvm.Cond.code ({ cls := "java/lang/StringBuilder", name := "toString", desc := "()Ljava/lang/String;" } : Jvm.MethodName) jdk_67_method_42_code (1 : Nat) (Option.some (Jvm.ClassFile.FieldType.object "java/lang/String")), Jvm.Cond.code ({ cls := "java/lang/String", name := "<init>", desc := "(Ljava/lang/StringBuilder;)V" } : Jvm.MethodName) jdk_42_method_53_code (2 : Nat) (Option.none : Option Jvm.ClassFile.FieldType), Jvm.Cond.code ({ cls := "java/lang/String", name := "<init>", desc := "(Ljava/lang/AbstractStringBuilder;Ljava/lang/Void;)V" } : Jvm.MethodName) jdk_42_method_150_code (5 : Nat) (Option.none : Option Jvm.ClassFile.FieldType), Jvm.Cond.code ({ cls := "java/lang/AbstractStringBuilder", name := "getValue", desc := "()[B" } : Jvm.MethodName) jdk_68_method_64_code (1 : Nat) (Option.some (Jvm.ClassFile.FieldType.array Jvm.ClassFile.FieldType.byte)), Jvm.Cond.code ({ cls := "java/lang/StringBuilder", name := "length", desc := "()I" } : Jvm.MethodName) jdk_67_method_93_code (1 : Nat) (Option.some Jvm.ClassFile.FieldType.int), Jvm.Cond.code ({ cls := "java/lang/AbstractStringBuilder", name := "length", desc := "()I" } : Jvm.MethodName) jdk_68_method_6_code (1 : Nat) (Option.some Jvm.ClassFile.FieldType.int), Jvm.Cond.code ({ cls := "java/util/Arrays", name := "copyOfRange", desc := "([BII)[B" } : Jvm.MethodName) jdk_65_method_132_code (3 : Nat) (Option.some (Jvm.ClassFile.FieldType.array Jvm.ClassFile.FieldType.byte)), Jvm.Cond.code ({ cls := "java/util/Arrays", name := "copyOfRangeByte", desc := "([BII)[B" } : Jvm.MethodName) jdk_65_method_133_code (5 : Nat) (Option.some (Jvm.ClassFile.FieldType.array Jvm.ClassFile.FieldType.byte)), Jvm.Cond.code ({ cls := "java/util/Arrays", name := "checkLength", desc := "(II)V" } : Jvm.MethodName) jdk_65_method_131_code (2 : Nat) (Option.none : Option Jvm.ClassFile.FieldType), Jvm.Cond.code ({ cls := "java/lang/Math", name := "min", desc := "(II)I" } : Jvm.MethodName) jdk_29_method_69_code (2 : Nat) (Option.some Jvm.ClassFile.FieldType.int), Jvm.Cond.code ({ cls := "java/lang/AbstractStringBuilder", name := "newCapacity", desc := "(I)I" } : Jvm.MethodName) jdk_68_method_10_code (6 : Nat) (Option.some Jvm.ClassFile.FieldType.int), Jvm.Cond.code ({ cls := "jdk/internal/util/ArraysSupport", name := "newLength", desc := "(III)I" } : Jvm.MethodName) jdk_48_method_27_code (4 : Nat) (Option.some Jvm.ClassFile.FieldType.int), Jvm.Cond.code ({ cls := "java/lang/Math", name := "max", desc := "(II)I" } : Jvm.MethodName) jdk_29_method_65_code (2 : Nat) (Option.some Jvm.ClassFile.FieldType.int), Jvm.Cond.code ({ cls := "java/util/Arrays", name := "copyOf", desc := "([BI)[B" } : Jvm.MethodName) jdk_65_method_121_code (3 : Nat) (Option.some (Jvm.ClassFile.FieldType.array Jvm.ClassFile.FieldType.byte)), Jvm.Cond.code ({ cls := "java/lang/String", name := "<init>", desc := "([C)V" } : Jvm.MethodName) jdk_42_method_3_code (2 : Nat) (Option.none : Option Jvm.ClassFile.FieldType), Jvm.Cond.code ({ cls := "java/lang/String", name := "<init>", desc := "([CIILjava/lang/Void;)V" } : Jvm.MethodName) jdk_42_method_149_code (6 : Nat) (Option.none : Option Jvm.ClassFile.FieldType), Jvm.Cond.code ({ cls := "java/lang/StringUTF16", name := "compress", desc := "([CII)[B" } : Jvm.MethodName) jdk_52_method_16_code (6 : Nat) (Option.some (Jvm.ClassFile.FieldType.array Jvm.ClassFile.FieldType.byte)), Jvm.Cond.code ({ cls := "java/lang/StringUTF16", name := "compress", desc := "([CI[BII)I" } : Jvm.MethodName) jdk_52_method_21_code (7 : Nat) (Option.some Jvm.ClassFile.FieldType.int), Jvm.Cond.code ({ cls := "java/lang/StringUTF16", name := "coderFromArrayLen", desc := "([BI)B" } : Jvm.MethodName) jdk_52_method_15_code (2 : Nat) (Option.some Jvm.ClassFile.FieldType.byte), Jvm.Cond.code ({ cls := "java/lang/String", name := "equals", desc := "(Ljava/lang/Object;)Z" } : Jvm.MethodName) jdk_42_method_66_code (3 : Nat) (Option.some Jvm.ClassFile.FieldType.boolean), Jvm.Cond.code ({ cls := "java/lang/StringLatin1", name := "equals", desc := "([B[B)Z" } : Jvm.MethodName) jdk_43_method_13_code (3 : Nat) (Option.some Jvm.ClassFile.FieldType.boolean)]
set_option maxRecDepth 65536 in
theorem codes_eq : words1.filter isCode = codes1 := rfl
theorem w_codes : ∀ c ∈ words1.filter isCode, c.before args0 about1 = true := by
  rw [codes_eq]
  intro c hc
  simp only [codes1, List.mem_cons, List.not_mem_nil, or_false] at hc
  rcases hc with rfl | rfl | rfl | rfl | rfl | rfl | rfl | rfl | rfl | rfl | rfl | rfl | rfl | rfl | rfl | rfl | rfl | rfl | rfl | rfl | rfl | rfl | rfl | rfl | rfl | rfl | rfl | rfl | rfl | rfl | rfl | rfl | rfl | rfl | rfl | rfl | rfl | rfl | rfl
  · exact w_c0
  · exact w_c1
  · exact w_c2
  · exact w_c3
  · exact w_c4
  · exact w_c5
  · exact w_c6
  · exact w_c7
  · exact w_c8
  · exact w_c9
  · exact w_c10
  · exact w_c11
  · exact w_c12
  · exact w_c13
  · exact w_c14
  · exact w_c15
  · exact w_c16
  · exact w_c17
  · exact w_c18
  · exact w_c19
  · exact w_c20
  · exact w_c21
  · exact w_c22
  · exact w_c23
  · exact w_c24
  · exact w_c25
  · exact w_c26
  · exact w_c27
  · exact w_c28
  · exact w_c29
  · exact w_c30
  · exact w_c31
  · exact w_c32
  · exact w_c33
  · exact w_c34
  · exact w_c35
  · exact w_c36
  · exact w_c37
  · exact w_c38
set_option maxRecDepth 65536 in
theorem w_t1 : (words1.take 24).all (fun c => isCode c || c.before args0 about1) = true := by decide +kernel
set_option maxRecDepth 65536 in
theorem w_t2 : ((words1.drop 24).take 24).all (fun c => isCode c || c.before args0 about1) = true := by decide +kernel
set_option maxRecDepth 65536 in
theorem w_t3 : (((words1.drop 24).drop 24).take 24).all (fun c => isCode c || c.before args0 about1) = true := by decide +kernel
set_option maxRecDepth 65536 in
theorem w_t4 : ((((words1.drop 24).drop 24).drop 24).take 24).all (fun c => isCode c || c.before args0 about1) = true := by decide +kernel
set_option maxRecDepth 65536 in
theorem w_t5 : (((((words1.drop 24).drop 24).drop 24).drop 24).take 24).all (fun c => isCode c || c.before args0 about1) = true := by decide +kernel
set_option maxRecDepth 65536 in
theorem w_t6 : ((((((words1.drop 24).drop 24).drop 24).drop 24).drop 24).take 24).all (fun c => isCode c || c.before args0 about1) = true := by decide +kernel
set_option maxRecDepth 65536 in
theorem w_t7 : (((((((words1.drop 24).drop 24).drop 24).drop 24).drop 24).drop 24).take 24).all (fun c => isCode c || c.before args0 about1) = true := by decide +kernel
set_option maxRecDepth 65536 in
theorem w_t8 : ((((((((words1.drop 24).drop 24).drop 24).drop 24).drop 24).drop 24).drop 24).take 24).all (fun c => isCode c || c.before args0 about1) = true := by decide +kernel
set_option maxRecDepth 65536 in
theorem w_t9 : ((((((((words1.drop 24).drop 24).drop 24).drop 24).drop 24).drop 24).drop 24).drop 24).all (fun c => isCode c || c.before args0 about1) = true := by decide +kernel
theorem w_tables : (allAtoms (Jvm.Cond.code x code maxLocals ret :: tables_1)).before args0 about1 = true := by
  rw [allAtoms_all]
  show words1.all (fun c => c.before args0 about1) = true
  refine all_split ?_ w_codes
  rw [← List.take_append_drop 24 words1, List.all_append, w_t1, ← List.take_append_drop 24 (words1.drop 24), List.all_append, w_t2, ← List.take_append_drop 24 ((words1.drop 24).drop 24), List.all_append, w_t3, ← List.take_append_drop 24 (((words1.drop 24).drop 24).drop 24), List.all_append, w_t4, ← List.take_append_drop 24 ((((words1.drop 24).drop 24).drop 24).drop 24), List.all_append, w_t5, ← List.take_append_drop 24 (((((words1.drop 24).drop 24).drop 24).drop 24).drop 24), List.all_append, w_t6, ← List.take_append_drop 24 ((((((words1.drop 24).drop 24).drop 24).drop 24).drop 24).drop 24), List.all_append, w_t7, ← List.take_append_drop 24 (((((((words1.drop 24).drop 24).drop 24).drop 24).drop 24).drop 24).drop 24), List.all_append, w_t8, w_t9]
  rfl
set_option maxRecDepth 65536 in
theorem w_rest : rest_1_c.before args0 about1 = true := by decide +kernel
set_option maxRecDepth 65536 in
theorem w_case : (Jvm.Cond.and given_1 narrow_1).before args0 about1 = true := by decide +kernel
set_option maxRecDepth 65536 in
theorem w_consts : constsHeld consts_1 about1 := Jvm.Lit.constsHeldB_iff.mp (by decide +kernel)
theorem w_applies : (headSpec (Jvm.Cond.code x code maxLocals ret :: tables_1) room_1).applies x e0.platform about1 = true :=
  (Spec.applies_iff w_frames).mpr ⟨w_running, w_runnable, w_alone, w_named, w_hears, w_ripe, w_room, w_tables⟩
theorem atStart : AtStart classFile x code maxLocals ret World_1 tables_1 room_1 Calls_1 rest_1 Pre_1 launch0 p0 e0 about1 theMethod args0 below0 :=
  ⟨lists_1, trivial, launch0.admits_env _ _ _, launch0.least_env, fairChoices_fair.cas, fairChoices_fair.clock, w_frames, w_args, w_heap, w_applies, ⟨w_consts, trivial⟩, w_rest, w_case⟩
end start1
theorem witness_1 : WitnessClaimed_1 := ⟨start1.p0, start1.e0, start1.about1, start1.theMethod, start1.args0, start1.below0, start1.atStart⟩
end Jvm.Pilot.@@N@@
