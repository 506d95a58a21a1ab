import JvmDerived
import JvmDerived.Pilot.@@N@@Statement
import JvmDerived.Pilot.@@N@@Code
set_option linter.unusedVariables false
set_option linter.unusedSimpArgs false
set_option maxRecDepth 65536
set_option maxHeartbeats 4000000
namespace Jvm.Pilot.@@N@@
open Jvm Jvm.ClassFile Sem Op Lib Jvm.Free Jvm.Stand Jvm.LawKit Jvm.RoadKit Bundle Jvm.Pilot.@@N@@.Jvm.D
/-! own layer: the walk's goal as one word (Run), a callee's contract (Con), one lemma a step -/
abbrev ush32 (x y : Int32) : Int32 := (x.toUInt32 >>> (y &&& 31).toUInt32).toInt32
abbrev ush64 (x : Int64) (y : Int32) : Int64 := (x.toUInt64 >>> (y &&& 63).toInt64.toUInt64).toInt64
abbrev Cx : Type := Program × Launch × Env × State × MethodId × Array Value × List Frame × Method × ClassFile.Code
abbrev Cx.p (C : Cx) : Program := C.1
abbrev Cx.l (C : Cx) : Launch := C.2.1
abbrev Cx.e (C : Cx) : Env := C.2.2.1
abbrev Cx.s (C : Cx) : State := C.2.2.2.1
abbrev Cx.m (C : Cx) : MethodId := C.2.2.2.2.1
abbrev Cx.a (C : Cx) : Array Value := C.2.2.2.2.2.1
abbrev Cx.bl (C : Cx) : List Frame := C.2.2.2.2.2.2.1
abbrev Cx.mt (C : Cx) : Method := C.2.2.2.2.2.2.2.1
abbrev Cx.c (C : Cx) : ClassFile.Code := C.2.2.2.2.2.2.2.2
def EndK (w : Bool) (s : State) (o : Outcome) (t : State) (L : List Loc) (k n : Nat) : Prop := match w with
  | true => ReturnedEndW s o t L k n
  | false => FrameEnd s o t L k n
/-- what stands still during a body's walk -/
def Stn (C : Cx) (Z : State) (own : String) (by_ : ByteArray) (mL : Nat) (rt : Option FieldType) (nm : String) (q : Nat) : Prop :=
  C.p.tables.exec = Jvm.exec ∧ C.c.code = by_ ∧ C.c.maxLocals = mL ∧ C.mt.sig.returnType = rt ∧ C.mt.locks = false ∧ C.mt.name = nm ∧ C.s.heap.size = q ∧ Ext Z.heap C.s.heap ∧ C.s.vm.findClass own = some C.m.cls
/-- where the walk stands -/
def Pos (C : Cx) (Z : State) (R : Room) (w : Bool) (b : Nat) (Ts : List String) (Li : List (String × Nat × Addr)) (h : Heap) (k n : Nat) (T : State) (vm0 : Vm) (locs : List Loc) : Prop :=
  Stand C.p C.l C.e R (C.s.setVm vm0) C.m C.a C.bl C.mt C.c T locs k n ∧ Z.Warmed39 vm0 ∧ T.heap = h ∧ C.s.Since vm0 h.size ∧ IB Z vm0 Ts ∧ (w = false → vm0 = C.s.vm) ∧ Fr b locs ∧ Z.heap.size ≤ b ∧ Ext Z.heap h ∧ C.s.heap.size ≤ h.size ∧ ∀ x ∈ Li, Lit (C.s.setVm vm0) x.1 x.2.1 x.2.2
/-- what the walk must come to -/
def Gl (C : Cx) (Z : State) (R : Room) (w : Bool) (To : List String) (f : Nat) (Q : Option Value → Heap → Prop) (st : State) : Prop :=
  ∃ s₂ o, Steps C.p.tables C.e C.bl st s₂ ∧ s₂.status = .running ∧ Ended s₂ C.bl o ∧ ∃ v L, o = .returned v ∧ (Q v s₂.heap ∧ Fr f L ∧ Ext Z.heap s₂.heap ∧ IB Z s₂.vm To) ∧ EndK w C.s o s₂ L R.cells R.slots
def Run (C : Cx) (Z : State) (R : Room) (w : Bool) (To : List String) (f : Nat) (Q : Option Value → Heap → Prop) (b : Nat) (Ts : List String) (Li : List (String × Nat × Addr)) (h : Heap) (k n : Nat) (pc : Nat) (L : Array Slot) (S : List Value) : Prop :=
  ∀ T vm0 locs, Pos C Z R w b Ts Li h k n T vm0 locs → Gl C Z R w To f Q (T.setTop (mkF C.m pc L S))
/-- a callee's contract -/
def Con (w : Bool) (ws : List Jvm.Cond) (Z : State) (y : MethodName) (yb : ByteArray) (ymL : Nat) (yrt : Option FieldType) (Ry : Room) (Ti To : List String) (f : Nat) (as : Array Value) (h : Heap) (Q : Option Value → Heap → Prop) : Prop :=
  ∀ l, MetFree l y (head1 (Jvm.Cond.code y yb ymL yrt :: ws) Ry) (fun a U => a = as ∧ Z.Warmed39 U.vm ∧ U.heap = h ∧ IB Z U.vm Ti ∧ Ext Z.heap h) (fun _ _ _ _ _ => True)
    (fun _ U o U' => ∃ v L, o = .returned v ∧ (Q v U'.heap ∧ Fr f L ∧ Ext Z.heap U'.heap ∧ IB Z U'.vm To) ∧ EndK w U o U' L Ry.cells Ry.slots)
theorem ib_same {Z : State} {vm0 vm1 : Vm} {Ts : List String} (I : IB Z vm0 Ts) (h : vm1.interned = vm0.interned) : IB Z vm1 Ts := by
  obtain ⟨m, h1, h2⟩ := I; exact ⟨m, h.trans h1, h2⟩
theorem ib_mono {Z : State} {vm0 : Vm} {Ts To : List String} (I : IB Z vm0 Ts) (h : ∀ t ∈ Ts, t ∈ To) : IB Z vm0 To := by
  obtain ⟨m, h1, h2⟩ := I; exact ⟨m, h1, fun q hq => by obtain ⟨t, a, c⟩ := h2 q hq; exact ⟨t, h t a, c⟩⟩
theorem fr_low {k k' : Nat} {L : List Loc} (N : Fr k L) (h : k' ≤ k) : Fr k' L := fun y hy => Nat.le_trans h (N y hy)
theorem since_same {s : State} {vm : Vm} {n n' : Nat} (h : s.Since vm n) (hn : n ≤ n') : s.Since vm n' := ⟨h.1, fun j p hj hp => ⟨(h.2 j p hj hp).1, Nat.lt_of_lt_of_le (h.2 j p hj hp).2 hn⟩⟩
section Walk
variable {C : Cx} {Z : State} {a0 : Array Value} {own : String} {by_ : ByteArray} {mL : Nat} {rt : Option FieldType} {nm : String} {q : Nat} {R : Room} {w : Bool} {To : List String} {f : Nat} {Q : Option Value → Heap → Prop} {b : Nat} {Ts : List String} {Li : List (String × Nat × Addr)} {h : Heap} {k n pc : Nat} {L : Array Slot} {S : List Value}
theorem Run.one {pc' : Nat} {L' : Array Slot} {S' : List Value} (g : ∀ T vm0 locs t, Stand C.p C.l C.e R (C.s.setVm vm0) C.m C.a C.bl C.mt C.c T locs k n → Steps C.p.tables C.e C.bl (T.setTop (mkF C.m pc' L' S')) t → Steps C.p.tables C.e C.bl (T.setTop (mkF C.m pc L S)) t)
    (kk : Run C Z R w To f Q b Ts Li h k n pc' L' S') : Run C Z R w To f Q b Ts Li h k n pc L S := fun T vm0 locs P => by
  obtain ⟨s₂, o, h1, r⟩ := kk T vm0 locs P
  exact ⟨s₂, o, g T vm0 locs _ P.1 h1, r⟩
theorem Stn.dec (H : Stn C Z own by_ mL rt nm q) {pc : Nat} {r : Except ClassFile.DecodeError (Instr × Nat)} (hd : decode by_ pc = r) : decode C.c.code pc = r := by rw [H.2.1]; exact hd
theorem Stn.cl (H : Stn C Z own by_ mL rt nm q) {vm0 : Vm} (hS : C.s.Since vm0 k) : (C.s.setVm vm0).vm.findClass own = some C.m.cls := by
  show vm0.findClass own = _
  rw [hS.1.alike.findClass]; exact H.2.2.2.2.2.2.2.2
theorem Run.low {b' : Nat} (hb : b' ≤ b) (hz : Z.heap.size ≤ b') (kk : Run C Z R w To f Q b' Ts Li h k n pc L S) : Run C Z R w To f Q b Ts Li h k n pc L S := fun T vm0 locs P => by
  obtain ⟨P1, P2, P3, P4, P5, P6, P7, P8, P9⟩ := P
  exact kk T vm0 locs ⟨P1, P2, P3, P4, P5, P6, fr_low P7 hb, hz, P9⟩
/-- what may be read off the place itself -/
theorem Run.get (kk : Ext Z.heap h → Z.heap.size ≤ b → Run C Z R w To f Q b Ts Li h k n pc L S) : Run C Z R w To f Q b Ts Li h k n pc L S := fun T vm0 locs P => kk P.2.2.2.2.2.2.2.2.1 P.2.2.2.2.2.2.2.1 T vm0 locs P
theorem r_iloadN (H : Stn C Z own by_ mL rt nm q) (pc' : Nat) {i : Fin 4} {v : Int32} (hd : decode by_ pc = .ok (.iload_n i, 1)) (hv : L[i.val]? = some (.val (.int v))) (hp : pc' = pc + 1) (kk : Run C Z R w To f Q b Ts Li h k n pc' L (.int v :: S)) : Run C Z R w To f Q b Ts Li h k n pc L (S) := by
  subst hp
  exact kk.one fun T vm0 locs t X kt => XS.iloadN X.here H.1 rfl (H.dec hd) hv kt
theorem r_iload (H : Stn C Z own by_ mL rt nm q) (pc' : Nat) {i : Nat} {v : Int32} (hd : decode by_ pc = .ok (.iload i, 2)) (hv : L[i]? = some (.val (.int v))) (hp : pc' = pc + 2) (kk : Run C Z R w To f Q b Ts Li h k n pc' L (.int v :: S)) : Run C Z R w To f Q b Ts Li h k n pc L (S) := by
  subst hp
  exact kk.one fun T vm0 locs t X kt => XS.iload X.here H.1 rfl (H.dec hd) hv kt
theorem r_lloadN (H : Stn C Z own by_ mL rt nm q) (pc' : Nat) {i : Fin 4} {v : Int64} (hd : decode by_ pc = .ok (.lload_n i, 1)) (hv : L[i.val]? = some (.val (.long v))) (hp : pc' = pc + 1) (kk : Run C Z R w To f Q b Ts Li h k n pc' L (.long v :: S)) : Run C Z R w To f Q b Ts Li h k n pc L (S) := by
  subst hp
  exact kk.one fun T vm0 locs t X kt => XS.lloadN X.here H.1 rfl (H.dec hd) hv kt
theorem r_lload (H : Stn C Z own by_ mL rt nm q) (pc' : Nat) {i : Nat} {v : Int64} (hd : decode by_ pc = .ok (.lload i, 2)) (hv : L[i]? = some (.val (.long v))) (hp : pc' = pc + 2) (kk : Run C Z R w To f Q b Ts Li h k n pc' L (.long v :: S)) : Run C Z R w To f Q b Ts Li h k n pc L (S) := by
  subst hp
  exact kk.one fun T vm0 locs t X kt => XS.lload X.here H.1 rfl (H.dec hd) hv kt
theorem r_aloadN (H : Stn C Z own by_ mL rt nm q) (pc' : Nat) {i : Fin 4} {v : Value} (hd : decode by_ pc = .ok (.aload_n i, 1)) (hv : L[i.val]? = some (.val v)) (hr : v.isRef = true) (hp : pc' = pc + 1) (kk : Run C Z R w To f Q b Ts Li h k n pc' L (v :: S)) : Run C Z R w To f Q b Ts Li h k n pc L (S) := by
  subst hp
  exact kk.one fun T vm0 locs t X kt => XS.aloadN X.here H.1 rfl (H.dec hd) hv hr kt
theorem r_aload (H : Stn C Z own by_ mL rt nm q) (pc' : Nat) {i : Nat} {v : Value} (hd : decode by_ pc = .ok (.aload i, 2)) (hv : L[i]? = some (.val v)) (hr : v.isRef = true) (hp : pc' = pc + 2) (kk : Run C Z R w To f Q b Ts Li h k n pc' L (v :: S)) : Run C Z R w To f Q b Ts Li h k n pc L (S) := by
  subst hp
  exact kk.one fun T vm0 locs t X kt => XS.aload X.here H.1 rfl (H.dec hd) hv hr kt
theorem r_istoreN (H : Stn C Z own by_ mL rt nm q) (pc' : Nat) (L' : Array Slot) {i : Fin 4} {x : Int32} (hd : decode by_ pc = .ok (.istore_n i, 1)) (hl : storeLocals L i.val (.int x) = some L') (hp : pc' = pc + 1) (kk : Run C Z R w To f Q b Ts Li h k n pc' L' (S)) : Run C Z R w To f Q b Ts Li h k n pc L (.int x :: S) := by
  subst hp
  exact kk.one fun T vm0 locs t X kt => XS.istoreN X.here H.1 rfl (H.dec hd) rfl hl kt
theorem r_istore (H : Stn C Z own by_ mL rt nm q) (pc' : Nat) (L' : Array Slot) {i : Nat} {x : Int32} (hd : decode by_ pc = .ok (.istore i, 2)) (hl : storeLocals L i (.int x) = some L') (hp : pc' = pc + 2) (kk : Run C Z R w To f Q b Ts Li h k n pc' L' (S)) : Run C Z R w To f Q b Ts Li h k n pc L (.int x :: S) := by
  subst hp
  exact kk.one fun T vm0 locs t X kt => XS.istore X.here H.1 rfl (H.dec hd) rfl hl kt
theorem r_lstoreN (H : Stn C Z own by_ mL rt nm q) (pc' : Nat) (L' : Array Slot) {i : Fin 4} {x : Int64} (hd : decode by_ pc = .ok (.lstore_n i, 1)) (hl : storeLocals L i.val (.long x) = some L') (hp : pc' = pc + 1) (kk : Run C Z R w To f Q b Ts Li h k n pc' L' (S)) : Run C Z R w To f Q b Ts Li h k n pc L (.long x :: S) := by
  subst hp
  exact kk.one fun T vm0 locs t X kt => XS.lstoreN X.here H.1 rfl (H.dec hd) rfl hl kt
theorem r_lstore (H : Stn C Z own by_ mL rt nm q) (pc' : Nat) (L' : Array Slot) {i : Nat} {x : Int64} (hd : decode by_ pc = .ok (.lstore i, 2)) (hl : storeLocals L i (.long x) = some L') (hp : pc' = pc + 2) (kk : Run C Z R w To f Q b Ts Li h k n pc' L' (S)) : Run C Z R w To f Q b Ts Li h k n pc L (.long x :: S) := by
  subst hp
  exact kk.one fun T vm0 locs t X kt => XS.lstore X.here H.1 rfl (H.dec hd) rfl hl kt
theorem r_astoreN (H : Stn C Z own by_ mL rt nm q) (pc' : Nat) (L' : Array Slot) {i : Fin 4} {x : Value} (hd : decode by_ pc = .ok (.astore_n i, 1)) (hr : x.isRef = true) (hl : storeLocals L i.val x = some L') (hp : pc' = pc + 1) (kk : Run C Z R w To f Q b Ts Li h k n pc' L' (S)) : Run C Z R w To f Q b Ts Li h k n pc L (x :: S) := by
  subst hp
  exact kk.one fun T vm0 locs t X kt => XS.astoreN X.here H.1 rfl (H.dec hd) rfl hr hl kt
theorem r_astore (H : Stn C Z own by_ mL rt nm q) (pc' : Nat) (L' : Array Slot) {i : Nat} {x : Value} (hd : decode by_ pc = .ok (.astore i, 2)) (hr : x.isRef = true) (hl : storeLocals L i x = some L') (hp : pc' = pc + 2) (kk : Run C Z R w To f Q b Ts Li h k n pc' L' (S)) : Run C Z R w To f Q b Ts Li h k n pc L (x :: S) := by
  subst hp
  exact kk.one fun T vm0 locs t X kt => XS.astore X.here H.1 rfl (H.dec hd) rfl hr hl kt
theorem r_iinc (H : Stn C Z own by_ mL rt nm q) (pc' : Nat) (L' : Array Slot) {i : Nat} {cst : Int} {x : Int32} (y : Int32) (hd : decode by_ pc = .ok (.iinc i cst, 3)) (hv : L[i]? = some (.val (.int x))) (hy : x + Int32.ofInt cst = y) (hl : storeLocals L i (.int y) = some L') (hp : pc' = pc + 3) (kk : Run C Z R w To f Q b Ts Li h k n pc' L' (S)) : Run C Z R w To f Q b Ts Li h k n pc L (S) := by
  subst hp
  subst hy
  exact kk.one fun T vm0 locs t X kt => XS.iinc X.here H.1 rfl (H.dec hd) hv hl kt
theorem r_iconst (H : Stn C Z own by_ mL rt nm q) (pc' : Nat) (x : Int32) {i : Int} (hd : decode by_ pc = .ok (.iconst i, 1)) (hv : Int32.ofInt i = x) (hp : pc' = pc + 1) (kk : Run C Z R w To f Q b Ts Li h k n pc' L (.int x :: S)) : Run C Z R w To f Q b Ts Li h k n pc L (S) := by
  subst hp
  subst hv
  exact kk.one fun T vm0 locs t X kt => XS.iconst X.here H.1 rfl (H.dec hd)  kt
theorem r_bipush (H : Stn C Z own by_ mL rt nm q) (pc' : Nat) (x : Int32) {i : Int} (hd : decode by_ pc = .ok (.bipush i, 2)) (hv : (Int8.ofInt i).toInt32 = x) (hp : pc' = pc + 2) (kk : Run C Z R w To f Q b Ts Li h k n pc' L (.int x :: S)) : Run C Z R w To f Q b Ts Li h k n pc L (S) := by
  subst hp
  subst hv
  exact kk.one fun T vm0 locs t X kt => XS.bipush X.here H.1 rfl (H.dec hd)  kt
theorem r_sipush (H : Stn C Z own by_ mL rt nm q) (pc' : Nat) (x : Int32) {i : Int} (hd : decode by_ pc = .ok (.sipush i, 3)) (hv : (Int16.ofInt i).toInt32 = x) (hp : pc' = pc + 3) (kk : Run C Z R w To f Q b Ts Li h k n pc' L (.int x :: S)) : Run C Z R w To f Q b Ts Li h k n pc L (S) := by
  subst hp
  subst hv
  exact kk.one fun T vm0 locs t X kt => XS.sipush X.here H.1 rfl (H.dec hd)  kt
theorem r_lconst (H : Stn C Z own by_ mL rt nm q) (pc' : Nat) (x : Int64) {i : Fin 2} (hd : decode by_ pc = .ok (.lconst i, 1)) (hv : Int64.ofNat i = x) (hp : pc' = pc + 1) (kk : Run C Z R w To f Q b Ts Li h k n pc' L (.long x :: S)) : Run C Z R w To f Q b Ts Li h k n pc L (S) := by
  subst hp
  subst hv
  exact kk.one fun T vm0 locs t X kt => XS.lconst X.here H.1 rfl (H.dec hd)  kt
theorem r_null (H : Stn C Z own by_ mL rt nm q) (pc' : Nat)  (hd : decode by_ pc = .ok (.aconst_null, 1))  (hp : pc' = pc + 1) (kk : Run C Z R w To f Q b Ts Li h k n pc' L (.null :: S)) : Run C Z R w To f Q b Ts Li h k n pc L (S) := by
  subst hp
  exact kk.one fun T vm0 locs t X kt => XS.aconstNull X.here H.1 rfl (H.dec hd)  kt
theorem r_iadd (H : Stn C Z own by_ mL rt nm q) (pc' : Nat) (z : Int32) {x y : Int32} (hd : decode by_ pc = .ok (.iadd, 1)) (hz : (x + y) = z) (hp : pc' = pc + 1) (kk : Run C Z R w To f Q b Ts Li h k n pc' L (.int z :: S)) : Run C Z R w To f Q b Ts Li h k n pc L (.int y :: .int x :: S) := by
  subst hp
  subst hz
  exact kk.one fun T vm0 locs t X kt => XS.iadd X.here H.1 rfl (H.dec hd) rfl kt
theorem r_isub (H : Stn C Z own by_ mL rt nm q) (pc' : Nat) (z : Int32) {x y : Int32} (hd : decode by_ pc = .ok (.isub, 1)) (hz : (x - y) = z) (hp : pc' = pc + 1) (kk : Run C Z R w To f Q b Ts Li h k n pc' L (.int z :: S)) : Run C Z R w To f Q b Ts Li h k n pc L (.int y :: .int x :: S) := by
  subst hp
  subst hz
  exact kk.one fun T vm0 locs t X kt => XS.isub X.here H.1 rfl (H.dec hd) rfl kt
theorem r_imul (H : Stn C Z own by_ mL rt nm q) (pc' : Nat) (z : Int32) {x y : Int32} (hd : decode by_ pc = .ok (.imul, 1)) (hz : (x * y) = z) (hp : pc' = pc + 1) (kk : Run C Z R w To f Q b Ts Li h k n pc' L (.int z :: S)) : Run C Z R w To f Q b Ts Li h k n pc L (.int y :: .int x :: S) := by
  subst hp
  subst hz
  exact kk.one fun T vm0 locs t X kt => XS.imul X.here H.1 rfl (H.dec hd) rfl kt
theorem r_iand (H : Stn C Z own by_ mL rt nm q) (pc' : Nat) (z : Int32) {x y : Int32} (hd : decode by_ pc = .ok (.iand, 1)) (hz : (x &&& y) = z) (hp : pc' = pc + 1) (kk : Run C Z R w To f Q b Ts Li h k n pc' L (.int z :: S)) : Run C Z R w To f Q b Ts Li h k n pc L (.int y :: .int x :: S) := by
  subst hp
  subst hz
  exact kk.one fun T vm0 locs t X kt => XS.iand X.here H.1 rfl (H.dec hd) rfl kt
theorem r_ior (H : Stn C Z own by_ mL rt nm q) (pc' : Nat) (z : Int32) {x y : Int32} (hd : decode by_ pc = .ok (.ior, 1)) (hz : (x ||| y) = z) (hp : pc' = pc + 1) (kk : Run C Z R w To f Q b Ts Li h k n pc' L (.int z :: S)) : Run C Z R w To f Q b Ts Li h k n pc L (.int y :: .int x :: S) := by
  subst hp
  subst hz
  exact kk.one fun T vm0 locs t X kt => XS.ior X.here H.1 rfl (H.dec hd) rfl kt
theorem r_ixor (H : Stn C Z own by_ mL rt nm q) (pc' : Nat) (z : Int32) {x y : Int32} (hd : decode by_ pc = .ok (.ixor, 1)) (hz : (x ^^^ y) = z) (hp : pc' = pc + 1) (kk : Run C Z R w To f Q b Ts Li h k n pc' L (.int z :: S)) : Run C Z R w To f Q b Ts Li h k n pc L (.int y :: .int x :: S) := by
  subst hp
  subst hz
  exact kk.one fun T vm0 locs t X kt => XS.ixor X.here H.1 rfl (H.dec hd) rfl kt
theorem r_ishl (H : Stn C Z own by_ mL rt nm q) (pc' : Nat) (z : Int32) {x y : Int32} (hd : decode by_ pc = .ok (.ishl, 1)) (hz : (x <<< (y &&& 31)) = z) (hp : pc' = pc + 1) (kk : Run C Z R w To f Q b Ts Li h k n pc' L (.int z :: S)) : Run C Z R w To f Q b Ts Li h k n pc L (.int y :: .int x :: S) := by
  subst hp
  subst hz
  exact kk.one fun T vm0 locs t X kt => XS.ishl X.here H.1 rfl (H.dec hd) rfl kt
theorem r_ishr (H : Stn C Z own by_ mL rt nm q) (pc' : Nat) (z : Int32) {x y : Int32} (hd : decode by_ pc = .ok (.ishr, 1)) (hz : (x >>> (y &&& 31)) = z) (hp : pc' = pc + 1) (kk : Run C Z R w To f Q b Ts Li h k n pc' L (.int z :: S)) : Run C Z R w To f Q b Ts Li h k n pc L (.int y :: .int x :: S) := by
  subst hp
  subst hz
  exact kk.one fun T vm0 locs t X kt => XS.ishr X.here H.1 rfl (H.dec hd) rfl kt
theorem r_iushr (H : Stn C Z own by_ mL rt nm q) (pc' : Nat) (z : Int32) {x y : Int32} (hd : decode by_ pc = .ok (.iushr, 1)) (hz : (ush32 x y) = z) (hp : pc' = pc + 1) (kk : Run C Z R w To f Q b Ts Li h k n pc' L (.int z :: S)) : Run C Z R w To f Q b Ts Li h k n pc L (.int y :: .int x :: S) := by
  subst hp
  subst hz
  exact kk.one fun T vm0 locs t X kt => XS.iushr X.here H.1 rfl (H.dec hd) rfl kt
theorem r_ladd (H : Stn C Z own by_ mL rt nm q) (pc' : Nat) (z : Int64) {x y : Int64} (hd : decode by_ pc = .ok (.ladd, 1)) (hz : (x + y) = z) (hp : pc' = pc + 1) (kk : Run C Z R w To f Q b Ts Li h k n pc' L (.long z :: S)) : Run C Z R w To f Q b Ts Li h k n pc L (.long y :: .long x :: S) := by
  subst hp
  subst hz
  exact kk.one fun T vm0 locs t X kt => XS.ladd X.here H.1 rfl (H.dec hd) rfl kt
theorem r_lsub (H : Stn C Z own by_ mL rt nm q) (pc' : Nat) (z : Int64) {x y : Int64} (hd : decode by_ pc = .ok (.lsub, 1)) (hz : (x - y) = z) (hp : pc' = pc + 1) (kk : Run C Z R w To f Q b Ts Li h k n pc' L (.long z :: S)) : Run C Z R w To f Q b Ts Li h k n pc L (.long y :: .long x :: S) := by
  subst hp
  subst hz
  exact kk.one fun T vm0 locs t X kt => XS.lsub X.here H.1 rfl (H.dec hd) rfl kt
theorem r_lmul (H : Stn C Z own by_ mL rt nm q) (pc' : Nat) (z : Int64) {x y : Int64} (hd : decode by_ pc = .ok (.lmul, 1)) (hz : (x * y) = z) (hp : pc' = pc + 1) (kk : Run C Z R w To f Q b Ts Li h k n pc' L (.long z :: S)) : Run C Z R w To f Q b Ts Li h k n pc L (.long y :: .long x :: S) := by
  subst hp
  subst hz
  exact kk.one fun T vm0 locs t X kt => XS.lmul X.here H.1 rfl (H.dec hd) rfl kt
theorem r_land (H : Stn C Z own by_ mL rt nm q) (pc' : Nat) (z : Int64) {x y : Int64} (hd : decode by_ pc = .ok (.land, 1)) (hz : (x &&& y) = z) (hp : pc' = pc + 1) (kk : Run C Z R w To f Q b Ts Li h k n pc' L (.long z :: S)) : Run C Z R w To f Q b Ts Li h k n pc L (.long y :: .long x :: S) := by
  subst hp
  subst hz
  exact kk.one fun T vm0 locs t X kt => XS.land X.here H.1 rfl (H.dec hd) rfl kt
theorem r_lushr (H : Stn C Z own by_ mL rt nm q) (pc' : Nat) (z : Int64) {x : Int64} {y : Int32} (hd : decode by_ pc = .ok (.lushr, 1)) (hz : (ush64 x y) = z) (hp : pc' = pc + 1) (kk : Run C Z R w To f Q b Ts Li h k n pc' L (.long z :: S)) : Run C Z R w To f Q b Ts Li h k n pc L (.int y :: .long x :: S) := by
  subst hp
  subst hz
  exact kk.one fun T vm0 locs t X kt => XS.lushr X.here H.1 rfl (H.dec hd) rfl kt
theorem r_lshr (H : Stn C Z own by_ mL rt nm q) (pc' : Nat) (z : Int64) {x : Int64} {y : Int32} (hd : decode by_ pc = .ok (.lshr, 1)) (hz : (x >>> (y &&& 63).toInt64) = z) (hp : pc' = pc + 1) (kk : Run C Z R w To f Q b Ts Li h k n pc' L (.long z :: S)) : Run C Z R w To f Q b Ts Li h k n pc L (.int y :: .long x :: S) := by
  subst hp
  subst hz
  exact kk.one fun T vm0 locs t X kt => XS.lshr X.here H.1 rfl (H.dec hd) rfl kt
theorem r_lshl (H : Stn C Z own by_ mL rt nm q) (pc' : Nat) (z : Int64) {x : Int64} {y : Int32} (hd : decode by_ pc = .ok (.lshl, 1)) (hz : (x <<< (y &&& 63).toInt64) = z) (hp : pc' = pc + 1) (kk : Run C Z R w To f Q b Ts Li h k n pc' L (.long z :: S)) : Run C Z R w To f Q b Ts Li h k n pc L (.int y :: .long x :: S) := by
  subst hp
  subst hz
  exact kk.one fun T vm0 locs t X kt => XS.lshl X.here H.1 rfl (H.dec hd) rfl kt
theorem r_idiv (H : Stn C Z own by_ mL rt nm q) (pc' : Nat) (z : Int32) {x y : Int32} (hd : decode by_ pc = .ok (.idiv, 1)) (hy : y ≠ 0) (hz : (x / y) = z) (hp : pc' = pc + 1) (kk : Run C Z R w To f Q b Ts Li h k n pc' L (.int z :: S)) : Run C Z R w To f Q b Ts Li h k n pc L (.int y :: .int x :: S) := by
  subst hp
  subst hz
  exact kk.one fun T vm0 locs t X kt => XS.idiv X.here H.1 rfl (H.dec hd) rfl hy kt
theorem r_irem (H : Stn C Z own by_ mL rt nm q) (pc' : Nat) (z : Int32) {x y : Int32} (hd : decode by_ pc = .ok (.irem, 1)) (hy : y ≠ 0) (hz : x % y = z) (hp : pc' = pc + 1) (kk : Run C Z R w To f Q b Ts Li h k n pc' L (.int z :: S)) : Run C Z R w To f Q b Ts Li h k n pc L (.int y :: .int x :: S) := by
  subst hp hz
  exact kk.one fun T vm0 locs t X kt => iremM X H.1 rfl (H.dec hd) rfl hy kt
theorem r_ldiv (H : Stn C Z own by_ mL rt nm q) (pc' : Nat) (z : Int64) {x y : Int64} (hd : decode by_ pc = .ok (.ldiv, 1)) (hy : y ≠ 0) (hz : (x / y) = z) (hp : pc' = pc + 1) (kk : Run C Z R w To f Q b Ts Li h k n pc' L (.long z :: S)) : Run C Z R w To f Q b Ts Li h k n pc L (.long y :: .long x :: S) := by
  subst hp
  subst hz
  exact kk.one fun T vm0 locs t X kt => XS.ldiv X.here H.1 rfl (H.dec hd) rfl hy kt
theorem r_lrem (H : Stn C Z own by_ mL rt nm q) (pc' : Nat) (z : Int64) {x y : Int64} (hd : decode by_ pc = .ok (.lrem, 1)) (hy : y ≠ 0) (hz : (x - (x / y) * y) = z) (hp : pc' = pc + 1) (kk : Run C Z R w To f Q b Ts Li h k n pc' L (.long z :: S)) : Run C Z R w To f Q b Ts Li h k n pc L (.long y :: .long x :: S) := by
  subst hp
  subst hz
  exact kk.one fun T vm0 locs t X kt => XS.lrem X.here H.1 rfl (H.dec hd) rfl hy kt
theorem r_ineg (H : Stn C Z own by_ mL rt nm q) (pc' : Nat) (z : Int32) {x : Int32} (hd : decode by_ pc = .ok (.ineg, 1)) (hz : (-x) = z) (hp : pc' = pc + 1) (kk : Run C Z R w To f Q b Ts Li h k n pc' L (.int z :: S)) : Run C Z R w To f Q b Ts Li h k n pc L (.int x :: S) := by
  subst hp
  subst hz
  exact kk.one fun T vm0 locs t X kt => XS.ineg X.here H.1 rfl (H.dec hd) rfl kt
theorem r_lneg (H : Stn C Z own by_ mL rt nm q) (pc' : Nat) (z : Int64) {x : Int64} (hd : decode by_ pc = .ok (.lneg, 1)) (hz : (-x) = z) (hp : pc' = pc + 1) (kk : Run C Z R w To f Q b Ts Li h k n pc' L (.long z :: S)) : Run C Z R w To f Q b Ts Li h k n pc L (.long x :: S) := by
  subst hp
  subst hz
  exact kk.one fun T vm0 locs t X kt => XS.lneg X.here H.1 rfl (H.dec hd) rfl kt
theorem r_i2l (H : Stn C Z own by_ mL rt nm q) (pc' : Nat) (z : Int64) {x : Int32} (hd : decode by_ pc = .ok (.i2l, 1)) (hz : (x.toInt64) = z) (hp : pc' = pc + 1) (kk : Run C Z R w To f Q b Ts Li h k n pc' L (.long z :: S)) : Run C Z R w To f Q b Ts Li h k n pc L (.int x :: S) := by
  subst hp
  subst hz
  exact kk.one fun T vm0 locs t X kt => XS.i2l X.here H.1 rfl (H.dec hd) rfl kt
theorem r_l2i (H : Stn C Z own by_ mL rt nm q) (pc' : Nat) (z : Int32) {x : Int64} (hd : decode by_ pc = .ok (.l2i, 1)) (hz : (x.toInt32) = z) (hp : pc' = pc + 1) (kk : Run C Z R w To f Q b Ts Li h k n pc' L (.int z :: S)) : Run C Z R w To f Q b Ts Li h k n pc L (.long x :: S) := by
  subst hp
  subst hz
  exact kk.one fun T vm0 locs t X kt => XS.l2i X.here H.1 rfl (H.dec hd) rfl kt
theorem r_i2b (H : Stn C Z own by_ mL rt nm q) (pc' : Nat) (z : Int32) {x : Int32} (hd : decode by_ pc = .ok (.i2b, 1)) (hz : (x.toInt8.toInt32) = z) (hp : pc' = pc + 1) (kk : Run C Z R w To f Q b Ts Li h k n pc' L (.int z :: S)) : Run C Z R w To f Q b Ts Li h k n pc L (.int x :: S) := by
  subst hp
  subst hz
  exact kk.one fun T vm0 locs t X kt => XS.i2b X.here H.1 rfl (H.dec hd) rfl kt
theorem r_i2c (H : Stn C Z own by_ mL rt nm q) (pc' : Nat) (z : Int32) {x : Int32} (hd : decode by_ pc = .ok (.i2c, 1)) (hz : (x.toUInt32.toUInt16.toUInt32.toInt32) = z) (hp : pc' = pc + 1) (kk : Run C Z R w To f Q b Ts Li h k n pc' L (.int z :: S)) : Run C Z R w To f Q b Ts Li h k n pc L (.int x :: S) := by
  subst hp
  subst hz
  exact kk.one fun T vm0 locs t X kt => XS.i2c X.here H.1 rfl (H.dec hd) rfl kt
theorem r_i2s (H : Stn C Z own by_ mL rt nm q) (pc' : Nat) (z : Int32) {x : Int32} (hd : decode by_ pc = .ok (.i2s, 1)) (hz : (x.toInt16.toInt32) = z) (hp : pc' = pc + 1) (kk : Run C Z R w To f Q b Ts Li h k n pc' L (.int z :: S)) : Run C Z R w To f Q b Ts Li h k n pc L (.int x :: S) := by
  subst hp
  subst hz
  exact kk.one fun T vm0 locs t X kt => XS.i2s X.here H.1 rfl (H.dec hd) rfl kt
theorem r_lcmp (H : Stn C Z own by_ mL rt nm q) (pc' : Nat) (z : Int32) {x y : Int64} (hd : decode by_ pc = .ok (.lcmp, 1)) (hz : lcmpW x y = z) (hp : pc' = pc + 1) (kk : Run C Z R w To f Q b Ts Li h k n pc' L (.int z :: S)) : Run C Z R w To f Q b Ts Li h k n pc L (.long y :: .long x :: S) := by
  subst hp
  subst hz
  exact kk.one fun T vm0 locs t X kt => XS.lcmp X.here H.1 rfl (H.dec hd) rfl kt
theorem r_dup (H : Stn C Z own by_ mL rt nm q) (pc' : Nat) {x : Value} (hd : decode by_ pc = .ok (.dup, 1)) (hc : x.category = 1) (hp : pc' = pc + 1) (kk : Run C Z R w To f Q b Ts Li h k n pc' L (x :: x :: S)) : Run C Z R w To f Q b Ts Li h k n pc L (x :: S) := by
  subst hp
  exact kk.one fun T vm0 locs t X kt => XS.dup X.here H.1 rfl (H.dec hd) rfl hc kt
theorem r_pop (H : Stn C Z own by_ mL rt nm q) (pc' : Nat) {x : Value} (hd : decode by_ pc = .ok (.pop, 1)) (hc : x.category = 1) (hp : pc' = pc + 1) (kk : Run C Z R w To f Q b Ts Li h k n pc' L (S)) : Run C Z R w To f Q b Ts Li h k n pc L (x :: S) := by
  subst hp
  exact kk.one fun T vm0 locs t X kt => XS.pop X.here H.1 rfl (H.dec hd) rfl hc kt
theorem r_dupX1 (H : Stn C Z own by_ mL rt nm q) (pc' : Nat) {x y : Value} (hd : decode by_ pc = .ok (.dup_x1, 1)) (hc : x.category = 1) (hc' : y.category = 1) (hp : pc' = pc + 1) (kk : Run C Z R w To f Q b Ts Li h k n pc' L (x :: y :: x :: S)) : Run C Z R w To f Q b Ts Li h k n pc L (x :: y :: S) := by
  subst hp
  exact kk.one fun T vm0 locs t X kt => XS.dupX1 X.here H.1 rfl (H.dec hd) rfl hc hc' kt
theorem r_goto (H : Stn C Z own by_ mL rt nm q) (pc' : Nat) {o : Int} (hd : decode by_ pc = .ok (.goto o, 3)) (ho : 0 ≤ (pc : Int) + o) (hp : ((pc : Int) + o).toNat = pc') (kk : Run C Z R w To f Q b Ts Li h k n pc' L S) : Run C Z R w To f Q b Ts Li h k n pc L S := by
  exact kk.one fun T vm0 locs t X kt => XS.goto X.here H.1 rfl rfl (H.dec hd) ho hp kt
theorem r_icmpltT (H : Stn C Z own by_ mL rt nm q) (pc' : Nat) {x y : Int32} {o : Int} (hd : decode by_ pc = .ok (.if_icmp .lt o, 3)) (ho : 0 ≤ (pc : Int) + o) (hp : ((pc : Int) + o).toNat = pc') (c : x < y) (kk : Run C Z R w To f Q b Ts Li h k n pc' L S) : Run C Z R w To f Q b Ts Li h k n pc L (.int y :: .int x :: S) := by
  exact kk.one fun T vm0 locs t X kt => XS.icmpYes X.here H.1 rfl rfl (H.dec hd) rfl (tlt c).1 ho hp kt
theorem r_icmpltF (H : Stn C Z own by_ mL rt nm q) (pc' : Nat) {x y : Int32} {o : Int} (hd : decode by_ pc = .ok (.if_icmp .lt o, 3)) (hp : pc' = pc + 3) (c : ¬ x < y) (kk : Run C Z R w To f Q b Ts Li h k n pc' L S) : Run C Z R w To f Q b Ts Li h k n pc L (.int y :: .int x :: S) := by
  subst hp
  exact kk.one fun T vm0 locs t X kt => XS.icmpNo X.here H.1 rfl (H.dec hd) rfl (flt c).1 kt
theorem r_icmplt (H : Stn C Z own by_ mL rt nm q) (pt pf : Nat) {x y : Int32} {o : Int} (hd : decode by_ pc = .ok (.if_icmp .lt o, 3)) (ho : 0 ≤ (pc : Int) + o) (hp : ((pc : Int) + o).toNat = pt) (hf : pf = pc + 3) (kt : x < y → Run C Z R w To f Q b Ts Li h k n pt L S) (kf : ¬ x < y → Run C Z R w To f Q b Ts Li h k n pf L S) : Run C Z R w To f Q b Ts Li h k n pc L (.int y :: .int x :: S) := by
  by_cases c : x < y
  · exact r_icmpltT H pt hd ho hp c (kt c)
  · exact r_icmpltF H pf hd hf c (kf c)
theorem r_ifltT (H : Stn C Z own by_ mL rt nm q) (pc' : Nat) {x : Int32} {o : Int} (hd : decode by_ pc = .ok (.ifCond .lt o, 3)) (ho : 0 ≤ (pc : Int) + o) (hp : ((pc : Int) + o).toNat = pc') (c : x < 0) (kk : Run C Z R w To f Q b Ts Li h k n pc' L S) : Run C Z R w To f Q b Ts Li h k n pc L (.int x :: S) := by
  exact kk.one fun T vm0 locs t X kt => XS.ifYes X.here H.1 rfl rfl (H.dec hd) rfl ((if0 _ _).trans (tlt c).1) ho hp kt
theorem r_ifltF (H : Stn C Z own by_ mL rt nm q) (pc' : Nat) {x : Int32} {o : Int} (hd : decode by_ pc = .ok (.ifCond .lt o, 3)) (hp : pc' = pc + 3) (c : ¬ x < 0) (kk : Run C Z R w To f Q b Ts Li h k n pc' L S) : Run C Z R w To f Q b Ts Li h k n pc L (.int x :: S) := by
  subst hp
  exact kk.one fun T vm0 locs t X kt => XS.ifNo X.here H.1 rfl (H.dec hd) rfl ((if0 _ _).trans (flt c).1) kt
theorem r_iflt (H : Stn C Z own by_ mL rt nm q) (pt pf : Nat) {x : Int32} {o : Int} (hd : decode by_ pc = .ok (.ifCond .lt o, 3)) (ho : 0 ≤ (pc : Int) + o) (hp : ((pc : Int) + o).toNat = pt) (hf : pf = pc + 3) (kt : x < 0 → Run C Z R w To f Q b Ts Li h k n pt L S) (kf : ¬ x < 0 → Run C Z R w To f Q b Ts Li h k n pf L S) : Run C Z R w To f Q b Ts Li h k n pc L (.int x :: S) := by
  by_cases c : x < 0
  · exact r_ifltT H pt hd ho hp c (kt c)
  · exact r_ifltF H pf hd hf c (kf c)
theorem r_icmpgeT (H : Stn C Z own by_ mL rt nm q) (pc' : Nat) {x y : Int32} {o : Int} (hd : decode by_ pc = .ok (.if_icmp .ge o, 3)) (ho : 0 ≤ (pc : Int) + o) (hp : ((pc : Int) + o).toNat = pc') (c : ¬ x < y) (kk : Run C Z R w To f Q b Ts Li h k n pc' L S) : Run C Z R w To f Q b Ts Li h k n pc L (.int y :: .int x :: S) := by
  exact kk.one fun T vm0 locs t X kt => XS.icmpYes X.here H.1 rfl rfl (H.dec hd) rfl (flt c).2.1 ho hp kt
theorem r_icmpgeF (H : Stn C Z own by_ mL rt nm q) (pc' : Nat) {x y : Int32} {o : Int} (hd : decode by_ pc = .ok (.if_icmp .ge o, 3)) (hp : pc' = pc + 3) (c : x < y) (kk : Run C Z R w To f Q b Ts Li h k n pc' L S) : Run C Z R w To f Q b Ts Li h k n pc L (.int y :: .int x :: S) := by
  subst hp
  exact kk.one fun T vm0 locs t X kt => XS.icmpNo X.here H.1 rfl (H.dec hd) rfl (tlt c).2.1 kt
theorem r_icmpge (H : Stn C Z own by_ mL rt nm q) (pt pf : Nat) {x y : Int32} {o : Int} (hd : decode by_ pc = .ok (.if_icmp .ge o, 3)) (ho : 0 ≤ (pc : Int) + o) (hp : ((pc : Int) + o).toNat = pt) (hf : pf = pc + 3) (kt : ¬ x < y → Run C Z R w To f Q b Ts Li h k n pt L S) (kf : x < y → Run C Z R w To f Q b Ts Li h k n pf L S) : Run C Z R w To f Q b Ts Li h k n pc L (.int y :: .int x :: S) := by
  by_cases c : ¬ x < y
  · exact r_icmpgeT H pt hd ho hp c (kt c)
  · exact r_icmpgeF H pf hd hf (Decidable.not_not.mp c) (kf (Decidable.not_not.mp c))
theorem r_ifgeT (H : Stn C Z own by_ mL rt nm q) (pc' : Nat) {x : Int32} {o : Int} (hd : decode by_ pc = .ok (.ifCond .ge o, 3)) (ho : 0 ≤ (pc : Int) + o) (hp : ((pc : Int) + o).toNat = pc') (c : ¬ x < 0) (kk : Run C Z R w To f Q b Ts Li h k n pc' L S) : Run C Z R w To f Q b Ts Li h k n pc L (.int x :: S) := by
  exact kk.one fun T vm0 locs t X kt => XS.ifYes X.here H.1 rfl rfl (H.dec hd) rfl ((if0 _ _).trans (flt c).2.1) ho hp kt
theorem r_ifgeF (H : Stn C Z own by_ mL rt nm q) (pc' : Nat) {x : Int32} {o : Int} (hd : decode by_ pc = .ok (.ifCond .ge o, 3)) (hp : pc' = pc + 3) (c : x < 0) (kk : Run C Z R w To f Q b Ts Li h k n pc' L S) : Run C Z R w To f Q b Ts Li h k n pc L (.int x :: S) := by
  subst hp
  exact kk.one fun T vm0 locs t X kt => XS.ifNo X.here H.1 rfl (H.dec hd) rfl ((if0 _ _).trans (tlt c).2.1) kt
theorem r_ifge (H : Stn C Z own by_ mL rt nm q) (pt pf : Nat) {x : Int32} {o : Int} (hd : decode by_ pc = .ok (.ifCond .ge o, 3)) (ho : 0 ≤ (pc : Int) + o) (hp : ((pc : Int) + o).toNat = pt) (hf : pf = pc + 3) (kt : ¬ x < 0 → Run C Z R w To f Q b Ts Li h k n pt L S) (kf : x < 0 → Run C Z R w To f Q b Ts Li h k n pf L S) : Run C Z R w To f Q b Ts Li h k n pc L (.int x :: S) := by
  by_cases c : ¬ x < 0
  · exact r_ifgeT H pt hd ho hp c (kt c)
  · exact r_ifgeF H pf hd hf (Decidable.not_not.mp c) (kf (Decidable.not_not.mp c))
theorem r_icmpgtT (H : Stn C Z own by_ mL rt nm q) (pc' : Nat) {x y : Int32} {o : Int} (hd : decode by_ pc = .ok (.if_icmp .gt o, 3)) (ho : 0 ≤ (pc : Int) + o) (hp : ((pc : Int) + o).toNat = pc') (c : y < x) (kk : Run C Z R w To f Q b Ts Li h k n pc' L S) : Run C Z R w To f Q b Ts Li h k n pc L (.int y :: .int x :: S) := by
  exact kk.one fun T vm0 locs t X kt => XS.icmpYes X.here H.1 rfl rfl (H.dec hd) rfl (tlt c).2.2.1 ho hp kt
theorem r_icmpgtF (H : Stn C Z own by_ mL rt nm q) (pc' : Nat) {x y : Int32} {o : Int} (hd : decode by_ pc = .ok (.if_icmp .gt o, 3)) (hp : pc' = pc + 3) (c : ¬ y < x) (kk : Run C Z R w To f Q b Ts Li h k n pc' L S) : Run C Z R w To f Q b Ts Li h k n pc L (.int y :: .int x :: S) := by
  subst hp
  exact kk.one fun T vm0 locs t X kt => XS.icmpNo X.here H.1 rfl (H.dec hd) rfl (flt c).2.2.1 kt
theorem r_icmpgt (H : Stn C Z own by_ mL rt nm q) (pt pf : Nat) {x y : Int32} {o : Int} (hd : decode by_ pc = .ok (.if_icmp .gt o, 3)) (ho : 0 ≤ (pc : Int) + o) (hp : ((pc : Int) + o).toNat = pt) (hf : pf = pc + 3) (kt : y < x → Run C Z R w To f Q b Ts Li h k n pt L S) (kf : ¬ y < x → Run C Z R w To f Q b Ts Li h k n pf L S) : Run C Z R w To f Q b Ts Li h k n pc L (.int y :: .int x :: S) := by
  by_cases c : y < x
  · exact r_icmpgtT H pt hd ho hp c (kt c)
  · exact r_icmpgtF H pf hd hf c (kf c)
theorem r_ifgtT (H : Stn C Z own by_ mL rt nm q) (pc' : Nat) {x : Int32} {o : Int} (hd : decode by_ pc = .ok (.ifCond .gt o, 3)) (ho : 0 ≤ (pc : Int) + o) (hp : ((pc : Int) + o).toNat = pc') (c : 0 < x) (kk : Run C Z R w To f Q b Ts Li h k n pc' L S) : Run C Z R w To f Q b Ts Li h k n pc L (.int x :: S) := by
  exact kk.one fun T vm0 locs t X kt => XS.ifYes X.here H.1 rfl rfl (H.dec hd) rfl ((if0 _ _).trans (tlt c).2.2.1) ho hp kt
theorem r_ifgtF (H : Stn C Z own by_ mL rt nm q) (pc' : Nat) {x : Int32} {o : Int} (hd : decode by_ pc = .ok (.ifCond .gt o, 3)) (hp : pc' = pc + 3) (c : ¬ 0 < x) (kk : Run C Z R w To f Q b Ts Li h k n pc' L S) : Run C Z R w To f Q b Ts Li h k n pc L (.int x :: S) := by
  subst hp
  exact kk.one fun T vm0 locs t X kt => XS.ifNo X.here H.1 rfl (H.dec hd) rfl ((if0 _ _).trans (flt c).2.2.1) kt
theorem r_ifgt (H : Stn C Z own by_ mL rt nm q) (pt pf : Nat) {x : Int32} {o : Int} (hd : decode by_ pc = .ok (.ifCond .gt o, 3)) (ho : 0 ≤ (pc : Int) + o) (hp : ((pc : Int) + o).toNat = pt) (hf : pf = pc + 3) (kt : 0 < x → Run C Z R w To f Q b Ts Li h k n pt L S) (kf : ¬ 0 < x → Run C Z R w To f Q b Ts Li h k n pf L S) : Run C Z R w To f Q b Ts Li h k n pc L (.int x :: S) := by
  by_cases c : 0 < x
  · exact r_ifgtT H pt hd ho hp c (kt c)
  · exact r_ifgtF H pf hd hf c (kf c)
theorem r_icmpleT (H : Stn C Z own by_ mL rt nm q) (pc' : Nat) {x y : Int32} {o : Int} (hd : decode by_ pc = .ok (.if_icmp .le o, 3)) (ho : 0 ≤ (pc : Int) + o) (hp : ((pc : Int) + o).toNat = pc') (c : ¬ y < x) (kk : Run C Z R w To f Q b Ts Li h k n pc' L S) : Run C Z R w To f Q b Ts Li h k n pc L (.int y :: .int x :: S) := by
  exact kk.one fun T vm0 locs t X kt => XS.icmpYes X.here H.1 rfl rfl (H.dec hd) rfl (flt c).2.2.2 ho hp kt
theorem r_icmpleF (H : Stn C Z own by_ mL rt nm q) (pc' : Nat) {x y : Int32} {o : Int} (hd : decode by_ pc = .ok (.if_icmp .le o, 3)) (hp : pc' = pc + 3) (c : y < x) (kk : Run C Z R w To f Q b Ts Li h k n pc' L S) : Run C Z R w To f Q b Ts Li h k n pc L (.int y :: .int x :: S) := by
  subst hp
  exact kk.one fun T vm0 locs t X kt => XS.icmpNo X.here H.1 rfl (H.dec hd) rfl (tlt c).2.2.2 kt
theorem r_icmple (H : Stn C Z own by_ mL rt nm q) (pt pf : Nat) {x y : Int32} {o : Int} (hd : decode by_ pc = .ok (.if_icmp .le o, 3)) (ho : 0 ≤ (pc : Int) + o) (hp : ((pc : Int) + o).toNat = pt) (hf : pf = pc + 3) (kt : ¬ y < x → Run C Z R w To f Q b Ts Li h k n pt L S) (kf : y < x → Run C Z R w To f Q b Ts Li h k n pf L S) : Run C Z R w To f Q b Ts Li h k n pc L (.int y :: .int x :: S) := by
  by_cases c : ¬ y < x
  · exact r_icmpleT H pt hd ho hp c (kt c)
  · exact r_icmpleF H pf hd hf (Decidable.not_not.mp c) (kf (Decidable.not_not.mp c))
theorem r_ifleT (H : Stn C Z own by_ mL rt nm q) (pc' : Nat) {x : Int32} {o : Int} (hd : decode by_ pc = .ok (.ifCond .le o, 3)) (ho : 0 ≤ (pc : Int) + o) (hp : ((pc : Int) + o).toNat = pc') (c : ¬ 0 < x) (kk : Run C Z R w To f Q b Ts Li h k n pc' L S) : Run C Z R w To f Q b Ts Li h k n pc L (.int x :: S) := by
  exact kk.one fun T vm0 locs t X kt => XS.ifYes X.here H.1 rfl rfl (H.dec hd) rfl ((if0 _ _).trans (flt c).2.2.2) ho hp kt
theorem r_ifleF (H : Stn C Z own by_ mL rt nm q) (pc' : Nat) {x : Int32} {o : Int} (hd : decode by_ pc = .ok (.ifCond .le o, 3)) (hp : pc' = pc + 3) (c : 0 < x) (kk : Run C Z R w To f Q b Ts Li h k n pc' L S) : Run C Z R w To f Q b Ts Li h k n pc L (.int x :: S) := by
  subst hp
  exact kk.one fun T vm0 locs t X kt => XS.ifNo X.here H.1 rfl (H.dec hd) rfl ((if0 _ _).trans (tlt c).2.2.2) kt
theorem r_ifle (H : Stn C Z own by_ mL rt nm q) (pt pf : Nat) {x : Int32} {o : Int} (hd : decode by_ pc = .ok (.ifCond .le o, 3)) (ho : 0 ≤ (pc : Int) + o) (hp : ((pc : Int) + o).toNat = pt) (hf : pf = pc + 3) (kt : ¬ 0 < x → Run C Z R w To f Q b Ts Li h k n pt L S) (kf : 0 < x → Run C Z R w To f Q b Ts Li h k n pf L S) : Run C Z R w To f Q b Ts Li h k n pc L (.int x :: S) := by
  by_cases c : ¬ 0 < x
  · exact r_ifleT H pt hd ho hp c (kt c)
  · exact r_ifleF H pf hd hf (Decidable.not_not.mp c) (kf (Decidable.not_not.mp c))
theorem r_icmpeqT (H : Stn C Z own by_ mL rt nm q) (pc' : Nat) {x y : Int32} {o : Int} (hd : decode by_ pc = .ok (.if_icmp .eq o, 3)) (ho : 0 ≤ (pc : Int) + o) (hp : ((pc : Int) + o).toNat = pc') (c : x = y) (kk : Run C Z R w To f Q b Ts Li h k n pc' L S) : Run C Z R w To f Q b Ts Li h k n pc L (.int y :: .int x :: S) := by
  exact kk.one fun T vm0 locs t X kt => XS.icmpYes X.here H.1 rfl rfl (H.dec hd) rfl (teq c).1 ho hp kt
theorem r_icmpeqF (H : Stn C Z own by_ mL rt nm q) (pc' : Nat) {x y : Int32} {o : Int} (hd : decode by_ pc = .ok (.if_icmp .eq o, 3)) (hp : pc' = pc + 3) (c : ¬ x = y) (kk : Run C Z R w To f Q b Ts Li h k n pc' L S) : Run C Z R w To f Q b Ts Li h k n pc L (.int y :: .int x :: S) := by
  subst hp
  exact kk.one fun T vm0 locs t X kt => XS.icmpNo X.here H.1 rfl (H.dec hd) rfl (feq c).1 kt
theorem r_icmpeq (H : Stn C Z own by_ mL rt nm q) (pt pf : Nat) {x y : Int32} {o : Int} (hd : decode by_ pc = .ok (.if_icmp .eq o, 3)) (ho : 0 ≤ (pc : Int) + o) (hp : ((pc : Int) + o).toNat = pt) (hf : pf = pc + 3) (kt : x = y → Run C Z R w To f Q b Ts Li h k n pt L S) (kf : ¬ x = y → Run C Z R w To f Q b Ts Li h k n pf L S) : Run C Z R w To f Q b Ts Li h k n pc L (.int y :: .int x :: S) := by
  by_cases c : x = y
  · exact r_icmpeqT H pt hd ho hp c (kt c)
  · exact r_icmpeqF H pf hd hf c (kf c)
theorem r_ifeqT (H : Stn C Z own by_ mL rt nm q) (pc' : Nat) {x : Int32} {o : Int} (hd : decode by_ pc = .ok (.ifCond .eq o, 3)) (ho : 0 ≤ (pc : Int) + o) (hp : ((pc : Int) + o).toNat = pc') (c : x = 0) (kk : Run C Z R w To f Q b Ts Li h k n pc' L S) : Run C Z R w To f Q b Ts Li h k n pc L (.int x :: S) := by
  exact kk.one fun T vm0 locs t X kt => XS.ifYes X.here H.1 rfl rfl (H.dec hd) rfl ((if0 _ _).trans (teq c).1) ho hp kt
theorem r_ifeqF (H : Stn C Z own by_ mL rt nm q) (pc' : Nat) {x : Int32} {o : Int} (hd : decode by_ pc = .ok (.ifCond .eq o, 3)) (hp : pc' = pc + 3) (c : ¬ x = 0) (kk : Run C Z R w To f Q b Ts Li h k n pc' L S) : Run C Z R w To f Q b Ts Li h k n pc L (.int x :: S) := by
  subst hp
  exact kk.one fun T vm0 locs t X kt => XS.ifNo X.here H.1 rfl (H.dec hd) rfl ((if0 _ _).trans (feq c).1) kt
theorem r_ifeq (H : Stn C Z own by_ mL rt nm q) (pt pf : Nat) {x : Int32} {o : Int} (hd : decode by_ pc = .ok (.ifCond .eq o, 3)) (ho : 0 ≤ (pc : Int) + o) (hp : ((pc : Int) + o).toNat = pt) (hf : pf = pc + 3) (kt : x = 0 → Run C Z R w To f Q b Ts Li h k n pt L S) (kf : ¬ x = 0 → Run C Z R w To f Q b Ts Li h k n pf L S) : Run C Z R w To f Q b Ts Li h k n pc L (.int x :: S) := by
  by_cases c : x = 0
  · exact r_ifeqT H pt hd ho hp c (kt c)
  · exact r_ifeqF H pf hd hf c (kf c)
theorem r_icmpneT (H : Stn C Z own by_ mL rt nm q) (pc' : Nat) {x y : Int32} {o : Int} (hd : decode by_ pc = .ok (.if_icmp .ne o, 3)) (ho : 0 ≤ (pc : Int) + o) (hp : ((pc : Int) + o).toNat = pc') (c : ¬ x = y) (kk : Run C Z R w To f Q b Ts Li h k n pc' L S) : Run C Z R w To f Q b Ts Li h k n pc L (.int y :: .int x :: S) := by
  exact kk.one fun T vm0 locs t X kt => XS.icmpYes X.here H.1 rfl rfl (H.dec hd) rfl (feq c).2 ho hp kt
theorem r_icmpneF (H : Stn C Z own by_ mL rt nm q) (pc' : Nat) {x y : Int32} {o : Int} (hd : decode by_ pc = .ok (.if_icmp .ne o, 3)) (hp : pc' = pc + 3) (c : x = y) (kk : Run C Z R w To f Q b Ts Li h k n pc' L S) : Run C Z R w To f Q b Ts Li h k n pc L (.int y :: .int x :: S) := by
  subst hp
  exact kk.one fun T vm0 locs t X kt => XS.icmpNo X.here H.1 rfl (H.dec hd) rfl (teq c).2 kt
theorem r_icmpne (H : Stn C Z own by_ mL rt nm q) (pt pf : Nat) {x y : Int32} {o : Int} (hd : decode by_ pc = .ok (.if_icmp .ne o, 3)) (ho : 0 ≤ (pc : Int) + o) (hp : ((pc : Int) + o).toNat = pt) (hf : pf = pc + 3) (kt : ¬ x = y → Run C Z R w To f Q b Ts Li h k n pt L S) (kf : x = y → Run C Z R w To f Q b Ts Li h k n pf L S) : Run C Z R w To f Q b Ts Li h k n pc L (.int y :: .int x :: S) := by
  by_cases c : ¬ x = y
  · exact r_icmpneT H pt hd ho hp c (kt c)
  · exact r_icmpneF H pf hd hf (Decidable.not_not.mp c) (kf (Decidable.not_not.mp c))
theorem r_ifneT (H : Stn C Z own by_ mL rt nm q) (pc' : Nat) {x : Int32} {o : Int} (hd : decode by_ pc = .ok (.ifCond .ne o, 3)) (ho : 0 ≤ (pc : Int) + o) (hp : ((pc : Int) + o).toNat = pc') (c : ¬ x = 0) (kk : Run C Z R w To f Q b Ts Li h k n pc' L S) : Run C Z R w To f Q b Ts Li h k n pc L (.int x :: S) := by
  exact kk.one fun T vm0 locs t X kt => XS.ifYes X.here H.1 rfl rfl (H.dec hd) rfl ((if0 _ _).trans (feq c).2) ho hp kt
theorem r_ifneF (H : Stn C Z own by_ mL rt nm q) (pc' : Nat) {x : Int32} {o : Int} (hd : decode by_ pc = .ok (.ifCond .ne o, 3)) (hp : pc' = pc + 3) (c : x = 0) (kk : Run C Z R w To f Q b Ts Li h k n pc' L S) : Run C Z R w To f Q b Ts Li h k n pc L (.int x :: S) := by
  subst hp
  exact kk.one fun T vm0 locs t X kt => XS.ifNo X.here H.1 rfl (H.dec hd) rfl ((if0 _ _).trans (teq c).2) kt
theorem r_ifne (H : Stn C Z own by_ mL rt nm q) (pt pf : Nat) {x : Int32} {o : Int} (hd : decode by_ pc = .ok (.ifCond .ne o, 3)) (ho : 0 ≤ (pc : Int) + o) (hp : ((pc : Int) + o).toNat = pt) (hf : pf = pc + 3) (kt : ¬ x = 0 → Run C Z R w To f Q b Ts Li h k n pt L S) (kf : x = 0 → Run C Z R w To f Q b Ts Li h k n pf L S) : Run C Z R w To f Q b Ts Li h k n pc L (.int x :: S) := by
  by_cases c : ¬ x = 0
  · exact r_ifneT H pt hd ho hp c (kt c)
  · exact r_ifneF H pf hd hf (Decidable.not_not.mp c) (kf (Decidable.not_not.mp c))
theorem r_ifnullT (H : Stn C Z own by_ mL rt nm q) (pc' : Nat) {o : Int} (hd : decode by_ pc = .ok (.ifnull o, 3)) (ho : 0 ≤ (pc : Int) + o) (hp : ((pc : Int) + o).toNat = pc') (kk : Run C Z R w To f Q b Ts Li h k n pc' L S) : Run C Z R w To f Q b Ts Li h k n pc L (.null :: S) := by
  exact kk.one fun T vm0 locs t X kt => XS.ifnullYes X.here H.1 rfl rfl (H.dec hd) rfl ho hp kt
theorem r_ifnullF (H : Stn C Z own by_ mL rt nm q) (pc' : Nat) {o : Int} {a : Addr} (hd : decode by_ pc = .ok (.ifnull o, 3)) (hp : pc' = pc + 3) (kk : Run C Z R w To f Q b Ts Li h k n pc' L S) : Run C Z R w To f Q b Ts Li h k n pc L (.ref a :: S) := by
  subst hp
  exact kk.one fun T vm0 locs t X kt => XS.ifnullNo X.here H.1 rfl (H.dec hd) rfl kt
theorem r_ifnonnullT (H : Stn C Z own by_ mL rt nm q) (pc' : Nat) {o : Int} {a : Addr} (hd : decode by_ pc = .ok (.ifnonnull o, 3)) (ho : 0 ≤ (pc : Int) + o) (hp : ((pc : Int) + o).toNat = pc') (kk : Run C Z R w To f Q b Ts Li h k n pc' L S) : Run C Z R w To f Q b Ts Li h k n pc L (.ref a :: S) := by
  exact kk.one fun T vm0 locs t X kt => XS.ifnonnullYes X.here H.1 rfl rfl (H.dec hd) rfl ho hp kt
theorem r_ifnonnullF (H : Stn C Z own by_ mL rt nm q) (pc' : Nat) {o : Int} (hd : decode by_ pc = .ok (.ifnonnull o, 3)) (hp : pc' = pc + 3) (kk : Run C Z R w To f Q b Ts Li h k n pc' L S) : Run C Z R w To f Q b Ts Li h k n pc L (.null :: S) := by
  subst hp
  exact kk.one fun T vm0 locs t X kt => XS.ifnonnullNo X.here H.1 rfl (H.dec hd) rfl kt
theorem r_acmp (H : Stn C Z own by_ mL rt nm q) (pc' : Nat) {cd : ClassFile.ACond} {x y : Value} {o : Int} (same : Bool) (hd : decode by_ pc = .ok (.if_acmp cd o, 3)) (h1 : x.isRef = true) (h2 : y.isRef = true) (hq : decide (x = y) = same) (ho : 0 ≤ (pc : Int) + o) (hp : pc' = if acV cd same = true then ((pc : Int) + o).toNat else pc + 3) (kk : Run C Z R w To f Q b Ts Li h k n pc' L S) : Run C Z R w To f Q b Ts Li h k n pc L (y :: x :: S) := by
  exact kk.one fun T vm0 locs t X kt => Jvm.RoadKit.acmp X H.1 rfl h1 h2 rfl (H.dec hd) rfl hq ho hp kt
/-! returns -/
theorem Pos.done {T : State} {vm0 : Vm} {locs : List Loc} (H : Stn C Z own by_ mL rt nm q) (P : Pos C Z R w b Ts Li h k n T vm0 locs) {v : Option Value} (hv : rt = none → v = none) (hk : k ≤ R.cells) (hn : n ≤ R.slots) (hf : f ≤ b) (hT : ∀ t ∈ Ts, t ∈ To) (hQ : Q v h) {g : JFrame}
    (st : ∀ fs, (∀ (f : JFrame) (acts : List Action), f.method = C.m → f.locked = none → f.entered = [] → (doReturn C.e (T.setTop f) acts v).1 = T.setFrames fs) → Steps C.p.tables C.e C.bl (T.setTop g) (T.setFrames fs)) : Gl C Z R w To f Q (T.setTop g) := by
  obtain ⟨X, hZ, eT, hS, hI, hw, N, hz, hE, hq, hL⟩ := P
  have hlk : C.mt.locks = false := H.2.2.2.2.1
  have hv' : C.mt.sig.returnType = none → v = none := fun e => hv (by rw [← H.2.2.2.1]; exact e)
  have hin : T.vm.interned = vm0.interned := X.warmed.interned_eq
  cases w with
  | false =>
    have e0 := hw rfl
    subst e0
    obtain ⟨fs, hr, hrun, hended, hW, hsame⟩ := Stand.leave (s := C.s) X (v := v) hv' hlk
    exact ⟨_, _, st fs hr, hrun, hended, v, locs, rfl, ⟨by show Q v T.heap; rw [eT]; exact hQ, fr_low N hf, by show Ext Z.heap T.heap; rw [eT]; exact hE, ib_mono (ib_same hI hin) hT⟩, ⟨v, rfl⟩, hW, hsame.mono hk hn⟩
  | true =>
    obtain ⟨fs, hr, hrun, hended, h1, h2, h3, hsame⟩ := Stand.leaveW X (v := v) hS (Nat.le_of_eq (by rw [eT])) hv' hlk
    exact ⟨_, _, st fs hr, hrun, hended, v, locs, rfl, ⟨by show Q v T.heap; rw [eT]; exact hQ, fr_low N hf, by show Ext Z.heap T.heap; rw [eT]; exact hE, ib_mono (ib_same hI hin) hT⟩, h1, h2, h3, hsame.mono hk hn⟩
theorem r_return (H : Stn C Z own by_ mL none nm q) (hd : decode by_ pc = .ok (.return_, 1)) (hk : k ≤ R.cells) (hn : n ≤ R.slots) (hf : f ≤ b) (hT : ∀ t ∈ Ts, t ∈ To) (hQ : Q none h) : Run C Z R w To f Q b Ts Li h k n pc L [] := fun T vm0 locs P =>
  P.done H (v := none) (fun _ => rfl) hk hn hf hT hQ fun fs hr => P.1.returnOut H.1 H.2.2.2.1 (H.dec hd) hr
theorem retI' {p : Program} {l : Launch} {e : Env} {R : Room} {s : State} {m : MethodId} {args : Array Value} {below : List Frame} {meth : Method} {c : ClassFile.Code} {T : State} {locs : List Loc} {cells slots : Nat} (X : Stand p l e R s m args below meth c T locs cells slots) (hx : p.tables.exec = Jvm.exec) {pc : Nat} {Ls : Array Slot} {z : Int32} {rest : List Value} (hret : meth.sig.returnType = some .int) (hd : decode c.code pc = .ok (.ireturn, 1)) {fs : List Frame}
    (hl : ∀ (f : JFrame) (acts : List Action), f.method = m → f.locked = none → f.entered = [] → (doReturn e (T.setTop f) acts (some (.int z))).1 = T.setFrames fs) : Steps p.tables e below (T.setTop (mkF m pc Ls (.int z :: rest))) (T.setFrames fs) := retOut X hx hret rfl (Or.inl ⟨rfl, Or.inl rfl, z, rfl⟩) hd hl
theorem r_ireturn {z : Int32} (H : Stn C Z own by_ mL (some .int) nm q) (hd : decode by_ pc = .ok (.ireturn, 1)) (hk : k ≤ R.cells) (hn : n ≤ R.slots) (hf : f ≤ b) (hT : ∀ t ∈ Ts, t ∈ To) (hQ : Q (some (.int z)) h) : Run C Z R w To f Q b Ts Li h k n pc L (.int z :: S) := fun T vm0 locs P =>
  P.done H (v := some (.int z)) (fun e => by cases e) hk hn hf hT hQ fun fs hr => retI' P.1 H.1 H.2.2.2.1 (H.dec hd) hr
theorem r_nreturn {z : Int32} (z' : Int32) {t : FieldType} (H : Stn C Z own by_ mL (some t) nm q) (ht : t = .boolean ∨ t = .byte ∨ t = .char ∨ t = .short) (hd : decode by_ pc = .ok (.ireturn, 1)) (hz : nar t z = z') (hk : k ≤ R.cells) (hn : n ≤ R.slots) (hf : f ≤ b) (hT : ∀ t ∈ Ts, t ∈ To) (hQ : Q (some (.int z')) h) : Run C Z R w To f Q b Ts Li h k n pc L (.int z :: S) := fun T vm0 locs P => by
  subst hz
  exact P.done H (v := some (.int (nar t z))) (fun e => by cases e) hk hn hf hT hQ fun fs hr => retN P.1 H.1 H.2.2.2.1 ht (H.dec hd) hr
theorem r_areturn {v : Value} {t : FieldType} (H : Stn C Z own by_ mL (some t) nm q) (ht : t.isReference = true) (hv : v.isRef = true) (hd : decode by_ pc = .ok (.areturn, 1)) (hk : k ≤ R.cells) (hn : n ≤ R.slots) (hf : f ≤ b) (hT : ∀ t ∈ Ts, t ∈ To) (hQ : Q (some v) h) : Run C Z R w To f Q b Ts Li h k n pc L (v :: S) := fun T vm0 locs P =>
  P.done H (v := some v) (fun e => by cases e) hk hn hf hT hQ fun fs hr => retOut P.1 H.1 H.2.2.2.1 (by rcases ref_cases hv with rfl | ⟨a, rfl⟩ <;> cases t <;> first | rfl | simp [FieldType.isReference] at ht) (Or.inr (Or.inr (Or.inr (Or.inr ⟨rfl, ht, hv⟩)))) (H.dec hd) hr
theorem r_lreturn {z : Int64} (H : Stn C Z own by_ mL (some .long) nm q) (hd : decode by_ pc = .ok (.lreturn, 1)) (hk : k ≤ R.cells) (hn : n ≤ R.slots) (hf : f ≤ b) (hT : ∀ t ∈ Ts, t ∈ To) (hQ : Q (some (.long z)) h) : Run C Z R w To f Q b Ts Li h k n pc L (.long z :: S) := fun T vm0 locs P =>
  P.done H (v := some (.long z)) (fun e => by cases e) hk hn hf hT hQ fun fs hr => retOut P.1 H.1 H.2.2.2.1 rfl (Or.inr (Or.inl ⟨rfl, rfl, z, rfl⟩)) (H.dec hd) hr
/-! steps that read or turn the heap -/
/-- a step by a law that hands back a state with the heap as it was -/
theorem Run.hold {pc' : Nat} {L' : Array Slot} {S' : List Value} (g : ∀ T vm0 locs, Pos C Z R w b Ts Li h k n T vm0 locs → ∃ T', Stand C.p C.l C.e R (C.s.setVm vm0) C.m C.a C.bl C.mt C.c T' locs k n ∧ T'.heap = h ∧ ∀ t, Steps C.p.tables C.e C.bl (T'.setTop (mkF C.m pc' L' S')) t → Steps C.p.tables C.e C.bl (T.setTop (mkF C.m pc L S)) t)
    (kk : Run C Z R w To f Q b Ts Li h k n pc' L' S') : Run C Z R w To f Q b Ts Li h k n pc L S := fun T vm0 locs P => by
  obtain ⟨T', X', e', st⟩ := g T vm0 locs P
  obtain ⟨X, hZ, eT, r⟩ := P
  obtain ⟨s₂, o, h1, r'⟩ := kk T' vm0 locs ⟨X', hZ, e', r⟩
  exact ⟨s₂, o, st _ h1, r'⟩
theorem Pos.cl {T : State} {vm0 : Vm} {locs : List Loc} (P : Pos C Z R w b Ts Li h k n T vm0 locs) (H : Stn C Z own by_ mL rt nm q) : (C.s.setVm vm0).vm.findClass own = some C.m.cls := H.cl P.2.2.2.1
theorem r_getf (H : Stn C Z own by_ mL rt nm q) (pc' : Nat) {idx : Nat} {R0 O fn d : String} {a : Addr} {v : Value} (hd : decode by_ pc = .ok (.getfield idx, 3)) (w1 : (Cond.fieldLink own idx R0 fn d).before a0 Z = true) (via : Via Z R0 O fn d) (F : Fld Z h a O fn d v) (hp : pc' = pc + 3)
    (kk : Run C Z R w To f Q b Ts Li h k n pc' L (v :: S)) : Run C Z R w To f Q b Ts Li h k n pc L (.ref a :: S) := by
  subst hp
  exact kk.hold fun T vm0 locs P => getF (host := "") P.1 H.1 P.2.1 (P.cl H) (Or.inl w1) via P.2.2.1 F (g := mkF C.m pc L (.ref a :: S)) rfl rfl (H.dec hd)
theorem r_gets (H : Stn C Z own by_ mL rt nm q) (pc' : Nat) {idx : Nat} {R0 O fn d : String} {v : Value} (hd : decode by_ pc = .ok (.getstatic idx, 3)) (w1 : (Cond.fieldLink own idx R0 fn d).before a0 Z = true) (via : Via Z R0 O fn d) (F : Sta Z Z.heap O fn d v) (hp : pc' = pc + 3)
    (kk : Run C Z R w To f Q b Ts Li h k n pc' L (v :: S)) : Run C Z R w To f Q b Ts Li h k n pc L S := by
  subst hp
  exact kk.hold fun T vm0 locs P => getS2 (host := "") P.1 H.1 P.2.1 (P.cl H) (Or.inl w1) via P.2.2.1 (F.ext P.2.2.2.2.2.2.2.2.1) (g := mkF C.m pc L S) rfl (H.dec hd)
theorem r_initO (H : Stn C Z own by_ mL rt nm q) (pc' : Nat) {idx : Nat} {a : Addr} (hd : decode by_ pc = .ok (.invokespecial idx, 3)) (w1 : (Cond.methodLink own idx Lib.objectInit).before a0 Z = true) (w2 : (Cond.instanceMethod Lib.objectInit).before a0 Z = true) (w3 : (Cond.code Lib.objectInit ⟨#[0xb1]⟩ 1 none).before a0 Z = true) (hL : L.size = mL) (hf : 1 ≤ R.frames) {W : Nat} (hW : (S.map fun v => v.category).sum ≤ W) (hl : W + 12 ≤ R.locals) (hp : pc' = pc + 3)
    (kk : Run C Z R w To f Q b Ts Li h k n pc' L S) : Run C Z R w To f Q b Ts Li h k n pc L (.ref a :: S) := by
  subst hp
  exact kk.hold fun T vm0 locs P => initO P.1 H.1 P.2.1 (P.cl H) w1 w2 w3 P.2.2.1 (g := mkF C.m pc L (.ref a :: S)) rfl (by rw [H.2.2.1]; exact hL) rfl (H.dec hd) hf (W := W) (by show 2 * 0 + _ ≤ _; omega) hl
theorem r_castY (H : Stn C Z own by_ mL rt nm q) (pc' : Nat) {idx : Nat} {K : String} {a : Addr} (hd : decode by_ pc = .ok (.checkcast idx, 3)) (w1 : (Cond.classLink own idx K).before a0 Z = true) (F : Ins Z h a K true) (hp : pc' = pc + 3)
    (kk : Run C Z R w To f Q b Ts Li h k n pc' L (.ref a :: S)) : Run C Z R w To f Q b Ts Li h k n pc L (.ref a :: S) := by
  subst hp
  exact kk.hold fun T vm0 locs P => castY P.1 H.1 P.2.1 (P.cl H) w1 P.2.2.1 F (g := mkF C.m pc L (.ref a :: S)) rfl rfl (H.dec hd)
theorem r_instY (H : Stn C Z own by_ mL rt nm q) (pc' : Nat) {idx : Nat} {K : String} {a : Addr} (hd : decode by_ pc = .ok (.instanceof idx, 3)) (w1 : (Cond.classLink own idx K).before a0 Z = true) (F : Ins Z h a K true) (hp : pc' = pc + 3)
    (kk : Run C Z R w To f Q b Ts Li h k n pc' L (.int 1 :: S)) : Run C Z R w To f Q b Ts Li h k n pc L (.ref a :: S) := by
  subst hp
  exact kk.hold fun T vm0 locs P => instY P.1 H.1 P.2.1 (P.cl H) w1 P.2.2.1 F (g := mkF C.m pc L (.ref a :: S)) rfl rfl (H.dec hd)
theorem r_ldcI (H : Stn C Z own by_ mL rt nm q) (pc' : Nat) {idx : Nat} {v : Int32} (hd : decode by_ pc = .ok (.ldc idx, 2)) (w1 : (Cond.constant own idx v).before a0 Z = true) (hp : pc' = pc + 2)
    (kk : Run C Z R w To f Q b Ts Li h k n pc' L (.int v :: S)) : Run C Z R w To f Q b Ts Li h k n pc L S := by
  subst hp
  exact kk.hold fun T vm0 locs P => ⟨T, P.1, P.2.2.1, P.1.ldcInt H.1 (P.cl H) (mvT (s := C.s.setVm vm0) P.2.1 w1) (g := mkF C.m pc L S) rfl (H.dec hd)⟩
theorem r_ldcJ (H : Stn C Z own by_ mL rt nm q) (pc' : Nat) {idx : Nat} {v : Int64} (hd : decode by_ pc = .ok (.ldc2_w idx, 3)) (w1 : (Cond.constantLong own idx v).before a0 Z = true) (hp : pc' = pc + 3)
    (kk : Run C Z R w To f Q b Ts Li h k n pc' L (.long v :: S)) : Run C Z R w To f Q b Ts Li h k n pc L S := by
  subst hp
  exact kk.hold fun T vm0 locs P => ⟨T, P.1, P.2.2.1, P.1.ldc2Long H.1 (P.cl H) (mvT (s := C.s.setVm vm0) P.2.1 w1) (g := mkF C.m pc L S) rfl (H.dec hd)⟩
/-! arrays: the whole list of components -/
def Ar (Z : State) (h : Heap) (a : Addr) (kc : ClassId) (ty : FieldType) (vs : List Value) : Prop := ∃ c : Cell, Arr Z h a c ty ∧ c.cls = kc ∧ c.slots = vs.toArray ∧ vs.length < 2 ^ 31 ∧ ∀ v ∈ vs, fits ty v = true
theorem Ar.lt {a : Addr} {kc : ClassId} {ty : FieldType} {vs : List Value} (F : Ar Z h a kc ty vs) : a < h.size := by obtain ⟨c, A, -⟩ := F; exact A.lt
theorem Ar.ext {h' : Heap} {a : Addr} {kc : ClassId} {ty : FieldType} {vs : List Value} (F : Ar Z h a kc ty vs) (E : Ext h h') : Ar Z h' a kc ty vs := by obtain ⟨c, A, r⟩ := F; exact ⟨c, A.ext E, r⟩
theorem Ar.keep {h' : Heap} {a : Addr} {kc : ClassId} {ty : FieldType} {vs : List Value} {ws : List Addr} (F : Ar Z h a kc ty vs) (K : Keep h h' ws) (hn : a ∉ ws) : Ar Z h' a kc ty vs := by obtain ⟨c, A, r⟩ := F; exact ⟨c, ⟨K.2.1 a c A.1 hn, A.2⟩, r⟩
theorem Ar.arv {a : Addr} {kc : ClassId} {ty : FieldType} {vs : List Value} {z : Int32} {dv : Value} (F : Ar Z h a kc ty vs) (hz : z.toNatClampNeg = vs.length) (hn : ¬ z < 0) : Arv Z h a kc ty z vs dv := by
  obtain ⟨c, A, h1, h2, h3, h4⟩ := F
  have hs : c.slots.size = vs.length := by rw [h2]; simp
  refine ⟨c, A, h1, by rw [hs, hz], hn, fun j hj => ?_, fun j hj => ?_⟩
  · rw [hs] at hj; rw [h2]; simp [List.getD_eq_getElem?_getD, hj]
  · rw [hs] at hj; exact h4 _ (by simp [List.getD_eq_getElem?_getD, hj])
theorem Ar.of_arv {a : Addr} {kc : ClassId} {ty : FieldType} {vs : List Value} {z : Int32} {dv : Value} (F : Arv Z h a kc ty z vs dv) (hz : z.toNatClampNeg = vs.length) : Ar Z h a kc ty vs := by
  obtain ⟨c, A, h1, h2, h3, h4, h5⟩ := F
  have hs : c.slots.size = vs.length := by rw [h2, hz]
  refine ⟨c, A, h1, ?_, by rw [← hz]; exact (back32 h3).2, fun v hv => ?_⟩
  · apply Array.ext
    · simpa using hs
    · intro i q1 q2
      have e := h4 i q1
      rw [Array.getElem?_eq_getElem q1] at e
      have hi : i < vs.length := by omega
      rw [List.getD_eq_getElem?_getD, List.getElem?_eq_getElem hi] at e
      simpa using e
  · obtain ⟨i, hi, e⟩ := List.mem_iff_getElem.mp hv
    have := h5 i (by omega)
    rw [List.getD_eq_getElem?_getD, List.getElem?_eq_getElem hi] at this
    rw [← e]; exact this
theorem Ar.new {a : Addr} {kc : ClassId} {ty : FieldType} {z : Int32} (A : Arr Z h a (newA kc ty z) ty) (hn : ¬ z < 0) : Ar Z h a kc ty (List.replicate z.toNatClampNeg (defaultValue ty)) :=
  ⟨_, A, rfl, by simp [newA], by simpa using (back32 hn).2, fun v hv => by rw [List.eq_of_mem_replicate hv]; cases ty <;> rfl⟩
theorem Ar.put {h' : Heap} {a : Addr} {kc : ClassId} {ty : FieldType} {vs : List Value} {i : Nat} {v : Value} (F : Ar Z h a kc ty vs) (W : Wr h h' a i v) (hv : fits ty v = true) : Ar Z h' a kc ty (vs.set i v) := by
  obtain ⟨c, A, h1, h2, h3, h4⟩ := F
  refine ⟨_, A.same W, h1, ?_, by simpa using h3, fun u hu => ?_⟩
  · simp [Cell.setSlot, h2]
  · rcases List.mem_or_eq_of_mem_set hu with q | q
    · exact h4 u q
    · rw [q]; exact hv
theorem Ar.size {a : Addr} {kc : ClassId} {ty : FieldType} {vs : List Value} {c : Cell} (A : Arr Z h a c ty) (F : Ar Z h a kc ty vs) : c.slots = vs.toArray ∧ vs.length < 2 ^ 31 := by
  obtain ⟨c', A', h1, h2, h3, h4⟩ := F
  cases A.1.symm.trans A'.1
  exact ⟨h2, h3⟩
theorem ld_in {vs : List Value} {j : Int32} {v : Value} {c : Cell} (hs : c.slots = vs.toArray) (hj : ¬ j < 0) (hv : vs[j.toNatClampNeg]? = some v) : ¬ (j < 0 ∨ c.slots.size ≤ j.toNatClampNeg) ∧ c.slots[j.toNatClampNeg]? = some v := by
  refine ⟨fun q => q.elim hj fun u => ?_, by rw [hs]; simpa using hv⟩
  rw [hs] at u
  have := (List.getElem?_eq_some_iff.mp hv).1
  simp at u; omega
theorem r_alen (H : Stn C Z own by_ mL rt nm q) (pc' : Nat) {a : Addr} {kc : ClassId} {ty : FieldType} {vs : List Value} (z : Int32) (hd : decode by_ pc = .ok (.arraylength, 1)) (F : Ar Z h a kc ty vs) (hz : vs.length.toInt32 = z) (hp : pc' = pc + 1)
    (kk : Run C Z R w To f Q b Ts Li h k n pc' L (.int z :: S)) : Run C Z R w To f Q b Ts Li h k n pc L (.ref a :: S) := by
  subst hp hz
  refine kk.hold fun T vm0 locs P => ?_
  obtain ⟨c, A, h1, h2, h3, h4⟩ := F
  refine ⟨T, P.1, P.2.2.1, fun t kt => ?_⟩
  refine P.1.arraylength H.1 (by rw [P.2.2.1]; exact A.1) (State.isArrayOf_alike P.2.1.alike A.2.1) (g := mkF C.m pc L (.ref a :: S)) rfl rfl (H.dec hd) _ ?_
  have e : c.slots.size.toInt32 = vs.length.toInt32 := by rw [h2]; simp
  rw [e]; exact kt
theorem r_caload (H : Stn C Z own by_ mL rt nm q) (pc' : Nat) {a : Addr} {kc : ClassId} {vs : List Value} {j : Int32} (v : Int32) (hd : decode by_ pc = .ok (.caload, 1)) (F : Ar Z h a kc .char vs) (hj : ¬ j < 0) (hv : vs[j.toNatClampNeg]? = some (.int v)) (hp : pc' = pc + 1) (kk : Run C Z R w To f Q b Ts Li h k n pc' L (.int v :: S)) : Run C Z R w To f Q b Ts Li h k n pc L (.int j :: .ref a :: S) := by
  subst hp
  refine kk.hold fun T vm0 locs P => ?_
  obtain ⟨c, A, h1, h2, h3, h4⟩ := F
  obtain ⟨q1, q2⟩ := ld_in h2 hj hv
  exact ⟨T, P.1, P.2.2.1, P.1.caload H.1 (by rw [P.2.2.1]; exact A.1) (State.isArrayOf_alike P.2.1.alike A.2.1) A.2.2 q1 q2 (g := mkF C.m pc L (.int j :: .ref a :: S)) rfl rfl (H.dec hd)⟩
theorem r_iaload (H : Stn C Z own by_ mL rt nm q) (pc' : Nat) {a : Addr} {kc : ClassId} {vs : List Value} {j : Int32} (v : Int32) (hd : decode by_ pc = .ok (.iaload, 1)) (F : Ar Z h a kc .int vs) (hj : ¬ j < 0) (hv : vs[j.toNatClampNeg]? = some (.int v)) (hp : pc' = pc + 1) (kk : Run C Z R w To f Q b Ts Li h k n pc' L (.int v :: S)) : Run C Z R w To f Q b Ts Li h k n pc L (.int j :: .ref a :: S) := by
  subst hp
  refine kk.hold fun T vm0 locs P => ?_
  obtain ⟨c, A, h1, h2, h3, h4⟩ := F
  obtain ⟨q1, q2⟩ := ld_in h2 hj hv
  exact ⟨T, P.1, P.2.2.1, P.1.iaload H.1 (by rw [P.2.2.1]; exact A.1) (State.isArrayOf_alike P.2.1.alike A.2.1) A.2.2 q1 q2 (g := mkF C.m pc L (.int j :: .ref a :: S)) rfl rfl (H.dec hd)⟩
theorem r_baload (H : Stn C Z own by_ mL rt nm q) (pc' : Nat) {a : Addr} {kc : ClassId} {vs : List Value} {j : Int32} (v : Int32) (hd : decode by_ pc = .ok (.baload, 1)) (F : Ar Z h a kc .byte vs) (hj : ¬ j < 0) (hv : vs[j.toNatClampNeg]? = some (.int v)) (hp : pc' = pc + 1) (kk : Run C Z R w To f Q b Ts Li h k n pc' L (.int v :: S)) : Run C Z R w To f Q b Ts Li h k n pc L (.int j :: .ref a :: S) := by
  subst hp
  refine kk.hold fun T vm0 locs P => ?_
  obtain ⟨c, A, h1, h2, h3, h4⟩ := F
  obtain ⟨q1, q2⟩ := ld_in h2 hj hv
  exact ⟨T, P.1, P.2.2.1, P.1.baloadBytes H.1 (by rw [P.2.2.1]; exact A.1) (State.isArrayOf_alike P.2.1.alike A.2.1) A.2.2 q1 q2 (g := mkF C.m pc L (.int j :: .ref a :: S)) rfl rfl (H.dec hd)⟩
theorem r_zaload (H : Stn C Z own by_ mL rt nm q) (pc' : Nat) {a : Addr} {kc : ClassId} {vs : List Value} {j : Int32} (v : Int32) (hd : decode by_ pc = .ok (.baload, 1)) (F : Ar Z h a kc .boolean vs) (hj : ¬ j < 0) (hv : vs[j.toNatClampNeg]? = some (.int v)) (hp : pc' = pc + 1) (kk : Run C Z R w To f Q b Ts Li h k n pc' L (.int v :: S)) : Run C Z R w To f Q b Ts Li h k n pc L (.int j :: .ref a :: S) := by
  subst hp
  refine kk.hold fun T vm0 locs P => ?_
  obtain ⟨c, A, h1, h2, h3, h4⟩ := F
  obtain ⟨q1, q2⟩ := ld_in h2 hj hv
  refine ⟨T, P.1, P.2.2.1, fun t kt => ?_⟩
  have hA := State.isArrayOf_alike (T := T) (P.2.1.alike.trans P.1.warmed.alike) A.2.1
  jvm_step P.1.here [P.1.here.top, H.1, H.dec hd, baload.wp_booleans (e := C.e) (s := T) (f := mkF C.m pc L (.int j :: .ref a :: S)) P.1.here.top rfl (by rw [P.2.2.1]; exact A.1) hA q1 A.2.2 q2]
  exact kt
theorem r_aaload (H : Stn C Z own by_ mL rt nm q) (pc' : Nat) {a : Addr} {kc : ClassId} {ty : FieldType} {vs : List Value} {j : Int32} (v : Value) (hd : decode by_ pc = .ok (.aaload, 1)) (F : Ar Z h a kc ty vs) (ht : ty.isReference = true) (hj : ¬ j < 0) (hv : vs[j.toNatClampNeg]? = some v) (hp : pc' = pc + 1) (kk : Run C Z R w To f Q b Ts Li h k n pc' L (v :: S)) : Run C Z R w To f Q b Ts Li h k n pc L (.int j :: .ref a :: S) := by
  subst hp
  refine kk.hold fun T vm0 locs P => ?_
  obtain ⟨c, A, h1, h2, h3, h4⟩ := F
  obtain ⟨q1, q2⟩ := ld_in h2 hj hv
  exact ⟨T, P.1, P.2.2.1, P.1.aaload H.1 (by rw [P.2.2.1]; exact A.1) (State.isArrayOf_alike P.2.1.alike A.2.1) ht A.2.2 q1 q2 (g := mkF C.m pc L (.int j :: .ref a :: S)) rfl rfl (H.dec hd)⟩
theorem Run.write {pc' : Nat} {L' : Array Slot} {S' : List Value} {a : Addr} {sl : Nat} {v : Value} (hb : b ≤ a) (g : ∀ T vm0 locs, Pos C Z R w b Ts Li h k n T vm0 locs → ∃ T' h', Stand C.p C.l C.e R (C.s.setVm vm0) C.m C.a C.bl C.mt C.c T' (locs ++ [⟨a, sl⟩]) k n ∧ T'.heap = h' ∧ Wr h h' a sl v ∧ ∀ t, Steps C.p.tables C.e C.bl (T'.setTop (mkF C.m pc' L' S')) t → Steps C.p.tables C.e C.bl (T.setTop (mkF C.m pc L S)) t)
    (kk : ∀ h', Wr h h' a sl v → Keep h h' [a] → Run C Z R w To f Q b Ts Li h' k n pc' L' S') : Run C Z R w To f Q b Ts Li h k n pc L S := fun T vm0 locs P => by
  obtain ⟨T', h', X', e', W, st⟩ := g T vm0 locs P
  obtain ⟨X, hZ, eT, hS, hI, hw, N, hz, hE, hq, hL⟩ := P
  have K := Keep.of_wr W
  have hE' : Ext Z.heap h' := (Old.wr (n0 := Z.heap.size) ⟨rfl, hE⟩ W (Nat.le_trans hz hb)).2
  obtain ⟨s₂, o, h1, r'⟩ := kk h' W K T' vm0 _ ⟨X', hZ, e', since_same hS K.1, hI, hw, Fr.snoc X' N hb, hz, hE', Nat.le_trans hq K.1, hL⟩
  exact ⟨s₂, o, st _ h1, r'⟩
theorem r_castore (H : Stn C Z own by_ mL rt nm q) (pc' : Nat) {a : Addr} {kc : ClassId} {vs : List Value} {j x : Int32} (y : Int32) (hd : decode by_ pc = .ok (.castore, 1)) (F : Ar Z h a kc .char vs) (hj : ¬ j < 0) (hi : j.toNatClampNeg < vs.length) (hb : b ≤ a) (hy : (nar .char x) = y) (hp : pc' = pc + 1) (kk : ∀ h', Keep h h' [a] → Ar Z h' a kc .char (vs.set j.toNatClampNeg (.int y)) → Run C Z R w To f Q b Ts Li h' k n pc' L S) : Run C Z R w To f Q b Ts Li h k n pc L (.int x :: .int j :: .ref a :: S) := by
  subst hp hy
  obtain ⟨c, A, h1, h2, h3, h4⟩ := id F
  have hin : ¬ (j < 0 ∨ c.slots.size ≤ j.toNatClampNeg) := fun q => q.elim hj fun u => by rw [h2] at u; simp at u; omega
  exact Run.write hb (fun T vm0 locs P => stC P.1 H.1 P.2.1 P.2.2.1 A hin (g := mkF C.m pc L (.int x :: .int j :: .ref a :: S)) rfl rfl (H.dec hd)) fun h' W K => kk h' K (F.put W (fits_nar_char _))
theorem r_bastore (H : Stn C Z own by_ mL rt nm q) (pc' : Nat) {a : Addr} {kc : ClassId} {vs : List Value} {j x : Int32} (y : Int32) (hd : decode by_ pc = .ok (.bastore, 1)) (F : Ar Z h a kc .byte vs) (hj : ¬ j < 0) (hi : j.toNatClampNeg < vs.length) (hb : b ≤ a) (hy : (nar .byte x) = y) (hp : pc' = pc + 1) (kk : ∀ h', Keep h h' [a] → Ar Z h' a kc .byte (vs.set j.toNatClampNeg (.int y)) → Run C Z R w To f Q b Ts Li h' k n pc' L S) : Run C Z R w To f Q b Ts Li h k n pc L (.int x :: .int j :: .ref a :: S) := by
  subst hp hy
  obtain ⟨c, A, h1, h2, h3, h4⟩ := id F
  have hin : ¬ (j < 0 ∨ c.slots.size ≤ j.toNatClampNeg) := fun q => q.elim hj fun u => by rw [h2] at u; simp at u; omega
  exact Run.write hb (fun T vm0 locs P => stB P.1 H.1 P.2.1 P.2.2.1 A hin (g := mkF C.m pc L (.int x :: .int j :: .ref a :: S)) rfl rfl (H.dec hd)) fun h' W K => kk h' K (F.put W (fits_nar_byte _))
theorem r_zastore (H : Stn C Z own by_ mL rt nm q) (pc' : Nat) {a : Addr} {kc : ClassId} {vs : List Value} {j x : Int32} (y : Int32) (hd : decode by_ pc = .ok (.bastore, 1)) (F : Ar Z h a kc .boolean vs) (hj : ¬ j < 0) (hi : j.toNatClampNeg < vs.length) (hb : b ≤ a) (hy : (nar .boolean x) = y) (hp : pc' = pc + 1) (kk : ∀ h', Keep h h' [a] → Ar Z h' a kc .boolean (vs.set j.toNatClampNeg (.int y)) → Run C Z R w To f Q b Ts Li h' k n pc' L S) : Run C Z R w To f Q b Ts Li h k n pc L (.int x :: .int j :: .ref a :: S) := by
  subst hp hy
  obtain ⟨c, A, h1, h2, h3, h4⟩ := id F
  have hin : ¬ (j < 0 ∨ c.slots.size ≤ j.toNatClampNeg) := fun q => q.elim hj fun u => by rw [h2] at u; simp at u; omega
  exact Run.write hb (fun T vm0 locs P => stZ P.1 H.1 P.2.1 P.2.2.1 A hin (g := mkF C.m pc L (.int x :: .int j :: .ref a :: S)) rfl rfl (H.dec hd)) fun h' W K => kk h' K (F.put W (fits_nar_bool _))
theorem r_iastore (H : Stn C Z own by_ mL rt nm q) (pc' : Nat) {a : Addr} {kc : ClassId} {vs : List Value} {j x : Int32} (y : Int32) (hd : decode by_ pc = .ok (.iastore, 1)) (F : Ar Z h a kc .int vs) (hj : ¬ j < 0) (hi : j.toNatClampNeg < vs.length) (hb : b ≤ a) (hy : x = y) (hp : pc' = pc + 1) (kk : ∀ h', Keep h h' [a] → Ar Z h' a kc .int (vs.set j.toNatClampNeg (.int y)) → Run C Z R w To f Q b Ts Li h' k n pc' L S) : Run C Z R w To f Q b Ts Li h k n pc L (.int x :: .int j :: .ref a :: S) := by
  subst hp hy
  obtain ⟨c, A, h1, h2, h3, h4⟩ := id F
  have hin : ¬ (j < 0 ∨ c.slots.size ≤ j.toNatClampNeg) := fun q => q.elim hj fun u => by rw [h2] at u; simp at u; omega
  exact Run.write hb (fun T vm0 locs P => stI P.1 H.1 P.2.1 P.2.2.1 A hin (g := mkF C.m pc L (.int x :: .int j :: .ref a :: S)) rfl rfl (H.dec hd)) fun h' W K => kk h' K (F.put W rfl)
theorem r_aastore (H : Stn C Z own by_ mL rt nm q) (pc' : Nat) {a : Addr} {kc : ClassId} {ty : FieldType} {vs : List Value} {j : Int32} {v : Value} (hd : decode by_ pc = .ok (.aastore, 1)) (F : Ar Z h a kc ty vs) (ht : ty.isReference = true) (hv : v.isRef = true) (hs : Sto Z h a v) (hj : ¬ j < 0) (hi : j.toNatClampNeg < vs.length) (hb : b ≤ a) (hp : pc' = pc + 1) (kk : ∀ h', Keep h h' [a] → Ar Z h' a kc ty (vs.set j.toNatClampNeg v) → Run C Z R w To f Q b Ts Li h' k n pc' L S) : Run C Z R w To f Q b Ts Li h k n pc L (v :: .int j :: .ref a :: S) := by
  subst hp
  obtain ⟨c, A, h1, h2, h3, h4⟩ := id F
  have hin : ¬ (j < 0 ∨ c.slots.size ≤ j.toNatClampNeg) := fun q => q.elim hj fun u => by rw [h2] at u; simp at u; omega
  exact Run.write hb (fun T vm0 locs P => stR P.1 H.1 P.2.1 P.2.2.1 A hin ht hs (g := mkF C.m pc L (v :: .int j :: .ref a :: S)) rfl rfl (H.dec hd)) fun h' W K => kk h' K (F.put W (by rcases ref_cases hv with rfl | ⟨y, rfl⟩ <;> cases ty <;> first | rfl | simp [FieldType.isReference] at ht))
theorem r_putf (H : Stn C Z own by_ mL rt nm q) (pc' : Nat) {idx kk0 : Nat} {R0 O fn d CC : String} {ty : FieldType} {a : Addr} {v old : Value} (hd : decode by_ pc = .ok (.putfield idx, 3)) (w1 : (Cond.fieldLink own idx R0 fn d).before a0 Z = true) (via : Via Z R0 O fn d) (F : Fld Z h a O fn d old) (E : Exa Z h a CC) (wl : (Cond.lays CC O fn d).before a0 Z = true ∨ ((Cond.laysFinal CC O fn d).before a0 Z = true ∧ own = O ∧ nm = "<init>")) (wi : (Cond.instantiable CC kk0).before a0 Z = true) (hty : parseFieldDescriptor d = some ty) (hn : narrow ty v = v) (hf' : fits ty v = true) (hb : b ≤ a) (hp : pc' = pc + 3) (kk : ∀ h', Wr h h' a (Jvm.RoadKit.slotOf Z O fn d) v → Keep h h' [a] → Exa Z h' a CC → Fld Z h' a O fn d v → Run C Z R w To f Q b Ts Li h' k n pc' L S) : Run C Z R w To f Q b Ts Li h k n pc L (v :: .ref a :: S) := by
  subst hp
  exact Run.write hb (fun T vm0 locs P => putF (host := "") P.1 H.1 P.2.1 (P.cl H) (Or.inl w1) via P.2.2.1 F E (wl.imp id fun z => ⟨z.1, z.2.1, H.2.2.2.2.2.1.trans z.2.2⟩) wi hty hn hf' (g := mkF C.m pc L (v :: .ref a :: S)) rfl rfl (H.dec hd)) fun h' W K => kk h' W K (E.wr W) (F.same W)
theorem r_putn (H : Stn C Z own by_ mL rt nm q) (pc' : Nat) {idx kk0 : Nat} {R0 O fn d CC : String} {ty : FieldType} {a : Addr} {v old : Value} (v' : Value) (hd : decode by_ pc = .ok (.putfield idx, 3)) (w1 : (Cond.fieldLink own idx R0 fn d).before a0 Z = true) (via : Via Z R0 O fn d) (F : Fld Z h a O fn d old) (E : Exa Z h a CC) (wl : (Cond.lays CC O fn d).before a0 Z = true ∨ ((Cond.laysFinal CC O fn d).before a0 Z = true ∧ own = O ∧ nm = "<init>")) (wi : (Cond.instantiable CC kk0).before a0 Z = true) (hty : parseFieldDescriptor d = some ty) (hn : narrow ty v = v') (hf' : fits ty v' = true) (hb : b ≤ a) (hp : pc' = pc + 3) (kk : ∀ h', Wr h h' a (Jvm.RoadKit.slotOf Z O fn d) v' → Keep h h' [a] → Exa Z h' a CC → Fld Z h' a O fn d v' → Run C Z R w To f Q b Ts Li h' k n pc' L S) : Run C Z R w To f Q b Ts Li h k n pc L (v :: .ref a :: S) := by
  subst hp
  exact Run.write hb (fun T vm0 locs P => putFN P.1 H.1 P.2.1 (P.cl H) w1 via P.2.2.1 F E (wl.imp id fun z => ⟨z.1, z.2.1, H.2.2.2.2.2.1.trans z.2.2⟩) wi hty hn hf' (g := mkF C.m pc L (v :: .ref a :: S)) rfl rfl (H.dec hd)) fun h' W K => kk h' W K (E.wr W) (F.same W)
theorem Run.make {pc' k' n' : Nat} {L' : Array Slot} {S' : List Value} {P' : Heap → Prop} (hkk : k ≤ k') (g : ∀ T vm0 locs, Pos C Z R w b Ts Li h k n T vm0 locs → ∃ T' h', Stand C.p C.l C.e R (C.s.setVm vm0) C.m C.a C.bl C.mt C.c T' locs k' n' ∧ T'.heap = h' ∧ Ext h h' ∧ P' h' ∧ ∀ t, Steps C.p.tables C.e C.bl (T'.setTop (mkF C.m pc' L' S')) t → Steps C.p.tables C.e C.bl (T.setTop (mkF C.m pc L S)) t)
    (kk : ∀ h', Ext h h' → P' h' → Run C Z R w To f Q b Ts Li h' k' n' pc' L' S') : Run C Z R w To f Q b Ts Li h k n pc L S := fun T vm0 locs P => by
  obtain ⟨T', h', X', e', E, hP, st⟩ := g T vm0 locs P
  obtain ⟨X, hZ, eT, hS, hI, hw, N, hz, hE, hq, hL⟩ := P
  obtain ⟨s₂, o, h1, r'⟩ := kk h' E hP T' vm0 locs ⟨X', hZ, e', since_same hS E.1, hI, hw, N, hz, ⟨Nat.le_trans hE.1 E.1, fun x c r => E.2 x c (hE.2 x c r)⟩, Nat.le_trans hq E.1, hL⟩
  exact ⟨s₂, o, st _ h1, r'⟩
theorem Keep.of_ext {h h' : Heap} (E : Ext h h') : Keep h h' [] := (Keep.refl h []).ext E
theorem r_new (H : Stn C Z own by_ mL rt nm q) (pc' : Nat) {idx ns : Nat} {CC : String} (hd : decode by_ pc = .ok (.new idx, 3)) (w1 : (Cond.classLink own idx CC).before a0 Z = true) (wi : (Cond.instantiable CC ns).before a0 Z = true) (wz : (Cond.initialized CC).before a0 Z = true) (hc : k + 1 ≤ R.cells) (hl : n + ns ≤ R.slots) (hp : pc' = pc + 3)
    (kk : ∀ h' a, a = h.size → a < h'.size → Keep h h' [] → Exa Z h' a CC → (∀ {O nm d : String} {ty : FieldType}, Laid Z a0 CC O nm d → parseFieldDescriptor d = some ty → Fld Z h' a O nm d (defaultValue ty)) → Run C Z R w To f Q b Ts Li h' (k + 1) (n + ns) pc' L (.ref a :: S)) : Run C Z R w To f Q b Ts Li h k n pc L S := by
  subst hp
  refine Run.make (P' := fun h' => Exa Z h' h.size CC ∧ (∀ {O nm d : String} {ty : FieldType}, Laid Z a0 CC O nm d → parseFieldDescriptor d = some ty → Fld Z h' h.size O nm d (defaultValue ty))) (Nat.le_succ k) (fun T vm0 locs P => ?_) fun h' E hP => kk h' _ rfl hP.1.lt (Keep.of_ext E) hP.1 hP.2
  obtain ⟨T', h', X', e', E, A, D, -, st⟩ := newO P.1 H.1 P.2.1 (P.cl H) w1 wi wz P.2.2.1 (g := mkF C.m pc L S) rfl (H.dec hd) hc hl
  exact ⟨T', h', X', e', E, ⟨A, D⟩, st⟩
theorem r_newP (H : Stn C Z own by_ mL rt nm q) (pc' : Nat) {aty : ArrayType} {z : Int32} (ad : String) (cap : Nat) (hd : decode by_ pc = .ok (.newarray aty, 2)) (w1 : (Cond.arrayClass (newarray.typeOf aty)).before a0 Z = true) (had : "[" ++ (newarray.typeOf aty).toString = ad) (hn : ¬ z < 0) (hcap : z.toNatClampNeg ≤ cap) (hb : cap * 8 ≤ 536870912) (hc : k + 1 ≤ R.cells) (hl : n + cap ≤ R.slots) (hp : pc' = pc + 2)
    (kk : ∀ h' a kc, a = h.size → a < h'.size → Keep h h' [] → Exa Z h' a ad → Ar Z h' a kc (newarray.typeOf aty) (List.replicate z.toNatClampNeg (defaultValue (newarray.typeOf aty))) → Run C Z R w To f Q b Ts Li h' (k + 1) (n + cap) pc' L (.ref a :: S)) : Run C Z R w To f Q b Ts Li h k n pc L (.int z :: S) := by
  subst hp
  refine Run.make (P' := fun h' => ∃ kc, Exa Z h' h.size ad ∧ Ar Z h' h.size kc (newarray.typeOf aty) (List.replicate z.toNatClampNeg (defaultValue (newarray.typeOf aty)))) (Nat.le_succ k) (fun T vm0 locs P => ?_) fun h' E hP => by obtain ⟨kc, h1, h2⟩ := hP; exact kk h' _ kc rfl h2.lt (Keep.of_ext E) h1 h2
  obtain ⟨T', h', cA, X', e', E, A, A2, st⟩ := newPE P.1 H.1 P.2.1 w1 P.2.2.1 (g := mkF C.m pc L (.int z :: S)) rfl (H.dec hd) rfl hn hcap hb hc hl had
  exact ⟨T', h', X', e', E, ⟨cA, A2, Ar.new A hn⟩, st⟩
theorem r_newR (H : Stn C Z own by_ mL rt nm q) (pc' : Nat) {idx : Nat} {CC : String} {z : Int32} (ad : String) (cap : Nat) (hd : decode by_ pc = .ok (.anewarray idx, 3)) (w1 : (Cond.classLink own idx CC).before a0 Z = true) (w2 : (Cond.arrayOver (.object CC)).before a0 Z = true) (had : "[" ++ (FieldType.object CC).toString = ad) (hn : ¬ z < 0) (hcap : z.toNatClampNeg ≤ cap) (hb : cap * 8 ≤ 536870912) (hc : k + 1 ≤ R.cells) (hl : n + cap ≤ R.slots) (hp : pc' = pc + 3)
    (kk : ∀ h' a kc, a = h.size → a < h'.size → Keep h h' [] → Exa Z h' a ad → Ovr Z kc CC → Ar Z h' a kc (.object CC) (List.replicate z.toNatClampNeg .null) → Run C Z R w To f Q b Ts Li h' (k + 1) (n + cap) pc' L (.ref a :: S)) : Run C Z R w To f Q b Ts Li h k n pc L (.int z :: S) := by
  subst hp
  refine Run.make (P' := fun h' => ∃ kc, Exa Z h' h.size ad ∧ Ovr Z kc CC ∧ Ar Z h' h.size kc (.object CC) (List.replicate z.toNatClampNeg .null)) (Nat.le_succ k) (fun T vm0 locs P => ?_) fun h' E hP => by obtain ⟨kc, h1, h2, h3⟩ := hP; exact kk h' _ kc rfl h3.lt (Keep.of_ext E) h1 h2 h3
  obtain ⟨T', h', cA, X', e', E, A, A2, O2, st⟩ := newRE P.1 H.1 P.2.1 (P.cl H) w1 w2 P.2.2.1 (g := mkF C.m pc L (.int z :: S)) rfl (H.dec hd) rfl hn hcap hb hc hl had
  exact ⟨T', h', X', e', E, ⟨cA, A2, O2, Ar.new A hn⟩, st⟩
/-! contracts -/
section Contract
variable {y : MethodName} {yb : ByteArray} {ymL : Nat} {yrt : Option FieldType} {Ry : Room} {Ti To' : List String} {f' : Nat} {as : Array Value} {Qy Qy' : Option Value → Heap → Prop} {ws : List Jvm.Cond}
theorem Con.wide (hc : Con false ws Z y yb ymL yrt Ry Ti To' f' as h Qy) : Con w ws Z y yb ymL yrt Ry Ti To' f' as h Qy := by
  cases w with
  | false => exact hc
  | true =>
    intro l p e ha hca hk s m args below hf happ hP hK
    obtain ⟨n, o, h1, h2, h3, v, L, e1, hQ, hE⟩ := hc l p e ha hca hk s m args below hf happ hP hK
    exact ⟨n, o, h1, h2, h3, v, L, e1, hQ, ReturnedEndW.of_narrow hE.1 hE.2.1 hE.2.2⟩
theorem Con.mono (hc : Con w ws Z y yb ymL yrt Ry Ti To' f' as h Qy) (hq : ∀ v h', Qy v h' → Qy' v h') : Con w ws Z y yb ymL yrt Ry Ti To' f' as h Qy' := by
  intro l p e ha hca hk s m args below hf happ hP hK
  obtain ⟨n, o, h1, h2, h3, v, L, e1, hQ, hE⟩ := hc l p e ha hca hk s m args below hf happ hP hK
  exact ⟨n, o, h1, h2, h3, v, L, e1, ⟨hq _ _ hQ.1, hQ.2⟩, hE⟩
theorem con_of (bb : Nat) (L0 : Array Slot) (hpl : plainFor y = true) (hef : ∀ m, entryFrame m as ymL = mkF m 0 L0 []) (hz : Z.heap.size ≤ bb)
    (body : ∀ C : Cx, Stn C Z y.cls yb ymL yrt y.name h.size → Ext Z.heap h → Run C Z Ry w To' f' Qy bb Ti [] h 0 0 0 L0 []) : Con w ws Z y yb ymL yrt Ry Ti To' f' as h Qy := by
  intro l
  refine MetFree.of_bodySF hpl hisR ?_
  intro p e s m args below meth c s₁ Bd hml0 hP hK
  obtain ⟨rfl, hZ, hh, hI, hE⟩ := hP
  have X0 : Stand p l e Ry s m args below meth c s₁ [] 0 0 := Stand.of_body Bd
  have e0 : s₁.heap = h := by rw [← hh, Bd.state]; rfl
  have H : Stn (p, l, e, s, m, args, below, meth, c) Z y.cls yb ymL yrt y.name h.size := ⟨Bd.exec, Bd.bytes, hml0, Bd.returns, Bd.notSynchronized, (name_of_methodNamed Bd.named Bd.method).1, (by show s.heap.size = _; rw [hh]), (by show Ext Z.heap s.heap; rw [hh]; exact hE), findClass_of_methodNamed Bd.named⟩
  obtain ⟨s₂, o, h1, h2, h3, r⟩ := body (p, l, e, s, m, args, below, meth, c) H hE s₁ s.vm [] ⟨X0, hZ, e0, (State.WarmedH.refl s).since _, hI, fun _ => rfl, Fr.nil _, hz, hE, Nat.le_of_eq (by show s.heap.size = _; rw [hh]), fun _ q => by cases q⟩
  exact ⟨s₂, o, castTop (hef m) h1, h2, h3, r⟩
theorem Con.back {p : Program} {l : Launch} {e : Env} {R : Room} {below : List Frame} {s : State} {args : Array Value} {len W : Nat} (hc : Con false [] Z y yb ymL yrt Ry Ti To' f' as h Qy) (hZ : Z.Warmed39 s.vm) (hI : IB Z s.vm Ti) (hE : Ext Z.heap h)
    (wc : (Cond.code y yb ymL yrt).before a0 Z = true) (wz : (Cond.initialized y.cls).before a0 Z = true) (hf : Ry.frames + 1 ≤ R.frames) (hl : W + (ymL + 11) + Ry.locals ≤ R.locals) :
    Back l R p e below s args y len W (fun A a => a = as ∧ A.U.heap = h ∧ A.cells + Ry.cells ≤ R.cells ∧ A.slots + Ry.slots ≤ R.slots)
      (fun A _ v B => ∃ L, (Qy v B.U.heap ∧ Fr f' L ∧ Ext Z.heap B.U.heap ∧ IB Z B.U.vm To') ∧ B.locs = A.locs ++ L ∧ B.cells = A.cells + Ry.cells ∧ B.slots = A.slots + Ry.slots) :=
  Back.of_free (bytes := yb) (maxL := ymL) (ret := yrt) (E := fun _ _ o t L k n => k = Ry.cells ∧ n = Ry.slots ∧ ∃ v, o = .returned v ∧ (Qy v t.heap ∧ Fr f' L ∧ Ext Z.heap t.heap ∧ IB Z t.vm To')) (hc l) hf hl
    (fun m meth c A a Y hp => have hU : Z.Warmed39 A.U.vm := wtrans hZ Y.warmed
      ⟨by show (Cond.and _ .tt).before a A.U = true; rw [Cond.before_and, mv hU wc]; rfl, mv hU wc, mv hU wz, hp.2.2.1, hp.2.2.2⟩)
    (fun m meth c A a g mk Y hp => ⟨hp.1, wtrans hZ Y.warmed, hp.2.1, ib_same hI Y.warmed.interned_eq, hE⟩) (fun _ _ _ _ _ _ _ _ _ => trivial)
    (fun _ _ _ _ ⟨v, L, h1, h2, h3⟩ => ⟨L, _, _, h3, rfl, rfl, v, h1, h2⟩)
    (fun m meth c A a g mk v t L k n Y hp _ _ ⟨e1, e2, v', e3, e4⟩ => by cases e3; subst e1 e2; exact ⟨L, e4, rfl, rfl, rfl⟩)
theorem Con.backS {p : Program} {l : Launch} {e : Env} {R : Room} {below : List Frame} {s : State} {args : Array Value} {len W : Nat} (hc : Con true [] Z y yb ymL yrt Ry Ti To' f' as h Qy) (hZ : Z.Warmed39 s.vm) (hI : IB Z s.vm Ti) (hE : Ext Z.heap h)
    (wc : (Cond.code y yb ymL yrt).before a0 Z = true) (wz : (Cond.initialized y.cls).before a0 Z = true) (hf : Ry.frames + 1 ≤ R.frames) (hl : W + (ymL + 11) + Ry.locals ≤ R.locals) :
    BackS l R p e below s args y len W (fun A a => a = as ∧ A.U.heap = h ∧ A.cells + Ry.cells ≤ R.cells ∧ A.slots + Ry.slots ≤ R.slots)
      (fun A _ v B => ∃ L, (Qy v B.U.heap ∧ Fr f' L ∧ Ext Z.heap B.U.heap ∧ IB Z B.U.vm To') ∧ B.locs = A.locs ++ L ∧ B.cells = A.cells + Ry.cells ∧ B.slots = A.slots + Ry.slots) :=
  BackS.of_freeW (bytes := yb) (maxL := ymL) (ret := yrt) (E := fun _ _ o t L k n => k = Ry.cells ∧ n = Ry.slots ∧ ∃ v, o = .returned v ∧ (Qy v t.heap ∧ Fr f' L ∧ Ext Z.heap t.heap ∧ IB Z t.vm To')) (hc l) hf hl
    (fun m meth c A a Y hp => have hU : Z.Warmed39 A.U.vm := wtrans hZ Y.warmed
      ⟨by show (Cond.and _ .tt).before a A.U = true; rw [Cond.before_and, mv hU wc]; rfl, mv hU wc, mv hU wz, hp.2.2.1, hp.2.2.2⟩)
    (fun m meth c A a g mk Y hp => ⟨hp.1, wtrans hZ Y.warmed, hp.2.1, ib_same hI Y.warmed.interned_eq, hE⟩) (fun _ _ _ _ _ _ _ _ _ => trivial)
    (fun _ _ _ _ ⟨v, L, h1, h2, h3⟩ => ⟨L, _, _, h3, rfl, rfl, v, h1, h2⟩)
    (fun m meth c A a g mk v t L k n Y hp _ _ ⟨e1, e2, v', e3, e4⟩ => by cases e3; subst e1 e2; exact ⟨L, e4, rfl, rfl, rfl⟩)
theorem Pos.afterN {T : State} {vm0 : Vm} {locs : List Loc} {U : State} {ls : List Loc} {ce sl : Nat} {Lc : List Loc} (P : Pos C Z R false b Ts Li h k n T vm0 locs) (X' : Stand C.p C.l C.e R (C.s.setVm vm0) C.m C.a C.bl C.mt C.c U ls ce sl)
    (hF : Fr f' Lc) (hE' : Ext Z.heap U.heap) (hI' : IB Z U.vm To') (l1 : ls = locs ++ Lc) (c1 : ce = k + Ry.cells) (s1 : sl = n + Ry.slots) (hb : b ≤ f') : Pos C Z R false b To' Li U.heap (k + Ry.cells) (n + Ry.slots) U vm0 (locs ++ Lc) := by
  obtain ⟨X, hZ, eT, hS, hI, hw, N, hz, hE, hq, hL⟩ := P
  subst l1 c1 s1
  have e0 := hw rfl
  subst e0
  exact ⟨X', hZ, rfl, (State.WarmedH.refl C.s).since _, ib_same hI' X'.warmed.interned_eq.symm, fun _ => rfl, N.app (fr_low hF hb), hz, hE', X'.same.2.1, hL⟩
theorem Pos.afterS {T : State} {vm0 : Vm} {locs : List Loc} {U : State} {ls : List Loc} {ce sl : Nat} {Lc : List Loc} (P : Pos C Z R true b Ts Li h k n T vm0 locs) (X' : Stand C.p C.l C.e R ((C.s.setVm vm0).setVm U.vm) C.m C.a C.bl C.mt C.c U ls ce sl)
    (hS' : (C.s.setVm vm0).Since U.vm U.heap.size) (hg : T.heap.size ≤ U.heap.size) (hF : Fr f' Lc) (hE' : Ext Z.heap U.heap) (hI' : IB Z U.vm To') (l1 : ls = locs ++ Lc) (c1 : ce = k + Ry.cells) (s1 : sl = n + Ry.slots) (hb : b ≤ f') : Pos C Z R true b To' Li U.heap (k + Ry.cells) (n + Ry.slots) U U.vm (locs ++ Lc) := by
  obtain ⟨X, hZ, eT, hS, hI, hw, N, hz, hE, hq, hL⟩ := P
  subst l1 c1 s1
  exact ⟨X', State.Warmed39.trans (t := C.s.setVm vm0) hZ hS'.1, rfl, hS.trans hS' (by rw [← eT]; exact hg), hI', fun e => (by cases e), N.app (fr_low hF hb), hz, hE', Nat.le_trans hq (by rw [← eT]; exact hg), fun x hx => (hL x hx).stays hS'.1⟩
end Contract
theorem r_static (H : Stn C Z own by_ mL rt nm q) (pc' : Nat) {idx : Nat} {y : MethodName} {yb : ByteArray} {ymL : Nat} {yrt : Option FieldType} {Ry : Room} {To' : List String} {f' : Nat} {Qy : Option Value → Heap → Prop}  {argsL rest : List Value} {W : Nat} (hd : decode by_ pc = .ok (.invokestatic idx, 3)) (w1 : (Cond.methodLink own idx y).before a0 Z = true) (w2 : (Cond.static y).before a0 Z = true) (w3 : (Cond.initialized y.cls).before a0 Z = true) (w4 : (Cond.code y yb ymL yrt).before a0 Z = true) (hy : y.cls ≠ "java/lang/invoke/MethodHandle" ∧ y.cls ≠ "java/lang/invoke/VarHandle") (hlen : ∀ sig, parseMethodDescriptor y.desc = some sig → argsL.length = sig.parameters.length) (hc : Con w [] Z y yb ymL yrt Ry Ts To' f' argsL.toArray h Qy) (hs : S = argsL.reverse ++ rest) (hW : (rest.map fun v => v.category).sum ≤ W) (hL : L.size = mL) (hf : Ry.frames + 1 ≤ R.frames) (hl : W + (ymL + 11) + Ry.locals ≤ R.locals) (hk : k + Ry.cells ≤ R.cells) (hn : n + Ry.slots ≤ R.slots) (hb : b ≤ f') (hp : pc' = pc + 3) (kk : ∀ v h', Qy v h' → Run C Z R w To f Q b To' Li h' (k + Ry.cells) (n + Ry.slots) pc' L (v.toList ++ rest)) : Run C Z R w To f Q b Ts Li h k n pc L S := by
  subst hp hs
  intro T vm0 locs P
  cases w with
  | false =>
    obtain ⟨v, vm₁, ⟨U, ls, ce, sl⟩, -, X', ⟨Lc, ⟨hQ, hF, hE', hI'⟩, l1, c1, s1⟩, st⟩ := Jvm.LawKit.callS P.1 H.1 (P.cl H) (mvT (s := C.s.setVm vm0) P.2.1 w1) (mvT (s := C.s.setVm vm0) P.2.1 w2) (mvT (s := C.s.setVm vm0) P.2.1 w3) (mvT (s := C.s.setVm vm0) P.2.1 w4) hy (hc.back P.2.1 P.2.2.2.2.1 P.2.2.2.2.2.2.2.2.1 w4 w3 hf hl) (g := mkF C.m pc L (argsL.reverse ++ rest)) rfl (by rw [H.2.2.1]; exact hL) hlen rfl (by show 2 * 0 + _ ≤ _; omega) (H.dec hd) (fun _ _ => ⟨rfl, P.2.2.1, hk, hn⟩)
    obtain ⟨s₂, o, h1, r⟩ := kk v U.heap hQ U vm0 _ (P.afterN X' hF hE' hI' l1 c1 s1 hb)
    exact ⟨s₂, o, st _ h1, r⟩
  | true =>
    obtain ⟨v, vm₁, ⟨U, ls, ce, sl⟩, -, X', hS', hg, ⟨Lc, ⟨hQ, hF, hE', hI'⟩, l1, c1, s1⟩, st⟩ := callSS P.1 H.1 (P.cl H) (mvT (s := C.s.setVm vm0) P.2.1 w1) (mvT (s := C.s.setVm vm0) P.2.1 w2) (mvT (s := C.s.setVm vm0) P.2.1 w3) (mvT (s := C.s.setVm vm0) P.2.1 w4) hy (hc.backS P.2.1 P.2.2.2.2.1 P.2.2.2.2.2.2.2.2.1 w4 w3 hf hl) (g := mkF C.m pc L (argsL.reverse ++ rest)) rfl (by rw [H.2.2.1]; exact hL) hlen rfl (by show 2 * 0 + _ ≤ _; omega) (H.dec hd) (fun _ _ => ⟨rfl, P.2.2.1, hk, hn⟩)
    obtain ⟨s₂, o, h1, r⟩ := kk v U.heap hQ U U.vm _ (P.afterS X' hS' hg hF hE' hI' l1 c1 s1 hb)
    exact ⟨s₂, o, st.trans h1, r⟩
theorem r_special (H : Stn C Z own by_ mL rt nm q) (pc' : Nat) {idx : Nat} {y : MethodName} {yb : ByteArray} {ymL : Nat} {Ry : Room} {To' : List String} {f' : Nat} {Qy : Option Value → Heap → Prop} {a : Addr} {argsL rest : List Value} {W : Nat} (hd : decode by_ pc = .ok (.invokespecial idx, 3)) (w1 : (Cond.methodLink own idx y).before a0 Z = true) (w2 : (Cond.instanceMethod y).before a0 Z = true) (w3 : (Cond.initialized y.cls).before a0 Z = true) (w4 : (Cond.code y yb ymL none).before a0 Z = true) (hy : y.cls ≠ "java/lang/invoke/MethodHandle" ∧ y.cls ≠ "java/lang/invoke/VarHandle") (hy1 : y.name = "<init>") (hlen : ∀ sig, parseMethodDescriptor y.desc = some sig → argsL.length = sig.parameters.length) (hc : Con w [] Z y yb ymL none Ry Ts To' f' (.ref a :: argsL).toArray h Qy) (hs : S = argsL.reverse ++ .ref a :: rest) (hW : (rest.map fun v => v.category).sum ≤ W) (hL : L.size = mL) (hf : Ry.frames + 1 ≤ R.frames) (hl : W + (ymL + 11) + Ry.locals ≤ R.locals) (hk : k + Ry.cells ≤ R.cells) (hn : n + Ry.slots ≤ R.slots) (hb : b ≤ f') (hp : pc' = pc + 3) (kk : ∀ v h', Qy v h' → Run C Z R w To f Q b To' Li h' (k + Ry.cells) (n + Ry.slots) pc' L (v.toList ++ rest)) : Run C Z R w To f Q b Ts Li h k n pc L S := by
  subst hp hs
  intro T vm0 locs P
  cases w with
  | false =>
    obtain ⟨v, vm₁, ⟨U, ls, ce, sl⟩, -, X', ⟨Lc, ⟨hQ, hF, hE', hI'⟩, l1, c1, s1⟩, st⟩ := P.1.specialBack H.1 hy1 (P.cl H) (mvT (s := C.s.setVm vm0) P.2.1 w1) (mvT (s := C.s.setVm vm0) P.2.1 w2) (mvT (s := C.s.setVm vm0) P.2.1 w4) hy (hc.back P.2.1 P.2.2.2.2.1 P.2.2.2.2.2.2.2.2.1 w4 w3 hf hl) (g := mkF C.m pc L (argsL.reverse ++ .ref a :: rest)) rfl (by rw [H.2.2.1]; exact hL) (Steps.refl _) (a := a) hlen rfl (by show 2 * 0 + _ ≤ _; omega) (H.dec hd) (fun _ _ => ⟨rfl, P.2.2.1, hk, hn⟩)
    obtain ⟨s₂, o, h1, r⟩ := kk v U.heap hQ U vm0 _ (P.afterN X' hF hE' hI' l1 c1 s1 hb)
    exact ⟨s₂, o, st.trans h1, r⟩
  | true =>
    obtain ⟨v, vm₁, ⟨U, ls, ce, sl⟩, -, X', hS', hg, ⟨Lc, ⟨hQ, hF, hE', hI'⟩, l1, c1, s1⟩, st⟩ := P.1.specialBackS H.1 hy1 (P.cl H) (mvT (s := C.s.setVm vm0) P.2.1 w1) (mvT (s := C.s.setVm vm0) P.2.1 w2) (mvT (s := C.s.setVm vm0) P.2.1 w4) hy (hc.backS P.2.1 P.2.2.2.2.1 P.2.2.2.2.2.2.2.2.1 w4 w3 hf hl) (g := mkF C.m pc L (argsL.reverse ++ .ref a :: rest)) rfl (by rw [H.2.2.1]; exact hL) (Steps.refl _) (a := a) hlen rfl (by show 2 * 0 + _ ≤ _; omega) (H.dec hd) (fun _ _ => ⟨rfl, P.2.2.1, hk, hn⟩)
    obtain ⟨s₂, o, h1, r⟩ := kk v U.heap hQ U U.vm _ (P.afterS X' hS' hg hF hE' hI' l1 c1 s1 hb)
    exact ⟨s₂, o, st.trans h1, r⟩
theorem r_virtual (H : Stn C Z own by_ mL rt nm q) (pc' : Nat) {idx : Nat} {y : MethodName} {yb : ByteArray} {ymL : Nat} {yrt : Option FieldType} {Ry : Room} {To' : List String} {f' : Nat} {Qy : Option Value → Heap → Prop} {z : MethodName} {CC : String} {a : Addr} {argsL rest : List Value} {W : Nat} (hd : decode by_ pc = .ok (.invokevirtual idx, 3)) (w1 : (Cond.methodLink own idx y).before a0 Z = true) (wd : (Cond.declares y).before a0 Z = true) (hnf : ∀ vm0, Z.Warmed39 vm0 → NotFace (C.s.setVm vm0) y) (w2 : (Cond.selects CC y z).before a0 Z = true) (w5 : (Cond.instanceMethod z).before a0 Z = true) (w3 : (Cond.initialized z.cls).before a0 Z = true) (w4 : (Cond.code z yb ymL yrt).before a0 Z = true) (hy : y.cls ≠ "java/lang/invoke/MethodHandle" ∧ y.cls ≠ "java/lang/invoke/VarHandle") (E : Exa Z h a CC) (hlen : ∀ sig, parseMethodDescriptor y.desc = some sig → argsL.length = sig.parameters.length) (hc : Con w [] Z z yb ymL yrt Ry Ts To' f' (.ref a :: argsL).toArray h Qy) (hs : S = argsL.reverse ++ .ref a :: rest) (hW : (rest.map fun v => v.category).sum ≤ W) (hL : L.size = mL) (hf : Ry.frames + 1 ≤ R.frames) (hl : W + (ymL + 11) + Ry.locals ≤ R.locals) (hk : k + Ry.cells ≤ R.cells) (hn : n + Ry.slots ≤ R.slots) (hb : b ≤ f') (hp : pc' = pc + 3) (kk : ∀ v h', Qy v h' → Run C Z R w To f Q b To' Li h' (k + Ry.cells) (n + Ry.slots) pc' L (v.toList ++ rest)) : Run C Z R w To f Q b Ts Li h k n pc L S := by
  subst hp hs
  intro T vm0 locs P
  obtain ⟨cB, kB, q1, q2, q3⟩ := isOf (T := T) (s := C.s.setVm vm0) P.2.1 P.2.2.1 E
  cases w with
  | false =>
    obtain ⟨v, vm₁, ⟨U, ls, ce, sl⟩, -, X', ⟨Lc, ⟨hQ, hF, hE', hI'⟩, l1, c1, s1⟩, st⟩ := P.1.virtualBack H.1 (P.cl H) (mvT (s := C.s.setVm vm0) P.2.1 w1) (mvT (s := C.s.setVm vm0) P.2.1 wd) (hnf vm0 P.2.1) (mvT (s := C.s.setVm vm0) P.2.1 w2) (mvT (s := C.s.setVm vm0) P.2.1 w5) hy (hc.back P.2.1 P.2.2.2.2.1 P.2.2.2.2.2.2.2.2.1 w4 w3 hf hl) q1 q3 (g := mkF C.m pc L (argsL.reverse ++ .ref a :: rest)) rfl (by rw [H.2.2.1]; exact hL) (Steps.refl _) hlen rfl (by show 2 * 0 + _ ≤ _; omega) (H.dec hd) (fun _ _ => ⟨rfl, P.2.2.1, hk, hn⟩)
    obtain ⟨s₂, o, h1, r⟩ := kk v U.heap hQ U vm0 _ (P.afterN X' hF hE' hI' l1 c1 s1 hb)
    exact ⟨s₂, o, st.trans h1, r⟩
  | true =>
    obtain ⟨v, vm₁, ⟨U, ls, ce, sl⟩, -, X', hS', hg, ⟨Lc, ⟨hQ, hF, hE', hI'⟩, l1, c1, s1⟩, st⟩ := P.1.virtualBackS H.1 (P.cl H) (mvT (s := C.s.setVm vm0) P.2.1 w1) (mvT (s := C.s.setVm vm0) P.2.1 wd) (hnf vm0 P.2.1) (mvT (s := C.s.setVm vm0) P.2.1 w2) (mvT (s := C.s.setVm vm0) P.2.1 w5) hy (hc.backS P.2.1 P.2.2.2.2.1 P.2.2.2.2.2.2.2.2.1 w4 w3 hf hl) q1 q3 (g := mkF C.m pc L (argsL.reverse ++ .ref a :: rest)) rfl (by rw [H.2.2.1]; exact hL) (Steps.refl _) hlen rfl (by show 2 * 0 + _ ≤ _; omega) (H.dec hd) (fun _ _ => ⟨rfl, P.2.2.1, hk, hn⟩)
    obtain ⟨s₂, o, h1, r⟩ := kk v U.heap hQ U U.vm _ (P.afterS X' hS' hg hF hE' hI' l1 c1 s1 hb)
    exact ⟨s₂, o, st.trans h1, r⟩
theorem nf_sel {vmS : State} {CC : String} {y : MethodName} (w2 : (Cond.selects CC y y).before a0 Z = true) : ∀ vm0, Z.Warmed39 vm0 → NotFace (vmS.setVm vm0) y := fun vm0 hZ => notFace_of_selects (args := #[]) (mvT (s := vmS.setVm vm0) hZ w2)
theorem nf_sup {vmS : State} {y : MethodName} {SC : String} (w2 : (Cond.superclass y.cls SC).before a0 Z = true) : ∀ vm0, Z.Warmed39 vm0 → NotFace (vmS.setVm vm0) y := fun vm0 hZ => nf_super (args := #[]) (mvT (s := vmS.setVm vm0) hZ w2)
theorem sel_self {s : State} {args : Array Value} {CS : String} {y : MethodName} (w5 : (Cond.selects CS y y).before args s = true) (hp : s.PrivateAt y) (w2 : (Cond.instanceMethod y).before args s = true) (hy : y.cls ≠ "java/lang/invoke/MethodHandle" ∧ y.cls ≠ "java/lang/invoke/VarHandle") : (Cond.selects y.cls y y).before args s = true := by
  obtain ⟨c, r, m, -, -, hn, -, kk, hk, hni⟩ := Cond.selects_spec w5
  exact selects_self_of_private (findClass_of_methodNamed hn) hk hni hp w2 hy
theorem r_private (H : Stn C Z own by_ mL rt nm q) (pc' : Nat) {idx : Nat} {y : MethodName} {yb : ByteArray} {ymL : Nat} {yrt : Option FieldType} {Ry : Room} {To' : List String} {f' : Nat} {Qy : Option Value → Heap → Prop} {CC CS : String} {a : Addr} {argsL rest : List Value} {W : Nat} (hd : decode by_ pc = .ok (.invokevirtual idx, 3)) (w1 : (Cond.methodLink own idx y).before a0 Z = true) (w2 : (Cond.instanceMethod y).before a0 Z = true) (w5 : (Cond.selects CS y y).before a0 Z = true) (w6 : (Cond.privateMethod y).before a0 Z = true) (w3 : (Cond.initialized y.cls).before a0 Z = true) (w4 : (Cond.code y yb ymL yrt).before a0 Z = true) (hy : y.cls ≠ "java/lang/invoke/MethodHandle" ∧ y.cls ≠ "java/lang/invoke/VarHandle") (E : Exa Z h a CC) (hlen : ∀ sig, parseMethodDescriptor y.desc = some sig → argsL.length = sig.parameters.length) (hc : Con w [] Z y yb ymL yrt Ry Ts To' f' (.ref a :: argsL).toArray h Qy) (hs : S = argsL.reverse ++ .ref a :: rest) (hW : (rest.map fun v => v.category).sum ≤ W) (hL : L.size = mL) (hf : Ry.frames + 1 ≤ R.frames) (hl : W + (ymL + 11) + Ry.locals ≤ R.locals) (hk : k + Ry.cells ≤ R.cells) (hn : n + Ry.slots ≤ R.slots) (hb : b ≤ f') (hp : pc' = pc + 3) (kk : ∀ v h', Qy v h' → Run C Z R w To f Q b To' Li h' (k + Ry.cells) (n + Ry.slots) pc' L (v.toList ++ rest)) : Run C Z R w To f Q b Ts Li h k n pc L S := by
  subst hp hs
  intro T vm0 locs P
  obtain ⟨cq, q1, q2⟩ := E.cell
  cases w with
  | false =>
    obtain ⟨v, vm₁, ⟨U, ls, ce, sl⟩, -, X', ⟨Lc, ⟨hQ, hF, hE', hI'⟩, l1, c1, s1⟩, st⟩ := P.1.privateBack H.1 (P.cl H) (mvT (s := C.s.setVm vm0) P.2.1 w1) (mvT (s := C.s.setVm vm0) P.2.1 w2) (sel_self (mvT (s := C.s.setVm vm0) P.2.1 w5) (Cond.privateMethod_at (mvP (s := C.s.setVm vm0) P.2.1 w6 (args := #[]))) (mvT (s := C.s.setVm vm0) P.2.1 w2) hy) (Cond.privateMethod_at (mvP (s := C.s.setVm vm0) P.2.1 w6 (args := #[]))) (mvT (s := C.s.setVm vm0) P.2.1 w4) hy (hc.back P.2.1 P.2.2.2.2.1 P.2.2.2.2.2.2.2.2.1 w4 w3 hf hl) (g := mkF C.m pc L (argsL.reverse ++ .ref a :: rest)) rfl (by rw [H.2.2.1]; exact hL) (Steps.refl _) (a := a) (by rw [P.2.2.1]; exact q1) q2 hlen rfl (by show 2 * 0 + _ ≤ _; omega) (H.dec hd) (fun _ _ => ⟨rfl, P.2.2.1, hk, hn⟩)
    obtain ⟨s₂, o, h1, r⟩ := kk v U.heap hQ U vm0 _ (P.afterN X' hF hE' hI' l1 c1 s1 hb)
    exact ⟨s₂, o, st.trans h1, r⟩
  | true =>
    obtain ⟨v, vm₁, ⟨U, ls, ce, sl⟩, -, X', hS', hg, ⟨Lc, ⟨hQ, hF, hE', hI'⟩, l1, c1, s1⟩, st⟩ := P.1.privateBackS H.1 (P.cl H) (mvT (s := C.s.setVm vm0) P.2.1 w1) (mvT (s := C.s.setVm vm0) P.2.1 w2) (sel_self (mvT (s := C.s.setVm vm0) P.2.1 w5) (Cond.privateMethod_at (mvP (s := C.s.setVm vm0) P.2.1 w6 (args := #[]))) (mvT (s := C.s.setVm vm0) P.2.1 w2) hy) (Cond.privateMethod_at (mvP (s := C.s.setVm vm0) P.2.1 w6 (args := #[]))) (mvT (s := C.s.setVm vm0) P.2.1 w4) hy (hc.backS P.2.1 P.2.2.2.2.1 P.2.2.2.2.2.2.2.2.1 w4 w3 hf hl) (g := mkF C.m pc L (argsL.reverse ++ .ref a :: rest)) rfl (by rw [H.2.2.1]; exact hL) (Steps.refl _) (a := a) (by rw [P.2.2.1]; exact q1) q2 hlen rfl (by show 2 * 0 + _ ≤ _; omega) (H.dec hd) (fun _ _ => ⟨rfl, P.2.2.1, hk, hn⟩)
    obtain ⟨s₂, o, h1, r⟩ := kk v U.heap hQ U U.vm _ (P.afterS X' hS' hg hF hE' hI' l1 c1 s1 hb)
    exact ⟨s₂, o, st.trans h1, r⟩
theorem r_super (H : Stn C Z own by_ mL rt nm q) (pc' : Nat) {idx : Nat} {y : MethodName} {yb : ByteArray} {ymL : Nat} {yrt : Option FieldType} {Ry : Room} {To' : List String} {f' : Nat} {Qy : Option Value → Heap → Prop} {K : String} {a : Addr} {argsL rest : List Value} {W : Nat} (hd : decode by_ pc = .ok (.invokespecial idx, 3)) (w1 : (Cond.methodLink own idx y).before a0 Z = true) (w2 : (Cond.sameMethod y.cls y.cls y.name y.desc).before a0 Z = true) (w5 : (Cond.instanceMethod y).before a0 Z = true) (w6 : (Cond.superclass own y.cls).before a0 Z = true) (w3 : (Cond.initialized y.cls).before a0 Z = true) (w4 : (Cond.code y yb ymL yrt).before a0 Z = true) (hyn : y.name ≠ "<init>") (E : Ins Z h a K true) (hlen : ∀ sig, parseMethodDescriptor y.desc = some sig → argsL.length = sig.parameters.length) (hc : Con w [] Z y yb ymL yrt Ry Ts To' f' (.ref a :: argsL).toArray h Qy) (hs : S = argsL.reverse ++ .ref a :: rest) (hW : (rest.map fun v => v.category).sum ≤ W) (hL : L.size = mL) (hf : Ry.frames + 1 ≤ R.frames) (hl : W + (ymL + 11) + Ry.locals ≤ R.locals) (hk : k + Ry.cells ≤ R.cells) (hn : n + Ry.slots ≤ R.slots) (hb : b ≤ f') (hp : pc' = pc + 3) (kk : ∀ v h', Qy v h' → Run C Z R w To f Q b To' Li h' (k + Ry.cells) (n + Ry.slots) pc' L (v.toList ++ rest)) : Run C Z R w To f Q b Ts Li h k n pc L S := by
  subst hp hs
  intro T vm0 locs P
  cases w with
  | false =>
    obtain ⟨v, vm₁, ⟨U, ls, ce, sl⟩, -, X', ⟨Lc, ⟨hQ, hF, hE', hI'⟩, l1, c1, s1⟩, st⟩ := superBack P.1 H.1 P.2.1 (P.cl H) w1 w2 w5 w6 hyn (hc.back P.2.1 P.2.2.2.2.1 P.2.2.2.2.2.2.2.2.1 w4 w3 hf hl) P.2.2.1 E (g := mkF C.m pc L (argsL.reverse ++ .ref a :: rest)) rfl (by rw [H.2.2.1]; exact hL) w4 hlen rfl (by show 2 * 0 + _ ≤ _; omega) (H.dec hd) (fun _ _ => ⟨rfl, P.2.2.1, hk, hn⟩)
    obtain ⟨s₂, o, h1, r⟩ := kk v U.heap hQ U vm0 _ (P.afterN X' hF hE' hI' l1 c1 s1 hb)
    exact ⟨s₂, o, st.trans h1, r⟩
  | true =>
    obtain ⟨v, vm₁, ⟨U, ls, ce, sl⟩, -, X', hS', hg, ⟨Lc, ⟨hQ, hF, hE', hI'⟩, l1, c1, s1⟩, st⟩ := superBackS P.1 H.1 P.2.1 (P.cl H) w1 w2 w5 w6 hyn (hc.backS P.2.1 P.2.2.2.2.1 P.2.2.2.2.2.2.2.2.1 w4 w3 hf hl) P.2.2.1 E (g := mkF C.m pc L (argsL.reverse ++ .ref a :: rest)) rfl (by rw [H.2.2.1]; exact hL) w4 hlen rfl (by show 2 * 0 + _ ≤ _; omega) (H.dec hd) (fun _ _ => ⟨rfl, P.2.2.1, hk, hn⟩)
    obtain ⟨s₂, o, h1, r⟩ := kk v U.heap hQ U U.vm _ (P.afterS X' hS' hg hF hE' hI' l1 c1 s1 hb)
    exact ⟨s₂, o, st.trans h1, r⟩
theorem r_ldcS (H : Stn C Z own by_ mL rt nm b) (pc' : Nat) {idx : Nat} {text : String} {vs : List Value} {z : Int32} (ns : Nat) (hd : decode by_ pc = .ok (.ldc idx, 2)) (w1 : (Cond.stringLink own idx text).before a0 Z = true) (wS : ∀ a ∈ Bundle.stringAtoms, a.before a0 Z = true) (hnot : text ∉ Ts) (hh : Jvm.Lit.constHeld Z own idx) (hcw : Jvm.Lit.compactW.before a0 Z = true)
    (ht : (∀ c ∈ text.toList, c.toNat < 256) ∧ text.toList.map (fun c => Value.int (Jvm.Lit.byteI c.toNat.toUInt16)) = vs) (hz : ¬ z < 0) (hl : z.toNatClampNeg = vs.length) (hns : 4 * text.toList.length ≤ ns) (hbig : ns ≤ 536870912) (hc : k + 2 ≤ R.cells) (hsl : n + (ns + 4) ≤ R.slots) (hp : pc' = pc + 2)
    (kk : ∀ h' a v kc, Keep h h' [] → Exa Z h' a "java/lang/String" → Fld Z h' a "java/lang/String" "coder" "B" (.int 0) → Fld Z h' a "java/lang/String" "value" "[B" (.ref v) → Ar Z h' v kc .byte vs → ((a < b ∧ v < b) ∨ (h.size ≤ a ∧ h.size ≤ v)) → Run C Z R true To f Q b (text :: Ts) [(own, idx, a)] h' (k + 2) (n + (ns + 4)) pc' L (.ref a :: S)) : Run C Z R true To f Q b Ts Li h k n pc L S := by
  subst hp
  intro T vm0 locs P
  obtain ⟨X, hZ, eT, hS, hI, hw, N, hzz, hE, hq, hL⟩ := P
  obtain ⟨a, T', h', k1, v, kc, X', e', E, hS', hk1, hW', ho', x1, x2, x3, x4, x5, x6, hI', hLit, hwh, st⟩ := ldcSVd X H.1 hZ (H.cl hS) w1 wS eT hS (Nat.le_refl _) (by rw [H.2.2.2.2.2.2.1]; exact N) (fun bb cl r => H.2.2.2.2.2.2.2.1.2 bb cl r) hI hnot hh hcw ht hz hl (g := mkF C.m pc L S) rfl (H.dec hd) hns hbig hc hsl
  subst e'
  obtain ⟨s₂, o, h1, r⟩ := kk T'.heap a v kc (Keep.of_ext E) x1 x2 x3 (Ar.of_arv x4 hl) (by rw [← H.2.2.2.2.2.2.1]; exact hwh) T' T'.vm locs ⟨X', hW', rfl, since_same hS' hk1, hI', fun e => (by cases e), N, hzz, ⟨Nat.le_trans hE.1 E.1, fun x c r => E.2 x c (hE.2 x c r)⟩, Nat.le_trans hq E.1, fun x hx => (by cases List.mem_singleton.mp hx; exact hLit)⟩
  exact ⟨s₂, o, st _ h1, r⟩
theorem r_ldcA (H : Stn C Z own by_ mL rt nm q) (pc' : Nat) {idx : Nat} {text : String} {a : Addr} (hd : decode by_ pc = .ok (.ldc idx, 2)) (w1 : (Cond.stringLink own idx text).before a0 Z = true) (hm : (own, idx, a) ∈ Li) (hp : pc' = pc + 2)
    (kk : Run C Z R w To f Q b Ts Li h k n pc' L (.ref a :: S)) : Run C Z R w To f Q b Ts Li h k n pc L S := by
  subst hp
  exact kk.hold fun T vm0 locs P => ⟨T, P.1, P.2.2.1, ldcAgain P.1 H.1 P.2.1 (P.cl H) w1 (P.2.2.2.2.2.2.2.2.2.2 _ hm) (g := mkF C.m pc L S) rfl (H.dec hd)⟩

theorem r_castN (H : Stn C Z own by_ mL rt nm q) (pc' : Nat) {idx : Nat} (hd : decode by_ pc = .ok (.checkcast idx, 3)) (hp : pc' = pc + 3)
    (kk : Run C Z R w To f Q b Ts Li h k n pc' L (.null :: S)) : Run C Z R w To f Q b Ts Li h k n pc L (.null :: S) := by
  subst hp
  exact kk.one fun T vm0 locs t X kt => X.checkcastNull H.1 (g := mkF C.m pc L (.null :: S)) rfl rfl (H.dec hd) _ kt
theorem r_ldcF (H : Stn C Z own by_ mL rt nm q) (pc' : Nat) {idx : Nat} {v : UInt32} (hd : decode by_ pc = .ok (.ldc idx, 2)) (w1 : (Cond.constantFloat own idx v).before a0 Z = true) (hp : pc' = pc + 2)
    (kk : Run C Z R w To f Q b Ts Li h k n pc' L (.float v :: S)) : Run C Z R w To f Q b Ts Li h k n pc L S := by
  subst hp
  exact kk.hold fun T vm0 locs P => ⟨T, P.1, P.2.2.1, P.1.ldcFloatC H.1 (P.cl H) (mvT (s := C.s.setVm vm0) P.2.1 w1) (g := mkF C.m pc L S) rfl (H.dec hd)⟩
theorem Run.join {P : Int32 → Prop} {pcB : Nat} {LB : Int32 → Array Slot} {SB : Int32 → List Value} (k2 : (∀ z, P z → Run C Z R w To f Q b Ts Li h k n pcB (LB z) (SB z)) → Run C Z R w To f Q b Ts Li h k n pc L S)
    (k1 : ∀ z, P z → Run C Z R w To f Q b Ts Li h k n pcB (LB z) (SB z)) : Run C Z R w To f Q b Ts Li h k n pc L S := k2 k1
end Walk
theorem sto_ar {Z : State} {h : Heap} {a y : Addr} {kc : ClassId} {ty : FieldType} {vs : List Value} {CC : String} (F : Ar Z h a kc ty vs) (O : Ovr Z kc CC) (I : Ins Z h y CC true) : Sto Z h a (.ref y) := by
  obtain ⟨c, A, h1, -⟩ := F
  exact Sto.ofV A h1 O I
theorem ushr_eq (x y : Int32) (k : Nat) (hk : y.toBitVec.toNat % 32 = k) (h0 : 0 < k) : (ush32 x y).toInt = (x.toInt % 4294967296) / (2 ^ k : Nat) := c_iushr x y k hk h0
theorem i2c_id {x : Int32} (h : 0 ≤ x.toInt ∧ x.toInt ≤ 65535) : x.toUInt32.toUInt16.toUInt32.toInt32 = x := by
  apply Int32.toInt_inj.mp; have := c_i2c x; omega
theorem i2b_id {x : Int32} (h : -128 ≤ x.toInt ∧ x.toInt ≤ 127) : x.toInt8.toInt32 = x := by
  apply Int32.toInt_inj.mp; have := c_i2b x; omega
theorem i2s_id {x : Int32} (h : -32768 ≤ x.toInt ∧ x.toInt ≤ 32767) : x.toInt16.toInt32 = x := by
  apply Int32.toInt_inj.mp; have := c_i2s x; omega
theorem and1_id {x : Int32} (h : 0 ≤ x.toInt ∧ x.toInt ≤ 1) : x &&& 1 = x := by
  apply Int32.toInt_inj.mp; have h1 := c_mask x 1 1 (by decide) (by decide); rw [h1]; omega
theorem nar_char_id {x : Int32} (h : 0 ≤ x.toInt ∧ x.toInt ≤ 65535) : nar .char x = x := i2c_id h
theorem nar_byte_id {x : Int32} (h : -128 ≤ x.toInt ∧ x.toInt ≤ 127) : nar .byte x = x := i2b_id h
theorem nar_short_id {x : Int32} (h : -32768 ≤ x.toInt ∧ x.toInt ≤ 32767) : nar .short x = x := i2s_id h
theorem nar_bool_id {x : Int32} (h : 0 ≤ x.toInt ∧ x.toInt ≤ 1) : nar .boolean x = x := and1_id h
theorem narrow_char_id {x : Int32} (h : 0 ≤ x.toInt ∧ x.toInt ≤ 65535) : narrow .char (.int x) = .int x := congrArg Value.int (i2c_id h)
theorem narrow_byte_id {x : Int32} (h : -128 ≤ x.toInt ∧ x.toInt ≤ 127) : narrow .byte (.int x) = .int x := congrArg Value.int (i2b_id h)
theorem narrow_short_id {x : Int32} (h : -32768 ≤ x.toInt ∧ x.toInt ≤ 32767) : narrow .short (.int x) = .int x := congrArg Value.int (i2s_id h)
theorem narrow_bool_id {x : Int32} (h : 0 ≤ x.toInt ∧ x.toInt ≤ 1) : narrow .boolean (.int x) = .int x := congrArg Value.int (and1_id h)
theorem fits_char_id {x : Int32} (h : 0 ≤ x.toInt ∧ x.toInt ≤ 65535) : fits .char (.int x) = true := by have := fits_nar_char x; rwa [nar_char_id h] at this
theorem fits_byte_id {x : Int32} (h : -128 ≤ x.toInt ∧ x.toInt ≤ 127) : fits .byte (.int x) = true := by have := fits_nar_byte x; rwa [i2b_id h] at this
theorem fits_short_id {x : Int32} (h : -32768 ≤ x.toInt ∧ x.toInt ≤ 32767) : fits .short (.int x) = true := by have := fits_nar_short x; rwa [nar_short_id h] at this
theorem fits_bool_id {x : Int32} (h : 0 ≤ x.toInt ∧ x.toInt ≤ 1) : fits .boolean (.int x) = true := by have := fits_nar_bool x; rwa [nar_bool_id h] at this
theorem ne_ar {Z : State} {h : Heap} {a0 : Array Value} {a b : Addr} {CC : String} {k : Nat} {kc : ClassId} {ty : FieldType} {vs : List Value} (E : Exa Z h a CC) (wi : (Cond.instantiable CC k).before a0 Z = true) (F : Ar Z h b kc ty vs) : a ≠ b := by
  obtain ⟨c, A, -⟩ := F; exact ne_arr E wi A
theorem lit_ne {a v u b n : Nat} (D : (a < b ∧ v < b) ∨ (n ≤ a ∧ n ≤ v)) (h1 : b ≤ u) (h2 : u < n) : u ≠ a ∧ u ≠ v := by omega
theorem len32 {n : Nat} (h : n < 2 ^ 31) : n.toInt32.toNatClampNeg = n ∧ ¬ n.toInt32 < 0 := by
  have e := len_toInt h
  refine ⟨by simp only [Int32.toNatClampNeg, e]; rfl, ?_⟩
  rw [Int32.lt_iff_toInt_lt, e]; show ¬ (n : Int) < 0; omega
theorem r_copy {C : Cx} {Z : State} {a0 : Array Value} {own : String} {by_ : ByteArray} {mL : Nat} {rt : Option FieldType} {nm : String} {q : Nat} {R : Room} {w : Bool} {To : List String} {f : Nat} {Q : Option Value → Heap → Prop} {b : Nat} {Ts : List String} {Li : List (String × Nat × Addr)} {h : Heap} {k n pc : Nat} {L : Array Slot} {S : List Value}
    (H : Stn C Z own by_ mL rt nm q) (pc' : Nat) {idx W : Nat} {s d : Addr} {kc kd : ClassId} {ty : FieldType} {vs vd : List Value} {sp dp nn : Int32} (hd : decode by_ pc = .ok (.invokestatic idx, 3)) (w1 : (Cond.methodLink own idx Jvm.Stand.acN).before a0 Z = true) (w2 : (Cond.native Jvm.Stand.acN).before a0 Z = true) (w3 : (Cond.static Jvm.Stand.acN).before a0 Z = true) (w4 : (Cond.initialized "java/lang/System").before a0 Z = true)
    (A : Ar Z h s kc ty vs) (B : Ar Z h d kd ty vd) (hty : refKind ty = false) (h1 : ¬ sp < 0) (h2 : ¬ dp < 0) (h3 : ¬ nn < 0) (h4 : sp.toNatClampNeg + nn.toNatClampNeg ≤ vs.length) (h5 : dp.toNatClampNeg + nn.toNatClampNeg ≤ vd.length) (hb : b ≤ d) (hL : L.size = mL) (hf : 1 ≤ R.frames) (hW : (S.map fun v => v.category).sum ≤ W) (hlo : W + (nativeFrameWords "java/lang/System" "arraycopy" 5 + 11) ≤ R.locals) (hp : pc' = pc + 3)
    (kk : ∀ h', Keep h h' [d] → Ar Z h' d kd ty (vd.take dp.toNatClampNeg ++ (List.range nn.toNatClampNeg).map (fun i => vs.getD (sp.toNatClampNeg + i) (.int 0)) ++ vd.drop (dp.toNatClampNeg + nn.toNatClampNeg)) → Run C Z R w To f Q b Ts Li h' k n pc' L S) : Run C Z R w To f Q b Ts Li h k n pc L (.int nn :: .int dp :: .ref d :: .int sp :: .ref s :: S) := by
  subst hp
  intro T vm0 locs P
  have lA : vs.length < 2 ^ 31 := by obtain ⟨c, -, -, -, r, -⟩ := A; exact r
  have lB : vd.length < 2 ^ 31 := by obtain ⟨c, -, -, -, r, -⟩ := B; exact r
  obtain ⟨eA, nA⟩ := len32 lA
  obtain ⟨eB, nB⟩ := len32 lB
  obtain ⟨T', h', L', X', e', N', K, B', st⟩ := cpA P.1 H.1 P.2.1 (P.cl H) w1 w2 w3 w4 P.2.2.1 (A.arv (dv := .int 0) eA nA) (B.arv (dv := .int 0) eB nB) (Or.inl ⟨rfl, hty⟩) h1 h2 h3 (by rw [eA]; exact h4) (by rw [eB]; exact h5) rfl h5 P.2.2.2.2.2.2.1 hb (g := mkF C.m pc L (.int nn :: .int dp :: .ref d :: .int sp :: .ref s :: S)) rfl (by rw [H.2.2.1]; exact hL) rfl (H.dec hd) hf (W := W) (by show 2 * 0 + _ ≤ _; omega) hlo
  obtain ⟨X, hZ, eT, hS, hI, hw, N, hz, hE, hq, hLi⟩ := P
  have B2 := Ar.of_arv B' (by rw [eB]; simp; omega)
  obtain ⟨s₂, o, g1, r⟩ := kk h' K B2 T' vm0 L' ⟨X', hZ, e', since_same hS K.1, hI, hw, N', hz, (Old.keep (n0 := Z.heap.size) ⟨rfl, hE⟩ K (allS (Nat.le_trans hz hb) all0)).2, Nat.le_trans hq K.1, hLi⟩
  exact ⟨s₂, o, st _ g1, r⟩
theorem len0 {s : State} {args : Array Value} {t : Term} {a : Addr} {c : Cell} {ty : FieldType} (ev : t.eval args s none [] s = some (.ref a)) (A : Arr s s.heap a c ty) (hl : (Cond.eq (.length t) (.int 0)).before args s = true) : c.slots.size = 0 := by
  have hlen := Cond.eq_int hl rfl
  obtain ⟨sd, SA, hev, harrAt, -⟩ := Term.length_spec hlen
  cases ev.symm.trans hev
  have e2 := A.fin (Vm.Alike.refl _)
  cases harrAt.symm.trans e2
  have h31 := SBG.length_lt hev harrAt hlen
  have e : (Term.length t).eval args s none [] s = some (.int (Int32.ofNat c.slots.size)) := by simp [Term.eval, hev, harrAt, h31]
  have h2 : Int32.ofNat c.slots.size = 0 := by simpa using Option.some.inj (e.symm.trans hlen)
  have := congrArg Int32.toInt h2
  rw [Int32.toInt_ofNat_small h31] at this
  have e0 : (0 : Int32).toInt = 0 := by decide
  omega
theorem ar_nil {Z : State} {h : Heap} {a : Addr} {c : Cell} {ty : FieldType} (A : Arr Z h a c ty) (h0 : c.slots.size = 0) : Ar Z h a c.cls ty [] := ⟨c, A, rfl, by rw [Array.size_eq_zero_iff.mp h0], by decide, fun v hv => by cases hv⟩
theorem same_self {Z : State} {a0 : Array Value} {y z z' : MethodName} {CS : String} (wd : (Cond.declares y).before a0 Z = true) (ws : (Cond.selects CS z z').before a0 Z = true) (hz : z'.cls = y.cls) (hy : y.cls ≠ "java/lang/invoke/MethodHandle" ∧ y.cls ≠ "java/lang/invoke/VarHandle") : (Cond.sameMethod y.cls y.cls y.name y.desc).before a0 Z = true := by
  obtain ⟨r0, r, hn, hrm, -, -⟩ := Cond.declares_spec wd
  obtain ⟨c, r2, m, -, -, hn2, -, mk, hk, hni⟩ := Cond.selects_spec ws
  have hf := State.methodFound?_of_named hn hy
  have hc := findClass_of_methodNamed hn
  have hc2 := findClass_of_methodNamed hn2
  rw [hz] at hc2
  have e : r0.cls = m.cls := Option.some.inj (hc.symm.trans hc2)
  have hn' : Z.methodNamed? ⟨y.cls, y.name, y.desc⟩ = some r0 := hn
  rw [← e] at hk
  simp [Cond.before, Cond.holds, Cond.value, hc, hf, hn', hk, hni]
theorem nf_by {Z vmS : State} {a0 : Array Value} {CS : String} {y z z' : MethodName} (ws : (Cond.selects CS z z').before a0 Z = true) (hz : z'.cls = y.cls) : ∀ vm0, Z.Warmed39 vm0 → NotFace (vmS.setVm vm0) y := fun vm0 hZ r0 h0 => by
  obtain ⟨c, r2, m, -, -, hn2, -, mk, hk, hni⟩ := Cond.selects_spec (mvT (s := vmS.setVm vm0) (args := #[]) hZ ws)
  have hc := findClass_of_methodNamed h0
  have hc2 := findClass_of_methodNamed hn2
  rw [hz] at hc2
  have e : r0.cls = m.cls := Option.some.inj (hc.symm.trans hc2)
  exact ⟨mk, by rw [e]; exact hk, hni⟩
abbrev cL8 (c : Int32) : Int32 := (c >>> ((0 : Int32) &&& 31)).toInt8.toInt32
abbrev cH8 (c : Int32) : Int32 := (c >>> ((8 : Int32) &&& 31)).toInt8.toInt32
abbrev cB8 (c : Int32) : Int32 := c.toInt8.toInt32
theorem i2b_ne {x v : Int32} (h : 0 ≤ x.toInt ∧ x.toInt ≤ 255) (hv : 0 ≤ v.toInt ∧ v.toInt ≤ 127) (hn : ¬ x = v) : ¬ x.toInt8.toInt32 = v := fun e => hn (by
  apply Int32.toInt_inj.mp; have := c_i2b x; rw [← e] at hv ⊢; omega)
theorem tw0 {Z : State} {a0 : Array Value} (hw : ∀ d ∈ tables_1, d.before a0 Z = true) : ((Jvm.Cond.methodLink "com/example/steady_fixtures/steadyfixtures/load/TableRowsResourcePinLaw" (7 : Nat) ({ cls := "com/example/steady_fixtures/steadyfixtures/load/TableRowsResourcePinLaw", name := "str", desc := "(I)Ljava/lang/String;" } : Jvm.MethodName))).before a0 Z = true := hw _ (List.mem_of_getElem? (i := 0) rfl)
theorem tw1 {Z : State} {a0 : Array Value} (hw : ∀ d ∈ tables_1, d.before a0 Z = true) : ((Jvm.Cond.static ({ cls := "com/example/steady_fixtures/steadyfixtures/load/TableRowsResourcePinLaw", name := "str", desc := "(I)Ljava/lang/String;" } : Jvm.MethodName))).before a0 Z = true := hw _ (List.mem_of_getElem? (i := 1) rfl)
theorem tw2 {Z : State} {a0 : Array Value} (hw : ∀ d ∈ tables_1, d.before a0 Z = true) : ((Jvm.Cond.initialized "com/example/steady_fixtures/steadyfixtures/load/TableRowsResourcePinLaw")).before a0 Z = true := hw _ (List.mem_of_getElem? (i := 2) rfl)
theorem tw3 {Z : State} {a0 : Array Value} (hw : ∀ d ∈ tables_1, d.before a0 Z = true) : ((Jvm.Cond.code ({ cls := "com/example/steady_fixtures/steadyfixtures/load/TableRowsResourcePinLaw", name := "str", desc := "(I)Ljava/lang/String;" } : Jvm.MethodName) method_3_code (2 : Nat) (Option.some (Jvm.ClassFile.FieldType.object "java/lang/String")))).before a0 Z = true := hw _ (List.mem_of_getElem? (i := 3) rfl)
theorem tw4 {Z : State} {a0 : Array Value} (hw : ∀ d ∈ tables_1, d.before a0 Z = true) : ((Jvm.Cond.arrayClass Jvm.ClassFile.FieldType.char)).before a0 Z = true := hw _ (List.mem_of_getElem? (i := 4) rfl)
theorem tw5 {Z : State} {a0 : Array Value} (hw : ∀ d ∈ tables_1, d.before a0 Z = true) : ((Jvm.Cond.classLink "com/example/steady_fixtures/steadyfixtures/load/TableRowsResourcePinLaw" (13 : Nat) "java/lang/String")).before a0 Z = true := hw _ (List.mem_of_getElem? (i := 5) rfl)
theorem tw6 {Z : State} {a0 : Array Value} (hw : ∀ d ∈ tables_1, d.before a0 Z = true) : ((Jvm.Cond.instantiable "java/lang/String" (4 : Nat))).before a0 Z = true := hw _ (List.mem_of_getElem? (i := 6) rfl)
theorem tw7 {Z : State} {a0 : Array Value} (hw : ∀ d ∈ tables_1, d.before a0 Z = true) : ((Jvm.Cond.initialized "java/lang/String")).before a0 Z = true := hw _ (List.mem_of_getElem? (i := 7) rfl)
theorem tw8 {Z : State} {a0 : Array Value} (hw : ∀ d ∈ tables_1, d.before a0 Z = true) : ((Jvm.Cond.methodLink "com/example/steady_fixtures/steadyfixtures/load/TableRowsResourcePinLaw" (34 : Nat) ({ cls := "java/lang/String", name := "<init>", desc := "([C)V" } : Jvm.MethodName))).before a0 Z = true := hw _ (List.mem_of_getElem? (i := 8) rfl)
theorem tw9 {Z : State} {a0 : Array Value} (hw : ∀ d ∈ tables_1, d.before a0 Z = true) : ((Jvm.Cond.instanceMethod ({ cls := "java/lang/String", name := "<init>", desc := "([C)V" } : Jvm.MethodName))).before a0 Z = true := hw _ (List.mem_of_getElem? (i := 9) rfl)
theorem tw10 {Z : State} {a0 : Array Value} (hw : ∀ d ∈ tables_1, d.before a0 Z = true) : ((Jvm.Cond.code ({ cls := "java/lang/String", name := "<init>", desc := "([C)V" } : Jvm.MethodName) jdk_42_method_3_code (2 : Nat) (Option.none : Option Jvm.ClassFile.FieldType))).before a0 Z = true := hw _ (List.mem_of_getElem? (i := 10) rfl)
theorem tw11 {Z : State} {a0 : Array Value} (hw : ∀ d ∈ tables_1, d.before a0 Z = true) : ((Jvm.Cond.methodLink "java/lang/String" (27 : Nat) ({ cls := "java/lang/String", name := "<init>", desc := "([CIILjava/lang/Void;)V" } : Jvm.MethodName))).before a0 Z = true := hw _ (List.mem_of_getElem? (i := 11) rfl)
theorem tw12 {Z : State} {a0 : Array Value} (hw : ∀ d ∈ tables_1, d.before a0 Z = true) : ((Jvm.Cond.instanceMethod ({ cls := "java/lang/String", name := "<init>", desc := "([CIILjava/lang/Void;)V" } : Jvm.MethodName))).before a0 Z = true := hw _ (List.mem_of_getElem? (i := 12) rfl)
theorem tw14 {Z : State} {a0 : Array Value} (hw : ∀ d ∈ tables_1, d.before a0 Z = true) : ((Jvm.Cond.code ({ cls := "java/lang/String", name := "<init>", desc := "([CIILjava/lang/Void;)V" } : Jvm.MethodName) jdk_42_method_149_code (6 : Nat) (Option.none : Option Jvm.ClassFile.FieldType))).before a0 Z = true := hw _ (List.mem_of_getElem? (i := 14) rfl)
theorem tw15 {Z : State} {a0 : Array Value} (hw : ∀ d ∈ tables_1, d.before a0 Z = true) : ((Jvm.Cond.methodLink "java/lang/String" (1 : Nat) ({ cls := "java/lang/Object", name := "<init>", desc := "()V" } : Jvm.MethodName))).before a0 Z = true := hw _ (List.mem_of_getElem? (i := 15) rfl)
theorem tw16 {Z : State} {a0 : Array Value} (hw : ∀ d ∈ tables_1, d.before a0 Z = true) : ((Jvm.Cond.instanceMethod ({ cls := "java/lang/Object", name := "<init>", desc := "()V" } : Jvm.MethodName))).before a0 Z = true := hw _ (List.mem_of_getElem? (i := 16) rfl)
theorem tw17 {Z : State} {a0 : Array Value} (hw : ∀ d ∈ tables_1, d.before a0 Z = true) : ((Jvm.Cond.code ({ cls := "java/lang/Object", name := "<init>", desc := "()V" } : Jvm.MethodName) object_method_1_code (1 : Nat) (Option.none : Option Jvm.ClassFile.FieldType))).before a0 Z = true := hw _ (List.mem_of_getElem? (i := 17) rfl)
theorem tw18 {Z : State} {a0 : Array Value} (hw : ∀ d ∈ tables_1, d.before a0 Z = true) : ((Jvm.Cond.fieldLink "java/lang/String" (38 : Nat) "java/lang/String" "COMPACT_STRINGS" "Z")).before a0 Z = true := hw _ (List.mem_of_getElem? (i := 18) rfl)
theorem tw19 {Z : State} {a0 : Array Value} (hw : ∀ d ∈ tables_1, d.before a0 Z = true) : ((Jvm.Cond.methodLink "java/lang/String" (177 : Nat) ({ cls := "java/lang/StringUTF16", name := "compress", desc := "([CII)[B" } : Jvm.MethodName))).before a0 Z = true := hw _ (List.mem_of_getElem? (i := 19) rfl)
theorem tw20 {Z : State} {a0 : Array Value} (hw : ∀ d ∈ tables_1, d.before a0 Z = true) : ((Jvm.Cond.static ({ cls := "java/lang/StringUTF16", name := "compress", desc := "([CII)[B" } : Jvm.MethodName))).before a0 Z = true := hw _ (List.mem_of_getElem? (i := 20) rfl)
theorem tw21 {Z : State} {a0 : Array Value} (hw : ∀ d ∈ tables_1, d.before a0 Z = true) : ((Jvm.Cond.initialized "java/lang/StringUTF16")).before a0 Z = true := hw _ (List.mem_of_getElem? (i := 21) rfl)
theorem tw22 {Z : State} {a0 : Array Value} (hw : ∀ d ∈ tables_1, d.before a0 Z = true) : ((Jvm.Cond.code ({ cls := "java/lang/StringUTF16", name := "compress", desc := "([CII)[B" } : Jvm.MethodName) jdk_52_method_16_code (6 : Nat) (Option.some (Jvm.ClassFile.FieldType.array Jvm.ClassFile.FieldType.byte)))).before a0 Z = true := hw _ (List.mem_of_getElem? (i := 22) rfl)
theorem tw23 {Z : State} {a0 : Array Value} (hw : ∀ d ∈ tables_1, d.before a0 Z = true) : ((Jvm.Cond.arrayClass Jvm.ClassFile.FieldType.byte)).before a0 Z = true := hw _ (List.mem_of_getElem? (i := 23) rfl)
theorem tw24 {Z : State} {a0 : Array Value} (hw : ∀ d ∈ tables_1, d.before a0 Z = true) : ((Jvm.Cond.methodLink "java/lang/StringUTF16" (115 : Nat) ({ cls := "java/lang/StringUTF16", name := "compress", desc := "([CI[BII)I" } : Jvm.MethodName))).before a0 Z = true := hw _ (List.mem_of_getElem? (i := 24) rfl)
theorem tw25 {Z : State} {a0 : Array Value} (hw : ∀ d ∈ tables_1, d.before a0 Z = true) : ((Jvm.Cond.static ({ cls := "java/lang/StringUTF16", name := "compress", desc := "([CI[BII)I" } : Jvm.MethodName))).before a0 Z = true := hw _ (List.mem_of_getElem? (i := 25) rfl)
theorem tw26 {Z : State} {a0 : Array Value} (hw : ∀ d ∈ tables_1, d.before a0 Z = true) : ((Jvm.Cond.code ({ cls := "java/lang/StringUTF16", name := "compress", desc := "([CI[BII)I" } : Jvm.MethodName) jdk_52_method_21_code (7 : Nat) (Option.some Jvm.ClassFile.FieldType.int))).before a0 Z = true := hw _ (List.mem_of_getElem? (i := 26) rfl)
theorem tw27 {Z : State} {a0 : Array Value} (hw : ∀ d ∈ tables_1, d.before a0 Z = true) : ((Jvm.Cond.methodLink "java/lang/String" (47 : Nat) ({ cls := "java/lang/StringUTF16", name := "coderFromArrayLen", desc := "([BI)B" } : Jvm.MethodName))).before a0 Z = true := hw _ (List.mem_of_getElem? (i := 27) rfl)
theorem tw28 {Z : State} {a0 : Array Value} (hw : ∀ d ∈ tables_1, d.before a0 Z = true) : ((Jvm.Cond.static ({ cls := "java/lang/StringUTF16", name := "coderFromArrayLen", desc := "([BI)B" } : Jvm.MethodName))).before a0 Z = true := hw _ (List.mem_of_getElem? (i := 28) rfl)
theorem tw29 {Z : State} {a0 : Array Value} (hw : ∀ d ∈ tables_1, d.before a0 Z = true) : ((Jvm.Cond.code ({ cls := "java/lang/StringUTF16", name := "coderFromArrayLen", desc := "([BI)B" } : Jvm.MethodName) jdk_52_method_15_code (2 : Nat) (Option.some Jvm.ClassFile.FieldType.byte))).before a0 Z = true := hw _ (List.mem_of_getElem? (i := 29) rfl)
theorem tw30 {Z : State} {a0 : Array Value} (hw : ∀ d ∈ tables_1, d.before a0 Z = true) : ((Jvm.Cond.fieldLink "java/lang/String" (15 : Nat) "java/lang/String" "coder" "B")).before a0 Z = true := hw _ (List.mem_of_getElem? (i := 30) rfl)
theorem tw31 {Z : State} {a0 : Array Value} (hw : ∀ d ∈ tables_1, d.before a0 Z = true) : ((Jvm.Cond.laysFinal "java/lang/String" "java/lang/String" "coder" "B")).before a0 Z = true := hw _ (List.mem_of_getElem? (i := 31) rfl)
theorem tw32 {Z : State} {a0 : Array Value} (hw : ∀ d ∈ tables_1, d.before a0 Z = true) : ((Jvm.Cond.fieldLink "java/lang/String" (9 : Nat) "java/lang/String" "value" "[B")).before a0 Z = true := hw _ (List.mem_of_getElem? (i := 32) rfl)
theorem tw33 {Z : State} {a0 : Array Value} (hw : ∀ d ∈ tables_1, d.before a0 Z = true) : ((Jvm.Cond.laysFinal "java/lang/String" "java/lang/String" "value" "[B")).before a0 Z = true := hw _ (List.mem_of_getElem? (i := 33) rfl)
theorem tw34 {Z : State} {a0 : Array Value} (hw : ∀ d ∈ tables_1, d.before a0 Z = true) : ((Jvm.Cond.arrayOver (Jvm.ClassFile.FieldType.object "java/lang/String"))).before a0 Z = true := hw _ (List.mem_of_getElem? (i := 34) rfl)
theorem tw35 {Z : State} {a0 : Array Value} (hw : ∀ d ∈ tables_1, d.before a0 Z = true) : ((Jvm.Cond.classLink "com/example/steady_fixtures/steadyfixtures/load/TableRowsResourcePinLaw" (15 : Nat) "com/example/steady_fixtures/steadyfixtures/load/TableRows")).before a0 Z = true := hw _ (List.mem_of_getElem? (i := 35) rfl)
theorem tw36 {Z : State} {a0 : Array Value} (hw : ∀ d ∈ tables_1, d.before a0 Z = true) : ((Jvm.Cond.instantiable "com/example/steady_fixtures/steadyfixtures/load/TableRows" (9 : Nat))).before a0 Z = true := hw _ (List.mem_of_getElem? (i := 36) rfl)
theorem tw37 {Z : State} {a0 : Array Value} (hw : ∀ d ∈ tables_1, d.before a0 Z = true) : ((Jvm.Cond.initialized "com/example/steady_fixtures/steadyfixtures/load/TableRows")).before a0 Z = true := hw _ (List.mem_of_getElem? (i := 37) rfl)
theorem tw38 {Z : State} {a0 : Array Value} (hw : ∀ d ∈ tables_1, d.before a0 Z = true) : ((Jvm.Cond.classLink "com/example/steady_fixtures/steadyfixtures/load/TableRowsResourcePinLaw" (17 : Nat) "java/util/ArrayList")).before a0 Z = true := hw _ (List.mem_of_getElem? (i := 38) rfl)
theorem tw39 {Z : State} {a0 : Array Value} (hw : ∀ d ∈ tables_1, d.before a0 Z = true) : ((Jvm.Cond.instantiable "java/util/ArrayList" (3 : Nat))).before a0 Z = true := hw _ (List.mem_of_getElem? (i := 39) rfl)
theorem tw40 {Z : State} {a0 : Array Value} (hw : ∀ d ∈ tables_1, d.before a0 Z = true) : ((Jvm.Cond.initialized "java/util/ArrayList")).before a0 Z = true := hw _ (List.mem_of_getElem? (i := 40) rfl)
theorem tw41 {Z : State} {a0 : Array Value} (hw : ∀ d ∈ tables_1, d.before a0 Z = true) : ((Jvm.Cond.methodLink "com/example/steady_fixtures/steadyfixtures/load/TableRowsResourcePinLaw" (19 : Nat) ({ cls := "java/util/ArrayList", name := "<init>", desc := "()V" } : Jvm.MethodName))).before a0 Z = true := hw _ (List.mem_of_getElem? (i := 41) rfl)
theorem tw42 {Z : State} {a0 : Array Value} (hw : ∀ d ∈ tables_1, d.before a0 Z = true) : ((Jvm.Cond.instanceMethod ({ cls := "java/util/ArrayList", name := "<init>", desc := "()V" } : Jvm.MethodName))).before a0 Z = true := hw _ (List.mem_of_getElem? (i := 42) rfl)
theorem tw43 {Z : State} {a0 : Array Value} (hw : ∀ d ∈ tables_1, d.before a0 Z = true) : ((Jvm.Cond.code ({ cls := "java/util/ArrayList", name := "<init>", desc := "()V" } : Jvm.MethodName) jdk_38_method_2_code (1 : Nat) (Option.none : Option Jvm.ClassFile.FieldType))).before a0 Z = true := hw _ (List.mem_of_getElem? (i := 43) rfl)
theorem tw44 {Z : State} {a0 : Array Value} (hw : ∀ d ∈ tables_1, d.before a0 Z = true) : ((Jvm.Cond.methodLink "java/util/ArrayList" (1 : Nat) ({ cls := "java/util/AbstractList", name := "<init>", desc := "()V" } : Jvm.MethodName))).before a0 Z = true := hw _ (List.mem_of_getElem? (i := 44) rfl)
theorem tw45 {Z : State} {a0 : Array Value} (hw : ∀ d ∈ tables_1, d.before a0 Z = true) : ((Jvm.Cond.instanceMethod ({ cls := "java/util/AbstractList", name := "<init>", desc := "()V" } : Jvm.MethodName))).before a0 Z = true := hw _ (List.mem_of_getElem? (i := 45) rfl)
theorem tw48 {Z : State} {a0 : Array Value} (hw : ∀ d ∈ tables_1, d.before a0 Z = true) : ((Jvm.Cond.initialized "java/util/AbstractList")).before a0 Z = true := hw _ (List.mem_of_getElem? (i := 48) rfl)
theorem tw49 {Z : State} {a0 : Array Value} (hw : ∀ d ∈ tables_1, d.before a0 Z = true) : ((Jvm.Cond.code ({ cls := "java/util/AbstractList", name := "<init>", desc := "()V" } : Jvm.MethodName) jdk_39_method_1_code (1 : Nat) (Option.none : Option Jvm.ClassFile.FieldType))).before a0 Z = true := hw _ (List.mem_of_getElem? (i := 49) rfl)
theorem tw50 {Z : State} {a0 : Array Value} (hw : ∀ d ∈ tables_1, d.before a0 Z = true) : ((Jvm.Cond.methodLink "java/util/AbstractList" (1 : Nat) ({ cls := "java/util/AbstractCollection", name := "<init>", desc := "()V" } : Jvm.MethodName))).before a0 Z = true := hw _ (List.mem_of_getElem? (i := 50) rfl)
theorem tw51 {Z : State} {a0 : Array Value} (hw : ∀ d ∈ tables_1, d.before a0 Z = true) : ((Jvm.Cond.instanceMethod ({ cls := "java/util/AbstractCollection", name := "<init>", desc := "()V" } : Jvm.MethodName))).before a0 Z = true := hw _ (List.mem_of_getElem? (i := 51) rfl)
theorem tw54 {Z : State} {a0 : Array Value} (hw : ∀ d ∈ tables_1, d.before a0 Z = true) : ((Jvm.Cond.initialized "java/util/AbstractCollection")).before a0 Z = true := hw _ (List.mem_of_getElem? (i := 54) rfl)
theorem tw55 {Z : State} {a0 : Array Value} (hw : ∀ d ∈ tables_1, d.before a0 Z = true) : ((Jvm.Cond.code ({ cls := "java/util/AbstractCollection", name := "<init>", desc := "()V" } : Jvm.MethodName) jdk_22_method_1_code (1 : Nat) (Option.none : Option Jvm.ClassFile.FieldType))).before a0 Z = true := hw _ (List.mem_of_getElem? (i := 55) rfl)
theorem tw56 {Z : State} {a0 : Array Value} (hw : ∀ d ∈ tables_1, d.before a0 Z = true) : ((Jvm.Cond.methodLink "java/util/AbstractCollection" (1 : Nat) ({ cls := "java/lang/Object", name := "<init>", desc := "()V" } : Jvm.MethodName))).before a0 Z = true := hw _ (List.mem_of_getElem? (i := 56) rfl)
theorem tw57 {Z : State} {a0 : Array Value} (hw : ∀ d ∈ tables_1, d.before a0 Z = true) : ((Jvm.Cond.fieldLink "java/util/AbstractList" (7 : Nat) "java/util/AbstractList" "modCount" "I")).before a0 Z = true := hw _ (List.mem_of_getElem? (i := 57) rfl)
theorem tw58 {Z : State} {a0 : Array Value} (hw : ∀ d ∈ tables_1, d.before a0 Z = true) : ((Jvm.Cond.lays "java/util/ArrayList" "java/util/AbstractList" "modCount" "I")).before a0 Z = true := hw _ (List.mem_of_getElem? (i := 58) rfl)
theorem tw59 {Z : State} {a0 : Array Value} (hw : ∀ d ∈ tables_1, d.before a0 Z = true) : ((Jvm.Cond.fieldLink "java/util/ArrayList" (39 : Nat) "java/util/ArrayList" "DEFAULTCAPACITY_EMPTY_ELEMENTDATA" "[Ljava/lang/Object;")).before a0 Z = true := hw _ (List.mem_of_getElem? (i := 59) rfl)
theorem tw60 {Z : State} {a0 : Array Value} (hw : ∀ d ∈ tables_1, d.before a0 Z = true) : ((Jvm.Cond.fieldLink "java/util/ArrayList" (9 : Nat) "java/util/ArrayList" "elementData" "[Ljava/lang/Object;")).before a0 Z = true := hw _ (List.mem_of_getElem? (i := 60) rfl)
theorem tw61 {Z : State} {a0 : Array Value} (hw : ∀ d ∈ tables_1, d.before a0 Z = true) : ((Jvm.Cond.lays "java/util/ArrayList" "java/util/ArrayList" "elementData" "[Ljava/lang/Object;")).before a0 Z = true := hw _ (List.mem_of_getElem? (i := 61) rfl)
theorem tw62 {Z : State} {a0 : Array Value} (hw : ∀ d ∈ tables_1, d.before a0 Z = true) : ((Jvm.Cond.methodLink "com/example/steady_fixtures/steadyfixtures/load/TableRowsResourcePinLaw" (20 : Nat) ({ cls := "com/example/steady_fixtures/steadyfixtures/load/TableRows", name := "<init>", desc := "(Lcom/example/steady_fixtures/steadyfixtures/schema/Table;Ljava/util/List;)V" } : Jvm.MethodName))).before a0 Z = true := hw _ (List.mem_of_getElem? (i := 62) rfl)
theorem tw63 {Z : State} {a0 : Array Value} (hw : ∀ d ∈ tables_1, d.before a0 Z = true) : ((Jvm.Cond.instanceMethod ({ cls := "com/example/steady_fixtures/steadyfixtures/load/TableRows", name := "<init>", desc := "(Lcom/example/steady_fixtures/steadyfixtures/schema/Table;Ljava/util/List;)V" } : Jvm.MethodName))).before a0 Z = true := hw _ (List.mem_of_getElem? (i := 63) rfl)
theorem tw64 {Z : State} {a0 : Array Value} (hw : ∀ d ∈ tables_1, d.before a0 Z = true) : ((Jvm.Cond.code ({ cls := "com/example/steady_fixtures/steadyfixtures/load/TableRows", name := "<init>", desc := "(Lcom/example/steady_fixtures/steadyfixtures/schema/Table;Ljava/util/List;)V" } : Jvm.MethodName) prog_21_method_2_code (3 : Nat) (Option.none : Option Jvm.ClassFile.FieldType))).before a0 Z = true := hw _ (List.mem_of_getElem? (i := 64) rfl)
theorem tw65 {Z : State} {a0 : Array Value} (hw : ∀ d ∈ tables_1, d.before a0 Z = true) : ((Jvm.Cond.methodLink "com/example/steady_fixtures/steadyfixtures/load/TableRows" (12 : Nat) ({ cls := "java/lang/Object", name := "<init>", desc := "()V" } : Jvm.MethodName))).before a0 Z = true := hw _ (List.mem_of_getElem? (i := 65) rfl)
theorem tw66 {Z : State} {a0 : Array Value} (hw : ∀ d ∈ tables_1, d.before a0 Z = true) : ((Jvm.Cond.classLink "com/example/steady_fixtures/steadyfixtures/load/TableRows" (15 : Nat) "java/util/HashMap")).before a0 Z = true := hw _ (List.mem_of_getElem? (i := 66) rfl)
theorem tw67 {Z : State} {a0 : Array Value} (hw : ∀ d ∈ tables_1, d.before a0 Z = true) : ((Jvm.Cond.instantiable "java/util/HashMap" (8 : Nat))).before a0 Z = true := hw _ (List.mem_of_getElem? (i := 67) rfl)
theorem tw68 {Z : State} {a0 : Array Value} (hw : ∀ d ∈ tables_1, d.before a0 Z = true) : ((Jvm.Cond.initialized "java/util/HashMap")).before a0 Z = true := hw _ (List.mem_of_getElem? (i := 68) rfl)
theorem tw69 {Z : State} {a0 : Array Value} (hw : ∀ d ∈ tables_1, d.before a0 Z = true) : ((Jvm.Cond.methodLink "com/example/steady_fixtures/steadyfixtures/load/TableRows" (17 : Nat) ({ cls := "java/util/HashMap", name := "<init>", desc := "()V" } : Jvm.MethodName))).before a0 Z = true := hw _ (List.mem_of_getElem? (i := 69) rfl)
theorem tw70 {Z : State} {a0 : Array Value} (hw : ∀ d ∈ tables_1, d.before a0 Z = true) : ((Jvm.Cond.instanceMethod ({ cls := "java/util/HashMap", name := "<init>", desc := "()V" } : Jvm.MethodName))).before a0 Z = true := hw _ (List.mem_of_getElem? (i := 70) rfl)
theorem tw71 {Z : State} {a0 : Array Value} (hw : ∀ d ∈ tables_1, d.before a0 Z = true) : ((Jvm.Cond.code ({ cls := "java/util/HashMap", name := "<init>", desc := "()V" } : Jvm.MethodName) jdk_69_method_7_code (1 : Nat) (Option.none : Option Jvm.ClassFile.FieldType))).before a0 Z = true := hw _ (List.mem_of_getElem? (i := 71) rfl)
theorem tw72 {Z : State} {a0 : Array Value} (hw : ∀ d ∈ tables_1, d.before a0 Z = true) : ((Jvm.Cond.methodLink "java/util/HashMap" (43 : Nat) ({ cls := "java/util/AbstractMap", name := "<init>", desc := "()V" } : Jvm.MethodName))).before a0 Z = true := hw _ (List.mem_of_getElem? (i := 72) rfl)
theorem tw73 {Z : State} {a0 : Array Value} (hw : ∀ d ∈ tables_1, d.before a0 Z = true) : ((Jvm.Cond.instanceMethod ({ cls := "java/util/AbstractMap", name := "<init>", desc := "()V" } : Jvm.MethodName))).before a0 Z = true := hw _ (List.mem_of_getElem? (i := 73) rfl)
theorem tw76 {Z : State} {a0 : Array Value} (hw : ∀ d ∈ tables_1, d.before a0 Z = true) : ((Jvm.Cond.initialized "java/util/AbstractMap")).before a0 Z = true := hw _ (List.mem_of_getElem? (i := 76) rfl)
theorem tw77 {Z : State} {a0 : Array Value} (hw : ∀ d ∈ tables_1, d.before a0 Z = true) : ((Jvm.Cond.code ({ cls := "java/util/AbstractMap", name := "<init>", desc := "()V" } : Jvm.MethodName) jdk_71_method_1_code (1 : Nat) (Option.none : Option Jvm.ClassFile.FieldType))).before a0 Z = true := hw _ (List.mem_of_getElem? (i := 77) rfl)
theorem tw78 {Z : State} {a0 : Array Value} (hw : ∀ d ∈ tables_1, d.before a0 Z = true) : ((Jvm.Cond.methodLink "java/util/AbstractMap" (1 : Nat) ({ cls := "java/lang/Object", name := "<init>", desc := "()V" } : Jvm.MethodName))).before a0 Z = true := hw _ (List.mem_of_getElem? (i := 78) rfl)
theorem tw79 {Z : State} {a0 : Array Value} (hw : ∀ d ∈ tables_1, d.before a0 Z = true) : ((Jvm.Cond.constantFloat "java/util/HashMap" (92 : Nat) (1061158912 : UInt32))).before a0 Z = true := hw _ (List.mem_of_getElem? (i := 79) rfl)
theorem tw80 {Z : State} {a0 : Array Value} (hw : ∀ d ∈ tables_1, d.before a0 Z = true) : ((Jvm.Cond.fieldLink "java/util/HashMap" (81 : Nat) "java/util/HashMap" "loadFactor" "F")).before a0 Z = true := hw _ (List.mem_of_getElem? (i := 80) rfl)
theorem tw81 {Z : State} {a0 : Array Value} (hw : ∀ d ∈ tables_1, d.before a0 Z = true) : ((Jvm.Cond.laysFinal "java/util/HashMap" "java/util/HashMap" "loadFactor" "F")).before a0 Z = true := hw _ (List.mem_of_getElem? (i := 81) rfl)
theorem tw82 {Z : State} {a0 : Array Value} (hw : ∀ d ∈ tables_1, d.before a0 Z = true) : ((Jvm.Cond.fieldLink "com/example/steady_fixtures/steadyfixtures/load/TableRows" (18 : Nat) "com/example/steady_fixtures/steadyfixtures/load/TableRows" "positionOf" "Ljava/util/Map;")).before a0 Z = true := hw _ (List.mem_of_getElem? (i := 82) rfl)
theorem tw83 {Z : State} {a0 : Array Value} (hw : ∀ d ∈ tables_1, d.before a0 Z = true) : ((Jvm.Cond.laysFinal "com/example/steady_fixtures/steadyfixtures/load/TableRows" "com/example/steady_fixtures/steadyfixtures/load/TableRows" "positionOf" "Ljava/util/Map;")).before a0 Z = true := hw _ (List.mem_of_getElem? (i := 83) rfl)
theorem tw84 {Z : State} {a0 : Array Value} (hw : ∀ d ∈ tables_1, d.before a0 Z = true) : ((Jvm.Cond.classLink "com/example/steady_fixtures/steadyfixtures/load/TableRows" (22 : Nat) "java/lang/String")).before a0 Z = true := hw _ (List.mem_of_getElem? (i := 84) rfl)
theorem tw85 {Z : State} {a0 : Array Value} (hw : ∀ d ∈ tables_1, d.before a0 Z = true) : ((Jvm.Cond.fieldLink "com/example/steady_fixtures/steadyfixtures/load/TableRows" (24 : Nat) "com/example/steady_fixtures/steadyfixtures/load/TableRows" "lastAttributes" "[Ljava/lang/String;")).before a0 Z = true := hw _ (List.mem_of_getElem? (i := 85) rfl)
theorem tw86 {Z : State} {a0 : Array Value} (hw : ∀ d ∈ tables_1, d.before a0 Z = true) : ((Jvm.Cond.lays "com/example/steady_fixtures/steadyfixtures/load/TableRows" "com/example/steady_fixtures/steadyfixtures/load/TableRows" "lastAttributes" "[Ljava/lang/String;")).before a0 Z = true := hw _ (List.mem_of_getElem? (i := 86) rfl)
theorem tw87 {Z : State} {a0 : Array Value} (hw : ∀ d ∈ tables_1, d.before a0 Z = true) : ((Jvm.Cond.arrayClass Jvm.ClassFile.FieldType.int)).before a0 Z = true := hw _ (List.mem_of_getElem? (i := 87) rfl)
theorem tw88 {Z : State} {a0 : Array Value} (hw : ∀ d ∈ tables_1, d.before a0 Z = true) : ((Jvm.Cond.fieldLink "com/example/steady_fixtures/steadyfixtures/load/TableRows" (28 : Nat) "com/example/steady_fixtures/steadyfixtures/load/TableRows" "lastPositions" "[I")).before a0 Z = true := hw _ (List.mem_of_getElem? (i := 88) rfl)
theorem tw89 {Z : State} {a0 : Array Value} (hw : ∀ d ∈ tables_1, d.before a0 Z = true) : ((Jvm.Cond.lays "com/example/steady_fixtures/steadyfixtures/load/TableRows" "com/example/steady_fixtures/steadyfixtures/load/TableRows" "lastPositions" "[I")).before a0 Z = true := hw _ (List.mem_of_getElem? (i := 89) rfl)
theorem tw90 {Z : State} {a0 : Array Value} (hw : ∀ d ∈ tables_1, d.before a0 Z = true) : ((Jvm.Cond.classLink "com/example/steady_fixtures/steadyfixtures/load/TableRows" (1 : Nat) "java/util/ArrayList")).before a0 Z = true := hw _ (List.mem_of_getElem? (i := 90) rfl)
theorem tw91 {Z : State} {a0 : Array Value} (hw : ∀ d ∈ tables_1, d.before a0 Z = true) : ((Jvm.Cond.methodLink "com/example/steady_fixtures/steadyfixtures/load/TableRows" (3 : Nat) ({ cls := "java/util/ArrayList", name := "<init>", desc := "()V" } : Jvm.MethodName))).before a0 Z = true := hw _ (List.mem_of_getElem? (i := 91) rfl)
theorem tw92 {Z : State} {a0 : Array Value} (hw : ∀ d ∈ tables_1, d.before a0 Z = true) : ((Jvm.Cond.fieldLink "com/example/steady_fixtures/steadyfixtures/load/TableRows" (32 : Nat) "com/example/steady_fixtures/steadyfixtures/load/TableRows" "rows" "Ljava/util/ArrayList;")).before a0 Z = true := hw _ (List.mem_of_getElem? (i := 92) rfl)
theorem tw93 {Z : State} {a0 : Array Value} (hw : ∀ d ∈ tables_1, d.before a0 Z = true) : ((Jvm.Cond.laysFinal "com/example/steady_fixtures/steadyfixtures/load/TableRows" "com/example/steady_fixtures/steadyfixtures/load/TableRows" "rows" "Ljava/util/ArrayList;")).before a0 Z = true := hw _ (List.mem_of_getElem? (i := 93) rfl)
theorem tw94 {Z : State} {a0 : Array Value} (hw : ∀ d ∈ tables_1, d.before a0 Z = true) : ((Jvm.Cond.fieldLink "com/example/steady_fixtures/steadyfixtures/load/TableRows" (36 : Nat) "com/example/steady_fixtures/steadyfixtures/load/TableRows" "resources" "Ljava/util/ArrayList;")).before a0 Z = true := hw _ (List.mem_of_getElem? (i := 94) rfl)
theorem tw95 {Z : State} {a0 : Array Value} (hw : ∀ d ∈ tables_1, d.before a0 Z = true) : ((Jvm.Cond.laysFinal "com/example/steady_fixtures/steadyfixtures/load/TableRows" "com/example/steady_fixtures/steadyfixtures/load/TableRows" "resources" "Ljava/util/ArrayList;")).before a0 Z = true := hw _ (List.mem_of_getElem? (i := 95) rfl)
theorem tw96 {Z : State} {a0 : Array Value} (hw : ∀ d ∈ tables_1, d.before a0 Z = true) : ((Jvm.Cond.fieldLink "com/example/steady_fixtures/steadyfixtures/load/TableRows" (39 : Nat) "com/example/steady_fixtures/steadyfixtures/load/TableRows" "lines" "[I")).before a0 Z = true := hw _ (List.mem_of_getElem? (i := 96) rfl)
theorem tw97 {Z : State} {a0 : Array Value} (hw : ∀ d ∈ tables_1, d.before a0 Z = true) : ((Jvm.Cond.lays "com/example/steady_fixtures/steadyfixtures/load/TableRows" "com/example/steady_fixtures/steadyfixtures/load/TableRows" "lines" "[I")).before a0 Z = true := hw _ (List.mem_of_getElem? (i := 97) rfl)
theorem tw98 {Z : State} {a0 : Array Value} (hw : ∀ d ∈ tables_1, d.before a0 Z = true) : ((Jvm.Cond.fieldLink "com/example/steady_fixtures/steadyfixtures/load/TableRows" (42 : Nat) "com/example/steady_fixtures/steadyfixtures/load/TableRows" "table" "Lcom/example/steady_fixtures/steadyfixtures/schema/Table;")).before a0 Z = true := hw _ (List.mem_of_getElem? (i := 98) rfl)
theorem tw99 {Z : State} {a0 : Array Value} (hw : ∀ d ∈ tables_1, d.before a0 Z = true) : ((Jvm.Cond.laysFinal "com/example/steady_fixtures/steadyfixtures/load/TableRows" "com/example/steady_fixtures/steadyfixtures/load/TableRows" "table" "Lcom/example/steady_fixtures/steadyfixtures/schema/Table;")).before a0 Z = true := hw _ (List.mem_of_getElem? (i := 99) rfl)
theorem tw100 {Z : State} {a0 : Array Value} (hw : ∀ d ∈ tables_1, d.before a0 Z = true) : ((Jvm.Cond.fieldLink "com/example/steady_fixtures/steadyfixtures/load/TableRows" (46 : Nat) "com/example/steady_fixtures/steadyfixtures/load/TableRows" "columns" "Ljava/util/List;")).before a0 Z = true := hw _ (List.mem_of_getElem? (i := 100) rfl)
theorem tw101 {Z : State} {a0 : Array Value} (hw : ∀ d ∈ tables_1, d.before a0 Z = true) : ((Jvm.Cond.laysFinal "com/example/steady_fixtures/steadyfixtures/load/TableRows" "com/example/steady_fixtures/steadyfixtures/load/TableRows" "columns" "Ljava/util/List;")).before a0 Z = true := hw _ (List.mem_of_getElem? (i := 101) rfl)
theorem tw102 {Z : State} {a0 : Array Value} (hw : ∀ d ∈ tables_1, d.before a0 Z = true) : ((Jvm.Cond.methodLink "com/example/steady_fixtures/steadyfixtures/load/TableRowsResourcePinLaw" (23 : Nat) ({ cls := "com/example/steady_fixtures/steadyfixtures/load/TableRows", name := "add", desc := "([Ljava/lang/String;Ljava/lang/String;I)V" } : Jvm.MethodName))).before a0 Z = true := hw _ (List.mem_of_getElem? (i := 102) rfl)
theorem tw103 {Z : State} {a0 : Array Value} (hw : ∀ d ∈ tables_1, d.before a0 Z = true) : ((Jvm.Cond.declares ({ cls := "com/example/steady_fixtures/steadyfixtures/load/TableRows", name := "add", desc := "([Ljava/lang/String;Ljava/lang/String;I)V" } : Jvm.MethodName))).before a0 Z = true := hw _ (List.mem_of_getElem? (i := 103) rfl)
theorem tw104 {Z : State} {a0 : Array Value} (hw : ∀ d ∈ tables_1, d.before a0 Z = true) : ((Jvm.Cond.instanceMethod ({ cls := "com/example/steady_fixtures/steadyfixtures/load/TableRows", name := "add", desc := "([Ljava/lang/String;Ljava/lang/String;I)V" } : Jvm.MethodName))).before a0 Z = true := hw _ (List.mem_of_getElem? (i := 104) rfl)
theorem tw105 {Z : State} {a0 : Array Value} (hw : ∀ d ∈ tables_1, d.before a0 Z = true) : ((Jvm.Cond.selects "com/example/steady_fixtures/steadyfixtures/load/TableRows" ({ cls := "com/example/steady_fixtures/steadyfixtures/load/TableRows", name := "add", desc := "([Ljava/lang/String;Ljava/lang/String;I)V" } : Jvm.MethodName) ({ cls := "com/example/steady_fixtures/steadyfixtures/load/TableRows", name := "add", desc := "([Ljava/lang/String;Ljava/lang/String;I)V" } : Jvm.MethodName))).before a0 Z = true := hw _ (List.mem_of_getElem? (i := 105) rfl)
theorem tw106 {Z : State} {a0 : Array Value} (hw : ∀ d ∈ tables_1, d.before a0 Z = true) : ((Jvm.Cond.code ({ cls := "com/example/steady_fixtures/steadyfixtures/load/TableRows", name := "add", desc := "([Ljava/lang/String;Ljava/lang/String;I)V" } : Jvm.MethodName) prog_21_method_5_code (4 : Nat) (Option.none : Option Jvm.ClassFile.FieldType))).before a0 Z = true := hw _ (List.mem_of_getElem? (i := 106) rfl)
theorem tw107 {Z : State} {a0 : Array Value} (hw : ∀ d ∈ tables_1, d.before a0 Z = true) : ((Jvm.Cond.methodLink "com/example/steady_fixtures/steadyfixtures/load/TableRows" (115 : Nat) ({ cls := "java/util/ArrayList", name := "size", desc := "()I" } : Jvm.MethodName))).before a0 Z = true := hw _ (List.mem_of_getElem? (i := 107) rfl)
theorem tw108 {Z : State} {a0 : Array Value} (hw : ∀ d ∈ tables_1, d.before a0 Z = true) : ((Jvm.Cond.declares ({ cls := "java/util/ArrayList", name := "size", desc := "()I" } : Jvm.MethodName))).before a0 Z = true := hw _ (List.mem_of_getElem? (i := 108) rfl)
theorem tw109 {Z : State} {a0 : Array Value} (hw : ∀ d ∈ tables_1, d.before a0 Z = true) : ((Jvm.Cond.instanceMethod ({ cls := "java/util/ArrayList", name := "size", desc := "()I" } : Jvm.MethodName))).before a0 Z = true := hw _ (List.mem_of_getElem? (i := 109) rfl)
theorem tw110 {Z : State} {a0 : Array Value} (hw : ∀ d ∈ tables_1, d.before a0 Z = true) : ((Jvm.Cond.selects "java/util/ArrayList" ({ cls := "java/util/ArrayList", name := "size", desc := "()I" } : Jvm.MethodName) ({ cls := "java/util/ArrayList", name := "size", desc := "()I" } : Jvm.MethodName))).before a0 Z = true := hw _ (List.mem_of_getElem? (i := 110) rfl)
theorem tw111 {Z : State} {a0 : Array Value} (hw : ∀ d ∈ tables_1, d.before a0 Z = true) : ((Jvm.Cond.code ({ cls := "java/util/ArrayList", name := "size", desc := "()I" } : Jvm.MethodName) jdk_38_method_8_code (1 : Nat) (Option.some Jvm.ClassFile.FieldType.int))).before a0 Z = true := hw _ (List.mem_of_getElem? (i := 111) rfl)
theorem tw112 {Z : State} {a0 : Array Value} (hw : ∀ d ∈ tables_1, d.before a0 Z = true) : ((Jvm.Cond.fieldLink "java/util/ArrayList" (48 : Nat) "java/util/ArrayList" "size" "I")).before a0 Z = true := hw _ (List.mem_of_getElem? (i := 112) rfl)
theorem tw113 {Z : State} {a0 : Array Value} (hw : ∀ d ∈ tables_1, d.before a0 Z = true) : ((Jvm.Cond.lays "java/util/ArrayList" "java/util/ArrayList" "size" "I")).before a0 Z = true := hw _ (List.mem_of_getElem? (i := 113) rfl)
theorem tw114 {Z : State} {a0 : Array Value} (hw : ∀ d ∈ tables_1, d.before a0 Z = true) : ((Jvm.Cond.methodLink "com/example/steady_fixtures/steadyfixtures/load/TableRows" (122 : Nat) ({ cls := "java/util/ArrayList", name := "add", desc := "(Ljava/lang/Object;)Z" } : Jvm.MethodName))).before a0 Z = true := hw _ (List.mem_of_getElem? (i := 114) rfl)
theorem tw115 {Z : State} {a0 : Array Value} (hw : ∀ d ∈ tables_1, d.before a0 Z = true) : ((Jvm.Cond.declares ({ cls := "java/util/ArrayList", name := "add", desc := "(Ljava/lang/Object;)Z" } : Jvm.MethodName))).before a0 Z = true := hw _ (List.mem_of_getElem? (i := 115) rfl)
theorem tw116 {Z : State} {a0 : Array Value} (hw : ∀ d ∈ tables_1, d.before a0 Z = true) : ((Jvm.Cond.instanceMethod ({ cls := "java/util/ArrayList", name := "add", desc := "(Ljava/lang/Object;)Z" } : Jvm.MethodName))).before a0 Z = true := hw _ (List.mem_of_getElem? (i := 116) rfl)
theorem tw117 {Z : State} {a0 : Array Value} (hw : ∀ d ∈ tables_1, d.before a0 Z = true) : ((Jvm.Cond.selects "java/util/ArrayList" ({ cls := "java/util/ArrayList", name := "add", desc := "(Ljava/lang/Object;)Z" } : Jvm.MethodName) ({ cls := "java/util/ArrayList", name := "add", desc := "(Ljava/lang/Object;)Z" } : Jvm.MethodName))).before a0 Z = true := hw _ (List.mem_of_getElem? (i := 117) rfl)
theorem tw118 {Z : State} {a0 : Array Value} (hw : ∀ d ∈ tables_1, d.before a0 Z = true) : ((Jvm.Cond.code ({ cls := "java/util/ArrayList", name := "add", desc := "(Ljava/lang/Object;)Z" } : Jvm.MethodName) jdk_38_method_25_code (2 : Nat) (Option.some Jvm.ClassFile.FieldType.boolean))).before a0 Z = true := hw _ (List.mem_of_getElem? (i := 118) rfl)
theorem tw119 {Z : State} {a0 : Array Value} (hw : ∀ d ∈ tables_1, d.before a0 Z = true) : ((Jvm.Cond.fieldLink "java/util/ArrayList" (63 : Nat) "java/util/ArrayList" "modCount" "I")).before a0 Z = true := hw _ (List.mem_of_getElem? (i := 119) rfl)
theorem tw120 {Z : State} {a0 : Array Value} (hw : ∀ d ∈ tables_1, d.before a0 Z = true) : ((Jvm.Cond.sameField "java/util/ArrayList" "java/util/AbstractList" "modCount" "I")).before a0 Z = true := hw _ (List.mem_of_getElem? (i := 120) rfl)
theorem tw121 {Z : State} {a0 : Array Value} (hw : ∀ d ∈ tables_1, d.before a0 Z = true) : ((Jvm.Cond.methodLink "java/util/ArrayList" (131 : Nat) ({ cls := "java/util/ArrayList", name := "add", desc := "(Ljava/lang/Object;[Ljava/lang/Object;I)V" } : Jvm.MethodName))).before a0 Z = true := hw _ (List.mem_of_getElem? (i := 121) rfl)
theorem tw122 {Z : State} {a0 : Array Value} (hw : ∀ d ∈ tables_1, d.before a0 Z = true) : ((Jvm.Cond.instanceMethod ({ cls := "java/util/ArrayList", name := "add", desc := "(Ljava/lang/Object;[Ljava/lang/Object;I)V" } : Jvm.MethodName))).before a0 Z = true := hw _ (List.mem_of_getElem? (i := 122) rfl)
theorem tw123 {Z : State} {a0 : Array Value} (hw : ∀ d ∈ tables_1, d.before a0 Z = true) : ((Jvm.Cond.privateMethod ({ cls := "java/util/ArrayList", name := "add", desc := "(Ljava/lang/Object;[Ljava/lang/Object;I)V" } : Jvm.MethodName))).before a0 Z = true := hw _ (List.mem_of_getElem? (i := 123) rfl)
theorem tw124 {Z : State} {a0 : Array Value} (hw : ∀ d ∈ tables_1, d.before a0 Z = true) : ((Jvm.Cond.selects "java/util/ArrayList" ({ cls := "java/util/ArrayList", name := "add", desc := "(Ljava/lang/Object;[Ljava/lang/Object;I)V" } : Jvm.MethodName) ({ cls := "java/util/ArrayList", name := "add", desc := "(Ljava/lang/Object;[Ljava/lang/Object;I)V" } : Jvm.MethodName))).before a0 Z = true := hw _ (List.mem_of_getElem? (i := 124) rfl)
theorem tw125 {Z : State} {a0 : Array Value} (hw : ∀ d ∈ tables_1, d.before a0 Z = true) : ((Jvm.Cond.code ({ cls := "java/util/ArrayList", name := "add", desc := "(Ljava/lang/Object;[Ljava/lang/Object;I)V" } : Jvm.MethodName) jdk_38_method_24_code (4 : Nat) (Option.none : Option Jvm.ClassFile.FieldType))).before a0 Z = true := hw _ (List.mem_of_getElem? (i := 125) rfl)
theorem tw126 {Z : State} {a0 : Array Value} (hw : ∀ d ∈ tables_1, d.before a0 Z = true) : ((Jvm.Cond.methodLink "java/util/ArrayList" (129 : Nat) ({ cls := "java/util/ArrayList", name := "grow", desc := "()[Ljava/lang/Object;" } : Jvm.MethodName))).before a0 Z = true := hw _ (List.mem_of_getElem? (i := 126) rfl)
theorem tw127 {Z : State} {a0 : Array Value} (hw : ∀ d ∈ tables_1, d.before a0 Z = true) : ((Jvm.Cond.instanceMethod ({ cls := "java/util/ArrayList", name := "grow", desc := "()[Ljava/lang/Object;" } : Jvm.MethodName))).before a0 Z = true := hw _ (List.mem_of_getElem? (i := 127) rfl)
theorem tw128 {Z : State} {a0 : Array Value} (hw : ∀ d ∈ tables_1, d.before a0 Z = true) : ((Jvm.Cond.privateMethod ({ cls := "java/util/ArrayList", name := "grow", desc := "()[Ljava/lang/Object;" } : Jvm.MethodName))).before a0 Z = true := hw _ (List.mem_of_getElem? (i := 128) rfl)
theorem tw129 {Z : State} {a0 : Array Value} (hw : ∀ d ∈ tables_1, d.before a0 Z = true) : ((Jvm.Cond.selects "java/util/ArrayList" ({ cls := "java/util/ArrayList", name := "grow", desc := "()[Ljava/lang/Object;" } : Jvm.MethodName) ({ cls := "java/util/ArrayList", name := "grow", desc := "()[Ljava/lang/Object;" } : Jvm.MethodName))).before a0 Z = true := hw _ (List.mem_of_getElem? (i := 129) rfl)
theorem tw130 {Z : State} {a0 : Array Value} (hw : ∀ d ∈ tables_1, d.before a0 Z = true) : ((Jvm.Cond.code ({ cls := "java/util/ArrayList", name := "grow", desc := "()[Ljava/lang/Object;" } : Jvm.MethodName) jdk_38_method_7_code (1 : Nat) (Option.some (Jvm.ClassFile.FieldType.array (Jvm.ClassFile.FieldType.object "java/lang/Object"))))).before a0 Z = true := hw _ (List.mem_of_getElem? (i := 130) rfl)
theorem tw131 {Z : State} {a0 : Array Value} (hw : ∀ d ∈ tables_1, d.before a0 Z = true) : ((Jvm.Cond.methodLink "java/util/ArrayList" (69 : Nat) ({ cls := "java/util/ArrayList", name := "grow", desc := "(I)[Ljava/lang/Object;" } : Jvm.MethodName))).before a0 Z = true := hw _ (List.mem_of_getElem? (i := 131) rfl)
theorem tw132 {Z : State} {a0 : Array Value} (hw : ∀ d ∈ tables_1, d.before a0 Z = true) : ((Jvm.Cond.instanceMethod ({ cls := "java/util/ArrayList", name := "grow", desc := "(I)[Ljava/lang/Object;" } : Jvm.MethodName))).before a0 Z = true := hw _ (List.mem_of_getElem? (i := 132) rfl)
theorem tw133 {Z : State} {a0 : Array Value} (hw : ∀ d ∈ tables_1, d.before a0 Z = true) : ((Jvm.Cond.privateMethod ({ cls := "java/util/ArrayList", name := "grow", desc := "(I)[Ljava/lang/Object;" } : Jvm.MethodName))).before a0 Z = true := hw _ (List.mem_of_getElem? (i := 133) rfl)
theorem tw134 {Z : State} {a0 : Array Value} (hw : ∀ d ∈ tables_1, d.before a0 Z = true) : ((Jvm.Cond.selects "java/util/ArrayList" ({ cls := "java/util/ArrayList", name := "grow", desc := "(I)[Ljava/lang/Object;" } : Jvm.MethodName) ({ cls := "java/util/ArrayList", name := "grow", desc := "(I)[Ljava/lang/Object;" } : Jvm.MethodName))).before a0 Z = true := hw _ (List.mem_of_getElem? (i := 134) rfl)
theorem tw135 {Z : State} {a0 : Array Value} (hw : ∀ d ∈ tables_1, d.before a0 Z = true) : ((Jvm.Cond.code ({ cls := "java/util/ArrayList", name := "grow", desc := "(I)[Ljava/lang/Object;" } : Jvm.MethodName) jdk_38_method_6_code (4 : Nat) (Option.some (Jvm.ClassFile.FieldType.array (Jvm.ClassFile.FieldType.object "java/lang/Object"))))).before a0 Z = true := hw _ (List.mem_of_getElem? (i := 135) rfl)
theorem tw136 {Z : State} {a0 : Array Value} (hw : ∀ d ∈ tables_1, d.before a0 Z = true) : ((Jvm.Cond.methodLink "java/util/ArrayList" (79 : Nat) ({ cls := "java/lang/Math", name := "max", desc := "(II)I" } : Jvm.MethodName))).before a0 Z = true := hw _ (List.mem_of_getElem? (i := 136) rfl)
theorem tw137 {Z : State} {a0 : Array Value} (hw : ∀ d ∈ tables_1, d.before a0 Z = true) : ((Jvm.Cond.static ({ cls := "java/lang/Math", name := "max", desc := "(II)I" } : Jvm.MethodName))).before a0 Z = true := hw _ (List.mem_of_getElem? (i := 137) rfl)
theorem tw138 {Z : State} {a0 : Array Value} (hw : ∀ d ∈ tables_1, d.before a0 Z = true) : ((Jvm.Cond.initialized "java/lang/Math")).before a0 Z = true := hw _ (List.mem_of_getElem? (i := 138) rfl)
theorem tw139 {Z : State} {a0 : Array Value} (hw : ∀ d ∈ tables_1, d.before a0 Z = true) : ((Jvm.Cond.code ({ cls := "java/lang/Math", name := "max", desc := "(II)I" } : Jvm.MethodName) jdk_29_method_65_code (2 : Nat) (Option.some Jvm.ClassFile.FieldType.int))).before a0 Z = true := hw _ (List.mem_of_getElem? (i := 139) rfl)
theorem tw140 {Z : State} {a0 : Array Value} (hw : ∀ d ∈ tables_1, d.before a0 Z = true) : ((Jvm.Cond.classLink "java/util/ArrayList" (7 : Nat) "java/lang/Object")).before a0 Z = true := hw _ (List.mem_of_getElem? (i := 140) rfl)
theorem tw141 {Z : State} {a0 : Array Value} (hw : ∀ d ∈ tables_1, d.before a0 Z = true) : ((Jvm.Cond.arrayOver (Jvm.ClassFile.FieldType.object "java/lang/Object"))).before a0 Z = true := hw _ (List.mem_of_getElem? (i := 141) rfl)
theorem tw142 {Z : State} {a0 : Array Value} (hw : ∀ d ∈ tables_1, d.before a0 Z = true) : ((Jvm.Cond.castable "[Ljava/lang/String;" "java/lang/Object")).before a0 Z = true := hw _ (List.mem_of_getElem? (i := 142) rfl)
theorem tw143 {Z : State} {a0 : Array Value} (hw : ∀ d ∈ tables_1, d.before a0 Z = true) : ((Jvm.Cond.castable "java/lang/String" "java/lang/Object")).before a0 Z = true := hw _ (List.mem_of_getElem? (i := 143) rfl)
theorem tw144 {Z : State} {a0 : Array Value} (hw : ∀ d ∈ tables_1, d.before a0 Z = true) : ((Jvm.Cond.methodLink "com/example/steady_fixtures/steadyfixtures/load/TableRowsResourcePinLaw" (27 : Nat) ({ cls := "com/example/steady_fixtures/steadyfixtures/load/TableRows", name := "resource", desc := "(I)Ljava/lang/String;" } : Jvm.MethodName))).before a0 Z = true := hw _ (List.mem_of_getElem? (i := 144) rfl)
theorem tw145 {Z : State} {a0 : Array Value} (hw : ∀ d ∈ tables_1, d.before a0 Z = true) : ((Jvm.Cond.declares ({ cls := "com/example/steady_fixtures/steadyfixtures/load/TableRows", name := "resource", desc := "(I)Ljava/lang/String;" } : Jvm.MethodName))).before a0 Z = true := hw _ (List.mem_of_getElem? (i := 145) rfl)
theorem tw146 {Z : State} {a0 : Array Value} (hw : ∀ d ∈ tables_1, d.before a0 Z = true) : ((Jvm.Cond.instanceMethod ({ cls := "com/example/steady_fixtures/steadyfixtures/load/TableRows", name := "resource", desc := "(I)Ljava/lang/String;" } : Jvm.MethodName))).before a0 Z = true := hw _ (List.mem_of_getElem? (i := 146) rfl)
theorem tw147 {Z : State} {a0 : Array Value} (hw : ∀ d ∈ tables_1, d.before a0 Z = true) : ((Jvm.Cond.selects "com/example/steady_fixtures/steadyfixtures/load/TableRows" ({ cls := "com/example/steady_fixtures/steadyfixtures/load/TableRows", name := "resource", desc := "(I)Ljava/lang/String;" } : Jvm.MethodName) ({ cls := "com/example/steady_fixtures/steadyfixtures/load/TableRows", name := "resource", desc := "(I)Ljava/lang/String;" } : Jvm.MethodName))).before a0 Z = true := hw _ (List.mem_of_getElem? (i := 147) rfl)
theorem tw148 {Z : State} {a0 : Array Value} (hw : ∀ d ∈ tables_1, d.before a0 Z = true) : ((Jvm.Cond.code ({ cls := "com/example/steady_fixtures/steadyfixtures/load/TableRows", name := "resource", desc := "(I)Ljava/lang/String;" } : Jvm.MethodName) prog_21_method_10_code (2 : Nat) (Option.some (Jvm.ClassFile.FieldType.object "java/lang/String")))).before a0 Z = true := hw _ (List.mem_of_getElem? (i := 148) rfl)
theorem tw149 {Z : State} {a0 : Array Value} (hw : ∀ d ∈ tables_1, d.before a0 Z = true) : ((Jvm.Cond.methodLink "com/example/steady_fixtures/steadyfixtures/load/TableRows" (132 : Nat) ({ cls := "java/util/ArrayList", name := "get", desc := "(I)Ljava/lang/Object;" } : Jvm.MethodName))).before a0 Z = true := hw _ (List.mem_of_getElem? (i := 149) rfl)
theorem tw150 {Z : State} {a0 : Array Value} (hw : ∀ d ∈ tables_1, d.before a0 Z = true) : ((Jvm.Cond.declares ({ cls := "java/util/ArrayList", name := "get", desc := "(I)Ljava/lang/Object;" } : Jvm.MethodName))).before a0 Z = true := hw _ (List.mem_of_getElem? (i := 150) rfl)
theorem tw151 {Z : State} {a0 : Array Value} (hw : ∀ d ∈ tables_1, d.before a0 Z = true) : ((Jvm.Cond.instanceMethod ({ cls := "java/util/ArrayList", name := "get", desc := "(I)Ljava/lang/Object;" } : Jvm.MethodName))).before a0 Z = true := hw _ (List.mem_of_getElem? (i := 151) rfl)
theorem tw152 {Z : State} {a0 : Array Value} (hw : ∀ d ∈ tables_1, d.before a0 Z = true) : ((Jvm.Cond.selects "java/util/ArrayList" ({ cls := "java/util/ArrayList", name := "get", desc := "(I)Ljava/lang/Object;" } : Jvm.MethodName) ({ cls := "java/util/ArrayList", name := "get", desc := "(I)Ljava/lang/Object;" } : Jvm.MethodName))).before a0 Z = true := hw _ (List.mem_of_getElem? (i := 152) rfl)
theorem tw153 {Z : State} {a0 : Array Value} (hw : ∀ d ∈ tables_1, d.before a0 Z = true) : ((Jvm.Cond.code ({ cls := "java/util/ArrayList", name := "get", desc := "(I)Ljava/lang/Object;" } : Jvm.MethodName) jdk_38_method_20_code (2 : Nat) (Option.some (Jvm.ClassFile.FieldType.object "java/lang/Object")))).before a0 Z = true := hw _ (List.mem_of_getElem? (i := 153) rfl)
theorem tw154 {Z : State} {a0 : Array Value} (hw : ∀ d ∈ tables_1, d.before a0 Z = true) : ((Jvm.Cond.methodLink "java/util/ArrayList" (118 : Nat) ({ cls := "java/util/Objects", name := "checkIndex", desc := "(II)I" } : Jvm.MethodName))).before a0 Z = true := hw _ (List.mem_of_getElem? (i := 154) rfl)
theorem tw155 {Z : State} {a0 : Array Value} (hw : ∀ d ∈ tables_1, d.before a0 Z = true) : ((Jvm.Cond.static ({ cls := "java/util/Objects", name := "checkIndex", desc := "(II)I" } : Jvm.MethodName))).before a0 Z = true := hw _ (List.mem_of_getElem? (i := 155) rfl)
theorem tw156 {Z : State} {a0 : Array Value} (hw : ∀ d ∈ tables_1, d.before a0 Z = true) : ((Jvm.Cond.initialized "java/util/Objects")).before a0 Z = true := hw _ (List.mem_of_getElem? (i := 156) rfl)
theorem tw157 {Z : State} {a0 : Array Value} (hw : ∀ d ∈ tables_1, d.before a0 Z = true) : ((Jvm.Cond.code ({ cls := "java/util/Objects", name := "checkIndex", desc := "(II)I" } : Jvm.MethodName) jdk_31_method_17_code (2 : Nat) (Option.some Jvm.ClassFile.FieldType.int))).before a0 Z = true := hw _ (List.mem_of_getElem? (i := 157) rfl)
theorem tw158 {Z : State} {a0 : Array Value} (hw : ∀ d ∈ tables_1, d.before a0 Z = true) : ((Jvm.Cond.methodLink "java/util/Objects" (105 : Nat) ({ cls := "jdk/internal/util/Preconditions", name := "checkIndex", desc := "(IILjava/util/function/BiFunction;)I" } : Jvm.MethodName))).before a0 Z = true := hw _ (List.mem_of_getElem? (i := 158) rfl)
theorem tw159 {Z : State} {a0 : Array Value} (hw : ∀ d ∈ tables_1, d.before a0 Z = true) : ((Jvm.Cond.static ({ cls := "jdk/internal/util/Preconditions", name := "checkIndex", desc := "(IILjava/util/function/BiFunction;)I" } : Jvm.MethodName))).before a0 Z = true := hw _ (List.mem_of_getElem? (i := 159) rfl)
theorem tw160 {Z : State} {a0 : Array Value} (hw : ∀ d ∈ tables_1, d.before a0 Z = true) : ((Jvm.Cond.initialized "jdk/internal/util/Preconditions")).before a0 Z = true := hw _ (List.mem_of_getElem? (i := 160) rfl)
theorem tw161 {Z : State} {a0 : Array Value} (hw : ∀ d ∈ tables_1, d.before a0 Z = true) : ((Jvm.Cond.code ({ cls := "jdk/internal/util/Preconditions", name := "checkIndex", desc := "(IILjava/util/function/BiFunction;)I" } : Jvm.MethodName) jdk_41_method_11_code (3 : Nat) (Option.some Jvm.ClassFile.FieldType.int))).before a0 Z = true := hw _ (List.mem_of_getElem? (i := 161) rfl)
theorem tw162 {Z : State} {a0 : Array Value} (hw : ∀ d ∈ tables_1, d.before a0 Z = true) : ((Jvm.Cond.methodLink "java/util/ArrayList" (123 : Nat) ({ cls := "java/util/ArrayList", name := "elementData", desc := "(I)Ljava/lang/Object;" } : Jvm.MethodName))).before a0 Z = true := hw _ (List.mem_of_getElem? (i := 162) rfl)
theorem tw163 {Z : State} {a0 : Array Value} (hw : ∀ d ∈ tables_1, d.before a0 Z = true) : ((Jvm.Cond.declares ({ cls := "java/util/ArrayList", name := "elementData", desc := "(I)Ljava/lang/Object;" } : Jvm.MethodName))).before a0 Z = true := hw _ (List.mem_of_getElem? (i := 163) rfl)
theorem tw164 {Z : State} {a0 : Array Value} (hw : ∀ d ∈ tables_1, d.before a0 Z = true) : ((Jvm.Cond.instanceMethod ({ cls := "java/util/ArrayList", name := "elementData", desc := "(I)Ljava/lang/Object;" } : Jvm.MethodName))).before a0 Z = true := hw _ (List.mem_of_getElem? (i := 164) rfl)
theorem tw165 {Z : State} {a0 : Array Value} (hw : ∀ d ∈ tables_1, d.before a0 Z = true) : ((Jvm.Cond.selects "java/util/ArrayList" ({ cls := "java/util/ArrayList", name := "elementData", desc := "(I)Ljava/lang/Object;" } : Jvm.MethodName) ({ cls := "java/util/ArrayList", name := "elementData", desc := "(I)Ljava/lang/Object;" } : Jvm.MethodName))).before a0 Z = true := hw _ (List.mem_of_getElem? (i := 165) rfl)
theorem tw166 {Z : State} {a0 : Array Value} (hw : ∀ d ∈ tables_1, d.before a0 Z = true) : ((Jvm.Cond.code ({ cls := "java/util/ArrayList", name := "elementData", desc := "(I)Ljava/lang/Object;" } : Jvm.MethodName) jdk_38_method_18_code (2 : Nat) (Option.some (Jvm.ClassFile.FieldType.object "java/lang/Object")))).before a0 Z = true := hw _ (List.mem_of_getElem? (i := 166) rfl)
theorem tw167 {Z : State} {a0 : Array Value} (hw : ∀ d ∈ tables_1, d.before a0 Z = true) : ((Jvm.Cond.methodLink "com/example/steady_fixtures/steadyfixtures/load/TableRowsResourcePinLaw" (30 : Nat) ({ cls := "java/lang/String", name := "equals", desc := "(Ljava/lang/Object;)Z" } : Jvm.MethodName))).before a0 Z = true := hw _ (List.mem_of_getElem? (i := 167) rfl)
theorem tw168 {Z : State} {a0 : Array Value} (hw : ∀ d ∈ tables_1, d.before a0 Z = true) : ((Jvm.Cond.declares ({ cls := "java/lang/String", name := "equals", desc := "(Ljava/lang/Object;)Z" } : Jvm.MethodName))).before a0 Z = true := hw _ (List.mem_of_getElem? (i := 168) rfl)
theorem tw169 {Z : State} {a0 : Array Value} (hw : ∀ d ∈ tables_1, d.before a0 Z = true) : ((Jvm.Cond.instanceMethod ({ cls := "java/lang/String", name := "equals", desc := "(Ljava/lang/Object;)Z" } : Jvm.MethodName))).before a0 Z = true := hw _ (List.mem_of_getElem? (i := 169) rfl)
theorem tw170 {Z : State} {a0 : Array Value} (hw : ∀ d ∈ tables_1, d.before a0 Z = true) : ((Jvm.Cond.selects "java/lang/String" ({ cls := "java/lang/String", name := "equals", desc := "(Ljava/lang/Object;)Z" } : Jvm.MethodName) ({ cls := "java/lang/String", name := "equals", desc := "(Ljava/lang/Object;)Z" } : Jvm.MethodName))).before a0 Z = true := hw _ (List.mem_of_getElem? (i := 170) rfl)
theorem tw171 {Z : State} {a0 : Array Value} (hw : ∀ d ∈ tables_1, d.before a0 Z = true) : ((Jvm.Cond.code ({ cls := "java/lang/String", name := "equals", desc := "(Ljava/lang/Object;)Z" } : Jvm.MethodName) jdk_42_method_66_code (3 : Nat) (Option.some Jvm.ClassFile.FieldType.boolean))).before a0 Z = true := hw _ (List.mem_of_getElem? (i := 171) rfl)
theorem pd_0 : parseMethodDescriptor "([CI[BII)I" = some ⟨[(.array .char), .int, (.array .byte), .int, .int], some .int⟩ := by decide +kernel
theorem pd_1 : parseMethodDescriptor "([CII)[B" = some ⟨[(.array .char), .int, .int], some (.array .byte)⟩ := by decide +kernel
theorem pd_2 : parseMethodDescriptor "([BI)B" = some ⟨[(.array .byte), .int], some .byte⟩ := by decide +kernel
theorem pd_3 : parseMethodDescriptor "([CIILjava/lang/Void;)V" = some ⟨[(.array .char), .int, .int, (.object "java/lang/Void")], none⟩ := by decide +kernel
theorem pd_4 : parseMethodDescriptor "([C)V" = some ⟨[(.array .char)], none⟩ := by decide +kernel
theorem pd_5 : parseMethodDescriptor "(I)Ljava/lang/String;" = some ⟨[.int], some (.object "java/lang/String")⟩ := by decide +kernel
theorem pd_6 : parseMethodDescriptor "()V" = some ⟨[], none⟩ := by decide +kernel
theorem pd_7 : parseMethodDescriptor "(Lcom/example/steady_fixtures/steadyfixtures/schema/Table;Ljava/util/List;)V" = some ⟨[(.object "com/example/steady_fixtures/steadyfixtures/schema/Table"), (.object "java/util/List")], none⟩ := by decide +kernel
theorem pd_8 : parseMethodDescriptor "()I" = some ⟨[], some .int⟩ := by decide +kernel
theorem pd_9 : parseMethodDescriptor "(II)I" = some ⟨[.int, .int], some .int⟩ := by decide +kernel
theorem pd_10 : parseMethodDescriptor "(I)[Ljava/lang/Object;" = some ⟨[.int], some (.array (.object "java/lang/Object"))⟩ := by decide +kernel
theorem pd_11 : parseMethodDescriptor "()[Ljava/lang/Object;" = some ⟨[], some (.array (.object "java/lang/Object"))⟩ := by decide +kernel
theorem pd_12 : parseMethodDescriptor "(Ljava/lang/Object;[Ljava/lang/Object;I)V" = some ⟨[(.object "java/lang/Object"), (.array (.object "java/lang/Object")), .int], none⟩ := by decide +kernel
theorem pd_13 : parseMethodDescriptor "(Ljava/lang/Object;)Z" = some ⟨[(.object "java/lang/Object")], some .boolean⟩ := by decide +kernel
theorem pd_14 : parseMethodDescriptor "([Ljava/lang/String;Ljava/lang/String;I)V" = some ⟨[(.array (.object "java/lang/String")), (.object "java/lang/String"), .int], none⟩ := by decide +kernel
theorem pd_15 : parseMethodDescriptor "(IILjava/util/function/BiFunction;)I" = some ⟨[.int, .int, (.object "java/util/function/BiFunction")], some .int⟩ := by decide +kernel
theorem pd_16 : parseMethodDescriptor "(I)Ljava/lang/Object;" = some ⟨[.int], some (.object "java/lang/Object")⟩ := by decide +kernel
theorem pn_0 : plainName "java/lang/StringUTF16" = true := by first | (simp [plainName, overriddenIn]; done) | decide +kernel
theorem pn_1 : plainName "java/lang/String" = true := by first | (simp [plainName, overriddenIn]; done) | decide +kernel
theorem pn_2 : plainName "com/example/steady_fixtures/steadyfixtures/load/TableRowsResourcePinLaw" = true := by first | (simp [plainName, overriddenIn]; done) | decide +kernel
theorem pn_3 : plainName "java/util/AbstractCollection" = true := by first | (simp [plainName, overriddenIn]; done) | decide +kernel
theorem pn_4 : plainName "java/util/AbstractList" = true := by first | (simp [plainName, overriddenIn]; done) | decide +kernel
theorem pn_5 : plainName "java/util/ArrayList" = true := by first | (simp [plainName, overriddenIn]; done) | decide +kernel
theorem pn_6 : plainName "java/util/AbstractMap" = true := by first | (simp [plainName, overriddenIn]; done) | decide +kernel
theorem pn_7 : plainName "java/util/HashMap" = true := by first | (simp [plainName, overriddenIn]; done) | decide +kernel
theorem pn_8 : plainName "com/example/steady_fixtures/steadyfixtures/load/TableRows" = true := by first | (simp [plainName, overriddenIn]; done) | decide +kernel
theorem pn_9 : plainName "jdk/internal/util/Preconditions" = true := by first | (simp [plainName, overriddenIn]; done) | decide +kernel
theorem pn_10 : plainName "java/util/Objects" = true := by first | (simp [plainName, overriddenIn]; done) | decide +kernel
theorem d_3_0 : decode method_3_code 0 = .ok (.iconst 2, 1) := by decide +kernel
theorem d_3_1 : decode method_3_code 1 = .ok (.newarray .char, 2) := by decide +kernel
theorem d_3_3 : decode method_3_code 3 = .ok (.astore_n 1, 1) := by decide +kernel
theorem d_3_4 : decode method_3_code 4 = .ok (.aload_n 1, 1) := by decide +kernel
theorem d_3_5 : decode method_3_code 5 = .ok (.iconst 0, 1) := by decide +kernel
theorem d_3_6 : decode method_3_code 6 = .ok (.iload_n 0, 1) := by decide +kernel
theorem d_3_7 : decode method_3_code 7 = .ok (.sipush 255, 3) := by decide +kernel
theorem d_3_10 : decode method_3_code 10 = .ok (.iand, 1) := by decide +kernel
theorem d_3_11 : decode method_3_code 11 = .ok (.i2c, 1) := by decide +kernel
theorem d_3_12 : decode method_3_code 12 = .ok (.castore, 1) := by decide +kernel
theorem d_3_13 : decode method_3_code 13 = .ok (.aload_n 1, 1) := by decide +kernel
theorem d_3_14 : decode method_3_code 14 = .ok (.iconst 1, 1) := by decide +kernel
theorem d_3_15 : decode method_3_code 15 = .ok (.iload_n 0, 1) := by decide +kernel
theorem d_3_16 : decode method_3_code 16 = .ok (.bipush 8, 2) := by decide +kernel
theorem d_3_18 : decode method_3_code 18 = .ok (.iushr, 1) := by decide +kernel
theorem d_3_19 : decode method_3_code 19 = .ok (.sipush 255, 3) := by decide +kernel
theorem d_3_22 : decode method_3_code 22 = .ok (.iand, 1) := by decide +kernel
theorem d_3_23 : decode method_3_code 23 = .ok (.i2c, 1) := by decide +kernel
theorem d_3_24 : decode method_3_code 24 = .ok (.castore, 1) := by decide +kernel
theorem d_3_25 : decode method_3_code 25 = .ok (.new 13, 3) := by decide +kernel
theorem d_3_28 : decode method_3_code 28 = .ok (.dup, 1) := by decide +kernel
theorem d_3_29 : decode method_3_code 29 = .ok (.aload_n 1, 1) := by decide +kernel
theorem d_3_30 : decode method_3_code 30 = .ok (.invokespecial 34, 3) := by decide +kernel
theorem d_j42_3_0 : decode jdk_42_method_3_code 0 = .ok (.aload_n 0, 1) := by decide +kernel
theorem d_j42_3_1 : decode jdk_42_method_3_code 1 = .ok (.aload_n 1, 1) := by decide +kernel
theorem d_j42_3_2 : decode jdk_42_method_3_code 2 = .ok (.iconst 0, 1) := by decide +kernel
theorem d_j42_3_3 : decode jdk_42_method_3_code 3 = .ok (.aload_n 1, 1) := by decide +kernel
theorem d_j42_3_4 : decode jdk_42_method_3_code 4 = .ok (.arraylength, 1) := by decide +kernel
theorem d_j42_3_5 : decode jdk_42_method_3_code 5 = .ok (.aconst_null, 1) := by decide +kernel
theorem d_j42_3_6 : decode jdk_42_method_3_code 6 = .ok (.invokespecial 27, 3) := by decide +kernel
theorem d_j42_149_0 : decode jdk_42_method_149_code 0 = .ok (.aload_n 0, 1) := by decide +kernel
theorem d_j42_149_1 : decode jdk_42_method_149_code 1 = .ok (.invokespecial 1, 3) := by decide +kernel
theorem d_j42_149_4 : decode jdk_42_method_149_code 4 = .ok (.iload_n 3, 1) := by decide +kernel
theorem d_j42_149_5 : decode jdk_42_method_149_code 5 = .ok (.ifCond .ne 22, 3) := by decide +kernel
theorem d_j42_149_27 : decode jdk_42_method_149_code 27 = .ok (.getstatic 38, 3) := by decide +kernel
theorem d_j42_149_30 : decode jdk_42_method_149_code 30 = .ok (.ifCond .eq 28, 3) := by decide +kernel
theorem d_j42_149_33 : decode jdk_42_method_149_code 33 = .ok (.aload_n 1, 1) := by decide +kernel
theorem d_j42_149_34 : decode jdk_42_method_149_code 34 = .ok (.iload_n 2, 1) := by decide +kernel
theorem d_j42_149_35 : decode jdk_42_method_149_code 35 = .ok (.iload_n 3, 1) := by decide +kernel
theorem d_j42_149_36 : decode jdk_42_method_149_code 36 = .ok (.invokestatic 177, 3) := by decide +kernel
theorem d_j52_16_0 : decode jdk_52_method_16_code 0 = .ok (.iload_n 2, 1) := by decide +kernel
theorem d_j52_16_1 : decode jdk_52_method_16_code 1 = .ok (.newarray .byte, 2) := by decide +kernel
theorem d_j52_16_3 : decode jdk_52_method_16_code 3 = .ok (.astore_n 3, 1) := by decide +kernel
theorem d_j52_16_4 : decode jdk_52_method_16_code 4 = .ok (.aload_n 0, 1) := by decide +kernel
theorem d_j52_16_5 : decode jdk_52_method_16_code 5 = .ok (.iload_n 1, 1) := by decide +kernel
theorem d_j52_16_6 : decode jdk_52_method_16_code 6 = .ok (.aload_n 3, 1) := by decide +kernel
theorem d_j52_16_7 : decode jdk_52_method_16_code 7 = .ok (.iconst 0, 1) := by decide +kernel
theorem d_j52_16_8 : decode jdk_52_method_16_code 8 = .ok (.iload_n 2, 1) := by decide +kernel
theorem d_j52_16_9 : decode jdk_52_method_16_code 9 = .ok (.invokestatic 115, 3) := by decide +kernel
theorem d_j52_21_0 : decode jdk_52_method_21_code 0 = .ok (.iconst 0, 1) := by decide +kernel
theorem d_j52_21_1 : decode jdk_52_method_21_code 1 = .ok (.istore 5, 2) := by decide +kernel
theorem d_j52_21_3 : decode jdk_52_method_21_code 3 = .ok (.iload 5, 2) := by decide +kernel
theorem d_j52_21_5 : decode jdk_52_method_21_code 5 = .ok (.iload 4, 2) := by decide +kernel
theorem d_j52_21_7 : decode jdk_52_method_21_code 7 = .ok (.if_icmp .ge 37, 3) := by decide +kernel
theorem d_j52_21_10 : decode jdk_52_method_21_code 10 = .ok (.aload_n 0, 1) := by decide +kernel
theorem d_j52_21_11 : decode jdk_52_method_21_code 11 = .ok (.iload_n 1, 1) := by decide +kernel
theorem d_j52_21_12 : decode jdk_52_method_21_code 12 = .ok (.caload, 1) := by decide +kernel
theorem d_j52_21_13 : decode jdk_52_method_21_code 13 = .ok (.istore 6, 2) := by decide +kernel
theorem d_j52_21_15 : decode jdk_52_method_21_code 15 = .ok (.iload 6, 2) := by decide +kernel
theorem d_j52_21_17 : decode jdk_52_method_21_code 17 = .ok (.sipush 255, 3) := by decide +kernel
theorem d_j52_21_20 : decode jdk_52_method_21_code 20 = .ok (.if_icmp .le 6, 3) := by decide +kernel
theorem d_j52_21_26 : decode jdk_52_method_21_code 26 = .ok (.aload_n 2, 1) := by decide +kernel
theorem d_j52_21_27 : decode jdk_52_method_21_code 27 = .ok (.iload_n 3, 1) := by decide +kernel
theorem d_j52_21_28 : decode jdk_52_method_21_code 28 = .ok (.iload 6, 2) := by decide +kernel
theorem d_j52_21_30 : decode jdk_52_method_21_code 30 = .ok (.i2b, 1) := by decide +kernel
theorem d_j52_21_31 : decode jdk_52_method_21_code 31 = .ok (.bastore, 1) := by decide +kernel
theorem d_j52_21_32 : decode jdk_52_method_21_code 32 = .ok (.iinc 1 1, 3) := by decide +kernel
theorem d_j52_21_35 : decode jdk_52_method_21_code 35 = .ok (.iinc 3 1, 3) := by decide +kernel
theorem d_j52_21_38 : decode jdk_52_method_21_code 38 = .ok (.iinc 5 1, 3) := by decide +kernel
theorem d_j52_21_41 : decode jdk_52_method_21_code 41 = .ok (.goto (-38), 3) := by decide +kernel
theorem d_j52_21_44 : decode jdk_52_method_21_code 44 = .ok (.iload 4, 2) := by decide +kernel
theorem d_j52_21_46 : decode jdk_52_method_21_code 46 = .ok (.ireturn, 1) := by decide +kernel
theorem d_j52_16_12 : decode jdk_52_method_16_code 12 = .ok (.istore 4, 2) := by decide +kernel
theorem d_j52_16_14 : decode jdk_52_method_16_code 14 = .ok (.iload 4, 2) := by decide +kernel
theorem d_j52_16_16 : decode jdk_52_method_16_code 16 = .ok (.iload_n 2, 1) := by decide +kernel
theorem d_j52_16_17 : decode jdk_52_method_16_code 17 = .ok (.if_icmp .eq 40, 3) := by decide +kernel
theorem d_j52_16_57 : decode jdk_52_method_16_code 57 = .ok (.aload_n 3, 1) := by decide +kernel
theorem d_j52_16_58 : decode jdk_52_method_16_code 58 = .ok (.areturn, 1) := by decide +kernel
theorem d_j42_149_39 : decode jdk_42_method_149_code 39 = .ok (.astore 5, 2) := by decide +kernel
theorem d_j42_149_41 : decode jdk_42_method_149_code 41 = .ok (.aload_n 0, 1) := by decide +kernel
theorem d_j42_149_42 : decode jdk_42_method_149_code 42 = .ok (.aload 5, 2) := by decide +kernel
theorem d_j42_149_44 : decode jdk_42_method_149_code 44 = .ok (.iload_n 3, 1) := by decide +kernel
theorem d_j42_149_45 : decode jdk_42_method_149_code 45 = .ok (.invokestatic 47, 3) := by decide +kernel
theorem d_j52_15_0 : decode jdk_52_method_15_code 0 = .ok (.iload_n 1, 1) := by decide +kernel
theorem d_j52_15_1 : decode jdk_52_method_15_code 1 = .ok (.aload_n 0, 1) := by decide +kernel
theorem d_j52_15_2 : decode jdk_52_method_15_code 2 = .ok (.arraylength, 1) := by decide +kernel
theorem d_j52_15_3 : decode jdk_52_method_15_code 3 = .ok (.isub, 1) := by decide +kernel
theorem d_j52_15_4 : decode jdk_52_method_15_code 4 = .ok (.bipush 31, 2) := by decide +kernel
theorem d_j52_15_6 : decode jdk_52_method_15_code 6 = .ok (.iushr, 1) := by decide +kernel
theorem d_j52_15_7 : decode jdk_52_method_15_code 7 = .ok (.i2b, 1) := by decide +kernel
theorem d_j52_15_8 : decode jdk_52_method_15_code 8 = .ok (.ireturn, 1) := by decide +kernel
theorem d_j42_149_48 : decode jdk_42_method_149_code 48 = .ok (.putfield 15, 3) := by decide +kernel
theorem d_j42_149_51 : decode jdk_42_method_149_code 51 = .ok (.aload_n 0, 1) := by decide +kernel
theorem d_j42_149_52 : decode jdk_42_method_149_code 52 = .ok (.aload 5, 2) := by decide +kernel
theorem d_j42_149_54 : decode jdk_42_method_149_code 54 = .ok (.putfield 9, 3) := by decide +kernel
theorem d_j42_149_57 : decode jdk_42_method_149_code 57 = .ok (.return_, 1) := by decide +kernel
theorem d_j42_3_9 : decode jdk_42_method_3_code 9 = .ok (.return_, 1) := by decide +kernel
theorem d_3_33 : decode method_3_code 33 = .ok (.areturn, 1) := by decide +kernel
theorem d_j38_2_0 : decode jdk_38_method_2_code 0 = .ok (.aload_n 0, 1) := by decide +kernel
theorem d_j38_2_1 : decode jdk_38_method_2_code 1 = .ok (.invokespecial 1, 3) := by decide +kernel
theorem d_j39_1_0 : decode jdk_39_method_1_code 0 = .ok (.aload_n 0, 1) := by decide +kernel
theorem d_j39_1_1 : decode jdk_39_method_1_code 1 = .ok (.invokespecial 1, 3) := by decide +kernel
theorem d_j22_1_0 : decode jdk_22_method_1_code 0 = .ok (.aload_n 0, 1) := by decide +kernel
theorem d_j22_1_1 : decode jdk_22_method_1_code 1 = .ok (.invokespecial 1, 3) := by decide +kernel
theorem d_j22_1_4 : decode jdk_22_method_1_code 4 = .ok (.return_, 1) := by decide +kernel
theorem d_j39_1_4 : decode jdk_39_method_1_code 4 = .ok (.aload_n 0, 1) := by decide +kernel
theorem d_j39_1_5 : decode jdk_39_method_1_code 5 = .ok (.iconst 0, 1) := by decide +kernel
theorem d_j39_1_6 : decode jdk_39_method_1_code 6 = .ok (.putfield 7, 3) := by decide +kernel
theorem d_j39_1_9 : decode jdk_39_method_1_code 9 = .ok (.return_, 1) := by decide +kernel
theorem d_j38_2_4 : decode jdk_38_method_2_code 4 = .ok (.aload_n 0, 1) := by decide +kernel
theorem d_j38_2_5 : decode jdk_38_method_2_code 5 = .ok (.getstatic 39, 3) := by decide +kernel
theorem d_j38_2_8 : decode jdk_38_method_2_code 8 = .ok (.putfield 9, 3) := by decide +kernel
theorem d_j38_2_11 : decode jdk_38_method_2_code 11 = .ok (.return_, 1) := by decide +kernel
theorem d_g21_2_0 : decode prog_21_method_2_code 0 = .ok (.aload_n 0, 1) := by decide +kernel
theorem d_g21_2_1 : decode prog_21_method_2_code 1 = .ok (.invokespecial 12, 3) := by decide +kernel
theorem d_g21_2_4 : decode prog_21_method_2_code 4 = .ok (.aload_n 0, 1) := by decide +kernel
theorem d_g21_2_5 : decode prog_21_method_2_code 5 = .ok (.new 15, 3) := by decide +kernel
theorem d_g21_2_8 : decode prog_21_method_2_code 8 = .ok (.dup, 1) := by decide +kernel
theorem d_g21_2_9 : decode prog_21_method_2_code 9 = .ok (.invokespecial 17, 3) := by decide +kernel
theorem d_j69_7_0 : decode jdk_69_method_7_code 0 = .ok (.aload_n 0, 1) := by decide +kernel
theorem d_j69_7_1 : decode jdk_69_method_7_code 1 = .ok (.invokespecial 43, 3) := by decide +kernel
theorem d_j71_1_0 : decode jdk_71_method_1_code 0 = .ok (.aload_n 0, 1) := by decide +kernel
theorem d_j71_1_1 : decode jdk_71_method_1_code 1 = .ok (.invokespecial 1, 3) := by decide +kernel
theorem d_j71_1_4 : decode jdk_71_method_1_code 4 = .ok (.return_, 1) := by decide +kernel
theorem d_j69_7_4 : decode jdk_69_method_7_code 4 = .ok (.aload_n 0, 1) := by decide +kernel
theorem d_j69_7_5 : decode jdk_69_method_7_code 5 = .ok (.ldc 92, 2) := by decide +kernel
theorem d_j69_7_7 : decode jdk_69_method_7_code 7 = .ok (.putfield 81, 3) := by decide +kernel
theorem d_j69_7_10 : decode jdk_69_method_7_code 10 = .ok (.return_, 1) := by decide +kernel
theorem d_g21_2_12 : decode prog_21_method_2_code 12 = .ok (.putfield 18, 3) := by decide +kernel
theorem d_g21_2_15 : decode prog_21_method_2_code 15 = .ok (.aload_n 0, 1) := by decide +kernel
theorem d_g21_2_16 : decode prog_21_method_2_code 16 = .ok (.iconst 0, 1) := by decide +kernel
theorem d_g21_2_17 : decode prog_21_method_2_code 17 = .ok (.anewarray 22, 3) := by decide +kernel
theorem d_g21_2_20 : decode prog_21_method_2_code 20 = .ok (.putfield 24, 3) := by decide +kernel
theorem d_g21_2_23 : decode prog_21_method_2_code 23 = .ok (.aload_n 0, 1) := by decide +kernel
theorem d_g21_2_24 : decode prog_21_method_2_code 24 = .ok (.iconst 0, 1) := by decide +kernel
theorem d_g21_2_25 : decode prog_21_method_2_code 25 = .ok (.newarray .int, 2) := by decide +kernel
theorem d_g21_2_27 : decode prog_21_method_2_code 27 = .ok (.putfield 28, 3) := by decide +kernel
theorem d_g21_2_30 : decode prog_21_method_2_code 30 = .ok (.aload_n 0, 1) := by decide +kernel
theorem d_g21_2_31 : decode prog_21_method_2_code 31 = .ok (.new 1, 3) := by decide +kernel
theorem d_g21_2_34 : decode prog_21_method_2_code 34 = .ok (.dup, 1) := by decide +kernel
theorem d_g21_2_35 : decode prog_21_method_2_code 35 = .ok (.invokespecial 3, 3) := by decide +kernel
theorem d_g21_2_38 : decode prog_21_method_2_code 38 = .ok (.putfield 32, 3) := by decide +kernel
theorem d_g21_2_41 : decode prog_21_method_2_code 41 = .ok (.aload_n 0, 1) := by decide +kernel
theorem d_g21_2_42 : decode prog_21_method_2_code 42 = .ok (.new 1, 3) := by decide +kernel
theorem d_g21_2_45 : decode prog_21_method_2_code 45 = .ok (.dup, 1) := by decide +kernel
theorem d_g21_2_46 : decode prog_21_method_2_code 46 = .ok (.invokespecial 3, 3) := by decide +kernel
theorem d_g21_2_49 : decode prog_21_method_2_code 49 = .ok (.putfield 36, 3) := by decide +kernel
theorem d_g21_2_52 : decode prog_21_method_2_code 52 = .ok (.aload_n 0, 1) := by decide +kernel
theorem d_g21_2_53 : decode prog_21_method_2_code 53 = .ok (.bipush 16, 2) := by decide +kernel
theorem d_g21_2_55 : decode prog_21_method_2_code 55 = .ok (.newarray .int, 2) := by decide +kernel
theorem d_g21_2_57 : decode prog_21_method_2_code 57 = .ok (.putfield 39, 3) := by decide +kernel
theorem d_g21_2_60 : decode prog_21_method_2_code 60 = .ok (.aload_n 0, 1) := by decide +kernel
theorem d_g21_2_61 : decode prog_21_method_2_code 61 = .ok (.aload_n 1, 1) := by decide +kernel
theorem d_g21_2_62 : decode prog_21_method_2_code 62 = .ok (.putfield 42, 3) := by decide +kernel
theorem d_g21_2_65 : decode prog_21_method_2_code 65 = .ok (.aload_n 0, 1) := by decide +kernel
theorem d_g21_2_66 : decode prog_21_method_2_code 66 = .ok (.aload_n 2, 1) := by decide +kernel
theorem d_g21_2_67 : decode prog_21_method_2_code 67 = .ok (.putfield 46, 3) := by decide +kernel
theorem d_g21_2_70 : decode prog_21_method_2_code 70 = .ok (.return_, 1) := by decide +kernel
theorem d_g21_5_0 : decode prog_21_method_5_code 0 = .ok (.aload_n 0, 1) := by decide +kernel
theorem d_g21_5_1 : decode prog_21_method_5_code 1 = .ok (.getfield 32, 3) := by decide +kernel
theorem d_g21_5_4 : decode prog_21_method_5_code 4 = .ok (.invokevirtual 115, 3) := by decide +kernel
theorem d_j38_8_0 : decode jdk_38_method_8_code 0 = .ok (.aload_n 0, 1) := by decide +kernel
theorem d_j38_8_1 : decode jdk_38_method_8_code 1 = .ok (.getfield 48, 3) := by decide +kernel
theorem d_j38_8_4 : decode jdk_38_method_8_code 4 = .ok (.ireturn, 1) := by decide +kernel
theorem d_g21_5_7 : decode prog_21_method_5_code 7 = .ok (.aload_n 0, 1) := by decide +kernel
theorem d_g21_5_8 : decode prog_21_method_5_code 8 = .ok (.getfield 39, 3) := by decide +kernel
theorem d_g21_5_11 : decode prog_21_method_5_code 11 = .ok (.arraylength, 1) := by decide +kernel
theorem d_g21_5_12 : decode prog_21_method_5_code 12 = .ok (.if_icmp .ne 21, 3) := by decide +kernel
theorem d_g21_5_33 : decode prog_21_method_5_code 33 = .ok (.aload_n 0, 1) := by decide +kernel
theorem d_g21_5_34 : decode prog_21_method_5_code 34 = .ok (.getfield 39, 3) := by decide +kernel
theorem d_g21_5_37 : decode prog_21_method_5_code 37 = .ok (.aload_n 0, 1) := by decide +kernel
theorem d_g21_5_38 : decode prog_21_method_5_code 38 = .ok (.getfield 32, 3) := by decide +kernel
theorem d_g21_5_41 : decode prog_21_method_5_code 41 = .ok (.invokevirtual 115, 3) := by decide +kernel
theorem d_g21_5_44 : decode prog_21_method_5_code 44 = .ok (.iload_n 3, 1) := by decide +kernel
theorem d_g21_5_45 : decode prog_21_method_5_code 45 = .ok (.iastore, 1) := by decide +kernel
theorem d_g21_5_46 : decode prog_21_method_5_code 46 = .ok (.aload_n 0, 1) := by decide +kernel
theorem d_g21_5_47 : decode prog_21_method_5_code 47 = .ok (.getfield 32, 3) := by decide +kernel
theorem d_g21_5_50 : decode prog_21_method_5_code 50 = .ok (.aload_n 1, 1) := by decide +kernel
theorem d_g21_5_51 : decode prog_21_method_5_code 51 = .ok (.invokevirtual 122, 3) := by decide +kernel
theorem d_j38_25_0 : decode jdk_38_method_25_code 0 = .ok (.aload_n 0, 1) := by decide +kernel
theorem d_j38_25_1 : decode jdk_38_method_25_code 1 = .ok (.dup, 1) := by decide +kernel
theorem d_j38_25_2 : decode jdk_38_method_25_code 2 = .ok (.getfield 63, 3) := by decide +kernel
theorem d_j38_25_5 : decode jdk_38_method_25_code 5 = .ok (.iconst 1, 1) := by decide +kernel
theorem d_j38_25_6 : decode jdk_38_method_25_code 6 = .ok (.iadd, 1) := by decide +kernel
theorem d_j38_25_7 : decode jdk_38_method_25_code 7 = .ok (.putfield 63, 3) := by decide +kernel
theorem d_j38_25_10 : decode jdk_38_method_25_code 10 = .ok (.aload_n 0, 1) := by decide +kernel
theorem d_j38_25_11 : decode jdk_38_method_25_code 11 = .ok (.aload_n 1, 1) := by decide +kernel
theorem d_j38_25_12 : decode jdk_38_method_25_code 12 = .ok (.aload_n 0, 1) := by decide +kernel
theorem d_j38_25_13 : decode jdk_38_method_25_code 13 = .ok (.getfield 9, 3) := by decide +kernel
theorem d_j38_25_16 : decode jdk_38_method_25_code 16 = .ok (.aload_n 0, 1) := by decide +kernel
theorem d_j38_25_17 : decode jdk_38_method_25_code 17 = .ok (.getfield 48, 3) := by decide +kernel
theorem d_j38_25_20 : decode jdk_38_method_25_code 20 = .ok (.invokevirtual 131, 3) := by decide +kernel
theorem d_j38_24_0 : decode jdk_38_method_24_code 0 = .ok (.iload_n 3, 1) := by decide +kernel
theorem d_j38_24_1 : decode jdk_38_method_24_code 1 = .ok (.aload_n 2, 1) := by decide +kernel
theorem d_j38_24_2 : decode jdk_38_method_24_code 2 = .ok (.arraylength, 1) := by decide +kernel
theorem d_j38_24_3 : decode jdk_38_method_24_code 3 = .ok (.if_icmp .ne 8, 3) := by decide +kernel
theorem d_j38_24_6 : decode jdk_38_method_24_code 6 = .ok (.aload_n 0, 1) := by decide +kernel
theorem d_j38_24_7 : decode jdk_38_method_24_code 7 = .ok (.invokevirtual 129, 3) := by decide +kernel
theorem d_j38_7_0 : decode jdk_38_method_7_code 0 = .ok (.aload_n 0, 1) := by decide +kernel
theorem d_j38_7_1 : decode jdk_38_method_7_code 1 = .ok (.aload_n 0, 1) := by decide +kernel
theorem d_j38_7_2 : decode jdk_38_method_7_code 2 = .ok (.getfield 48, 3) := by decide +kernel
theorem d_j38_7_5 : decode jdk_38_method_7_code 5 = .ok (.iconst 1, 1) := by decide +kernel
theorem d_j38_7_6 : decode jdk_38_method_7_code 6 = .ok (.iadd, 1) := by decide +kernel
theorem d_j38_7_7 : decode jdk_38_method_7_code 7 = .ok (.invokevirtual 69, 3) := by decide +kernel
theorem d_j38_6_0 : decode jdk_38_method_6_code 0 = .ok (.aload_n 0, 1) := by decide +kernel
theorem d_j38_6_1 : decode jdk_38_method_6_code 1 = .ok (.getfield 9, 3) := by decide +kernel
theorem d_j38_6_4 : decode jdk_38_method_6_code 4 = .ok (.arraylength, 1) := by decide +kernel
theorem d_j38_6_5 : decode jdk_38_method_6_code 5 = .ok (.istore_n 2, 1) := by decide +kernel
theorem d_j38_6_6 : decode jdk_38_method_6_code 6 = .ok (.iload_n 2, 1) := by decide +kernel
theorem d_j38_6_7 : decode jdk_38_method_6_code 7 = .ok (.ifCond .gt 13, 3) := by decide +kernel
theorem d_j38_6_10 : decode jdk_38_method_6_code 10 = .ok (.aload_n 0, 1) := by decide +kernel
theorem d_j38_6_11 : decode jdk_38_method_6_code 11 = .ok (.getfield 9, 3) := by decide +kernel
theorem d_j38_6_14 : decode jdk_38_method_6_code 14 = .ok (.getstatic 39, 3) := by decide +kernel
theorem d_j38_6_17 : decode jdk_38_method_6_code 17 = .ok (.if_acmp .eq 28, 3) := by decide +kernel
theorem d_j38_6_45 : decode jdk_38_method_6_code 45 = .ok (.aload_n 0, 1) := by decide +kernel
theorem d_j38_6_46 : decode jdk_38_method_6_code 46 = .ok (.bipush 10, 2) := by decide +kernel
theorem d_j38_6_48 : decode jdk_38_method_6_code 48 = .ok (.iload_n 1, 1) := by decide +kernel
theorem d_j38_6_49 : decode jdk_38_method_6_code 49 = .ok (.invokestatic 79, 3) := by decide +kernel
theorem d_j29_65_0 : decode jdk_29_method_65_code 0 = .ok (.iload_n 0, 1) := by decide +kernel
theorem d_j29_65_1 : decode jdk_29_method_65_code 1 = .ok (.iload_n 1, 1) := by decide +kernel
theorem d_j29_65_2 : decode jdk_29_method_65_code 2 = .ok (.if_icmp .lt 7, 3) := by decide +kernel
theorem d_j29_65_5 : decode jdk_29_method_65_code 5 = .ok (.iload_n 0, 1) := by decide +kernel
theorem d_j29_65_6 : decode jdk_29_method_65_code 6 = .ok (.goto 4, 3) := by decide +kernel
theorem d_j29_65_10 : decode jdk_29_method_65_code 10 = .ok (.ireturn, 1) := by decide +kernel
theorem d_j38_6_52 : decode jdk_38_method_6_code 52 = .ok (.anewarray 7, 3) := by decide +kernel
theorem d_j38_6_55 : decode jdk_38_method_6_code 55 = .ok (.dup_x1, 1) := by decide +kernel
theorem d_j38_6_56 : decode jdk_38_method_6_code 56 = .ok (.putfield 9, 3) := by decide +kernel
theorem d_j38_6_59 : decode jdk_38_method_6_code 59 = .ok (.areturn, 1) := by decide +kernel
theorem d_j38_7_10 : decode jdk_38_method_7_code 10 = .ok (.areturn, 1) := by decide +kernel
theorem d_j38_24_10 : decode jdk_38_method_24_code 10 = .ok (.astore_n 2, 1) := by decide +kernel
theorem d_j38_24_11 : decode jdk_38_method_24_code 11 = .ok (.aload_n 2, 1) := by decide +kernel
theorem d_j38_24_12 : decode jdk_38_method_24_code 12 = .ok (.iload_n 3, 1) := by decide +kernel
theorem d_j38_24_13 : decode jdk_38_method_24_code 13 = .ok (.aload_n 1, 1) := by decide +kernel
theorem d_j38_24_14 : decode jdk_38_method_24_code 14 = .ok (.aastore, 1) := by decide +kernel
theorem d_j38_24_15 : decode jdk_38_method_24_code 15 = .ok (.aload_n 0, 1) := by decide +kernel
theorem d_j38_24_16 : decode jdk_38_method_24_code 16 = .ok (.iload_n 3, 1) := by decide +kernel
theorem d_j38_24_17 : decode jdk_38_method_24_code 17 = .ok (.iconst 1, 1) := by decide +kernel
theorem d_j38_24_18 : decode jdk_38_method_24_code 18 = .ok (.iadd, 1) := by decide +kernel
theorem d_j38_24_19 : decode jdk_38_method_24_code 19 = .ok (.putfield 48, 3) := by decide +kernel
theorem d_j38_24_22 : decode jdk_38_method_24_code 22 = .ok (.return_, 1) := by decide +kernel
theorem d_j38_25_23 : decode jdk_38_method_25_code 23 = .ok (.iconst 1, 1) := by decide +kernel
theorem d_j38_25_24 : decode jdk_38_method_25_code 24 = .ok (.ireturn, 1) := by decide +kernel
theorem d_g21_5_54 : decode prog_21_method_5_code 54 = .ok (.pop, 1) := by decide +kernel
theorem d_g21_5_55 : decode prog_21_method_5_code 55 = .ok (.aload_n 0, 1) := by decide +kernel
theorem d_g21_5_56 : decode prog_21_method_5_code 56 = .ok (.getfield 36, 3) := by decide +kernel
theorem d_g21_5_59 : decode prog_21_method_5_code 59 = .ok (.aload_n 2, 1) := by decide +kernel
theorem d_g21_5_60 : decode prog_21_method_5_code 60 = .ok (.invokevirtual 122, 3) := by decide +kernel
theorem d_g21_5_63 : decode prog_21_method_5_code 63 = .ok (.pop, 1) := by decide +kernel
theorem d_g21_5_64 : decode prog_21_method_5_code 64 = .ok (.return_, 1) := by decide +kernel
theorem d_g21_10_0 : decode prog_21_method_10_code 0 = .ok (.aload_n 0, 1) := by decide +kernel
theorem d_g21_10_1 : decode prog_21_method_10_code 1 = .ok (.getfield 36, 3) := by decide +kernel
theorem d_g21_10_4 : decode prog_21_method_10_code 4 = .ok (.iload_n 1, 1) := by decide +kernel
theorem d_g21_10_5 : decode prog_21_method_10_code 5 = .ok (.invokevirtual 132, 3) := by decide +kernel
theorem d_j38_20_0 : decode jdk_38_method_20_code 0 = .ok (.iload_n 1, 1) := by decide +kernel
theorem d_j38_20_1 : decode jdk_38_method_20_code 1 = .ok (.aload_n 0, 1) := by decide +kernel
theorem d_j38_20_2 : decode jdk_38_method_20_code 2 = .ok (.getfield 48, 3) := by decide +kernel
theorem d_j38_20_5 : decode jdk_38_method_20_code 5 = .ok (.invokestatic 118, 3) := by decide +kernel
theorem d_j31_17_0 : decode jdk_31_method_17_code 0 = .ok (.iload_n 0, 1) := by decide +kernel
theorem d_j31_17_1 : decode jdk_31_method_17_code 1 = .ok (.iload_n 1, 1) := by decide +kernel
theorem d_j31_17_2 : decode jdk_31_method_17_code 2 = .ok (.aconst_null, 1) := by decide +kernel
theorem d_j31_17_3 : decode jdk_31_method_17_code 3 = .ok (.invokestatic 105, 3) := by decide +kernel
theorem d_j41_11_0 : decode jdk_41_method_11_code 0 = .ok (.iload_n 0, 1) := by decide +kernel
theorem d_j41_11_1 : decode jdk_41_method_11_code 1 = .ok (.ifCond .lt 8, 3) := by decide +kernel
theorem d_j41_11_4 : decode jdk_41_method_11_code 4 = .ok (.iload_n 0, 1) := by decide +kernel
theorem d_j41_11_5 : decode jdk_41_method_11_code 5 = .ok (.iload_n 1, 1) := by decide +kernel
theorem d_j41_11_6 : decode jdk_41_method_11_code 6 = .ok (.if_icmp .lt 10, 3) := by decide +kernel
theorem d_j41_11_16 : decode jdk_41_method_11_code 16 = .ok (.iload_n 0, 1) := by decide +kernel
theorem d_j41_11_17 : decode jdk_41_method_11_code 17 = .ok (.ireturn, 1) := by decide +kernel
theorem d_j31_17_6 : decode jdk_31_method_17_code 6 = .ok (.ireturn, 1) := by decide +kernel
theorem d_j38_20_8 : decode jdk_38_method_20_code 8 = .ok (.pop, 1) := by decide +kernel
theorem d_j38_20_9 : decode jdk_38_method_20_code 9 = .ok (.aload_n 0, 1) := by decide +kernel
theorem d_j38_20_10 : decode jdk_38_method_20_code 10 = .ok (.iload_n 1, 1) := by decide +kernel
theorem d_j38_20_11 : decode jdk_38_method_20_code 11 = .ok (.invokevirtual 123, 3) := by decide +kernel
theorem d_j38_18_0 : decode jdk_38_method_18_code 0 = .ok (.aload_n 0, 1) := by decide +kernel
theorem d_j38_18_1 : decode jdk_38_method_18_code 1 = .ok (.getfield 9, 3) := by decide +kernel
theorem d_j38_18_4 : decode jdk_38_method_18_code 4 = .ok (.iload_n 1, 1) := by decide +kernel
theorem d_j38_18_5 : decode jdk_38_method_18_code 5 = .ok (.aaload, 1) := by decide +kernel
theorem d_j38_18_6 : decode jdk_38_method_18_code 6 = .ok (.areturn, 1) := by decide +kernel
theorem d_j38_20_14 : decode jdk_38_method_20_code 14 = .ok (.areturn, 1) := by decide +kernel
theorem d_g21_10_8 : decode prog_21_method_10_code 8 = .ok (.checkcast 22, 3) := by decide +kernel
theorem d_g21_10_11 : decode prog_21_method_10_code 11 = .ok (.areturn, 1) := by decide +kernel
theorem d_j42_66_0 : decode jdk_42_method_66_code 0 = .ok (.aload_n 0, 1) := by decide +kernel
theorem d_j42_66_1 : decode jdk_42_method_66_code 1 = .ok (.aload_n 1, 1) := by decide +kernel
theorem d_j42_66_2 : decode jdk_42_method_66_code 2 = .ok (.if_acmp .ne 5, 3) := by decide +kernel
theorem d_j42_66_5 : decode jdk_42_method_66_code 5 = .ok (.iconst 1, 1) := by decide +kernel
theorem d_j42_66_6 : decode jdk_42_method_66_code 6 = .ok (.ireturn, 1) := by decide +kernel
def Q_compress_5 (Z : State) (a2 : Addr) (i1 : Int32) (i2 : Int32) (c2 : ClassId) (h0 : Heap) (v : Option Value) (h : Heap) : Prop := v = some (.int (2 : Int32)) ∧ Keep h0 h [a2] ∧ Ar Z h a2 c2 .byte [(.int (cB8 i1)), (.int (cB8 i2))] ∧ Exa Z h a2 "[B"
def R_compress_5 : Room := { frames := 0, cells := 0, slots := 0, locals := 0 }
theorem rm_compress_5 {w : Bool} {Z : State} {a0 : Array Value} (hw : ∀ d ∈ tables_1, d.before a0 Z = true) (Ts : List String) (a1 : Addr) (a2 : Addr) (i1 : Int32) (i2 : Int32) (c1 : ClassId) (c2 : ClassId) (h0 : Heap) (f : Nat) (Zf : Z.heap.size ≤ f) (Z0 : f ≤ h0.size) (A_a1 : Ar Z h0 a1 c1 .char [(.int i1), (.int i2)]) (A_a2 : Ar Z h0 a2 c2 .byte [(.int (0 : Int32)), (.int (0 : Int32))]) (g_a2 : f ≤ a2) (E_a2 : Exa Z h0 a2 "[B") (E_a1 : Exa Z h0 a1 "[C") (r_i1 : 0 ≤ i1.toInt ∧ i1.toInt ≤ 255) (r_i2 : 0 ≤ i2.toInt ∧ i2.toInt ≤ 255) :
    Con w [] Z (⟨"java/lang/StringUTF16", "compress", "([CI[BII)I"⟩ : MethodName) jdk_52_method_21_code 7 (some .int) R_compress_5 Ts Ts f #[(.ref a1), (.int (0 : Int32)), (.ref a2), (.int (0 : Int32)), (.int (2 : Int32))] h0 (Q_compress_5 Z a2 i1 i2 c2 h0) := by
  refine con_of f #[.val (.ref a1), .val (.int (0 : Int32)), .val (.ref a2), .val (.int (0 : Int32)), .val (.int (2 : Int32)), .unset, .unset] (plainFor_of_name pn_0) (fun m => by first | rfl | (simp [entryFrame, mkF, argsToLocals, Value.category]; done)) Zf ?_
  intro C H hX0
  refine r_iconst H 1 (0 : Int32) d_j52_21_0 (by decide) rfl ?_
  refine r_istore H 3 #[.val (.ref a1), .val (.int (0 : Int32)), .val (.ref a2), .val (.int (0 : Int32)), .val (.int (2 : Int32)), .val (.int (0 : Int32)), .unset] d_j52_21_1 rfl rfl ?_
  refine r_iload H 5 d_j52_21_3 rfl rfl ?_
  refine r_iload H 7 d_j52_21_5 rfl rfl ?_
  refine r_icmpgeF H 10 d_j52_21_7 rfl (by decide) ?_
  refine r_aloadN H 11 d_j52_21_10 rfl rfl rfl ?_
  refine r_iloadN H 12 d_j52_21_11 rfl rfl ?_
  refine r_caload H 13 i1 d_j52_21_12 A_a1 (by decide) rfl rfl ?_
  refine r_istore H 15 #[.val (.ref a1), .val (.int (0 : Int32)), .val (.ref a2), .val (.int (0 : Int32)), .val (.int (2 : Int32)), .val (.int (0 : Int32)), .val (.int i1)] d_j52_21_13 rfl rfl ?_
  refine r_iload H 17 d_j52_21_15 rfl rfl ?_
  refine r_sipush H 20 (255 : Int32) d_j52_21_17 (by decide) rfl ?_
  refine r_icmpleT H 26 d_j52_21_20 (by decide) (by decide) (by have := r_i1; have : (255 : Int32).toInt = 255 := (by decide); simp only [Int32.lt_iff_toInt_lt, ← Int32.toInt_inj]; omega) ?_
  refine r_aloadN H 27 d_j52_21_26 rfl rfl rfl ?_
  refine r_iloadN H 28 d_j52_21_27 rfl rfl ?_
  refine r_iload H 30 d_j52_21_28 rfl rfl ?_
  obtain ⟨p1, ep1, rp1⟩ : ∃ p : Int32, (i1.toInt8.toInt32) = p ∧ -128 ≤ p.toInt ∧ p.toInt ≤ 127 := ⟨_, rfl, (by have h := c_i2b i1; omega)⟩
  refine r_i2b H 31 p1 d_j52_21_30 ep1 rfl ?_
  refine r_bastore H 32 p1 d_j52_21_31 A_a2 (by decide) (Nat.le_of_ble_eq_true rfl) g_a2 (nar_byte_id (by have := rp1; omega)) rfl ?_
  intro h2 K2 A2
  change Ar Z h2 a2 c2 .byte [(.int p1), (.int (0 : Int32))] at A2
  refine r_iinc H 35 #[.val (.ref a1), .val (.int (1 : Int32)), .val (.ref a2), .val (.int (0 : Int32)), .val (.int (2 : Int32)), .val (.int (0 : Int32)), .val (.int i1)] (1 : Int32) d_j52_21_32 rfl (by decide) rfl rfl ?_
  refine r_iinc H 38 #[.val (.ref a1), .val (.int (1 : Int32)), .val (.ref a2), .val (.int (1 : Int32)), .val (.int (2 : Int32)), .val (.int (0 : Int32)), .val (.int i1)] (1 : Int32) d_j52_21_35 rfl (by decide) rfl rfl ?_
  refine r_iinc H 41 #[.val (.ref a1), .val (.int (1 : Int32)), .val (.ref a2), .val (.int (1 : Int32)), .val (.int (2 : Int32)), .val (.int (1 : Int32)), .val (.int i1)] (1 : Int32) d_j52_21_38 rfl (by decide) rfl rfl ?_
  refine r_goto H 3 d_j52_21_41 (by decide) (by decide) ?_
  refine r_iload H 5 d_j52_21_3 rfl rfl ?_
  refine r_iload H 7 d_j52_21_5 rfl rfl ?_
  refine r_icmpgeF H 10 d_j52_21_7 rfl (by decide) ?_
  refine r_aloadN H 11 d_j52_21_10 rfl rfl rfl ?_
  refine r_iloadN H 12 d_j52_21_11 rfl rfl ?_
  have q3 := (E_a1.keep K2)
  have q4 := (E_a2.keep K2)
  have q5 := (A_a1.keep K2 (ninS (ne_exa q3 q4 (by decide)) nin0))
  refine r_caload H 13 i2 d_j52_21_12 q5 (by decide) rfl rfl ?_
  refine r_istore H 15 #[.val (.ref a1), .val (.int (1 : Int32)), .val (.ref a2), .val (.int (1 : Int32)), .val (.int (2 : Int32)), .val (.int (1 : Int32)), .val (.int i2)] d_j52_21_13 rfl rfl ?_
  refine r_iload H 17 d_j52_21_15 rfl rfl ?_
  refine r_sipush H 20 (255 : Int32) d_j52_21_17 (by decide) rfl ?_
  refine r_icmpleT H 26 d_j52_21_20 (by decide) (by decide) (by have := r_i2; have : (255 : Int32).toInt = 255 := (by decide); simp only [Int32.lt_iff_toInt_lt, ← Int32.toInt_inj]; omega) ?_
  refine r_aloadN H 27 d_j52_21_26 rfl rfl rfl ?_
  refine r_iloadN H 28 d_j52_21_27 rfl rfl ?_
  refine r_iload H 30 d_j52_21_28 rfl rfl ?_
  obtain ⟨p6, ep6, rp6⟩ : ∃ p : Int32, (i2.toInt8.toInt32) = p ∧ -128 ≤ p.toInt ∧ p.toInt ≤ 127 := ⟨_, rfl, (by have h := c_i2b i2; omega)⟩
  refine r_i2b H 31 p6 d_j52_21_30 ep6 rfl ?_
  refine r_bastore H 32 p6 d_j52_21_31 A2 (by decide) (Nat.le_of_ble_eq_true rfl) g_a2 (nar_byte_id (by have := rp6; omega)) rfl ?_
  intro h7 K7 A7
  change Ar Z h7 a2 c2 .byte [(.int p1), (.int p6)] at A7
  refine r_iinc H 35 #[.val (.ref a1), .val (.int (2 : Int32)), .val (.ref a2), .val (.int (1 : Int32)), .val (.int (2 : Int32)), .val (.int (1 : Int32)), .val (.int i2)] (2 : Int32) d_j52_21_32 rfl (by decide) rfl rfl ?_
  refine r_iinc H 38 #[.val (.ref a1), .val (.int (2 : Int32)), .val (.ref a2), .val (.int (2 : Int32)), .val (.int (2 : Int32)), .val (.int (1 : Int32)), .val (.int i2)] (2 : Int32) d_j52_21_35 rfl (by decide) rfl rfl ?_
  refine r_iinc H 41 #[.val (.ref a1), .val (.int (2 : Int32)), .val (.ref a2), .val (.int (2 : Int32)), .val (.int (2 : Int32)), .val (.int (2 : Int32)), .val (.int i2)] (2 : Int32) d_j52_21_38 rfl (by decide) rfl rfl ?_
  refine r_goto H 3 d_j52_21_41 (by decide) (by decide) ?_
  refine r_iload H 5 d_j52_21_3 rfl rfl ?_
  refine r_iload H 7 d_j52_21_5 rfl rfl ?_
  refine r_icmpgeT H 44 d_j52_21_7 (by decide) (by decide) (by decide) ?_
  refine r_iload H 46 d_j52_21_44 rfl rfl ?_
  have k8 : Keep h0 h2 [a2] := Keep.trans (Keep.refl h0 [a2]) K2 (allS (Or.inl (List.mem_of_getElem? (i := 0) rfl)) all0)
  have k9 : Keep h0 h7 [a2] := Keep.trans k8 K7 (allS (Or.inl (List.mem_of_getElem? (i := 0) rfl)) all0)
  have q10 := (q4.keep K7)
  subst ep1 ep6
  exact r_ireturn H d_j52_21_46 (by decide) (by decide) (Nat.le_refl _) (fun _ t => t) (⟨rfl, k9, A7, q10⟩)
def Q_compress_4 (Z : State) (i1 : Int32) (i2 : Int32) (h0 : Heap) (v : Option Value) (h : Heap) : Prop := ∃ (b1 : Addr) (kc1 : ClassId), v = some (.ref b1) ∧ Keep h0 h [] ∧ h0.size ≤ b1 ∧ Ar Z h b1 kc1 .byte [(.int (cB8 i1)), (.int (cB8 i2))] ∧ Exa Z h b1 "[B"
def R_compress_4 : Room := { frames := 1, cells := 1, slots := 2, locals := 18 }
theorem rm_compress_4 {w : Bool} {Z : State} {a0 : Array Value} (hw : ∀ d ∈ tables_1, d.before a0 Z = true) (Ts : List String) (a1 : Addr) (i1 : Int32) (i2 : Int32) (c1 : ClassId) (h0 : Heap) (f : Nat) (Zf : Z.heap.size ≤ f) (Z0 : f ≤ h0.size) (A_a1 : Ar Z h0 a1 c1 .char [(.int i1), (.int i2)]) (E_a1 : Exa Z h0 a1 "[C") (r_i1 : 0 ≤ i1.toInt ∧ i1.toInt ≤ 255) (r_i2 : 0 ≤ i2.toInt ∧ i2.toInt ≤ 255) :
    Con w [] Z (⟨"java/lang/StringUTF16", "compress", "([CII)[B"⟩ : MethodName) jdk_52_method_16_code 6 (some (.array .byte)) R_compress_4 Ts Ts f #[(.ref a1), (.int (0 : Int32)), (.int (2 : Int32))] h0 (Q_compress_4 Z i1 i2 h0) := by
  refine con_of f #[.val (.ref a1), .val (.int (0 : Int32)), .val (.int (2 : Int32)), .unset, .unset, .unset] (plainFor_of_name pn_0) (fun m => by first | rfl | (simp [entryFrame, mkF, argsToLocals, Value.category]; done)) Zf ?_
  intro C H hX0
  refine r_iloadN H 1 d_j52_16_0 rfl rfl ?_
  refine r_newP H 3 "[B" 2 d_j52_16_1 (tw23 hw) rfl (by decide) (by decide) (by decide) (by decide) (by decide) rfl ?_
  intro h1 b1 kc1 g1 l1 K1 E1 A1
  change Ar Z h1 b1 kc1 .byte [(.int (0 : Int32)), (.int (0 : Int32))] at A1
  refine r_astoreN H 4 #[.val (.ref a1), .val (.int (0 : Int32)), .val (.int (2 : Int32)), .val (.ref b1), .unset, .unset] d_j52_16_3 rfl rfl rfl ?_
  refine r_aloadN H 5 d_j52_16_4 rfl rfl rfl ?_
  refine r_iloadN H 6 d_j52_16_5 rfl rfl ?_
  refine r_aloadN H 7 d_j52_16_6 rfl rfl rfl ?_
  refine r_iconst H 8 (0 : Int32) d_j52_16_7 (by decide) rfl ?_
  refine r_iloadN H 9 d_j52_16_8 rfl rfl ?_
  have q2 := (A_a1.keep K1 nin0)
  have q3 := (E_a1.keep K1)
  refine r_static H 12 d_j52_16_9 (tw24 hw) (tw25 hw) (tw21 hw) (tw26 hw) (by decide) (lenOf pd_0 rfl) (rm_compress_5 hw Ts a1 b1 i1 i2 c1 kc1 h1 f Zf (Nat.le_trans Z0 K1.1) q2 A1 (Nat.le_trans Z0 (Nat.le_of_eq g1.symm)) E1 q3 r_i1 r_i2) (argsL := [(.ref a1), (.int (0 : Int32)), (.ref b1), (.int (0 : Int32)), (.int (2 : Int32))]) (rest := []) rfl (W := 0) (Nat.le_of_eq rfl) rfl (by decide) (by decide) (by decide) (by decide) (Nat.le_refl _) rfl ?_
  rintro _ hh7 ⟨rfl, K4, q5, q6⟩
  refine r_istore H 14 #[.val (.ref a1), .val (.int (0 : Int32)), .val (.int (2 : Int32)), .val (.ref b1), .val (.int (2 : Int32)), .unset] d_j52_16_12 rfl rfl ?_
  refine r_iload H 16 d_j52_16_14 rfl rfl ?_
  refine r_iloadN H 17 d_j52_16_16 rfl rfl ?_
  refine r_icmpeqT H 57 d_j52_16_17 (by decide) (by decide) (by decide) ?_
  refine r_aloadN H 58 d_j52_16_57 rfl rfl rfl ?_
  have k8 : Keep h0 h1 [] := Keep.trans (Keep.refl h0 []) K1 all0
  have k9 : Keep h0 hh7 [] := Keep.trans k8 K4 (allS (Or.inr (Nat.le_trans (Nat.le_refl _) (Nat.le_of_eq g1.symm))) all0)
  exact r_areturn H rfl rfl d_j52_16_58 (by decide) (by decide) (Nat.le_refl _) (fun _ t => t) (⟨b1, kc1, rfl, k9, (Nat.le_trans (Nat.le_refl _) (Nat.le_of_eq g1.symm)), q5, q6⟩)
def Q_coderFromArrayLen_6 (Z : State) (h0 : Heap) (v : Option Value) (h : Heap) : Prop := v = some (.int (0 : Int32)) ∧ h0 = h
def R_coderFromArrayLen_6 : Room := { frames := 0, cells := 0, slots := 0, locals := 0 }
theorem rm_coderFromArrayLen_6 {w : Bool} {Z : State} {a0 : Array Value} (hw : ∀ d ∈ tables_1, d.before a0 Z = true) (Ts : List String) (a1 : Addr) (i1 : Int32) (i2 : Int32) (c1 : ClassId) (h0 : Heap) (f : Nat) (Zf : Z.heap.size ≤ f) (Z0 : f ≤ h0.size) (A_a1 : Ar Z h0 a1 c1 .byte [(.int (cB8 i1)), (.int (cB8 i2))]) :
    Con w [] Z (⟨"java/lang/StringUTF16", "coderFromArrayLen", "([BI)B"⟩ : MethodName) jdk_52_method_15_code 2 (some .byte) R_coderFromArrayLen_6 Ts Ts f #[(.ref a1), (.int (2 : Int32))] h0 (Q_coderFromArrayLen_6 Z h0) := by
  refine con_of f #[.val (.ref a1), .val (.int (2 : Int32))] (plainFor_of_name pn_0) (fun m => by first | rfl | (simp [entryFrame, mkF, argsToLocals, Value.category]; done)) Zf ?_
  intro C H hX0
  refine r_iloadN H 1 d_j52_15_0 rfl rfl ?_
  refine r_aloadN H 2 d_j52_15_1 rfl rfl rfl ?_
  refine r_alen H 3 (2 : Int32) d_j52_15_2 A_a1 rfl rfl ?_
  refine r_isub H 4 (0 : Int32) d_j52_15_3 (by decide) rfl ?_
  refine r_bipush H 6 (31 : Int32) d_j52_15_4 (by decide) rfl ?_
  refine r_iushr H 7 (0 : Int32) d_j52_15_6 (by decide) rfl ?_
  refine r_i2b H 8 (0 : Int32) d_j52_15_7 (by decide) rfl ?_
  exact r_nreturn (0 : Int32) H (by simp) d_j52_15_8 (by decide) (by decide) (by decide) (Nat.le_refl _) (fun _ t => t) (⟨rfl, rfl⟩)
def Q_init_3 (Z : State) (a1 : Addr) (i1 : Int32) (i2 : Int32) (h0 : Heap) (v : Option Value) (h : Heap) : Prop := ∃ (b1 : Addr) (kc2 : ClassId), v = none ∧ Keep h0 h [a1] ∧ h0.size ≤ b1 ∧ Exa Z h a1 "java/lang/String" ∧ Fld Z h a1 "java/lang/String" "coder" "B" (.int (0 : Int32)) ∧ Fld Z h a1 "java/lang/String" "value" "[B" (.ref b1) ∧ Ar Z h b1 kc2 .byte [(.int (cB8 i1)), (.int (cB8 i2))] ∧ Exa Z h b1 "[B"
def R_init_3 : Room := { frames := 2, cells := 1, slots := 2, locals := 35 }
theorem rm_init_3 {w : Bool} {Z : State} {a0 : Array Value} (hw : ∀ d ∈ tables_1, d.before a0 Z = true) (Ts : List String) (a1 : Addr) (a2 : Addr) (i1 : Int32) (i2 : Int32) (c1 : ClassId) (cs : Int32) (h0 : Heap) (f : Nat) (Zf : Z.heap.size ≤ f) (Z0 : f ≤ h0.size) (A_a2 : Ar Z h0 a2 c1 .char [(.int i1), (.int i2)]) (E_a2 : Exa Z h0 a2 "[C") (E_a1 : Exa Z h0 a1 "java/lang/String") (F_coder_a1 : Fld Z h0 a1 "java/lang/String" "coder" "B" (.int (0 : Int32))) (g_a1 : f ≤ a1) (F_value_a1 : Fld Z h0 a1 "java/lang/String" "value" "[B" .null) (r_i1 : 0 ≤ i1.toInt ∧ i1.toInt ≤ 255) (r_i2 : 0 ≤ i2.toInt ∧ i2.toInt ≤ 255) (S_cs : Sta Z Z.heap "java/lang/String" "COMPACT_STRINGS" "Z" (.int cs)) (hcs : ¬ cs = 0) :
    Con w [] Z (⟨"java/lang/String", "<init>", "([CIILjava/lang/Void;)V"⟩ : MethodName) jdk_42_method_149_code 6 none R_init_3 Ts Ts f #[(.ref a1), (.ref a2), (.int (0 : Int32)), (.int (2 : Int32)), .null] h0 (Q_init_3 Z a1 i1 i2 h0) := by
  refine con_of f #[.val (.ref a1), .val (.ref a2), .val (.int (0 : Int32)), .val (.int (2 : Int32)), .val .null, .unset] (plainFor_of_name pn_1) (fun m => by first | rfl | (simp [entryFrame, mkF, argsToLocals, Value.category]; done)) Zf ?_
  intro C H hX0
  refine r_aloadN H 1 d_j42_149_0 rfl rfl rfl ?_
  refine r_initO H 4 d_j42_149_1 (tw15 hw) (tw16 hw) (tw17 hw) rfl (by decide) (W := 0) (Nat.le_of_eq rfl) (by decide) rfl ?_
  refine r_iloadN H 5 d_j42_149_4 rfl rfl ?_
  refine r_ifneT H 27 d_j42_149_5 (by decide) (by decide) (by decide) ?_
  refine r_gets H 30 d_j42_149_27 (tw18 hw) Via.refl S_cs rfl ?_
  refine r_ifeqF H 33 d_j42_149_30 rfl hcs ?_
  refine r_aloadN H 34 d_j42_149_33 rfl rfl rfl ?_
  refine r_iloadN H 35 d_j42_149_34 rfl rfl ?_
  refine r_iloadN H 36 d_j42_149_35 rfl rfl ?_
  refine r_static H 39 d_j42_149_36 (tw19 hw) (tw20 hw) (tw21 hw) (tw22 hw) (by decide) (lenOf pd_1 rfl) (rm_compress_4 hw Ts a2 i1 i2 c1 h0 f Zf Z0 A_a2 E_a2 r_i1 r_i2) (argsL := [(.ref a2), (.int (0 : Int32)), (.int (2 : Int32))]) (rest := []) rfl (W := 0) (Nat.le_of_eq rfl) rfl (by decide) (by decide) (by decide) (by decide) (Nat.le_refl _) rfl ?_
  rintro _ hh7 ⟨b1, kc2, rfl, K3, g4, q5, q6⟩
  refine r_astore H 41 #[.val (.ref a1), .val (.ref a2), .val (.int (0 : Int32)), .val (.int (2 : Int32)), .val .null, .val (.ref b1)] d_j42_149_39 rfl rfl rfl ?_
  refine r_aloadN H 42 d_j42_149_41 rfl rfl rfl ?_
  refine r_aload H 44 d_j42_149_42 rfl rfl rfl ?_
  refine r_iloadN H 45 d_j42_149_44 rfl rfl ?_
  refine r_static H 48 d_j42_149_45 (tw27 hw) (tw28 hw) (tw21 hw) (tw29 hw) (by decide) (lenOf pd_2 rfl) (rm_coderFromArrayLen_6 hw Ts b1 i1 i2 kc2 hh7 f Zf (Nat.le_trans Z0 K3.1) q5) (argsL := [(.ref b1), (.int (2 : Int32))]) (rest := [(.ref a1)]) rfl (W := 1) (Nat.le_of_eq rfl) rfl (by decide) (by decide) (by decide) (by decide) (Nat.le_refl _) rfl ?_
  rintro _ _ ⟨rfl, rfl⟩
  have q9 := (E_a1.keep K3)
  have q10 := (F_coder_a1.keep K3 nin0)
  refine r_putn H 51 (v' := (.int (0 : Int32))) d_j42_149_48 (tw30 hw) Via.refl q10 q9 (Or.inr ⟨(tw31 hw), rfl, rfl⟩) (tw6 hw) (ty := .byte) (by decide) rfl (by decide) g_a1 rfl ?_
  intro h11 W11 K11 E11 F11
  refine r_aloadN H 52 d_j42_149_51 rfl rfl rfl ?_
  refine r_aload H 54 d_j42_149_52 rfl rfl rfl ?_
  have q12 := ((F_value_a1.keep K3 nin0).other W11 (Or.inr (slot_ne (Or.inr (tw33 hw)) (Or.inr (tw31 hw)) (by decide) (t := (.array .byte)) (t' := .byte) (by decide) (by decide))))
  refine r_putf H 57 d_j42_149_54 (tw32 hw) Via.refl q12 E11 (Or.inr ⟨(tw33 hw), rfl, rfl⟩) (tw6 hw) (ty := (.array .byte)) (by decide) rfl rfl g_a1 rfl ?_
  intro h13 W13 K13 E13 F13
  have k14 : Keep h0 hh7 [a1] := Keep.trans (Keep.refl h0 [a1]) K3 all0
  have k15 : Keep h0 h11 [a1] := Keep.trans k14 K11 (allS (Or.inl (List.mem_of_getElem? (i := 0) rfl)) all0)
  have k16 : Keep h0 h13 [a1] := Keep.trans k15 K13 (allS (Or.inl (List.mem_of_getElem? (i := 0) rfl)) all0)
  have q17 := (F11.other W13 (Or.inr (slot_ne (Or.inr (tw31 hw)) (Or.inr (tw33 hw)) (by decide) (t := .byte) (t' := (.array .byte)) (by decide) (by decide))))
  have q18 := ((q5.keep K11 (ninS (Ne.symm (Nat.ne_of_lt (Nat.lt_of_lt_of_le E_a1.lt (Nat.le_trans (Nat.le_refl _) g4)))) nin0)).keep K13 (ninS (Ne.symm (Nat.ne_of_lt (Nat.lt_of_lt_of_le E_a1.lt (Nat.le_trans (Nat.le_refl _) g4)))) nin0))
  have q19 := ((q6.keep K11).keep K13)
  exact r_return H d_j42_149_57 (by decide) (by decide) (Nat.le_refl _) (fun _ t => t) (⟨b1, kc2, rfl, k16, (Nat.le_trans (Nat.le_refl _) g4), E13, q17, F13, q18, q19⟩)
def Q_init_2 (Z : State) (a1 : Addr) (i1 : Int32) (i2 : Int32) (h0 : Heap) (v : Option Value) (h : Heap) : Prop := ∃ (b1 : Addr) (kc2 : ClassId), v = none ∧ Keep h0 h [a1] ∧ h0.size ≤ b1 ∧ Exa Z h a1 "java/lang/String" ∧ Fld Z h a1 "java/lang/String" "coder" "B" (.int (0 : Int32)) ∧ Fld Z h a1 "java/lang/String" "value" "[B" (.ref b1) ∧ Ar Z h b1 kc2 .byte [(.int (cB8 i1)), (.int (cB8 i2))] ∧ Exa Z h b1 "[B"
def R_init_2 : Room := { frames := 3, cells := 1, slots := 2, locals := 52 }
theorem rm_init_2 {w : Bool} {Z : State} {a0 : Array Value} (hw : ∀ d ∈ tables_1, d.before a0 Z = true) (Ts : List String) (a1 : Addr) (a2 : Addr) (i1 : Int32) (i2 : Int32) (c1 : ClassId) (cs : Int32) (h0 : Heap) (f : Nat) (Zf : Z.heap.size ≤ f) (Z0 : f ≤ h0.size) (A_a2 : Ar Z h0 a2 c1 .char [(.int i1), (.int i2)]) (g_a1 : f ≤ a1) (E_a2 : Exa Z h0 a2 "[C") (E_a1 : Exa Z h0 a1 "java/lang/String") (F_coder_a1 : Fld Z h0 a1 "java/lang/String" "coder" "B" (.int (0 : Int32))) (F_value_a1 : Fld Z h0 a1 "java/lang/String" "value" "[B" .null) (r_i1 : 0 ≤ i1.toInt ∧ i1.toInt ≤ 255) (r_i2 : 0 ≤ i2.toInt ∧ i2.toInt ≤ 255) (S_cs : Sta Z Z.heap "java/lang/String" "COMPACT_STRINGS" "Z" (.int cs)) (hcs : ¬ cs = 0) :
    Con w [] Z (⟨"java/lang/String", "<init>", "([C)V"⟩ : MethodName) jdk_42_method_3_code 2 none R_init_2 Ts Ts f #[(.ref a1), (.ref a2)] h0 (Q_init_2 Z a1 i1 i2 h0) := by
  refine con_of f #[.val (.ref a1), .val (.ref a2)] (plainFor_of_name pn_1) (fun m => by first | rfl | (simp [entryFrame, mkF, argsToLocals, Value.category]; done)) Zf ?_
  intro C H hX0
  refine r_aloadN H 1 d_j42_3_0 rfl rfl rfl ?_
  refine r_aloadN H 2 d_j42_3_1 rfl rfl rfl ?_
  refine r_iconst H 3 (0 : Int32) d_j42_3_2 (by decide) rfl ?_
  refine r_aloadN H 4 d_j42_3_3 rfl rfl rfl ?_
  refine r_alen H 5 (2 : Int32) d_j42_3_4 A_a2 rfl rfl ?_
  refine r_null H 6 d_j42_3_5 rfl ?_
  refine r_special H 9 (a := a1) d_j42_3_6 (tw11 hw) (tw12 hw) (tw7 hw) (tw14 hw) (by decide) rfl (lenOf pd_3 rfl) (rm_init_3 hw Ts a1 a2 i1 i2 c1 cs h0 f Zf Z0 A_a2 E_a2 E_a1 F_coder_a1 g_a1 F_value_a1 r_i1 r_i2 S_cs hcs) (argsL := [(.ref a2), (.int (0 : Int32)), (.int (2 : Int32)), .null]) (rest := []) rfl (W := 0) (Nat.le_of_eq rfl) rfl (by decide) (by decide) (by decide) (by decide) (Nat.le_refl _) rfl ?_
  rintro _ hh10 ⟨b1, kc2, rfl, K3, g4, q5, q6, q7, q8, q9⟩
  have k11 : Keep h0 hh10 [a1] := Keep.trans (Keep.refl h0 [a1]) K3 (allS (Or.inl (List.mem_of_getElem? (i := 0) rfl)) all0)
  exact r_return H d_j42_3_9 (by decide) (by decide) (Nat.le_refl _) (fun _ t => t) (⟨b1, kc2, rfl, k11, (Nat.le_trans (Nat.le_refl _) g4), q5, q6, q7, q8, q9⟩)
def Q_str_1 (Z : State) (i1 : Int32) (h0 : Heap) (v : Option Value) (h : Heap) : Prop := ∃ (b8 : Addr) (b11 : Addr) (kc12 : ClassId), v = some (.ref b8) ∧ Keep h0 h [] ∧ h0.size ≤ b8 ∧ h0.size ≤ b11 ∧ b8 < b11 ∧ Exa Z h b8 "java/lang/String" ∧ Fld Z h b8 "java/lang/String" "coder" "B" (.int (0 : Int32)) ∧ Fld Z h b8 "java/lang/String" "value" "[B" (.ref b11) ∧ Ar Z h b11 kc12 .byte [(.int (cB8 (i1 &&& (255 : Int32)))), (.int (cB8 ((ush32 i1 (8 : Int32)) &&& (255 : Int32))))] ∧ Exa Z h b11 "[B"
def R_str_1 : Room := { frames := 4, cells := 3, slots := 8, locals := 66 }
theorem rm_str_1 {w : Bool} {Z : State} {a0 : Array Value} (hw : ∀ d ∈ tables_1, d.before a0 Z = true) (Ts : List String) (i1 : Int32) (cs : Int32) (h0 : Heap) (f : Nat) (Zf : Z.heap.size ≤ f) (Z0 : f ≤ h0.size) (S_cs : Sta Z Z.heap "java/lang/String" "COMPACT_STRINGS" "Z" (.int cs)) (hcs : ¬ cs = 0) :
    Con w [] Z (⟨"com/example/steady_fixtures/steadyfixtures/load/TableRowsResourcePinLaw", "str", "(I)Ljava/lang/String;"⟩ : MethodName) method_3_code 2 (some (.object "java/lang/String")) R_str_1 Ts Ts f #[(.int i1)] h0 (Q_str_1 Z i1 h0) := by
  refine con_of f #[.val (.int i1), .unset] (plainFor_of_name pn_2) (fun m => by first | rfl | (simp [entryFrame, mkF, argsToLocals, Value.category]; done)) Zf ?_
  intro C H hX0
  refine r_iconst H 1 (2 : Int32) d_3_0 (by decide) rfl ?_
  refine r_newP H 3 "[C" 2 d_3_1 (tw4 hw) rfl (by decide) (by decide) (by decide) (by decide) (by decide) rfl ?_
  intro h1 b1 kc1 g1 l1 K1 E1 A1
  change Ar Z h1 b1 kc1 .char [(.int (0 : Int32)), (.int (0 : Int32))] at A1
  refine r_astoreN H 4 #[.val (.int i1), .val (.ref b1)] d_3_3 rfl rfl rfl ?_
  refine r_aloadN H 5 d_3_4 rfl rfl rfl ?_
  refine r_iconst H 6 (0 : Int32) d_3_5 (by decide) rfl ?_
  refine r_iloadN H 7 d_3_6 rfl rfl ?_
  refine r_sipush H 10 (255 : Int32) d_3_7 (by decide) rfl ?_
  obtain ⟨p2, ep2, rp2⟩ : ∃ p : Int32, (i1 &&& (255 : Int32)) = p ∧ 0 ≤ p.toInt ∧ p.toInt ≤ 255 := ⟨_, rfl, (by have h := c_and i1 (255 : Int32) (by decide); have : (255 : Int32).toInt = 255 := (by decide); omega)⟩
  refine r_iand H 11 p2 d_3_10 ep2 rfl ?_
  refine r_i2c H 12 p2 d_3_11 (i2c_id (by have := rp2; omega)) rfl ?_
  refine r_castore H 13 p2 d_3_12 A1 (by decide) (Nat.le_of_ble_eq_true rfl) (Nat.le_trans Z0 (Nat.le_of_eq g1.symm)) (nar_char_id (by have := rp2; omega)) rfl ?_
  intro h3 K3 A3
  change Ar Z h3 b1 kc1 .char [(.int p2), (.int (0 : Int32))] at A3
  refine r_aloadN H 14 d_3_13 rfl rfl rfl ?_
  refine r_iconst H 15 (1 : Int32) d_3_14 (by decide) rfl ?_
  refine r_iloadN H 16 d_3_15 rfl rfl ?_
  refine r_bipush H 18 (8 : Int32) d_3_16 (by decide) rfl ?_
  obtain ⟨p4, ep4, rp4⟩ : ∃ p : Int32, (ush32 i1 (8 : Int32)) = p ∧ 0 ≤ p.toInt ∧ p.toInt ≤ 16777215 := ⟨_, rfl, (by have h1 := ushr_eq i1 (8 : Int32) 8 (by decide) (by decide); have h2 := rng32 i1; omega)⟩
  refine r_iushr H 19 p4 d_3_18 ep4 rfl ?_
  refine r_sipush H 22 (255 : Int32) d_3_19 (by decide) rfl ?_
  obtain ⟨p5, ep5, rp5⟩ : ∃ p : Int32, (p4 &&& (255 : Int32)) = p ∧ 0 ≤ p.toInt ∧ p.toInt ≤ 255 := ⟨_, rfl, (by have h := c_and p4 (255 : Int32) (by decide); have : (255 : Int32).toInt = 255 := (by decide); omega)⟩
  refine r_iand H 23 p5 d_3_22 ep5 rfl ?_
  refine r_i2c H 24 p5 d_3_23 (i2c_id (by have := rp5; omega)) rfl ?_
  refine r_castore H 25 p5 d_3_24 A3 (by decide) (Nat.le_of_ble_eq_true rfl) (Nat.le_trans Z0 (Nat.le_of_eq g1.symm)) (nar_char_id (by have := rp5; omega)) rfl ?_
  intro h6 K6 A6
  have q7 := (E1.keep K3)
  change Ar Z h6 b1 kc1 .char [(.int p2), (.int p5)] at A6
  refine r_new H 28 d_3_25 (tw5 hw) (tw6 hw) (tw7 hw) (by decide) (by decide) rfl ?_
  intro h8 b8 g8 l8 K8 E8 D8
  refine r_dup H 29 d_3_28 rfl rfl ?_
  refine r_aloadN H 30 d_3_29 rfl rfl rfl ?_
  have q9 := (A6.keep K8 nin0)
  have q10 := ((q7.keep K6).keep K8)
  refine r_special H 33 (a := b8) d_3_30 (tw8 hw) (tw9 hw) (tw7 hw) (tw10 hw) (by decide) rfl (lenOf pd_4 rfl) (rm_init_2 hw Ts b8 b1 p2 p5 kc1 cs h8 f Zf (Nat.le_trans Z0 (Nat.le_trans (Nat.le_trans (Nat.le_trans K1.1 K3.1) K6.1) K8.1)) q9 (Nat.le_trans (Nat.le_trans Z0 (Nat.le_trans (Nat.le_trans K1.1 K3.1) K6.1)) (Nat.le_of_eq g8.symm)) q10 E8 (show Fld Z h8 b8 "java/lang/String" "coder" "B" (.int (0 : Int32)) from D8 (Or.inr (tw31 hw)) (ty := .byte) (by decide)) (show Fld Z h8 b8 "java/lang/String" "value" "[B" .null from D8 (Or.inr (tw33 hw)) (ty := (.array .byte)) (by decide)) rp2 rp5 S_cs hcs) (argsL := [(.ref b1)]) (rest := [(.ref b8)]) rfl (W := 1) (Nat.le_of_eq rfl) rfl (by decide) (by decide) (by decide) (by decide) (Nat.le_refl _) rfl ?_
  rintro _ hh20 ⟨b11, kc12, rfl, K13, g14, q15, q16, q17, q18, q19⟩
  have k21 : Keep h0 h1 [] := Keep.trans (Keep.refl h0 []) K1 all0
  have k22 : Keep h0 h3 [] := Keep.trans k21 K3 (allS (Or.inr (Nat.le_trans (Nat.le_refl _) (Nat.le_of_eq g1.symm))) all0)
  have k23 : Keep h0 h6 [] := Keep.trans k22 K6 (allS (Or.inr (Nat.le_trans (Nat.le_refl _) (Nat.le_of_eq g1.symm))) all0)
  have k24 : Keep h0 h8 [] := Keep.trans k23 K8 all0
  have k25 : Keep h0 hh20 [] := Keep.trans k24 K13 (allS (Or.inr (Nat.le_trans (Nat.le_trans (Nat.le_trans K1.1 K3.1) K6.1) (Nat.le_of_eq g8.symm))) all0)
  subst ep2 ep4 ep5
  exact r_areturn H rfl rfl d_3_33 (by decide) (by decide) (Nat.le_refl _) (fun _ t => t) (⟨b8, b11, kc12, rfl, k25, (Nat.le_trans (Nat.le_trans (Nat.le_trans K1.1 K3.1) K6.1) (Nat.le_of_eq g8.symm)), (Nat.le_trans (Nat.le_trans (Nat.le_trans (Nat.le_trans K1.1 K3.1) K6.1) K8.1) g14), (Nat.lt_of_lt_of_le E8.lt (Nat.le_trans (Nat.le_refl _) g14)), q15, q16, q17, q18, q19⟩)
def Q_init_9 (Z : State) (h0 : Heap) (v : Option Value) (h : Heap) : Prop := v = none ∧ h0 = h
def R_init_9 : Room := { frames := 1, cells := 0, slots := 0, locals := 12 }
theorem rm_init_9 {w : Bool} {Z : State} {a0 : Array Value} (hw : ∀ d ∈ tables_1, d.before a0 Z = true) (Ts : List String) (a1 : Addr) (h0 : Heap) (f : Nat) (Zf : Z.heap.size ≤ f) (Z0 : f ≤ h0.size) :
    Con w [] Z (⟨"java/util/AbstractCollection", "<init>", "()V"⟩ : MethodName) jdk_22_method_1_code 1 none R_init_9 Ts Ts f #[(.ref a1)] h0 (Q_init_9 Z h0) := by
  refine con_of f #[.val (.ref a1)] (plainFor_of_name pn_3) (fun m => by first | rfl | (simp [entryFrame, mkF, argsToLocals, Value.category]; done)) Zf ?_
  intro C H hX0
  refine r_aloadN H 1 d_j22_1_0 rfl rfl rfl ?_
  refine r_initO H 4 d_j22_1_1 (tw56 hw) (tw16 hw) (tw17 hw) rfl (by decide) (W := 0) (Nat.le_of_eq rfl) (by decide) rfl ?_
  exact r_return H d_j22_1_4 (by decide) (by decide) (Nat.le_refl _) (fun _ t => t) (⟨rfl, rfl⟩)
def Q_init_8 (Z : State) (a1 : Addr) (h0 : Heap) (v : Option Value) (h : Heap) : Prop := v = none ∧ Keep h0 h [a1] ∧ Exa Z h a1 "java/util/ArrayList" ∧ Fld Z h a1 "java/util/AbstractList" "modCount" "I" (.int (0 : Int32)) ∧ Fld Z h a1 "java/util/ArrayList" "elementData" "[Ljava/lang/Object;" .null ∧ Fld Z h a1 "java/util/ArrayList" "size" "I" (.int (0 : Int32))
def R_init_8 : Room := { frames := 2, cells := 0, slots := 0, locals := 24 }
theorem rm_init_8 {w : Bool} {Z : State} {a0 : Array Value} (hw : ∀ d ∈ tables_1, d.before a0 Z = true) (Ts : List String) (a1 : Addr) (h0 : Heap) (f : Nat) (Zf : Z.heap.size ≤ f) (Z0 : f ≤ h0.size) (E_a1 : Exa Z h0 a1 "java/util/ArrayList") (F_modCount_a1 : Fld Z h0 a1 "java/util/AbstractList" "modCount" "I" (.int (0 : Int32))) (g_a1 : f ≤ a1) (F_elementData_a1 : Fld Z h0 a1 "java/util/ArrayList" "elementData" "[Ljava/lang/Object;" .null) (F_size_a1 : Fld Z h0 a1 "java/util/ArrayList" "size" "I" (.int (0 : Int32))) :
    Con w [] Z (⟨"java/util/AbstractList", "<init>", "()V"⟩ : MethodName) jdk_39_method_1_code 1 none R_init_8 Ts Ts f #[(.ref a1)] h0 (Q_init_8 Z a1 h0) := by
  refine con_of f #[.val (.ref a1)] (plainFor_of_name pn_4) (fun m => by first | rfl | (simp [entryFrame, mkF, argsToLocals, Value.category]; done)) Zf ?_
  intro C H hX0
  refine r_aloadN H 1 d_j39_1_0 rfl rfl rfl ?_
  refine r_special H 4 (a := a1) d_j39_1_1 (tw50 hw) (tw51 hw) (tw54 hw) (tw55 hw) (by decide) rfl (lenOf pd_6 rfl) (rm_init_9 hw Ts a1 h0 f Zf Z0) (argsL := []) (rest := []) rfl (W := 0) (Nat.le_of_eq rfl) rfl (by decide) (by decide) (by decide) (by decide) (Nat.le_refl _) rfl ?_
  rintro _ _ ⟨rfl, rfl⟩
  refine r_aloadN H 5 d_j39_1_4 rfl rfl rfl ?_
  refine r_iconst H 6 (0 : Int32) d_j39_1_5 (by decide) rfl ?_
  refine r_putf H 9 d_j39_1_6 (tw57 hw) Via.refl F_modCount_a1 E_a1 (Or.inl (tw58 hw)) (tw39 hw) (ty := .int) (by decide) rfl rfl g_a1 rfl ?_
  intro h2 W2 K2 E2 F2
  have k3 : Keep h0 h2 [a1] := Keep.trans (Keep.refl h0 [a1]) K2 (allS (Or.inl (List.mem_of_getElem? (i := 0) rfl)) all0)
  have q4 := (F_elementData_a1.other W2 (Or.inr (slot_ne (Or.inl (tw61 hw)) (Or.inl (tw58 hw)) (by decide) (t := (.array (.object "java/lang/Object"))) (t' := .int) (by decide) (by decide))))
  have q5 := (F_size_a1.other W2 (Or.inr (slot_ne (Or.inl (tw113 hw)) (Or.inl (tw58 hw)) (by decide) (t := .int) (t' := .int) (by decide) (by decide))))
  exact r_return H d_j39_1_9 (by decide) (by decide) (Nat.le_refl _) (fun _ t => t) (⟨rfl, k3, E2, F2, q4, q5⟩)
def Q_init_7 (Z : State) (a1 : Addr) (ed0 : Addr) (h0 : Heap) (v : Option Value) (h : Heap) : Prop := v = none ∧ Keep h0 h [a1] ∧ Exa Z h a1 "java/util/ArrayList" ∧ Fld Z h a1 "java/util/AbstractList" "modCount" "I" (.int (0 : Int32)) ∧ Fld Z h a1 "java/util/ArrayList" "elementData" "[Ljava/lang/Object;" (.ref ed0) ∧ Fld Z h a1 "java/util/ArrayList" "size" "I" (.int (0 : Int32))
def R_init_7 : Room := { frames := 3, cells := 0, slots := 0, locals := 36 }
theorem rm_init_7 {w : Bool} {Z : State} {a0 : Array Value} (hw : ∀ d ∈ tables_1, d.before a0 Z = true) (Ts : List String) (a1 : Addr) (ed0 : Addr) (h0 : Heap) (f : Nat) (Zf : Z.heap.size ≤ f) (Z0 : f ≤ h0.size) (g_a1 : f ≤ a1) (E_a1 : Exa Z h0 a1 "java/util/ArrayList") (F_modCount_a1 : Fld Z h0 a1 "java/util/AbstractList" "modCount" "I" (.int (0 : Int32))) (F_elementData_a1 : Fld Z h0 a1 "java/util/ArrayList" "elementData" "[Ljava/lang/Object;" .null) (F_size_a1 : Fld Z h0 a1 "java/util/ArrayList" "size" "I" (.int (0 : Int32))) (S_ed : Sta Z Z.heap "java/util/ArrayList" "DEFAULTCAPACITY_EMPTY_ELEMENTDATA" "[Ljava/lang/Object;" (.ref ed0)) :
    Con w [] Z (⟨"java/util/ArrayList", "<init>", "()V"⟩ : MethodName) jdk_38_method_2_code 1 none R_init_7 Ts Ts f #[(.ref a1)] h0 (Q_init_7 Z a1 ed0 h0) := by
  refine con_of f #[.val (.ref a1)] (plainFor_of_name pn_5) (fun m => by first | rfl | (simp [entryFrame, mkF, argsToLocals, Value.category]; done)) Zf ?_
  intro C H hX0
  refine r_aloadN H 1 d_j38_2_0 rfl rfl rfl ?_
  refine r_special H 4 (a := a1) d_j38_2_1 (tw44 hw) (tw45 hw) (tw48 hw) (tw49 hw) (by decide) rfl (lenOf pd_6 rfl) (rm_init_8 hw Ts a1 h0 f Zf Z0 E_a1 F_modCount_a1 g_a1 F_elementData_a1 F_size_a1) (argsL := []) (rest := []) rfl (W := 0) (Nat.le_of_eq rfl) rfl (by decide) (by decide) (by decide) (by decide) (Nat.le_refl _) rfl ?_
  rintro _ hh6 ⟨rfl, K1, q2, q3, q4, q5⟩
  refine r_aloadN H 5 d_j38_2_4 rfl rfl rfl ?_
  refine r_gets H 8 d_j38_2_5 (tw59 hw) Via.refl S_ed rfl ?_
  refine r_putf H 11 d_j38_2_8 (tw60 hw) Via.refl q4 q2 (Or.inl (tw61 hw)) (tw39 hw) (ty := (.array (.object "java/lang/Object"))) (by decide) rfl rfl g_a1 rfl ?_
  intro h7 W7 K7 E7 F7
  have k8 : Keep h0 hh6 [a1] := Keep.trans (Keep.refl h0 [a1]) K1 (allS (Or.inl (List.mem_of_getElem? (i := 0) rfl)) all0)
  have k9 : Keep h0 h7 [a1] := Keep.trans k8 K7 (allS (Or.inl (List.mem_of_getElem? (i := 0) rfl)) all0)
  have q10 := (q3.other W7 (Or.inr (slot_ne (Or.inl (tw58 hw)) (Or.inl (tw61 hw)) (by decide) (t := .int) (t' := (.array (.object "java/lang/Object"))) (by decide) (by decide))))
  have q11 := (q5.other W7 (Or.inr (slot_ne (Or.inl (tw113 hw)) (Or.inl (tw61 hw)) (by decide) (t := .int) (t' := (.array (.object "java/lang/Object"))) (by decide) (by decide))))
  exact r_return H d_j38_2_11 (by decide) (by decide) (Nat.le_refl _) (fun _ t => t) (⟨rfl, k9, E7, q10, F7, q11⟩)
def Q_init_12 (Z : State) (h0 : Heap) (v : Option Value) (h : Heap) : Prop := v = none ∧ h0 = h
def R_init_12 : Room := { frames := 1, cells := 0, slots := 0, locals := 12 }
theorem rm_init_12 {w : Bool} {Z : State} {a0 : Array Value} (hw : ∀ d ∈ tables_1, d.before a0 Z = true) (Ts : List String) (a1 : Addr) (h0 : Heap) (f : Nat) (Zf : Z.heap.size ≤ f) (Z0 : f ≤ h0.size) :
    Con w [] Z (⟨"java/util/AbstractMap", "<init>", "()V"⟩ : MethodName) jdk_71_method_1_code 1 none R_init_12 Ts Ts f #[(.ref a1)] h0 (Q_init_12 Z h0) := by
  refine con_of f #[.val (.ref a1)] (plainFor_of_name pn_6) (fun m => by first | rfl | (simp [entryFrame, mkF, argsToLocals, Value.category]; done)) Zf ?_
  intro C H hX0
  refine r_aloadN H 1 d_j71_1_0 rfl rfl rfl ?_
  refine r_initO H 4 d_j71_1_1 (tw78 hw) (tw16 hw) (tw17 hw) rfl (by decide) (W := 0) (Nat.le_of_eq rfl) (by decide) rfl ?_
  exact r_return H d_j71_1_4 (by decide) (by decide) (Nat.le_refl _) (fun _ t => t) (⟨rfl, rfl⟩)
def Q_init_11 (Z : State) (a1 : Addr) (h0 : Heap) (v : Option Value) (h : Heap) : Prop := v = none ∧ Keep h0 h [a1] ∧ Exa Z h a1 "java/util/HashMap" ∧ Fld Z h a1 "java/util/HashMap" "loadFactor" "F" (.float (1061158912 : UInt32))
def R_init_11 : Room := { frames := 2, cells := 0, slots := 0, locals := 24 }
theorem rm_init_11 {w : Bool} {Z : State} {a0 : Array Value} (hw : ∀ d ∈ tables_1, d.before a0 Z = true) (Ts : List String) (a1 : Addr) (h0 : Heap) (f : Nat) (Zf : Z.heap.size ≤ f) (Z0 : f ≤ h0.size) (E_a1 : Exa Z h0 a1 "java/util/HashMap") (F_loadFactor_a1 : Fld Z h0 a1 "java/util/HashMap" "loadFactor" "F" (.float (0 : UInt32))) (g_a1 : f ≤ a1) :
    Con w [] Z (⟨"java/util/HashMap", "<init>", "()V"⟩ : MethodName) jdk_69_method_7_code 1 none R_init_11 Ts Ts f #[(.ref a1)] h0 (Q_init_11 Z a1 h0) := by
  refine con_of f #[.val (.ref a1)] (plainFor_of_name pn_7) (fun m => by first | rfl | (simp [entryFrame, mkF, argsToLocals, Value.category]; done)) Zf ?_
  intro C H hX0
  refine r_aloadN H 1 d_j69_7_0 rfl rfl rfl ?_
  refine r_special H 4 (a := a1) d_j69_7_1 (tw72 hw) (tw73 hw) (tw76 hw) (tw77 hw) (by decide) rfl (lenOf pd_6 rfl) (rm_init_12 hw Ts a1 h0 f Zf Z0) (argsL := []) (rest := []) rfl (W := 0) (Nat.le_of_eq rfl) rfl (by decide) (by decide) (by decide) (by decide) (Nat.le_refl _) rfl ?_
  rintro _ _ ⟨rfl, rfl⟩
  refine r_aloadN H 5 d_j69_7_4 rfl rfl rfl ?_
  refine r_ldcF H 7 d_j69_7_5 (tw79 hw) rfl ?_
  refine r_putf H 10 d_j69_7_7 (tw80 hw) Via.refl F_loadFactor_a1 E_a1 (Or.inr ⟨(tw81 hw), rfl, rfl⟩) (tw67 hw) (ty := .float) (by decide) rfl rfl g_a1 rfl ?_
  intro h2 W2 K2 E2 F2
  have k3 : Keep h0 h2 [a1] := Keep.trans (Keep.refl h0 [a1]) K2 (allS (Or.inl (List.mem_of_getElem? (i := 0) rfl)) all0)
  exact r_return H d_j69_7_10 (by decide) (by decide) (Nat.le_refl _) (fun _ t => t) (⟨rfl, k3, E2, F2⟩)
def Q_init_10 (Z : State) (a1 : Addr) (a2 : Addr) (ed0 : Addr) (h0 : Heap) (v : Option Value) (h : Heap) : Prop := ∃ (b1 : Addr) (b9 : Addr) (b13 : Addr) (b17 : Addr) (b27 : Addr) (b37 : Addr) (kc9 : ClassId) (kc13 : ClassId) (kc37 : ClassId), v = none ∧ Keep h0 h [a1] ∧ h0.size ≤ b1 ∧ h0.size ≤ b9 ∧ h0.size ≤ b13 ∧ h0.size ≤ b17 ∧ h0.size ≤ b27 ∧ h0.size ≤ b37 ∧ b1 < b9 ∧ b9 < b13 ∧ b13 < b17 ∧ b17 < b27 ∧ b27 < b37 ∧ Exa Z h a1 "com/example/steady_fixtures/steadyfixtures/load/TableRows" ∧ Fld Z h a1 "com/example/steady_fixtures/steadyfixtures/load/TableRows" "columns" "Ljava/util/List;" (.ref a2) ∧ Fld Z h a1 "com/example/steady_fixtures/steadyfixtures/load/TableRows" "lastAttributes" "[Ljava/lang/String;" (.ref b9) ∧ Fld Z h a1 "com/example/steady_fixtures/steadyfixtures/load/TableRows" "lastPositions" "[I" (.ref b13) ∧ Fld Z h a1 "com/example/steady_fixtures/steadyfixtures/load/TableRows" "lines" "[I" (.ref b37) ∧ Fld Z h a1 "com/example/steady_fixtures/steadyfixtures/load/TableRows" "positionOf" "Ljava/util/Map;" (.ref b1) ∧ Fld Z h a1 "com/example/steady_fixtures/steadyfixtures/load/TableRows" "resources" "Ljava/util/ArrayList;" (.ref b27) ∧ Fld Z h a1 "com/example/steady_fixtures/steadyfixtures/load/TableRows" "rows" "Ljava/util/ArrayList;" (.ref b17) ∧ Fld Z h a1 "com/example/steady_fixtures/steadyfixtures/load/TableRows" "table" "Lcom/example/steady_fixtures/steadyfixtures/schema/Table;" .null ∧ Exa Z h b1 "java/util/HashMap" ∧ Fld Z h b1 "java/util/HashMap" "loadFactor" "F" (.float (1061158912 : UInt32)) ∧ Ar Z h b9 kc9 (.object "java/lang/String") [] ∧ Exa Z h b9 "[Ljava/lang/String;" ∧ Ar Z h b13 kc13 .int [] ∧ Exa Z h b13 "[I" ∧ Exa Z h b17 "java/util/ArrayList" ∧ Fld Z h b17 "java/util/AbstractList" "modCount" "I" (.int (0 : Int32)) ∧ Fld Z h b17 "java/util/ArrayList" "elementData" "[Ljava/lang/Object;" (.ref ed0) ∧ Fld Z h b17 "java/util/ArrayList" "size" "I" (.int (0 : Int32)) ∧ Exa Z h b27 "java/util/ArrayList" ∧ Fld Z h b27 "java/util/AbstractList" "modCount" "I" (.int (0 : Int32)) ∧ Fld Z h b27 "java/util/ArrayList" "elementData" "[Ljava/lang/Object;" (.ref ed0) ∧ Fld Z h b27 "java/util/ArrayList" "size" "I" (.int (0 : Int32)) ∧ Ar Z h b37 kc37 .int [(.int (0 : Int32)), (.int (0 : Int32)), (.int (0 : Int32)), (.int (0 : Int32)), (.int (0 : Int32)), (.int (0 : Int32)), (.int (0 : Int32)), (.int (0 : Int32)), (.int (0 : Int32)), (.int (0 : Int32)), (.int (0 : Int32)), (.int (0 : Int32)), (.int (0 : Int32)), (.int (0 : Int32)), (.int (0 : Int32)), (.int (0 : Int32))] ∧ Exa Z h b37 "[I" ∧ Ovr Z kc9 "java/lang/String"
def R_init_10 : Room := { frames := 4, cells := 6, slots := 30, locals := 50 }
theorem rm_init_10 {w : Bool} {Z : State} {a0 : Array Value} (hw : ∀ d ∈ tables_1, d.before a0 Z = true) (Ts : List String) (a1 : Addr) (a2 : Addr) (ed0 : Addr) (h0 : Heap) (f : Nat) (Zf : Z.heap.size ≤ f) (Z0 : f ≤ h0.size) (E_a1 : Exa Z h0 a1 "com/example/steady_fixtures/steadyfixtures/load/TableRows") (F_positionOf_a1 : Fld Z h0 a1 "com/example/steady_fixtures/steadyfixtures/load/TableRows" "positionOf" "Ljava/util/Map;" .null) (g_a1 : f ≤ a1) (F_lastAttributes_a1 : Fld Z h0 a1 "com/example/steady_fixtures/steadyfixtures/load/TableRows" "lastAttributes" "[Ljava/lang/String;" .null) (F_lastPositions_a1 : Fld Z h0 a1 "com/example/steady_fixtures/steadyfixtures/load/TableRows" "lastPositions" "[I" .null) (F_rows_a1 : Fld Z h0 a1 "com/example/steady_fixtures/steadyfixtures/load/TableRows" "rows" "Ljava/util/ArrayList;" .null) (F_resources_a1 : Fld Z h0 a1 "com/example/steady_fixtures/steadyfixtures/load/TableRows" "resources" "Ljava/util/ArrayList;" .null) (F_lines_a1 : Fld Z h0 a1 "com/example/steady_fixtures/steadyfixtures/load/TableRows" "lines" "[I" .null) (F_table_a1 : Fld Z h0 a1 "com/example/steady_fixtures/steadyfixtures/load/TableRows" "table" "Lcom/example/steady_fixtures/steadyfixtures/schema/Table;" .null) (F_columns_a1 : Fld Z h0 a1 "com/example/steady_fixtures/steadyfixtures/load/TableRows" "columns" "Ljava/util/List;" .null) (S_ed : Sta Z Z.heap "java/util/ArrayList" "DEFAULTCAPACITY_EMPTY_ELEMENTDATA" "[Ljava/lang/Object;" (.ref ed0)) :
    Con w [] Z (⟨"com/example/steady_fixtures/steadyfixtures/load/TableRows", "<init>", "(Lcom/example/steady_fixtures/steadyfixtures/schema/Table;Ljava/util/List;)V"⟩ : MethodName) prog_21_method_2_code 3 none R_init_10 Ts Ts f #[(.ref a1), .null, (.ref a2)] h0 (Q_init_10 Z a1 a2 ed0 h0) := by
  refine con_of f #[.val (.ref a1), .val .null, .val (.ref a2)] (plainFor_of_name pn_8) (fun m => by first | rfl | (simp [entryFrame, mkF, argsToLocals, Value.category]; done)) Zf ?_
  intro C H hX0
  refine r_aloadN H 1 d_g21_2_0 rfl rfl rfl ?_
  refine r_initO H 4 d_g21_2_1 (tw65 hw) (tw16 hw) (tw17 hw) rfl (by decide) (W := 0) (Nat.le_of_eq rfl) (by decide) rfl ?_
  refine r_aloadN H 5 d_g21_2_4 rfl rfl rfl ?_
  refine r_new H 8 d_g21_2_5 (tw66 hw) (tw67 hw) (tw68 hw) (by decide) (by decide) rfl ?_
  intro h1 b1 g1 l1 K1 E1 D1
  refine r_dup H 9 d_g21_2_8 rfl rfl ?_
  refine r_special H 12 (a := b1) d_g21_2_9 (tw69 hw) (tw70 hw) (tw68 hw) (tw71 hw) (by decide) rfl (lenOf pd_6 rfl) (rm_init_11 hw Ts b1 h1 f Zf (Nat.le_trans Z0 K1.1) E1 (show Fld Z h1 b1 "java/util/HashMap" "loadFactor" "F" (.float (0 : UInt32)) from D1 (Or.inr (tw81 hw)) (ty := .float) (by decide)) (Nat.le_trans Z0 (Nat.le_of_eq g1.symm))) (argsL := []) (rest := [(.ref b1), (.ref a1)]) rfl (W := 2) (Nat.le_of_eq rfl) rfl (by decide) (by decide) (by decide) (by decide) (Nat.le_refl _) rfl ?_
  rintro _ hh5 ⟨rfl, K2, q3, q4⟩
  have q6 := ((E_a1.keep K1).keep K2)
  have q7 := ((F_positionOf_a1.keep K1 nin0).keep K2 (ninS (Nat.ne_of_lt (Nat.lt_of_lt_of_le E_a1.lt (Nat.le_trans (Nat.le_refl _) (Nat.le_of_eq g1.symm)))) nin0))
  refine r_putf H 15 d_g21_2_12 (tw82 hw) Via.refl q7 q6 (Or.inr ⟨(tw83 hw), rfl, rfl⟩) (tw36 hw) (ty := (.object "java/util/Map")) (by decide) rfl rfl g_a1 rfl ?_
  intro h8 W8 K8 E8 F8
  refine r_aloadN H 16 d_g21_2_15 rfl rfl rfl ?_
  refine r_iconst H 17 (0 : Int32) d_g21_2_16 (by decide) rfl ?_
  refine r_newR H 20 "[Ljava/lang/String;" 0 d_g21_2_17 (tw84 hw) (tw34 hw) rfl (by decide) (by decide) (by decide) (by decide) (by decide) rfl ?_
  intro h9 b9 kc9 g9 l9 K9 E9 O9 A9
  change Ar Z h9 b9 kc9 (.object "java/lang/String") [] at A9
  have q10 := (E8.keep K9)
  have q11 := ((((F_lastAttributes_a1.keep K1 nin0).keep K2 (ninS (Nat.ne_of_lt (Nat.lt_of_lt_of_le E_a1.lt (Nat.le_trans (Nat.le_refl _) (Nat.le_of_eq g1.symm)))) nin0)).other W8 (Or.inr (slot_ne (Or.inl (tw86 hw)) (Or.inr (tw83 hw)) (by decide) (t := (.array (.object "java/lang/String"))) (t' := (.object "java/util/Map")) (by decide) (by decide)))).keep K9 nin0)
  refine r_putf H 23 d_g21_2_20 (tw85 hw) Via.refl q11 q10 (Or.inl (tw86 hw)) (tw36 hw) (ty := (.array (.object "java/lang/String"))) (by decide) rfl rfl g_a1 rfl ?_
  intro h12 W12 K12 E12 F12
  refine r_aloadN H 24 d_g21_2_23 rfl rfl rfl ?_
  refine r_iconst H 25 (0 : Int32) d_g21_2_24 (by decide) rfl ?_
  refine r_newP H 27 "[I" 0 d_g21_2_25 (tw87 hw) rfl (by decide) (by decide) (by decide) (by decide) (by decide) rfl ?_
  intro h13 b13 kc13 g13 l13 K13 E13 A13
  change Ar Z h13 b13 kc13 .int [] at A13
  have q14 := (E12.keep K13)
  have q15 := ((((((F_lastPositions_a1.keep K1 nin0).keep K2 (ninS (Nat.ne_of_lt (Nat.lt_of_lt_of_le E_a1.lt (Nat.le_trans (Nat.le_refl _) (Nat.le_of_eq g1.symm)))) nin0)).other W8 (Or.inr (slot_ne (Or.inl (tw89 hw)) (Or.inr (tw83 hw)) (by decide) (t := (.array .int)) (t' := (.object "java/util/Map")) (by decide) (by decide)))).keep K9 nin0).other W12 (Or.inr (slot_ne (Or.inl (tw89 hw)) (Or.inl (tw86 hw)) (by decide) (t := (.array .int)) (t' := (.array (.object "java/lang/String"))) (by decide) (by decide)))).keep K13 nin0)
  refine r_putf H 30 d_g21_2_27 (tw88 hw) Via.refl q15 q14 (Or.inl (tw89 hw)) (tw36 hw) (ty := (.array .int)) (by decide) rfl rfl g_a1 rfl ?_
  intro h16 W16 K16 E16 F16
  refine r_aloadN H 31 d_g21_2_30 rfl rfl rfl ?_
  refine r_new H 34 d_g21_2_31 (tw90 hw) (tw39 hw) (tw40 hw) (by decide) (by decide) rfl ?_
  intro h17 b17 g17 l17 K17 E17 D17
  refine r_dup H 35 d_g21_2_34 rfl rfl ?_
  refine r_special H 38 (a := b17) d_g21_2_35 (tw91 hw) (tw42 hw) (tw40 hw) (tw43 hw) (by decide) rfl (lenOf pd_6 rfl) (rm_init_7 hw Ts b17 ed0 h17 f Zf (Nat.le_trans Z0 (Nat.le_trans (Nat.le_trans (Nat.le_trans (Nat.le_trans (Nat.le_trans (Nat.le_trans (Nat.le_trans K1.1 K2.1) K8.1) K9.1) K12.1) K13.1) K16.1) K17.1)) (Nat.le_trans (Nat.le_trans Z0 (Nat.le_trans (Nat.le_trans (Nat.le_trans (Nat.le_trans (Nat.le_trans (Nat.le_trans K1.1 K2.1) K8.1) K9.1) K12.1) K13.1) K16.1)) (Nat.le_of_eq g17.symm)) E17 (show Fld Z h17 b17 "java/util/AbstractList" "modCount" "I" (.int (0 : Int32)) from D17 (Or.inl (tw58 hw)) (ty := .int) (by decide)) (show Fld Z h17 b17 "java/util/ArrayList" "elementData" "[Ljava/lang/Object;" .null from D17 (Or.inl (tw61 hw)) (ty := (.array (.object "java/lang/Object"))) (by decide)) (show Fld Z h17 b17 "java/util/ArrayList" "size" "I" (.int (0 : Int32)) from D17 (Or.inl (tw113 hw)) (ty := .int) (by decide)) S_ed) (argsL := []) (rest := [(.ref b17), (.ref a1)]) rfl (W := 2) (Nat.le_of_eq rfl) rfl (by decide) (by decide) (by decide) (by decide) (Nat.le_refl _) rfl ?_
  rintro _ hh23 ⟨rfl, K18, q19, q20, q21, q22⟩
  have q24 := ((E16.keep K17).keep K18)
  have q25 := (((((((((F_rows_a1.keep K1 nin0).keep K2 (ninS (Nat.ne_of_lt (Nat.lt_of_lt_of_le E_a1.lt (Nat.le_trans (Nat.le_refl _) (Nat.le_of_eq g1.symm)))) nin0)).other W8 (Or.inr (slot_ne (Or.inr (tw93 hw)) (Or.inr (tw83 hw)) (by decide) (t := (.object "java/util/ArrayList")) (t' := (.object "java/util/Map")) (by decide) (by decide)))).keep K9 nin0).other W12 (Or.inr (slot_ne (Or.inr (tw93 hw)) (Or.inl (tw86 hw)) (by decide) (t := (.object "java/util/ArrayList")) (t' := (.array (.object "java/lang/String"))) (by decide) (by decide)))).keep K13 nin0).other W16 (Or.inr (slot_ne (Or.inr (tw93 hw)) (Or.inl (tw89 hw)) (by decide) (t := (.object "java/util/ArrayList")) (t' := (.array .int)) (by decide) (by decide)))).keep K17 nin0).keep K18 (ninS (Nat.ne_of_lt (Nat.lt_of_lt_of_le E_a1.lt (Nat.le_trans (Nat.le_trans (Nat.le_trans (Nat.le_trans (Nat.le_trans (Nat.le_trans (Nat.le_trans K1.1 K2.1) K8.1) K9.1) K12.1) K13.1) K16.1) (Nat.le_of_eq g17.symm)))) nin0))
  refine r_putf H 41 d_g21_2_38 (tw92 hw) Via.refl q25 q24 (Or.inr ⟨(tw93 hw), rfl, rfl⟩) (tw36 hw) (ty := (.object "java/util/ArrayList")) (by decide) rfl rfl g_a1 rfl ?_
  intro h26 W26 K26 E26 F26
  refine r_aloadN H 42 d_g21_2_41 rfl rfl rfl ?_
  refine r_new H 45 d_g21_2_42 (tw90 hw) (tw39 hw) (tw40 hw) (by decide) (by decide) rfl ?_
  intro h27 b27 g27 l27 K27 E27 D27
  refine r_dup H 46 d_g21_2_45 rfl rfl ?_
  refine r_special H 49 (a := b27) d_g21_2_46 (tw91 hw) (tw42 hw) (tw40 hw) (tw43 hw) (by decide) rfl (lenOf pd_6 rfl) (rm_init_7 hw Ts b27 ed0 h27 f Zf (Nat.le_trans Z0 (Nat.le_trans (Nat.le_trans (Nat.le_trans (Nat.le_trans (Nat.le_trans (Nat.le_trans (Nat.le_trans (Nat.le_trans (Nat.le_trans (Nat.le_trans K1.1 K2.1) K8.1) K9.1) K12.1) K13.1) K16.1) K17.1) K18.1) K26.1) K27.1)) (Nat.le_trans (Nat.le_trans Z0 (Nat.le_trans (Nat.le_trans (Nat.le_trans (Nat.le_trans (Nat.le_trans (Nat.le_trans (Nat.le_trans (Nat.le_trans (Nat.le_trans K1.1 K2.1) K8.1) K9.1) K12.1) K13.1) K16.1) K17.1) K18.1) K26.1)) (Nat.le_of_eq g27.symm)) E27 (show Fld Z h27 b27 "java/util/AbstractList" "modCount" "I" (.int (0 : Int32)) from D27 (Or.inl (tw58 hw)) (ty := .int) (by decide)) (show Fld Z h27 b27 "java/util/ArrayList" "elementData" "[Ljava/lang/Object;" .null from D27 (Or.inl (tw61 hw)) (ty := (.array (.object "java/lang/Object"))) (by decide)) (show Fld Z h27 b27 "java/util/ArrayList" "size" "I" (.int (0 : Int32)) from D27 (Or.inl (tw113 hw)) (ty := .int) (by decide)) S_ed) (argsL := []) (rest := [(.ref b27), (.ref a1)]) rfl (W := 2) (Nat.le_of_eq rfl) rfl (by decide) (by decide) (by decide) (by decide) (Nat.le_refl _) rfl ?_
  rintro _ hh33 ⟨rfl, K28, q29, q30, q31, q32⟩
  have q34 := ((E26.keep K27).keep K28)
  have q35 := ((((((((((((F_resources_a1.keep K1 nin0).keep K2 (ninS (Nat.ne_of_lt (Nat.lt_of_lt_of_le E_a1.lt (Nat.le_trans (Nat.le_refl _) (Nat.le_of_eq g1.symm)))) nin0)).other W8 (Or.inr (slot_ne (Or.inr (tw95 hw)) (Or.inr (tw83 hw)) (by decide) (t := (.object "java/util/ArrayList")) (t' := (.object "java/util/Map")) (by decide) (by decide)))).keep K9 nin0).other W12 (Or.inr (slot_ne (Or.inr (tw95 hw)) (Or.inl (tw86 hw)) (by decide) (t := (.object "java/util/ArrayList")) (t' := (.array (.object "java/lang/String"))) (by decide) (by decide)))).keep K13 nin0).other W16 (Or.inr (slot_ne (Or.inr (tw95 hw)) (Or.inl (tw89 hw)) (by decide) (t := (.object "java/util/ArrayList")) (t' := (.array .int)) (by decide) (by decide)))).keep K17 nin0).keep K18 (ninS (Nat.ne_of_lt (Nat.lt_of_lt_of_le E_a1.lt (Nat.le_trans (Nat.le_trans (Nat.le_trans (Nat.le_trans (Nat.le_trans (Nat.le_trans (Nat.le_trans K1.1 K2.1) K8.1) K9.1) K12.1) K13.1) K16.1) (Nat.le_of_eq g17.symm)))) nin0)).other W26 (Or.inr (slot_ne (Or.inr (tw95 hw)) (Or.inr (tw93 hw)) (by decide) (t := (.object "java/util/ArrayList")) (t' := (.object "java/util/ArrayList")) (by decide) (by decide)))).keep K27 nin0).keep K28 (ninS (Nat.ne_of_lt (Nat.lt_of_lt_of_le E_a1.lt (Nat.le_trans (Nat.le_trans (Nat.le_trans (Nat.le_trans (Nat.le_trans (Nat.le_trans (Nat.le_trans (Nat.le_trans (Nat.le_trans (Nat.le_trans K1.1 K2.1) K8.1) K9.1) K12.1) K13.1) K16.1) K17.1) K18.1) K26.1) (Nat.le_of_eq g27.symm)))) nin0))
  refine r_putf H 52 d_g21_2_49 (tw94 hw) Via.refl q35 q34 (Or.inr ⟨(tw95 hw), rfl, rfl⟩) (tw36 hw) (ty := (.object "java/util/ArrayList")) (by decide) rfl rfl g_a1 rfl ?_
  intro h36 W36 K36 E36 F36
  refine r_aloadN H 53 d_g21_2_52 rfl rfl rfl ?_
  refine r_bipush H 55 (16 : Int32) d_g21_2_53 (by decide) rfl ?_
  refine r_newP H 57 "[I" 16 d_g21_2_55 (tw87 hw) rfl (by decide) (by decide) (by decide) (by decide) (by decide) rfl ?_
  intro h37 b37 kc37 g37 l37 K37 E37 A37
  change Ar Z h37 b37 kc37 .int [(.int (0 : Int32)), (.int (0 : Int32)), (.int (0 : Int32)), (.int (0 : Int32)), (.int (0 : Int32)), (.int (0 : Int32)), (.int (0 : Int32)), (.int (0 : Int32)), (.int (0 : Int32)), (.int (0 : Int32)), (.int (0 : Int32)), (.int (0 : Int32)), (.int (0 : Int32)), (.int (0 : Int32)), (.int (0 : Int32)), (.int (0 : Int32))] at A37
  have q38 := (E36.keep K37)
  have q39 := ((((((((((((((F_lines_a1.keep K1 nin0).keep K2 (ninS (Nat.ne_of_lt (Nat.lt_of_lt_of_le E_a1.lt (Nat.le_trans (Nat.le_refl _) (Nat.le_of_eq g1.symm)))) nin0)).other W8 (Or.inr (slot_ne (Or.inl (tw97 hw)) (Or.inr (tw83 hw)) (by decide) (t := (.array .int)) (t' := (.object "java/util/Map")) (by decide) (by decide)))).keep K9 nin0).other W12 (Or.inr (slot_ne (Or.inl (tw97 hw)) (Or.inl (tw86 hw)) (by decide) (t := (.array .int)) (t' := (.array (.object "java/lang/String"))) (by decide) (by decide)))).keep K13 nin0).other W16 (Or.inr (slot_ne (Or.inl (tw97 hw)) (Or.inl (tw89 hw)) (by decide) (t := (.array .int)) (t' := (.array .int)) (by decide) (by decide)))).keep K17 nin0).keep K18 (ninS (Nat.ne_of_lt (Nat.lt_of_lt_of_le E_a1.lt (Nat.le_trans (Nat.le_trans (Nat.le_trans (Nat.le_trans (Nat.le_trans (Nat.le_trans (Nat.le_trans K1.1 K2.1) K8.1) K9.1) K12.1) K13.1) K16.1) (Nat.le_of_eq g17.symm)))) nin0)).other W26 (Or.inr (slot_ne (Or.inl (tw97 hw)) (Or.inr (tw93 hw)) (by decide) (t := (.array .int)) (t' := (.object "java/util/ArrayList")) (by decide) (by decide)))).keep K27 nin0).keep K28 (ninS (Nat.ne_of_lt (Nat.lt_of_lt_of_le E_a1.lt (Nat.le_trans (Nat.le_trans (Nat.le_trans (Nat.le_trans (Nat.le_trans (Nat.le_trans (Nat.le_trans (Nat.le_trans (Nat.le_trans (Nat.le_trans K1.1 K2.1) K8.1) K9.1) K12.1) K13.1) K16.1) K17.1) K18.1) K26.1) (Nat.le_of_eq g27.symm)))) nin0)).other W36 (Or.inr (slot_ne (Or.inl (tw97 hw)) (Or.inr (tw95 hw)) (by decide) (t := (.array .int)) (t' := (.object "java/util/ArrayList")) (by decide) (by decide)))).keep K37 nin0)
  refine r_putf H 60 d_g21_2_57 (tw96 hw) Via.refl q39 q38 (Or.inl (tw97 hw)) (tw36 hw) (ty := (.array .int)) (by decide) rfl rfl g_a1 rfl ?_
  intro h40 W40 K40 E40 F40
  refine r_aloadN H 61 d_g21_2_60 rfl rfl rfl ?_
  refine r_aloadN H 62 d_g21_2_61 rfl rfl rfl ?_
  have q41 := (((((((((((((((F_table_a1.keep K1 nin0).keep K2 (ninS (Nat.ne_of_lt (Nat.lt_of_lt_of_le E_a1.lt (Nat.le_trans (Nat.le_refl _) (Nat.le_of_eq g1.symm)))) nin0)).other W8 (Or.inr (slot_ne (Or.inr (tw99 hw)) (Or.inr (tw83 hw)) (by decide) (t := (.object "com/example/steady_fixtures/steadyfixtures/schema/Table")) (t' := (.object "java/util/Map")) (by decide) (by decide)))).keep K9 nin0).other W12 (Or.inr (slot_ne (Or.inr (tw99 hw)) (Or.inl (tw86 hw)) (by decide) (t := (.object "com/example/steady_fixtures/steadyfixtures/schema/Table")) (t' := (.array (.object "java/lang/String"))) (by decide) (by decide)))).keep K13 nin0).other W16 (Or.inr (slot_ne (Or.inr (tw99 hw)) (Or.inl (tw89 hw)) (by decide) (t := (.object "com/example/steady_fixtures/steadyfixtures/schema/Table")) (t' := (.array .int)) (by decide) (by decide)))).keep K17 nin0).keep K18 (ninS (Nat.ne_of_lt (Nat.lt_of_lt_of_le E_a1.lt (Nat.le_trans (Nat.le_trans (Nat.le_trans (Nat.le_trans (Nat.le_trans (Nat.le_trans (Nat.le_trans K1.1 K2.1) K8.1) K9.1) K12.1) K13.1) K16.1) (Nat.le_of_eq g17.symm)))) nin0)).other W26 (Or.inr (slot_ne (Or.inr (tw99 hw)) (Or.inr (tw93 hw)) (by decide) (t := (.object "com/example/steady_fixtures/steadyfixtures/schema/Table")) (t' := (.object "java/util/ArrayList")) (by decide) (by decide)))).keep K27 nin0).keep K28 (ninS (Nat.ne_of_lt (Nat.lt_of_lt_of_le E_a1.lt (Nat.le_trans (Nat.le_trans (Nat.le_trans (Nat.le_trans (Nat.le_trans (Nat.le_trans (Nat.le_trans (Nat.le_trans (Nat.le_trans (Nat.le_trans K1.1 K2.1) K8.1) K9.1) K12.1) K13.1) K16.1) K17.1) K18.1) K26.1) (Nat.le_of_eq g27.symm)))) nin0)).other W36 (Or.inr (slot_ne (Or.inr (tw99 hw)) (Or.inr (tw95 hw)) (by decide) (t := (.object "com/example/steady_fixtures/steadyfixtures/schema/Table")) (t' := (.object "java/util/ArrayList")) (by decide) (by decide)))).keep K37 nin0).other W40 (Or.inr (slot_ne (Or.inr (tw99 hw)) (Or.inl (tw97 hw)) (by decide) (t := (.object "com/example/steady_fixtures/steadyfixtures/schema/Table")) (t' := (.array .int)) (by decide) (by decide))))
  refine r_putf H 65 d_g21_2_62 (tw98 hw) Via.refl q41 E40 (Or.inr ⟨(tw99 hw), rfl, rfl⟩) (tw36 hw) (ty := (.object "com/example/steady_fixtures/steadyfixtures/schema/Table")) (by decide) rfl rfl g_a1 rfl ?_
  intro h42 W42 K42 E42 F42
  refine r_aloadN H 66 d_g21_2_65 rfl rfl rfl ?_
  refine r_aloadN H 67 d_g21_2_66 rfl rfl rfl ?_
  have q43 := ((((((((((((((((F_columns_a1.keep K1 nin0).keep K2 (ninS (Nat.ne_of_lt (Nat.lt_of_lt_of_le E_a1.lt (Nat.le_trans (Nat.le_refl _) (Nat.le_of_eq g1.symm)))) nin0)).other W8 (Or.inr (slot_ne (Or.inr (tw101 hw)) (Or.inr (tw83 hw)) (by decide) (t := (.object "java/util/List")) (t' := (.object "java/util/Map")) (by decide) (by decide)))).keep K9 nin0).other W12 (Or.inr (slot_ne (Or.inr (tw101 hw)) (Or.inl (tw86 hw)) (by decide) (t := (.object "java/util/List")) (t' := (.array (.object "java/lang/String"))) (by decide) (by decide)))).keep K13 nin0).other W16 (Or.inr (slot_ne (Or.inr (tw101 hw)) (Or.inl (tw89 hw)) (by decide) (t := (.object "java/util/List")) (t' := (.array .int)) (by decide) (by decide)))).keep K17 nin0).keep K18 (ninS (Nat.ne_of_lt (Nat.lt_of_lt_of_le E_a1.lt (Nat.le_trans (Nat.le_trans (Nat.le_trans (Nat.le_trans (Nat.le_trans (Nat.le_trans (Nat.le_trans K1.1 K2.1) K8.1) K9.1) K12.1) K13.1) K16.1) (Nat.le_of_eq g17.symm)))) nin0)).other W26 (Or.inr (slot_ne (Or.inr (tw101 hw)) (Or.inr (tw93 hw)) (by decide) (t := (.object "java/util/List")) (t' := (.object "java/util/ArrayList")) (by decide) (by decide)))).keep K27 nin0).keep K28 (ninS (Nat.ne_of_lt (Nat.lt_of_lt_of_le E_a1.lt (Nat.le_trans (Nat.le_trans (Nat.le_trans (Nat.le_trans (Nat.le_trans (Nat.le_trans (Nat.le_trans (Nat.le_trans (Nat.le_trans (Nat.le_trans K1.1 K2.1) K8.1) K9.1) K12.1) K13.1) K16.1) K17.1) K18.1) K26.1) (Nat.le_of_eq g27.symm)))) nin0)).other W36 (Or.inr (slot_ne (Or.inr (tw101 hw)) (Or.inr (tw95 hw)) (by decide) (t := (.object "java/util/List")) (t' := (.object "java/util/ArrayList")) (by decide) (by decide)))).keep K37 nin0).other W40 (Or.inr (slot_ne (Or.inr (tw101 hw)) (Or.inl (tw97 hw)) (by decide) (t := (.object "java/util/List")) (t' := (.array .int)) (by decide) (by decide)))).other W42 (Or.inr (slot_ne (Or.inr (tw101 hw)) (Or.inr (tw99 hw)) (by decide) (t := (.object "java/util/List")) (t' := (.object "com/example/steady_fixtures/steadyfixtures/schema/Table")) (by decide) (by decide))))
  refine r_putf H 70 d_g21_2_67 (tw100 hw) Via.refl q43 E42 (Or.inr ⟨(tw101 hw), rfl, rfl⟩) (tw36 hw) (ty := (.object "java/util/List")) (by decide) rfl rfl g_a1 rfl ?_
  intro h44 W44 K44 E44 F44
  have k45 : Keep h0 h1 [a1] := Keep.trans (Keep.refl h0 [a1]) K1 all0
  have k46 : Keep h0 hh5 [a1] := Keep.trans k45 K2 (allS (Or.inr (Nat.le_trans (Nat.le_refl _) (Nat.le_of_eq g1.symm))) all0)
  have k47 : Keep h0 h8 [a1] := Keep.trans k46 K8 (allS (Or.inl (List.mem_of_getElem? (i := 0) rfl)) all0)
  have k48 : Keep h0 h9 [a1] := Keep.trans k47 K9 all0
  have k49 : Keep h0 h12 [a1] := Keep.trans k48 K12 (allS (Or.inl (List.mem_of_getElem? (i := 0) rfl)) all0)
  have k50 : Keep h0 h13 [a1] := Keep.trans k49 K13 all0
  have k51 : Keep h0 h16 [a1] := Keep.trans k50 K16 (allS (Or.inl (List.mem_of_getElem? (i := 0) rfl)) all0)
  have k52 : Keep h0 h17 [a1] := Keep.trans k51 K17 all0
  have k53 : Keep h0 hh23 [a1] := Keep.trans k52 K18 (allS (Or.inr (Nat.le_trans (Nat.le_trans (Nat.le_trans (Nat.le_trans (Nat.le_trans (Nat.le_trans (Nat.le_trans K1.1 K2.1) K8.1) K9.1) K12.1) K13.1) K16.1) (Nat.le_of_eq g17.symm))) all0)
  have k54 : Keep h0 h26 [a1] := Keep.trans k53 K26 (allS (Or.inl (List.mem_of_getElem? (i := 0) rfl)) all0)
  have k55 : Keep h0 h27 [a1] := Keep.trans k54 K27 all0
  have k56 : Keep h0 hh33 [a1] := Keep.trans k55 K28 (allS (Or.inr (Nat.le_trans (Nat.le_trans (Nat.le_trans (Nat.le_trans (Nat.le_trans (Nat.le_trans (Nat.le_trans (Nat.le_trans (Nat.le_trans (Nat.le_trans K1.1 K2.1) K8.1) K9.1) K12.1) K13.1) K16.1) K17.1) K18.1) K26.1) (Nat.le_of_eq g27.symm))) all0)
  have k57 : Keep h0 h36 [a1] := Keep.trans k56 K36 (allS (Or.inl (List.mem_of_getElem? (i := 0) rfl)) all0)
  have k58 : Keep h0 h37 [a1] := Keep.trans k57 K37 all0
  have k59 : Keep h0 h40 [a1] := Keep.trans k58 K40 (allS (Or.inl (List.mem_of_getElem? (i := 0) rfl)) all0)
  have k60 : Keep h0 h42 [a1] := Keep.trans k59 K42 (allS (Or.inl (List.mem_of_getElem? (i := 0) rfl)) all0)
  have k61 : Keep h0 h44 [a1] := Keep.trans k60 K44 (allS (Or.inl (List.mem_of_getElem? (i := 0) rfl)) all0)
  have q62 := ((((((((((((F12.keep K13 nin0).other W16 (Or.inr (slot_ne (Or.inl (tw86 hw)) (Or.inl (tw89 hw)) (by decide) (t := (.array (.object "java/lang/String"))) (t' := (.array .int)) (by decide) (by decide)))).keep K17 nin0).keep K18 (ninS (Nat.ne_of_lt (Nat.lt_of_lt_of_le E_a1.lt (Nat.le_trans (Nat.le_trans (Nat.le_trans (Nat.le_trans (Nat.le_trans (Nat.le_trans (Nat.le_trans K1.1 K2.1) K8.1) K9.1) K12.1) K13.1) K16.1) (Nat.le_of_eq g17.symm)))) nin0)).other W26 (Or.inr (slot_ne (Or.inl (tw86 hw)) (Or.inr (tw93 hw)) (by decide) (t := (.array (.object "java/lang/String"))) (t' := (.object "java/util/ArrayList")) (by decide) (by decide)))).keep K27 nin0).keep K28 (ninS (Nat.ne_of_lt (Nat.lt_of_lt_of_le E_a1.lt (Nat.le_trans (Nat.le_trans (Nat.le_trans (Nat.le_trans (Nat.le_trans (Nat.le_trans (Nat.le_trans (Nat.le_trans (Nat.le_trans (Nat.le_trans K1.1 K2.1) K8.1) K9.1) K12.1) K13.1) K16.1) K17.1) K18.1) K26.1) (Nat.le_of_eq g27.symm)))) nin0)).other W36 (Or.inr (slot_ne (Or.inl (tw86 hw)) (Or.inr (tw95 hw)) (by decide) (t := (.array (.object "java/lang/String"))) (t' := (.object "java/util/ArrayList")) (by decide) (by decide)))).keep K37 nin0).other W40 (Or.inr (slot_ne (Or.inl (tw86 hw)) (Or.inl (tw97 hw)) (by decide) (t := (.array (.object "java/lang/String"))) (t' := (.array .int)) (by decide) (by decide)))).other W42 (Or.inr (slot_ne (Or.inl (tw86 hw)) (Or.inr (tw99 hw)) (by decide) (t := (.array (.object "java/lang/String"))) (t' := (.object "com/example/steady_fixtures/steadyfixtures/schema/Table")) (by decide) (by decide)))).other W44 (Or.inr (slot_ne (Or.inl (tw86 hw)) (Or.inr (tw101 hw)) (by decide) (t := (.array (.object "java/lang/String"))) (t' := (.object "java/util/List")) (by decide) (by decide))))
  have q63 := ((((((((((F16.keep K17 nin0).keep K18 (ninS (Nat.ne_of_lt (Nat.lt_of_lt_of_le E_a1.lt (Nat.le_trans (Nat.le_trans (Nat.le_trans (Nat.le_trans (Nat.le_trans (Nat.le_trans (Nat.le_trans K1.1 K2.1) K8.1) K9.1) K12.1) K13.1) K16.1) (Nat.le_of_eq g17.symm)))) nin0)).other W26 (Or.inr (slot_ne (Or.inl (tw89 hw)) (Or.inr (tw93 hw)) (by decide) (t := (.array .int)) (t' := (.object "java/util/ArrayList")) (by decide) (by decide)))).keep K27 nin0).keep K28 (ninS (Nat.ne_of_lt (Nat.lt_of_lt_of_le E_a1.lt (Nat.le_trans (Nat.le_trans (Nat.le_trans (Nat.le_trans (Nat.le_trans (Nat.le_trans (Nat.le_trans (Nat.le_trans (Nat.le_trans (Nat.le_trans K1.1 K2.1) K8.1) K9.1) K12.1) K13.1) K16.1) K17.1) K18.1) K26.1) (Nat.le_of_eq g27.symm)))) nin0)).other W36 (Or.inr (slot_ne (Or.inl (tw89 hw)) (Or.inr (tw95 hw)) (by decide) (t := (.array .int)) (t' := (.object "java/util/ArrayList")) (by decide) (by decide)))).keep K37 nin0).other W40 (Or.inr (slot_ne (Or.inl (tw89 hw)) (Or.inl (tw97 hw)) (by decide) (t := (.array .int)) (t' := (.array .int)) (by decide) (by decide)))).other W42 (Or.inr (slot_ne (Or.inl (tw89 hw)) (Or.inr (tw99 hw)) (by decide) (t := (.array .int)) (t' := (.object "com/example/steady_fixtures/steadyfixtures/schema/Table")) (by decide) (by decide)))).other W44 (Or.inr (slot_ne (Or.inl (tw89 hw)) (Or.inr (tw101 hw)) (by decide) (t := (.array .int)) (t' := (.object "java/util/List")) (by decide) (by decide))))
  have q64 := ((F40.other W42 (Or.inr (slot_ne (Or.inl (tw97 hw)) (Or.inr (tw99 hw)) (by decide) (t := (.array .int)) (t' := (.object "com/example/steady_fixtures/steadyfixtures/schema/Table")) (by decide) (by decide)))).other W44 (Or.inr (slot_ne (Or.inl (tw97 hw)) (Or.inr (tw101 hw)) (by decide) (t := (.array .int)) (t' := (.object "java/util/List")) (by decide) (by decide))))
  have q65 := ((((((((((((((F8.keep K9 nin0).other W12 (Or.inr (slot_ne (Or.inr (tw83 hw)) (Or.inl (tw86 hw)) (by decide) (t := (.object "java/util/Map")) (t' := (.array (.object "java/lang/String"))) (by decide) (by decide)))).keep K13 nin0).other W16 (Or.inr (slot_ne (Or.inr (tw83 hw)) (Or.inl (tw89 hw)) (by decide) (t := (.object "java/util/Map")) (t' := (.array .int)) (by decide) (by decide)))).keep K17 nin0).keep K18 (ninS (Nat.ne_of_lt (Nat.lt_of_lt_of_le E_a1.lt (Nat.le_trans (Nat.le_trans (Nat.le_trans (Nat.le_trans (Nat.le_trans (Nat.le_trans (Nat.le_trans K1.1 K2.1) K8.1) K9.1) K12.1) K13.1) K16.1) (Nat.le_of_eq g17.symm)))) nin0)).other W26 (Or.inr (slot_ne (Or.inr (tw83 hw)) (Or.inr (tw93 hw)) (by decide) (t := (.object "java/util/Map")) (t' := (.object "java/util/ArrayList")) (by decide) (by decide)))).keep K27 nin0).keep K28 (ninS (Nat.ne_of_lt (Nat.lt_of_lt_of_le E_a1.lt (Nat.le_trans (Nat.le_trans (Nat.le_trans (Nat.le_trans (Nat.le_trans (Nat.le_trans (Nat.le_trans (Nat.le_trans (Nat.le_trans (Nat.le_trans K1.1 K2.1) K8.1) K9.1) K12.1) K13.1) K16.1) K17.1) K18.1) K26.1) (Nat.le_of_eq g27.symm)))) nin0)).other W36 (Or.inr (slot_ne (Or.inr (tw83 hw)) (Or.inr (tw95 hw)) (by decide) (t := (.object "java/util/Map")) (t' := (.object "java/util/ArrayList")) (by decide) (by decide)))).keep K37 nin0).other W40 (Or.inr (slot_ne (Or.inr (tw83 hw)) (Or.inl (tw97 hw)) (by decide) (t := (.object "java/util/Map")) (t' := (.array .int)) (by decide) (by decide)))).other W42 (Or.inr (slot_ne (Or.inr (tw83 hw)) (Or.inr (tw99 hw)) (by decide) (t := (.object "java/util/Map")) (t' := (.object "com/example/steady_fixtures/steadyfixtures/schema/Table")) (by decide) (by decide)))).other W44 (Or.inr (slot_ne (Or.inr (tw83 hw)) (Or.inr (tw101 hw)) (by decide) (t := (.object "java/util/Map")) (t' := (.object "java/util/List")) (by decide) (by decide))))
  have q66 := ((((F36.keep K37 nin0).other W40 (Or.inr (slot_ne (Or.inr (tw95 hw)) (Or.inl (tw97 hw)) (by decide) (t := (.object "java/util/ArrayList")) (t' := (.array .int)) (by decide) (by decide)))).other W42 (Or.inr (slot_ne (Or.inr (tw95 hw)) (Or.inr (tw99 hw)) (by decide) (t := (.object "java/util/ArrayList")) (t' := (.object "com/example/steady_fixtures/steadyfixtures/schema/Table")) (by decide) (by decide)))).other W44 (Or.inr (slot_ne (Or.inr (tw95 hw)) (Or.inr (tw101 hw)) (by decide) (t := (.object "java/util/ArrayList")) (t' := (.object "java/util/List")) (by decide) (by decide))))
  have q67 := (((((((F26.keep K27 nin0).keep K28 (ninS (Nat.ne_of_lt (Nat.lt_of_lt_of_le E_a1.lt (Nat.le_trans (Nat.le_trans (Nat.le_trans (Nat.le_trans (Nat.le_trans (Nat.le_trans (Nat.le_trans (Nat.le_trans (Nat.le_trans (Nat.le_trans K1.1 K2.1) K8.1) K9.1) K12.1) K13.1) K16.1) K17.1) K18.1) K26.1) (Nat.le_of_eq g27.symm)))) nin0)).other W36 (Or.inr (slot_ne (Or.inr (tw93 hw)) (Or.inr (tw95 hw)) (by decide) (t := (.object "java/util/ArrayList")) (t' := (.object "java/util/ArrayList")) (by decide) (by decide)))).keep K37 nin0).other W40 (Or.inr (slot_ne (Or.inr (tw93 hw)) (Or.inl (tw97 hw)) (by decide) (t := (.object "java/util/ArrayList")) (t' := (.array .int)) (by decide) (by decide)))).other W42 (Or.inr (slot_ne (Or.inr (tw93 hw)) (Or.inr (tw99 hw)) (by decide) (t := (.object "java/util/ArrayList")) (t' := (.object "com/example/steady_fixtures/steadyfixtures/schema/Table")) (by decide) (by decide)))).other W44 (Or.inr (slot_ne (Or.inr (tw93 hw)) (Or.inr (tw101 hw)) (by decide) (t := (.object "java/util/ArrayList")) (t' := (.object "java/util/List")) (by decide) (by decide))))
  have q68 := (F42.other W44 (Or.inr (slot_ne (Or.inr (tw99 hw)) (Or.inr (tw101 hw)) (by decide) (t := (.object "com/example/steady_fixtures/steadyfixtures/schema/Table")) (t' := (.object "java/util/List")) (by decide) (by decide))))
  have q69 := (((((((((((((((q3.keep K8).keep K9).keep K12).keep K13).keep K16).keep K17).keep K18).keep K26).keep K27).keep K28).keep K36).keep K37).keep K40).keep K42).keep K44)
  have q70 := (((((((((((((((q4.keep K8 (ninS (Ne.symm (Nat.ne_of_lt (Nat.lt_of_lt_of_le E_a1.lt (Nat.le_trans (Nat.le_refl _) (Nat.le_of_eq g1.symm))))) nin0)).keep K9 nin0).keep K12 (ninS (Ne.symm (Nat.ne_of_lt (Nat.lt_of_lt_of_le E_a1.lt (Nat.le_trans (Nat.le_refl _) (Nat.le_of_eq g1.symm))))) nin0)).keep K13 nin0).keep K16 (ninS (Ne.symm (Nat.ne_of_lt (Nat.lt_of_lt_of_le E_a1.lt (Nat.le_trans (Nat.le_refl _) (Nat.le_of_eq g1.symm))))) nin0)).keep K17 nin0).keep K18 (ninS (Nat.ne_of_lt (Nat.lt_of_lt_of_le E1.lt (Nat.le_trans (Nat.le_trans (Nat.le_trans (Nat.le_trans (Nat.le_trans (Nat.le_trans K2.1 K8.1) K9.1) K12.1) K13.1) K16.1) (Nat.le_of_eq g17.symm)))) nin0)).keep K26 (ninS (Ne.symm (Nat.ne_of_lt (Nat.lt_of_lt_of_le E_a1.lt (Nat.le_trans (Nat.le_refl _) (Nat.le_of_eq g1.symm))))) nin0)).keep K27 nin0).keep K28 (ninS (Nat.ne_of_lt (Nat.lt_of_lt_of_le E1.lt (Nat.le_trans (Nat.le_trans (Nat.le_trans (Nat.le_trans (Nat.le_trans (Nat.le_trans (Nat.le_trans (Nat.le_trans (Nat.le_trans K2.1 K8.1) K9.1) K12.1) K13.1) K16.1) K17.1) K18.1) K26.1) (Nat.le_of_eq g27.symm)))) nin0)).keep K36 (ninS (Ne.symm (Nat.ne_of_lt (Nat.lt_of_lt_of_le E_a1.lt (Nat.le_trans (Nat.le_refl _) (Nat.le_of_eq g1.symm))))) nin0)).keep K37 nin0).keep K40 (ninS (Ne.symm (Nat.ne_of_lt (Nat.lt_of_lt_of_le E_a1.lt (Nat.le_trans (Nat.le_refl _) (Nat.le_of_eq g1.symm))))) nin0)).keep K42 (ninS (Ne.symm (Nat.ne_of_lt (Nat.lt_of_lt_of_le E_a1.lt (Nat.le_trans (Nat.le_refl _) (Nat.le_of_eq g1.symm))))) nin0)).keep K44 (ninS (Ne.symm (Nat.ne_of_lt (Nat.lt_of_lt_of_le E_a1.lt (Nat.le_trans (Nat.le_refl _) (Nat.le_of_eq g1.symm))))) nin0))
  have q71 := (((((((((((((A9.keep K12 (ninS (Ne.symm (Nat.ne_of_lt (Nat.lt_of_lt_of_le E_a1.lt (Nat.le_trans (Nat.le_trans (Nat.le_trans K1.1 K2.1) K8.1) (Nat.le_of_eq g9.symm))))) nin0)).keep K13 nin0).keep K16 (ninS (Ne.symm (Nat.ne_of_lt (Nat.lt_of_lt_of_le E_a1.lt (Nat.le_trans (Nat.le_trans (Nat.le_trans K1.1 K2.1) K8.1) (Nat.le_of_eq g9.symm))))) nin0)).keep K17 nin0).keep K18 (ninS (Nat.ne_of_lt (Nat.lt_of_lt_of_le E9.lt (Nat.le_trans (Nat.le_trans (Nat.le_trans K12.1 K13.1) K16.1) (Nat.le_of_eq g17.symm)))) nin0)).keep K26 (ninS (Ne.symm (Nat.ne_of_lt (Nat.lt_of_lt_of_le E_a1.lt (Nat.le_trans (Nat.le_trans (Nat.le_trans K1.1 K2.1) K8.1) (Nat.le_of_eq g9.symm))))) nin0)).keep K27 nin0).keep K28 (ninS (Nat.ne_of_lt (Nat.lt_of_lt_of_le E9.lt (Nat.le_trans (Nat.le_trans (Nat.le_trans (Nat.le_trans (Nat.le_trans (Nat.le_trans K12.1 K13.1) K16.1) K17.1) K18.1) K26.1) (Nat.le_of_eq g27.symm)))) nin0)).keep K36 (ninS (Ne.symm (Nat.ne_of_lt (Nat.lt_of_lt_of_le E_a1.lt (Nat.le_trans (Nat.le_trans (Nat.le_trans K1.1 K2.1) K8.1) (Nat.le_of_eq g9.symm))))) nin0)).keep K37 nin0).keep K40 (ninS (Ne.symm (Nat.ne_of_lt (Nat.lt_of_lt_of_le E_a1.lt (Nat.le_trans (Nat.le_trans (Nat.le_trans K1.1 K2.1) K8.1) (Nat.le_of_eq g9.symm))))) nin0)).keep K42 (ninS (Ne.symm (Nat.ne_of_lt (Nat.lt_of_lt_of_le E_a1.lt (Nat.le_trans (Nat.le_trans (Nat.le_trans K1.1 K2.1) K8.1) (Nat.le_of_eq g9.symm))))) nin0)).keep K44 (ninS (Ne.symm (Nat.ne_of_lt (Nat.lt_of_lt_of_le E_a1.lt (Nat.le_trans (Nat.le_trans (Nat.le_trans K1.1 K2.1) K8.1) (Nat.le_of_eq g9.symm))))) nin0))
  have q72 := (((((((((((((E9.keep K12).keep K13).keep K16).keep K17).keep K18).keep K26).keep K27).keep K28).keep K36).keep K37).keep K40).keep K42).keep K44)
  have q73 := (((((((((((A13.keep K16 (ninS (Ne.symm (Nat.ne_of_lt (Nat.lt_of_lt_of_le E_a1.lt (Nat.le_trans (Nat.le_trans (Nat.le_trans (Nat.le_trans (Nat.le_trans K1.1 K2.1) K8.1) K9.1) K12.1) (Nat.le_of_eq g13.symm))))) nin0)).keep K17 nin0).keep K18 (ninS (Nat.ne_of_lt (Nat.lt_of_lt_of_le E13.lt (Nat.le_trans K16.1 (Nat.le_of_eq g17.symm)))) nin0)).keep K26 (ninS (Ne.symm (Nat.ne_of_lt (Nat.lt_of_lt_of_le E_a1.lt (Nat.le_trans (Nat.le_trans (Nat.le_trans (Nat.le_trans (Nat.le_trans K1.1 K2.1) K8.1) K9.1) K12.1) (Nat.le_of_eq g13.symm))))) nin0)).keep K27 nin0).keep K28 (ninS (Nat.ne_of_lt (Nat.lt_of_lt_of_le E13.lt (Nat.le_trans (Nat.le_trans (Nat.le_trans (Nat.le_trans K16.1 K17.1) K18.1) K26.1) (Nat.le_of_eq g27.symm)))) nin0)).keep K36 (ninS (Ne.symm (Nat.ne_of_lt (Nat.lt_of_lt_of_le E_a1.lt (Nat.le_trans (Nat.le_trans (Nat.le_trans (Nat.le_trans (Nat.le_trans K1.1 K2.1) K8.1) K9.1) K12.1) (Nat.le_of_eq g13.symm))))) nin0)).keep K37 nin0).keep K40 (ninS (Ne.symm (Nat.ne_of_lt (Nat.lt_of_lt_of_le E_a1.lt (Nat.le_trans (Nat.le_trans (Nat.le_trans (Nat.le_trans (Nat.le_trans K1.1 K2.1) K8.1) K9.1) K12.1) (Nat.le_of_eq g13.symm))))) nin0)).keep K42 (ninS (Ne.symm (Nat.ne_of_lt (Nat.lt_of_lt_of_le E_a1.lt (Nat.le_trans (Nat.le_trans (Nat.le_trans (Nat.le_trans (Nat.le_trans K1.1 K2.1) K8.1) K9.1) K12.1) (Nat.le_of_eq g13.symm))))) nin0)).keep K44 (ninS (Ne.symm (Nat.ne_of_lt (Nat.lt_of_lt_of_le E_a1.lt (Nat.le_trans (Nat.le_trans (Nat.le_trans (Nat.le_trans (Nat.le_trans K1.1 K2.1) K8.1) K9.1) K12.1) (Nat.le_of_eq g13.symm))))) nin0))
  have q74 := (((((((((((E13.keep K16).keep K17).keep K18).keep K26).keep K27).keep K28).keep K36).keep K37).keep K40).keep K42).keep K44)
  have q75 := ((((((((q19.keep K26).keep K27).keep K28).keep K36).keep K37).keep K40).keep K42).keep K44)
  have q76 := ((((((((q20.keep K26 (ninS (Ne.symm (Nat.ne_of_lt (Nat.lt_of_lt_of_le E_a1.lt (Nat.le_trans (Nat.le_trans (Nat.le_trans (Nat.le_trans (Nat.le_trans (Nat.le_trans (Nat.le_trans K1.1 K2.1) K8.1) K9.1) K12.1) K13.1) K16.1) (Nat.le_of_eq g17.symm))))) nin0)).keep K27 nin0).keep K28 (ninS (Nat.ne_of_lt (Nat.lt_of_lt_of_le E17.lt (Nat.le_trans (Nat.le_trans K18.1 K26.1) (Nat.le_of_eq g27.symm)))) nin0)).keep K36 (ninS (Ne.symm (Nat.ne_of_lt (Nat.lt_of_lt_of_le E_a1.lt (Nat.le_trans (Nat.le_trans (Nat.le_trans (Nat.le_trans (Nat.le_trans (Nat.le_trans (Nat.le_trans K1.1 K2.1) K8.1) K9.1) K12.1) K13.1) K16.1) (Nat.le_of_eq g17.symm))))) nin0)).keep K37 nin0).keep K40 (ninS (Ne.symm (Nat.ne_of_lt (Nat.lt_of_lt_of_le E_a1.lt (Nat.le_trans (Nat.le_trans (Nat.le_trans (Nat.le_trans (Nat.le_trans (Nat.le_trans (Nat.le_trans K1.1 K2.1) K8.1) K9.1) K12.1) K13.1) K16.1) (Nat.le_of_eq g17.symm))))) nin0)).keep K42 (ninS (Ne.symm (Nat.ne_of_lt (Nat.lt_of_lt_of_le E_a1.lt (Nat.le_trans (Nat.le_trans (Nat.le_trans (Nat.le_trans (Nat.le_trans (Nat.le_trans (Nat.le_trans K1.1 K2.1) K8.1) K9.1) K12.1) K13.1) K16.1) (Nat.le_of_eq g17.symm))))) nin0)).keep K44 (ninS (Ne.symm (Nat.ne_of_lt (Nat.lt_of_lt_of_le E_a1.lt (Nat.le_trans (Nat.le_trans (Nat.le_trans (Nat.le_trans (Nat.le_trans (Nat.le_trans (Nat.le_trans K1.1 K2.1) K8.1) K9.1) K12.1) K13.1) K16.1) (Nat.le_of_eq g17.symm))))) nin0))
  have q77 := ((((((((q21.keep K26 (ninS (Ne.symm (Nat.ne_of_lt (Nat.lt_of_lt_of_le E_a1.lt (Nat.le_trans (Nat.le_trans (Nat.le_trans (Nat.le_trans (Nat.le_trans (Nat.le_trans (Nat.le_trans K1.1 K2.1) K8.1) K9.1) K12.1) K13.1) K16.1) (Nat.le_of_eq g17.symm))))) nin0)).keep K27 nin0).keep K28 (ninS (Nat.ne_of_lt (Nat.lt_of_lt_of_le E17.lt (Nat.le_trans (Nat.le_trans K18.1 K26.1) (Nat.le_of_eq g27.symm)))) nin0)).keep K36 (ninS (Ne.symm (Nat.ne_of_lt (Nat.lt_of_lt_of_le E_a1.lt (Nat.le_trans (Nat.le_trans (Nat.le_trans (Nat.le_trans (Nat.le_trans (Nat.le_trans (Nat.le_trans K1.1 K2.1) K8.1) K9.1) K12.1) K13.1) K16.1) (Nat.le_of_eq g17.symm))))) nin0)).keep K37 nin0).keep K40 (ninS (Ne.symm (Nat.ne_of_lt (Nat.lt_of_lt_of_le E_a1.lt (Nat.le_trans (Nat.le_trans (Nat.le_trans (Nat.le_trans (Nat.le_trans (Nat.le_trans (Nat.le_trans K1.1 K2.1) K8.1) K9.1) K12.1) K13.1) K16.1) (Nat.le_of_eq g17.symm))))) nin0)).keep K42 (ninS (Ne.symm (Nat.ne_of_lt (Nat.lt_of_lt_of_le E_a1.lt (Nat.le_trans (Nat.le_trans (Nat.le_trans (Nat.le_trans (Nat.le_trans (Nat.le_trans (Nat.le_trans K1.1 K2.1) K8.1) K9.1) K12.1) K13.1) K16.1) (Nat.le_of_eq g17.symm))))) nin0)).keep K44 (ninS (Ne.symm (Nat.ne_of_lt (Nat.lt_of_lt_of_le E_a1.lt (Nat.le_trans (Nat.le_trans (Nat.le_trans (Nat.le_trans (Nat.le_trans (Nat.le_trans (Nat.le_trans K1.1 K2.1) K8.1) K9.1) K12.1) K13.1) K16.1) (Nat.le_of_eq g17.symm))))) nin0))
  have q78 := ((((((((q22.keep K26 (ninS (Ne.symm (Nat.ne_of_lt (Nat.lt_of_lt_of_le E_a1.lt (Nat.le_trans (Nat.le_trans (Nat.le_trans (Nat.le_trans (Nat.le_trans (Nat.le_trans (Nat.le_trans K1.1 K2.1) K8.1) K9.1) K12.1) K13.1) K16.1) (Nat.le_of_eq g17.symm))))) nin0)).keep K27 nin0).keep K28 (ninS (Nat.ne_of_lt (Nat.lt_of_lt_of_le E17.lt (Nat.le_trans (Nat.le_trans K18.1 K26.1) (Nat.le_of_eq g27.symm)))) nin0)).keep K36 (ninS (Ne.symm (Nat.ne_of_lt (Nat.lt_of_lt_of_le E_a1.lt (Nat.le_trans (Nat.le_trans (Nat.le_trans (Nat.le_trans (Nat.le_trans (Nat.le_trans (Nat.le_trans K1.1 K2.1) K8.1) K9.1) K12.1) K13.1) K16.1) (Nat.le_of_eq g17.symm))))) nin0)).keep K37 nin0).keep K40 (ninS (Ne.symm (Nat.ne_of_lt (Nat.lt_of_lt_of_le E_a1.lt (Nat.le_trans (Nat.le_trans (Nat.le_trans (Nat.le_trans (Nat.le_trans (Nat.le_trans (Nat.le_trans K1.1 K2.1) K8.1) K9.1) K12.1) K13.1) K16.1) (Nat.le_of_eq g17.symm))))) nin0)).keep K42 (ninS (Ne.symm (Nat.ne_of_lt (Nat.lt_of_lt_of_le E_a1.lt (Nat.le_trans (Nat.le_trans (Nat.le_trans (Nat.le_trans (Nat.le_trans (Nat.le_trans (Nat.le_trans K1.1 K2.1) K8.1) K9.1) K12.1) K13.1) K16.1) (Nat.le_of_eq g17.symm))))) nin0)).keep K44 (ninS (Ne.symm (Nat.ne_of_lt (Nat.lt_of_lt_of_le E_a1.lt (Nat.le_trans (Nat.le_trans (Nat.le_trans (Nat.le_trans (Nat.le_trans (Nat.le_trans (Nat.le_trans K1.1 K2.1) K8.1) K9.1) K12.1) K13.1) K16.1) (Nat.le_of_eq g17.symm))))) nin0))
  have q79 := (((((q29.keep K36).keep K37).keep K40).keep K42).keep K44)
  have q80 := (((((q30.keep K36 (ninS (Ne.symm (Nat.ne_of_lt (Nat.lt_of_lt_of_le E_a1.lt (Nat.le_trans (Nat.le_trans (Nat.le_trans (Nat.le_trans (Nat.le_trans (Nat.le_trans (Nat.le_trans (Nat.le_trans (Nat.le_trans (Nat.le_trans K1.1 K2.1) K8.1) K9.1) K12.1) K13.1) K16.1) K17.1) K18.1) K26.1) (Nat.le_of_eq g27.symm))))) nin0)).keep K37 nin0).keep K40 (ninS (Ne.symm (Nat.ne_of_lt (Nat.lt_of_lt_of_le E_a1.lt (Nat.le_trans (Nat.le_trans (Nat.le_trans (Nat.le_trans (Nat.le_trans (Nat.le_trans (Nat.le_trans (Nat.le_trans (Nat.le_trans (Nat.le_trans K1.1 K2.1) K8.1) K9.1) K12.1) K13.1) K16.1) K17.1) K18.1) K26.1) (Nat.le_of_eq g27.symm))))) nin0)).keep K42 (ninS (Ne.symm (Nat.ne_of_lt (Nat.lt_of_lt_of_le E_a1.lt (Nat.le_trans (Nat.le_trans (Nat.le_trans (Nat.le_trans (Nat.le_trans (Nat.le_trans (Nat.le_trans (Nat.le_trans (Nat.le_trans (Nat.le_trans K1.1 K2.1) K8.1) K9.1) K12.1) K13.1) K16.1) K17.1) K18.1) K26.1) (Nat.le_of_eq g27.symm))))) nin0)).keep K44 (ninS (Ne.symm (Nat.ne_of_lt (Nat.lt_of_lt_of_le E_a1.lt (Nat.le_trans (Nat.le_trans (Nat.le_trans (Nat.le_trans (Nat.le_trans (Nat.le_trans (Nat.le_trans (Nat.le_trans (Nat.le_trans (Nat.le_trans K1.1 K2.1) K8.1) K9.1) K12.1) K13.1) K16.1) K17.1) K18.1) K26.1) (Nat.le_of_eq g27.symm))))) nin0))
  have q81 := (((((q31.keep K36 (ninS (Ne.symm (Nat.ne_of_lt (Nat.lt_of_lt_of_le E_a1.lt (Nat.le_trans (Nat.le_trans (Nat.le_trans (Nat.le_trans (Nat.le_trans (Nat.le_trans (Nat.le_trans (Nat.le_trans (Nat.le_trans (Nat.le_trans K1.1 K2.1) K8.1) K9.1) K12.1) K13.1) K16.1) K17.1) K18.1) K26.1) (Nat.le_of_eq g27.symm))))) nin0)).keep K37 nin0).keep K40 (ninS (Ne.symm (Nat.ne_of_lt (Nat.lt_of_lt_of_le E_a1.lt (Nat.le_trans (Nat.le_trans (Nat.le_trans (Nat.le_trans (Nat.le_trans (Nat.le_trans (Nat.le_trans (Nat.le_trans (Nat.le_trans (Nat.le_trans K1.1 K2.1) K8.1) K9.1) K12.1) K13.1) K16.1) K17.1) K18.1) K26.1) (Nat.le_of_eq g27.symm))))) nin0)).keep K42 (ninS (Ne.symm (Nat.ne_of_lt (Nat.lt_of_lt_of_le E_a1.lt (Nat.le_trans (Nat.le_trans (Nat.le_trans (Nat.le_trans (Nat.le_trans (Nat.le_trans (Nat.le_trans (Nat.le_trans (Nat.le_trans (Nat.le_trans K1.1 K2.1) K8.1) K9.1) K12.1) K13.1) K16.1) K17.1) K18.1) K26.1) (Nat.le_of_eq g27.symm))))) nin0)).keep K44 (ninS (Ne.symm (Nat.ne_of_lt (Nat.lt_of_lt_of_le E_a1.lt (Nat.le_trans (Nat.le_trans (Nat.le_trans (Nat.le_trans (Nat.le_trans (Nat.le_trans (Nat.le_trans (Nat.le_trans (Nat.le_trans (Nat.le_trans K1.1 K2.1) K8.1) K9.1) K12.1) K13.1) K16.1) K17.1) K18.1) K26.1) (Nat.le_of_eq g27.symm))))) nin0))
  have q82 := (((((q32.keep K36 (ninS (Ne.symm (Nat.ne_of_lt (Nat.lt_of_lt_of_le E_a1.lt (Nat.le_trans (Nat.le_trans (Nat.le_trans (Nat.le_trans (Nat.le_trans (Nat.le_trans (Nat.le_trans (Nat.le_trans (Nat.le_trans (Nat.le_trans K1.1 K2.1) K8.1) K9.1) K12.1) K13.1) K16.1) K17.1) K18.1) K26.1) (Nat.le_of_eq g27.symm))))) nin0)).keep K37 nin0).keep K40 (ninS (Ne.symm (Nat.ne_of_lt (Nat.lt_of_lt_of_le E_a1.lt (Nat.le_trans (Nat.le_trans (Nat.le_trans (Nat.le_trans (Nat.le_trans (Nat.le_trans (Nat.le_trans (Nat.le_trans (Nat.le_trans (Nat.le_trans K1.1 K2.1) K8.1) K9.1) K12.1) K13.1) K16.1) K17.1) K18.1) K26.1) (Nat.le_of_eq g27.symm))))) nin0)).keep K42 (ninS (Ne.symm (Nat.ne_of_lt (Nat.lt_of_lt_of_le E_a1.lt (Nat.le_trans (Nat.le_trans (Nat.le_trans (Nat.le_trans (Nat.le_trans (Nat.le_trans (Nat.le_trans (Nat.le_trans (Nat.le_trans (Nat.le_trans K1.1 K2.1) K8.1) K9.1) K12.1) K13.1) K16.1) K17.1) K18.1) K26.1) (Nat.le_of_eq g27.symm))))) nin0)).keep K44 (ninS (Ne.symm (Nat.ne_of_lt (Nat.lt_of_lt_of_le E_a1.lt (Nat.le_trans (Nat.le_trans (Nat.le_trans (Nat.le_trans (Nat.le_trans (Nat.le_trans (Nat.le_trans (Nat.le_trans (Nat.le_trans (Nat.le_trans K1.1 K2.1) K8.1) K9.1) K12.1) K13.1) K16.1) K17.1) K18.1) K26.1) (Nat.le_of_eq g27.symm))))) nin0))
  have q83 := (((A37.keep K40 (ninS (Ne.symm (Nat.ne_of_lt (Nat.lt_of_lt_of_le E_a1.lt (Nat.le_trans (Nat.le_trans (Nat.le_trans (Nat.le_trans (Nat.le_trans (Nat.le_trans (Nat.le_trans (Nat.le_trans (Nat.le_trans (Nat.le_trans (Nat.le_trans (Nat.le_trans (Nat.le_trans K1.1 K2.1) K8.1) K9.1) K12.1) K13.1) K16.1) K17.1) K18.1) K26.1) K27.1) K28.1) K36.1) (Nat.le_of_eq g37.symm))))) nin0)).keep K42 (ninS (Ne.symm (Nat.ne_of_lt (Nat.lt_of_lt_of_le E_a1.lt (Nat.le_trans (Nat.le_trans (Nat.le_trans (Nat.le_trans (Nat.le_trans (Nat.le_trans (Nat.le_trans (Nat.le_trans (Nat.le_trans (Nat.le_trans (Nat.le_trans (Nat.le_trans (Nat.le_trans K1.1 K2.1) K8.1) K9.1) K12.1) K13.1) K16.1) K17.1) K18.1) K26.1) K27.1) K28.1) K36.1) (Nat.le_of_eq g37.symm))))) nin0)).keep K44 (ninS (Ne.symm (Nat.ne_of_lt (Nat.lt_of_lt_of_le E_a1.lt (Nat.le_trans (Nat.le_trans (Nat.le_trans (Nat.le_trans (Nat.le_trans (Nat.le_trans (Nat.le_trans (Nat.le_trans (Nat.le_trans (Nat.le_trans (Nat.le_trans (Nat.le_trans (Nat.le_trans K1.1 K2.1) K8.1) K9.1) K12.1) K13.1) K16.1) K17.1) K18.1) K26.1) K27.1) K28.1) K36.1) (Nat.le_of_eq g37.symm))))) nin0))
  have q84 := (((E37.keep K40).keep K42).keep K44)
  exact r_return H d_g21_2_70 (by decide) (by decide) (Nat.le_refl _) (fun _ t => t) (⟨b1, b9, b13, b17, b27, b37, kc9, kc13, kc37, rfl, k61, (Nat.le_trans (Nat.le_refl _) (Nat.le_of_eq g1.symm)), (Nat.le_trans (Nat.le_trans (Nat.le_trans K1.1 K2.1) K8.1) (Nat.le_of_eq g9.symm)), (Nat.le_trans (Nat.le_trans (Nat.le_trans (Nat.le_trans (Nat.le_trans K1.1 K2.1) K8.1) K9.1) K12.1) (Nat.le_of_eq g13.symm)), (Nat.le_trans (Nat.le_trans (Nat.le_trans (Nat.le_trans (Nat.le_trans (Nat.le_trans (Nat.le_trans K1.1 K2.1) K8.1) K9.1) K12.1) K13.1) K16.1) (Nat.le_of_eq g17.symm)), (Nat.le_trans (Nat.le_trans (Nat.le_trans (Nat.le_trans (Nat.le_trans (Nat.le_trans (Nat.le_trans (Nat.le_trans (Nat.le_trans (Nat.le_trans K1.1 K2.1) K8.1) K9.1) K12.1) K13.1) K16.1) K17.1) K18.1) K26.1) (Nat.le_of_eq g27.symm)), (Nat.le_trans (Nat.le_trans (Nat.le_trans (Nat.le_trans (Nat.le_trans (Nat.le_trans (Nat.le_trans (Nat.le_trans (Nat.le_trans (Nat.le_trans (Nat.le_trans (Nat.le_trans (Nat.le_trans K1.1 K2.1) K8.1) K9.1) K12.1) K13.1) K16.1) K17.1) K18.1) K26.1) K27.1) K28.1) K36.1) (Nat.le_of_eq g37.symm)), (Nat.lt_of_lt_of_le E1.lt (Nat.le_trans (Nat.le_trans K2.1 K8.1) (Nat.le_of_eq g9.symm))), (Nat.lt_of_lt_of_le E9.lt (Nat.le_trans K12.1 (Nat.le_of_eq g13.symm))), (Nat.lt_of_lt_of_le E13.lt (Nat.le_trans K16.1 (Nat.le_of_eq g17.symm))), (Nat.lt_of_lt_of_le E17.lt (Nat.le_trans (Nat.le_trans K18.1 K26.1) (Nat.le_of_eq g27.symm))), (Nat.lt_of_lt_of_le E27.lt (Nat.le_trans (Nat.le_trans K28.1 K36.1) (Nat.le_of_eq g37.symm))), E44, F44, q62, q63, q64, q65, q66, q67, q68, q69, q70, q71, q72, q73, q74, q75, q76, q77, q78, q79, q80, q81, q82, q83, q84, O9⟩)
def Q_size_14 (Z : State) (h0 : Heap) (v : Option Value) (h : Heap) : Prop := v = some (.int (0 : Int32)) ∧ h0 = h
def R_size_14 : Room := { frames := 0, cells := 0, slots := 0, locals := 0 }
theorem rm_size_14 {w : Bool} {Z : State} {a0 : Array Value} (hw : ∀ d ∈ tables_1, d.before a0 Z = true) (Ts : List String) (a1 : Addr) (h0 : Heap) (f : Nat) (Zf : Z.heap.size ≤ f) (Z0 : f ≤ h0.size) (F_size_a1 : Fld Z h0 a1 "java/util/ArrayList" "size" "I" (.int (0 : Int32))) :
    Con w [] Z (⟨"java/util/ArrayList", "size", "()I"⟩ : MethodName) jdk_38_method_8_code 1 (some .int) R_size_14 Ts Ts f #[(.ref a1)] h0 (Q_size_14 Z h0) := by
  refine con_of f #[.val (.ref a1)] (plainFor_of_name pn_5) (fun m => by first | rfl | (simp [entryFrame, mkF, argsToLocals, Value.category]; done)) Zf ?_
  intro C H hX0
  refine r_aloadN H 1 d_j38_8_0 rfl rfl rfl ?_
  refine r_getf H 4 d_j38_8_1 (tw112 hw) Via.refl F_size_a1 rfl ?_
  exact r_ireturn H d_j38_8_4 (by decide) (by decide) (Nat.le_refl _) (fun _ t => t) (⟨rfl, rfl⟩)
def Q_max_19 (Z : State) (h0 : Heap) (v : Option Value) (h : Heap) : Prop := v = some (.int (10 : Int32)) ∧ h0 = h
def R_max_19 : Room := { frames := 0, cells := 0, slots := 0, locals := 0 }
theorem rm_max_19 {w : Bool} {Z : State} {a0 : Array Value} (hw : ∀ d ∈ tables_1, d.before a0 Z = true) (Ts : List String) (h0 : Heap) (f : Nat) (Zf : Z.heap.size ≤ f) (Z0 : f ≤ h0.size) :
    Con w [] Z (⟨"java/lang/Math", "max", "(II)I"⟩ : MethodName) jdk_29_method_65_code 2 (some .int) R_max_19 Ts Ts f #[(.int (10 : Int32)), (.int (1 : Int32))] h0 (Q_max_19 Z h0) := by
  refine con_of f #[.val (.int (10 : Int32)), .val (.int (1 : Int32))] (Jvm.Free.JP.mathPlain rfl (by decide +kernel)) (fun m => by first | rfl | (simp [entryFrame, mkF, argsToLocals, Value.category]; done)) Zf ?_
  intro C H hX0
  refine r_iloadN H 1 d_j29_65_0 rfl rfl ?_
  refine r_iloadN H 2 d_j29_65_1 rfl rfl ?_
  refine r_icmpltF H 5 d_j29_65_2 rfl (by decide) ?_
  refine r_iloadN H 6 d_j29_65_5 rfl rfl ?_
  refine r_goto H 10 d_j29_65_6 (by decide) (by decide) ?_
  exact r_ireturn H d_j29_65_10 (by decide) (by decide) (Nat.le_refl _) (fun _ t => t) (⟨rfl, rfl⟩)
def Q_grow_18 (Z : State) (a1 : Addr) (h0 : Heap) (v : Option Value) (h : Heap) : Prop := ∃ (b3 : Addr) (kc3 : ClassId), v = some (.ref b3) ∧ Keep h0 h [a1] ∧ h0.size ≤ b3 ∧ Ar Z h b3 kc3 (.object "java/lang/Object") [.null, .null, .null, .null, .null, .null, .null, .null, .null, .null] ∧ Exa Z h b3 "[Ljava/lang/Object;" ∧ Exa Z h a1 "java/util/ArrayList" ∧ Fld Z h a1 "java/util/AbstractList" "modCount" "I" (.int (1 : Int32)) ∧ Fld Z h a1 "java/util/ArrayList" "elementData" "[Ljava/lang/Object;" (.ref b3) ∧ Fld Z h a1 "java/util/ArrayList" "size" "I" (.int (0 : Int32)) ∧ Ovr Z kc3 "java/lang/Object"
def R_grow_18 : Room := { frames := 1, cells := 1, slots := 10, locals := 14 }
theorem rm_grow_18 {w : Bool} {Z : State} {a0 : Array Value} (hw : ∀ d ∈ tables_1, d.before a0 Z = true) (Ts : List String) (a1 : Addr) (ed0 : Addr) (kced : ClassId) (h0 : Heap) (f : Nat) (Zf : Z.heap.size ≤ f) (Z0 : f ≤ h0.size) (F_elementData_a1 : Fld Z h0 a1 "java/util/ArrayList" "elementData" "[Ljava/lang/Object;" (.ref ed0)) (E_a1 : Exa Z h0 a1 "java/util/ArrayList") (g_a1 : f ≤ a1) (F_modCount_a1 : Fld Z h0 a1 "java/util/AbstractList" "modCount" "I" (.int (1 : Int32))) (F_size_a1 : Fld Z h0 a1 "java/util/ArrayList" "size" "I" (.int (0 : Int32))) (A_ed0 : Ar Z Z.heap ed0 kced (.object "java/lang/Object") []) (S_ed : Sta Z Z.heap "java/util/ArrayList" "DEFAULTCAPACITY_EMPTY_ELEMENTDATA" "[Ljava/lang/Object;" (.ref ed0)) :
    Con w [] Z (⟨"java/util/ArrayList", "grow", "(I)[Ljava/lang/Object;"⟩ : MethodName) jdk_38_method_6_code 4 (some (.array (.object "java/lang/Object"))) R_grow_18 Ts Ts f #[(.ref a1), (.int (1 : Int32))] h0 (Q_grow_18 Z a1 h0) := by
  refine con_of f #[.val (.ref a1), .val (.int (1 : Int32)), .unset, .unset] (plainFor_of_name pn_5) (fun m => by first | rfl | (simp [entryFrame, mkF, argsToLocals, Value.category]; done)) Zf ?_
  intro C H hX0
  refine r_aloadN H 1 d_j38_6_0 rfl rfl rfl ?_
  refine r_getf H 4 d_j38_6_1 (tw60 hw) Via.refl F_elementData_a1 rfl ?_
  have q1 := (A_ed0.ext hX0)
  refine r_alen H 5 (0 : Int32) d_j38_6_4 q1 rfl rfl ?_
  refine r_istoreN H 6 #[.val (.ref a1), .val (.int (1 : Int32)), .val (.int (0 : Int32)), .unset] d_j38_6_5 rfl rfl ?_
  refine r_iloadN H 7 d_j38_6_6 rfl rfl ?_
  refine r_ifgtF H 10 d_j38_6_7 rfl (by decide) ?_
  refine r_aloadN H 11 d_j38_6_10 rfl rfl rfl ?_
  refine r_getf H 14 d_j38_6_11 (tw60 hw) Via.refl F_elementData_a1 rfl ?_
  refine r_gets H 17 d_j38_6_14 (tw59 hw) Via.refl S_ed rfl ?_
  refine r_acmp H 45 true d_j38_6_17 rfl rfl (decide_eq_true rfl) (by decide) (by decide) ?_
  refine r_aloadN H 46 d_j38_6_45 rfl rfl rfl ?_
  refine r_bipush H 48 (10 : Int32) d_j38_6_46 (by decide) rfl ?_
  refine r_iloadN H 49 d_j38_6_48 rfl rfl ?_
  refine r_static H 52 d_j38_6_49 (tw136 hw) (tw137 hw) (tw138 hw) (tw139 hw) (by decide) (lenOf pd_9 rfl) (rm_max_19 hw Ts h0 f Zf Z0) (argsL := [(.int (10 : Int32)), (.int (1 : Int32))]) (rest := [(.ref a1)]) rfl (W := 1) (Nat.le_of_eq rfl) rfl (by decide) (by decide) (by decide) (by decide) (Nat.le_refl _) rfl ?_
  rintro _ _ ⟨rfl, rfl⟩
  refine r_newR H 55 "[Ljava/lang/Object;" 10 d_j38_6_52 (tw140 hw) (tw141 hw) rfl (by decide) (by decide) (by decide) (by decide) (by decide) rfl ?_
  intro h3 b3 kc3 g3 l3 K3 E3 O3 A3
  change Ar Z h3 b3 kc3 (.object "java/lang/Object") [.null, .null, .null, .null, .null, .null, .null, .null, .null, .null] at A3
  refine r_dupX1 H 56 d_j38_6_55 rfl rfl rfl ?_
  have q4 := (E_a1.keep K3)
  have q5 := (F_elementData_a1.keep K3 nin0)
  refine r_putf H 59 d_j38_6_56 (tw60 hw) Via.refl q5 q4 (Or.inl (tw61 hw)) (tw39 hw) (ty := (.array (.object "java/lang/Object"))) (by decide) rfl rfl g_a1 rfl ?_
  intro h6 W6 K6 E6 F6
  have k7 : Keep h0 h3 [a1] := Keep.trans (Keep.refl h0 [a1]) K3 all0
  have k8 : Keep h0 h6 [a1] := Keep.trans k7 K6 (allS (Or.inl (List.mem_of_getElem? (i := 0) rfl)) all0)
  have q9 := (A3.keep K6 (ninS (Ne.symm (Nat.ne_of_lt (Nat.lt_of_lt_of_le F_elementData_a1.lt (Nat.le_trans (Nat.le_refl _) (Nat.le_of_eq g3.symm))))) nin0))
  have q10 := (E3.keep K6)
  have q11 := ((F_modCount_a1.keep K3 nin0).other W6 (Or.inr (slot_ne (Or.inl (tw58 hw)) (Or.inl (tw61 hw)) (by decide) (t := .int) (t' := (.array (.object "java/lang/Object"))) (by decide) (by decide))))
  have q12 := ((F_size_a1.keep K3 nin0).other W6 (Or.inr (slot_ne (Or.inl (tw113 hw)) (Or.inl (tw61 hw)) (by decide) (t := .int) (t' := (.array (.object "java/lang/Object"))) (by decide) (by decide))))
  exact r_areturn H rfl rfl d_j38_6_59 (by decide) (by decide) (Nat.le_refl _) (fun _ t => t) (⟨b3, kc3, rfl, k8, (Nat.le_trans (Nat.le_refl _) (Nat.le_of_eq g3.symm)), q9, q10, E6, q11, F6, q12, O3⟩)
def Q_grow_17 (Z : State) (a1 : Addr) (h0 : Heap) (v : Option Value) (h : Heap) : Prop := ∃ (b1 : Addr) (kc2 : ClassId), v = some (.ref b1) ∧ Keep h0 h [a1] ∧ h0.size ≤ b1 ∧ Ar Z h b1 kc2 (.object "java/lang/Object") [.null, .null, .null, .null, .null, .null, .null, .null, .null, .null] ∧ Exa Z h b1 "[Ljava/lang/Object;" ∧ Exa Z h a1 "java/util/ArrayList" ∧ Fld Z h a1 "java/util/AbstractList" "modCount" "I" (.int (1 : Int32)) ∧ Fld Z h a1 "java/util/ArrayList" "elementData" "[Ljava/lang/Object;" (.ref b1) ∧ Fld Z h a1 "java/util/ArrayList" "size" "I" (.int (0 : Int32)) ∧ Ovr Z kc2 "java/lang/Object"
def R_grow_17 : Room := { frames := 2, cells := 1, slots := 10, locals := 29 }
theorem rm_grow_17 {w : Bool} {Z : State} {a0 : Array Value} (hw : ∀ d ∈ tables_1, d.before a0 Z = true) (Ts : List String) (a1 : Addr) (ed0 : Addr) (kced : ClassId) (h0 : Heap) (f : Nat) (Zf : Z.heap.size ≤ f) (Z0 : f ≤ h0.size) (F_size_a1 : Fld Z h0 a1 "java/util/ArrayList" "size" "I" (.int (0 : Int32))) (g_a1 : f ≤ a1) (F_elementData_a1 : Fld Z h0 a1 "java/util/ArrayList" "elementData" "[Ljava/lang/Object;" (.ref ed0)) (E_a1 : Exa Z h0 a1 "java/util/ArrayList") (F_modCount_a1 : Fld Z h0 a1 "java/util/AbstractList" "modCount" "I" (.int (1 : Int32))) (A_ed0 : Ar Z Z.heap ed0 kced (.object "java/lang/Object") []) (S_ed : Sta Z Z.heap "java/util/ArrayList" "DEFAULTCAPACITY_EMPTY_ELEMENTDATA" "[Ljava/lang/Object;" (.ref ed0)) :
    Con w [] Z (⟨"java/util/ArrayList", "grow", "()[Ljava/lang/Object;"⟩ : MethodName) jdk_38_method_7_code 1 (some (.array (.object "java/lang/Object"))) R_grow_17 Ts Ts f #[(.ref a1)] h0 (Q_grow_17 Z a1 h0) := by
  refine con_of f #[.val (.ref a1)] (plainFor_of_name pn_5) (fun m => by first | rfl | (simp [entryFrame, mkF, argsToLocals, Value.category]; done)) Zf ?_
  intro C H hX0
  refine r_aloadN H 1 d_j38_7_0 rfl rfl rfl ?_
  refine r_aloadN H 2 d_j38_7_1 rfl rfl rfl ?_
  refine r_getf H 5 d_j38_7_2 (tw112 hw) Via.refl F_size_a1 rfl ?_
  refine r_iconst H 6 (1 : Int32) d_j38_7_5 (by decide) rfl ?_
  refine r_iadd H 7 (1 : Int32) d_j38_7_6 (by decide) rfl ?_
  refine r_private H 10 (a := a1) d_j38_7_7 (tw131 hw) (tw132 hw) (tw134 hw) (tw133 hw) (tw40 hw) (tw135 hw) (by decide) E_a1 (lenOf pd_10 rfl) (rm_grow_18 hw Ts a1 ed0 kced h0 f Zf Z0 F_elementData_a1 E_a1 g_a1 F_modCount_a1 F_size_a1 A_ed0 S_ed) (argsL := [(.int (1 : Int32))]) (rest := []) rfl (W := 0) (Nat.le_of_eq rfl) rfl (by decide) (by decide) (by decide) (by decide) (Nat.le_refl _) rfl ?_
  rintro _ hh12 ⟨b1, kc2, rfl, K3, g4, q5, q6, q7, q8, q9, q10, q11⟩
  have k13 : Keep h0 hh12 [a1] := Keep.trans (Keep.refl h0 [a1]) K3 (allS (Or.inl (List.mem_of_getElem? (i := 0) rfl)) all0)
  exact r_areturn H rfl rfl d_j38_7_10 (by decide) (by decide) (Nat.le_refl _) (fun _ t => t) (⟨b1, kc2, rfl, k13, (Nat.le_trans (Nat.le_refl _) g4), q5, q6, q7, q8, q9, q10, q11⟩)
def Q_add_16 (Z : State) (a1 : Addr) (a2 : Addr) (h0 : Heap) (v : Option Value) (h : Heap) : Prop := ∃ (b2 : Addr) (kc3 : ClassId), v = none ∧ Keep h0 h [a1] ∧ h0.size ≤ b2 ∧ Exa Z h a1 "java/util/ArrayList" ∧ Fld Z h a1 "java/util/AbstractList" "modCount" "I" (.int (1 : Int32)) ∧ Fld Z h a1 "java/util/ArrayList" "elementData" "[Ljava/lang/Object;" (.ref b2) ∧ Fld Z h a1 "java/util/ArrayList" "size" "I" (.int (1 : Int32)) ∧ Ar Z h b2 kc3 (.object "java/lang/Object") [(.ref a2), .null, .null, .null, .null, .null, .null, .null, .null, .null] ∧ Exa Z h b2 "[Ljava/lang/Object;" ∧ Ovr Z kc3 "java/lang/Object"
def R_add_16 : Room := { frames := 3, cells := 1, slots := 10, locals := 41 }
theorem rm_add_16 {w : Bool} {Z : State} {a0 : Array Value} (hw : ∀ d ∈ tables_1, d.before a0 Z = true) (Ts : List String) (a1 : Addr) (a2 : Addr) (ed0 : Addr) (kced : ClassId) (h0 : Heap) (f : Nat) (Zf : Z.heap.size ≤ f) (Z0 : f ≤ h0.size) (g_a1 : f ≤ a1) (F_size_a1 : Fld Z h0 a1 "java/util/ArrayList" "size" "I" (.int (0 : Int32))) (F_elementData_a1 : Fld Z h0 a1 "java/util/ArrayList" "elementData" "[Ljava/lang/Object;" (.ref ed0)) (E_a1 : Exa Z h0 a1 "java/util/ArrayList") (F_modCount_a1 : Fld Z h0 a1 "java/util/AbstractList" "modCount" "I" (.int (1 : Int32))) (E_a2 : Exa Z h0 a2 "[Ljava/lang/String;") (A_ed0 : Ar Z Z.heap ed0 kced (.object "java/lang/Object") []) (S_ed : Sta Z Z.heap "java/util/ArrayList" "DEFAULTCAPACITY_EMPTY_ELEMENTDATA" "[Ljava/lang/Object;" (.ref ed0)) :
    Con w [] Z (⟨"java/util/ArrayList", "add", "(Ljava/lang/Object;[Ljava/lang/Object;I)V"⟩ : MethodName) jdk_38_method_24_code 4 none R_add_16 Ts Ts f #[(.ref a1), (.ref a2), (.ref ed0), (.int (0 : Int32))] h0 (Q_add_16 Z a1 a2 h0) := by
  refine con_of f #[.val (.ref a1), .val (.ref a2), .val (.ref ed0), .val (.int (0 : Int32))] (plainFor_of_name pn_5) (fun m => by first | rfl | (simp [entryFrame, mkF, argsToLocals, Value.category]; done)) Zf ?_
  intro C H hX0
  refine r_iloadN H 1 d_j38_24_0 rfl rfl ?_
  refine r_aloadN H 2 d_j38_24_1 rfl rfl rfl ?_
  have q1 := (A_ed0.ext hX0)
  refine r_alen H 3 (0 : Int32) d_j38_24_2 q1 rfl rfl ?_
  refine r_icmpneF H 6 d_j38_24_3 rfl (by decide) ?_
  refine r_aloadN H 7 d_j38_24_6 rfl rfl rfl ?_
  refine r_private H 10 (a := a1) d_j38_24_7 (tw126 hw) (tw127 hw) (tw129 hw) (tw128 hw) (tw40 hw) (tw130 hw) (by decide) E_a1 (lenOf pd_11 rfl) (rm_grow_17 hw Ts a1 ed0 kced h0 f Zf Z0 F_size_a1 g_a1 F_elementData_a1 E_a1 F_modCount_a1 A_ed0 S_ed) (argsL := []) (rest := []) rfl (W := 0) (Nat.le_of_eq rfl) rfl (by decide) (by decide) (by decide) (by decide) (Nat.le_refl _) rfl ?_
  rintro _ hh13 ⟨b2, kc3, rfl, K4, g5, q6, q7, q8, q9, q10, q11, q12⟩
  refine r_astoreN H 11 #[.val (.ref a1), .val (.ref a2), .val (.ref b2), .val (.int (0 : Int32))] d_j38_24_10 rfl rfl rfl ?_
  refine r_aloadN H 12 d_j38_24_11 rfl rfl rfl ?_
  refine r_iloadN H 13 d_j38_24_12 rfl rfl ?_
  refine r_aloadN H 14 d_j38_24_13 rfl rfl rfl ?_
  have q15 := (E_a2.keep K4)
  refine r_aastore H 15 d_j38_24_14 q6 rfl rfl (sto_ar q6 q12 (Ins.of_exa q15 (tw142 hw))) (by decide) (Nat.le_of_ble_eq_true rfl) (Nat.le_trans Z0 g5) rfl ?_
  intro h14 K14 A14
  change Ar Z h14 b2 kc3 (.object "java/lang/Object") [(.ref a2), .null, .null, .null, .null, .null, .null, .null, .null, .null] at A14
  refine r_aloadN H 16 d_j38_24_15 rfl rfl rfl ?_
  refine r_iloadN H 17 d_j38_24_16 rfl rfl ?_
  refine r_iconst H 18 (1 : Int32) d_j38_24_17 (by decide) rfl ?_
  refine r_iadd H 19 (1 : Int32) d_j38_24_18 (by decide) rfl ?_
  have q16 := (q8.keep K14)
  have q17 := (q11.keep K14 (ninS (Nat.ne_of_lt (Nat.lt_of_lt_of_le F_size_a1.lt (Nat.le_trans (Nat.le_refl _) g5))) nin0))
  refine r_putf H 22 d_j38_24_19 (tw112 hw) Via.refl q17 q16 (Or.inl (tw113 hw)) (tw39 hw) (ty := .int) (by decide) rfl rfl g_a1 rfl ?_
  intro h18 W18 K18 E18 F18
  have k19 : Keep h0 hh13 [a1] := Keep.trans (Keep.refl h0 [a1]) K4 (allS (Or.inl (List.mem_of_getElem? (i := 0) rfl)) all0)
  have k20 : Keep h0 h14 [a1] := Keep.trans k19 K14 (allS (Or.inr (Nat.le_trans (Nat.le_refl _) g5)) all0)
  have k21 : Keep h0 h18 [a1] := Keep.trans k20 K18 (allS (Or.inl (List.mem_of_getElem? (i := 0) rfl)) all0)
  have q22 := ((q9.keep K14 (ninS (Nat.ne_of_lt (Nat.lt_of_lt_of_le F_size_a1.lt (Nat.le_trans (Nat.le_refl _) g5))) nin0)).other W18 (Or.inr (slot_ne (Or.inl (tw58 hw)) (Or.inl (tw113 hw)) (by decide) (t := .int) (t' := .int) (by decide) (by decide))))
  have q23 := ((q10.keep K14 (ninS (Nat.ne_of_lt (Nat.lt_of_lt_of_le F_size_a1.lt (Nat.le_trans (Nat.le_refl _) g5))) nin0)).other W18 (Or.inr (slot_ne (Or.inl (tw61 hw)) (Or.inl (tw113 hw)) (by decide) (t := (.array (.object "java/lang/Object"))) (t' := .int) (by decide) (by decide))))
  have q24 := (A14.keep K18 (ninS (Ne.symm (Nat.ne_of_lt (Nat.lt_of_lt_of_le F_size_a1.lt (Nat.le_trans (Nat.le_refl _) g5)))) nin0))
  have q25 := ((q7.keep K14).keep K18)
  exact r_return H d_j38_24_22 (by decide) (by decide) (Nat.le_refl _) (fun _ t => t) (⟨b2, kc3, rfl, k21, (Nat.le_trans (Nat.le_refl _) g5), E18, q22, q23, F18, q24, q25, q12⟩)
def Q_add_15 (Z : State) (a1 : Addr) (a2 : Addr) (h0 : Heap) (v : Option Value) (h : Heap) : Prop := ∃ (b5 : Addr) (kc6 : ClassId), v = some (.int (1 : Int32)) ∧ Keep h0 h [a1] ∧ h0.size ≤ b5 ∧ Exa Z h a1 "java/util/ArrayList" ∧ Fld Z h a1 "java/util/AbstractList" "modCount" "I" (.int (1 : Int32)) ∧ Fld Z h a1 "java/util/ArrayList" "elementData" "[Ljava/lang/Object;" (.ref b5) ∧ Fld Z h a1 "java/util/ArrayList" "size" "I" (.int (1 : Int32)) ∧ Ar Z h b5 kc6 (.object "java/lang/Object") [(.ref a2), .null, .null, .null, .null, .null, .null, .null, .null, .null] ∧ Exa Z h b5 "[Ljava/lang/Object;" ∧ Ovr Z kc6 "java/lang/Object"
def R_add_15 : Room := { frames := 4, cells := 1, slots := 10, locals := 56 }
theorem rm_add_15 {w : Bool} {Z : State} {a0 : Array Value} (hw : ∀ d ∈ tables_1, d.before a0 Z = true) (Ts : List String) (a1 : Addr) (a2 : Addr) (ed0 : Addr) (kced : ClassId) (h0 : Heap) (f : Nat) (Zf : Z.heap.size ≤ f) (Z0 : f ≤ h0.size) (F_modCount_a1 : Fld Z h0 a1 "java/util/AbstractList" "modCount" "I" (.int (0 : Int32))) (E_a1 : Exa Z h0 a1 "java/util/ArrayList") (g_a1 : f ≤ a1) (F_elementData_a1 : Fld Z h0 a1 "java/util/ArrayList" "elementData" "[Ljava/lang/Object;" (.ref ed0)) (F_size_a1 : Fld Z h0 a1 "java/util/ArrayList" "size" "I" (.int (0 : Int32))) (E_a2 : Exa Z h0 a2 "[Ljava/lang/String;") (A_ed0 : Ar Z Z.heap ed0 kced (.object "java/lang/Object") []) (S_ed : Sta Z Z.heap "java/util/ArrayList" "DEFAULTCAPACITY_EMPTY_ELEMENTDATA" "[Ljava/lang/Object;" (.ref ed0)) :
    Con w [] Z (⟨"java/util/ArrayList", "add", "(Ljava/lang/Object;)Z"⟩ : MethodName) jdk_38_method_25_code 2 (some .boolean) R_add_15 Ts Ts f #[(.ref a1), (.ref a2)] h0 (Q_add_15 Z a1 a2 h0) := by
  refine con_of f #[.val (.ref a1), .val (.ref a2)] (plainFor_of_name pn_5) (fun m => by first | rfl | (simp [entryFrame, mkF, argsToLocals, Value.category]; done)) Zf ?_
  intro C H hX0
  refine r_aloadN H 1 d_j38_25_0 rfl rfl rfl ?_
  refine r_dup H 2 d_j38_25_1 rfl rfl ?_
  refine r_getf H 5 d_j38_25_2 (tw119 hw) (Via.of (tw120 hw)) F_modCount_a1 rfl ?_
  refine r_iconst H 6 (1 : Int32) d_j38_25_5 (by decide) rfl ?_
  refine r_iadd H 7 (1 : Int32) d_j38_25_6 (by decide) rfl ?_
  refine r_putf H 10 d_j38_25_7 (tw119 hw) (Via.of (tw120 hw)) F_modCount_a1 E_a1 (Or.inl (tw58 hw)) (tw39 hw) (ty := .int) (by decide) rfl rfl g_a1 rfl ?_
  intro h1 W1 K1 E1 F1
  refine r_aloadN H 11 d_j38_25_10 rfl rfl rfl ?_
  refine r_aloadN H 12 d_j38_25_11 rfl rfl rfl ?_
  refine r_aloadN H 13 d_j38_25_12 rfl rfl rfl ?_
  have q2 := (F_elementData_a1.other W1 (Or.inr (slot_ne (Or.inl (tw61 hw)) (Or.inl (tw58 hw)) (by decide) (t := (.array (.object "java/lang/Object"))) (t' := .int) (by decide) (by decide))))
  refine r_getf H 16 d_j38_25_13 (tw60 hw) Via.refl q2 rfl ?_
  refine r_aloadN H 17 d_j38_25_16 rfl rfl rfl ?_
  have q3 := (F_size_a1.other W1 (Or.inr (slot_ne (Or.inl (tw113 hw)) (Or.inl (tw58 hw)) (by decide) (t := .int) (t' := .int) (by decide) (by decide))))
  refine r_getf H 20 d_j38_25_17 (tw112 hw) Via.refl q3 rfl ?_
  have q4 := (E_a2.keep K1)
  refine r_private H 23 (a := a1) d_j38_25_20 (tw121 hw) (tw122 hw) (tw124 hw) (tw123 hw) (tw40 hw) (tw125 hw) (by decide) E1 (lenOf pd_12 rfl) (rm_add_16 hw Ts a1 a2 ed0 kced h1 f Zf (Nat.le_trans Z0 K1.1) g_a1 q3 q2 E1 F1 q4 A_ed0 S_ed) (argsL := [(.ref a2), (.ref ed0), (.int (0 : Int32))]) (rest := []) rfl (W := 0) (Nat.le_of_eq rfl) rfl (by decide) (by decide) (by decide) (by decide) (Nat.le_refl _) rfl ?_
  rintro _ hh16 ⟨b5, kc6, rfl, K7, g8, q9, q10, q11, q12, q13, q14, q15⟩
  refine r_iconst H 24 (1 : Int32) d_j38_25_23 (by decide) rfl ?_
  have k17 : Keep h0 h1 [a1] := Keep.trans (Keep.refl h0 [a1]) K1 (allS (Or.inl (List.mem_of_getElem? (i := 0) rfl)) all0)
  have k18 : Keep h0 hh16 [a1] := Keep.trans k17 K7 (allS (Or.inl (List.mem_of_getElem? (i := 0) rfl)) all0)
  exact r_nreturn (1 : Int32) H (by simp) d_j38_25_24 (by decide) (by decide) (by decide) (Nat.le_refl _) (fun _ t => t) (⟨b5, kc6, rfl, k18, (Nat.le_trans K1.1 g8), q9, q10, q11, q12, q13, q14, q15⟩)
def Q_add_21 (Z : State) (a1 : Addr) (a2 : Addr) (h0 : Heap) (v : Option Value) (h : Heap) : Prop := ∃ (b2 : Addr) (kc3 : ClassId), v = none ∧ Keep h0 h [a1] ∧ h0.size ≤ b2 ∧ Exa Z h a1 "java/util/ArrayList" ∧ Fld Z h a1 "java/util/AbstractList" "modCount" "I" (.int (1 : Int32)) ∧ Fld Z h a1 "java/util/ArrayList" "elementData" "[Ljava/lang/Object;" (.ref b2) ∧ Fld Z h a1 "java/util/ArrayList" "size" "I" (.int (1 : Int32)) ∧ Ar Z h b2 kc3 (.object "java/lang/Object") [(.ref a2), .null, .null, .null, .null, .null, .null, .null, .null, .null] ∧ Exa Z h b2 "[Ljava/lang/Object;" ∧ Ovr Z kc3 "java/lang/Object"
def R_add_21 : Room := { frames := 3, cells := 1, slots := 10, locals := 41 }
theorem rm_add_21 {w : Bool} {Z : State} {a0 : Array Value} (hw : ∀ d ∈ tables_1, d.before a0 Z = true) (Ts : List String) (a1 : Addr) (a2 : Addr) (ed0 : Addr) (kced : ClassId) (h0 : Heap) (f : Nat) (Zf : Z.heap.size ≤ f) (Z0 : f ≤ h0.size) (g_a1 : f ≤ a1) (F_size_a1 : Fld Z h0 a1 "java/util/ArrayList" "size" "I" (.int (0 : Int32))) (F_elementData_a1 : Fld Z h0 a1 "java/util/ArrayList" "elementData" "[Ljava/lang/Object;" (.ref ed0)) (E_a1 : Exa Z h0 a1 "java/util/ArrayList") (F_modCount_a1 : Fld Z h0 a1 "java/util/AbstractList" "modCount" "I" (.int (1 : Int32))) (E_a2 : Exa Z h0 a2 "java/lang/String") (A_ed0 : Ar Z Z.heap ed0 kced (.object "java/lang/Object") []) (S_ed : Sta Z Z.heap "java/util/ArrayList" "DEFAULTCAPACITY_EMPTY_ELEMENTDATA" "[Ljava/lang/Object;" (.ref ed0)) :
    Con w [] Z (⟨"java/util/ArrayList", "add", "(Ljava/lang/Object;[Ljava/lang/Object;I)V"⟩ : MethodName) jdk_38_method_24_code 4 none R_add_21 Ts Ts f #[(.ref a1), (.ref a2), (.ref ed0), (.int (0 : Int32))] h0 (Q_add_21 Z a1 a2 h0) := by
  refine con_of f #[.val (.ref a1), .val (.ref a2), .val (.ref ed0), .val (.int (0 : Int32))] (plainFor_of_name pn_5) (fun m => by first | rfl | (simp [entryFrame, mkF, argsToLocals, Value.category]; done)) Zf ?_
  intro C H hX0
  refine r_iloadN H 1 d_j38_24_0 rfl rfl ?_
  refine r_aloadN H 2 d_j38_24_1 rfl rfl rfl ?_
  have q1 := (A_ed0.ext hX0)
  refine r_alen H 3 (0 : Int32) d_j38_24_2 q1 rfl rfl ?_
  refine r_icmpneF H 6 d_j38_24_3 rfl (by decide) ?_
  refine r_aloadN H 7 d_j38_24_6 rfl rfl rfl ?_
  refine r_private H 10 (a := a1) d_j38_24_7 (tw126 hw) (tw127 hw) (tw129 hw) (tw128 hw) (tw40 hw) (tw130 hw) (by decide) E_a1 (lenOf pd_11 rfl) (rm_grow_17 hw Ts a1 ed0 kced h0 f Zf Z0 F_size_a1 g_a1 F_elementData_a1 E_a1 F_modCount_a1 A_ed0 S_ed) (argsL := []) (rest := []) rfl (W := 0) (Nat.le_of_eq rfl) rfl (by decide) (by decide) (by decide) (by decide) (Nat.le_refl _) rfl ?_
  rintro _ hh13 ⟨b2, kc3, rfl, K4, g5, q6, q7, q8, q9, q10, q11, q12⟩
  refine r_astoreN H 11 #[.val (.ref a1), .val (.ref a2), .val (.ref b2), .val (.int (0 : Int32))] d_j38_24_10 rfl rfl rfl ?_
  refine r_aloadN H 12 d_j38_24_11 rfl rfl rfl ?_
  refine r_iloadN H 13 d_j38_24_12 rfl rfl ?_
  refine r_aloadN H 14 d_j38_24_13 rfl rfl rfl ?_
  have q15 := (E_a2.keep K4)
  refine r_aastore H 15 d_j38_24_14 q6 rfl rfl (sto_ar q6 q12 (Ins.of_exa q15 (tw143 hw))) (by decide) (Nat.le_of_ble_eq_true rfl) (Nat.le_trans Z0 g5) rfl ?_
  intro h14 K14 A14
  change Ar Z h14 b2 kc3 (.object "java/lang/Object") [(.ref a2), .null, .null, .null, .null, .null, .null, .null, .null, .null] at A14
  refine r_aloadN H 16 d_j38_24_15 rfl rfl rfl ?_
  refine r_iloadN H 17 d_j38_24_16 rfl rfl ?_
  refine r_iconst H 18 (1 : Int32) d_j38_24_17 (by decide) rfl ?_
  refine r_iadd H 19 (1 : Int32) d_j38_24_18 (by decide) rfl ?_
  have q16 := (q8.keep K14)
  have q17 := (q11.keep K14 (ninS (Nat.ne_of_lt (Nat.lt_of_lt_of_le F_size_a1.lt (Nat.le_trans (Nat.le_refl _) g5))) nin0))
  refine r_putf H 22 d_j38_24_19 (tw112 hw) Via.refl q17 q16 (Or.inl (tw113 hw)) (tw39 hw) (ty := .int) (by decide) rfl rfl g_a1 rfl ?_
  intro h18 W18 K18 E18 F18
  have k19 : Keep h0 hh13 [a1] := Keep.trans (Keep.refl h0 [a1]) K4 (allS (Or.inl (List.mem_of_getElem? (i := 0) rfl)) all0)
  have k20 : Keep h0 h14 [a1] := Keep.trans k19 K14 (allS (Or.inr (Nat.le_trans (Nat.le_refl _) g5)) all0)
  have k21 : Keep h0 h18 [a1] := Keep.trans k20 K18 (allS (Or.inl (List.mem_of_getElem? (i := 0) rfl)) all0)
  have q22 := ((q9.keep K14 (ninS (Nat.ne_of_lt (Nat.lt_of_lt_of_le F_size_a1.lt (Nat.le_trans (Nat.le_refl _) g5))) nin0)).other W18 (Or.inr (slot_ne (Or.inl (tw58 hw)) (Or.inl (tw113 hw)) (by decide) (t := .int) (t' := .int) (by decide) (by decide))))
  have q23 := ((q10.keep K14 (ninS (Nat.ne_of_lt (Nat.lt_of_lt_of_le F_size_a1.lt (Nat.le_trans (Nat.le_refl _) g5))) nin0)).other W18 (Or.inr (slot_ne (Or.inl (tw61 hw)) (Or.inl (tw113 hw)) (by decide) (t := (.array (.object "java/lang/Object"))) (t' := .int) (by decide) (by decide))))
  have q24 := (A14.keep K18 (ninS (Ne.symm (Nat.ne_of_lt (Nat.lt_of_lt_of_le F_size_a1.lt (Nat.le_trans (Nat.le_refl _) g5)))) nin0))
  have q25 := ((q7.keep K14).keep K18)
  exact r_return H d_j38_24_22 (by decide) (by decide) (Nat.le_refl _) (fun _ t => t) (⟨b2, kc3, rfl, k21, (Nat.le_trans (Nat.le_refl _) g5), E18, q22, q23, F18, q24, q25, q12⟩)
def Q_add_20 (Z : State) (a1 : Addr) (a2 : Addr) (h0 : Heap) (v : Option Value) (h : Heap) : Prop := ∃ (b5 : Addr) (kc6 : ClassId), v = some (.int (1 : Int32)) ∧ Keep h0 h [a1] ∧ h0.size ≤ b5 ∧ Exa Z h a1 "java/util/ArrayList" ∧ Fld Z h a1 "java/util/AbstractList" "modCount" "I" (.int (1 : Int32)) ∧ Fld Z h a1 "java/util/ArrayList" "elementData" "[Ljava/lang/Object;" (.ref b5) ∧ Fld Z h a1 "java/util/ArrayList" "size" "I" (.int (1 : Int32)) ∧ Ar Z h b5 kc6 (.object "java/lang/Object") [(.ref a2), .null, .null, .null, .null, .null, .null, .null, .null, .null] ∧ Exa Z h b5 "[Ljava/lang/Object;" ∧ Ovr Z kc6 "java/lang/Object"
def R_add_20 : Room := { frames := 4, cells := 1, slots := 10, locals := 56 }
theorem rm_add_20 {w : Bool} {Z : State} {a0 : Array Value} (hw : ∀ d ∈ tables_1, d.before a0 Z = true) (Ts : List String) (a1 : Addr) (a2 : Addr) (ed0 : Addr) (kced : ClassId) (h0 : Heap) (f : Nat) (Zf : Z.heap.size ≤ f) (Z0 : f ≤ h0.size) (F_modCount_a1 : Fld Z h0 a1 "java/util/AbstractList" "modCount" "I" (.int (0 : Int32))) (E_a1 : Exa Z h0 a1 "java/util/ArrayList") (g_a1 : f ≤ a1) (F_elementData_a1 : Fld Z h0 a1 "java/util/ArrayList" "elementData" "[Ljava/lang/Object;" (.ref ed0)) (F_size_a1 : Fld Z h0 a1 "java/util/ArrayList" "size" "I" (.int (0 : Int32))) (E_a2 : Exa Z h0 a2 "java/lang/String") (A_ed0 : Ar Z Z.heap ed0 kced (.object "java/lang/Object") []) (S_ed : Sta Z Z.heap "java/util/ArrayList" "DEFAULTCAPACITY_EMPTY_ELEMENTDATA" "[Ljava/lang/Object;" (.ref ed0)) :
    Con w [] Z (⟨"java/util/ArrayList", "add", "(Ljava/lang/Object;)Z"⟩ : MethodName) jdk_38_method_25_code 2 (some .boolean) R_add_20 Ts Ts f #[(.ref a1), (.ref a2)] h0 (Q_add_20 Z a1 a2 h0) := by
  refine con_of f #[.val (.ref a1), .val (.ref a2)] (plainFor_of_name pn_5) (fun m => by first | rfl | (simp [entryFrame, mkF, argsToLocals, Value.category]; done)) Zf ?_
  intro C H hX0
  refine r_aloadN H 1 d_j38_25_0 rfl rfl rfl ?_
  refine r_dup H 2 d_j38_25_1 rfl rfl ?_
  refine r_getf H 5 d_j38_25_2 (tw119 hw) (Via.of (tw120 hw)) F_modCount_a1 rfl ?_
  refine r_iconst H 6 (1 : Int32) d_j38_25_5 (by decide) rfl ?_
  refine r_iadd H 7 (1 : Int32) d_j38_25_6 (by decide) rfl ?_
  refine r_putf H 10 d_j38_25_7 (tw119 hw) (Via.of (tw120 hw)) F_modCount_a1 E_a1 (Or.inl (tw58 hw)) (tw39 hw) (ty := .int) (by decide) rfl rfl g_a1 rfl ?_
  intro h1 W1 K1 E1 F1
  refine r_aloadN H 11 d_j38_25_10 rfl rfl rfl ?_
  refine r_aloadN H 12 d_j38_25_11 rfl rfl rfl ?_
  refine r_aloadN H 13 d_j38_25_12 rfl rfl rfl ?_
  have q2 := (F_elementData_a1.other W1 (Or.inr (slot_ne (Or.inl (tw61 hw)) (Or.inl (tw58 hw)) (by decide) (t := (.array (.object "java/lang/Object"))) (t' := .int) (by decide) (by decide))))
  refine r_getf H 16 d_j38_25_13 (tw60 hw) Via.refl q2 rfl ?_
  refine r_aloadN H 17 d_j38_25_16 rfl rfl rfl ?_
  have q3 := (F_size_a1.other W1 (Or.inr (slot_ne (Or.inl (tw113 hw)) (Or.inl (tw58 hw)) (by decide) (t := .int) (t' := .int) (by decide) (by decide))))
  refine r_getf H 20 d_j38_25_17 (tw112 hw) Via.refl q3 rfl ?_
  have q4 := (E_a2.keep K1)
  refine r_private H 23 (a := a1) d_j38_25_20 (tw121 hw) (tw122 hw) (tw124 hw) (tw123 hw) (tw40 hw) (tw125 hw) (by decide) E1 (lenOf pd_12 rfl) (rm_add_21 hw Ts a1 a2 ed0 kced h1 f Zf (Nat.le_trans Z0 K1.1) g_a1 q3 q2 E1 F1 q4 A_ed0 S_ed) (argsL := [(.ref a2), (.ref ed0), (.int (0 : Int32))]) (rest := []) rfl (W := 0) (Nat.le_of_eq rfl) rfl (by decide) (by decide) (by decide) (by decide) (Nat.le_refl _) rfl ?_
  rintro _ hh16 ⟨b5, kc6, rfl, K7, g8, q9, q10, q11, q12, q13, q14, q15⟩
  refine r_iconst H 24 (1 : Int32) d_j38_25_23 (by decide) rfl ?_
  have k17 : Keep h0 h1 [a1] := Keep.trans (Keep.refl h0 [a1]) K1 (allS (Or.inl (List.mem_of_getElem? (i := 0) rfl)) all0)
  have k18 : Keep h0 hh16 [a1] := Keep.trans k17 K7 (allS (Or.inl (List.mem_of_getElem? (i := 0) rfl)) all0)
  exact r_nreturn (1 : Int32) H (by simp) d_j38_25_24 (by decide) (by decide) (by decide) (Nat.le_refl _) (fun _ t => t) (⟨b5, kc6, rfl, k18, (Nat.le_trans K1.1 g8), q9, q10, q11, q12, q13, q14, q15⟩)
def Q_add_13 (Z : State) (a2 : Addr) (a3 : Addr) (a7 : Addr) (a9 : Addr) (a10 : Addr) (i1 : Int32) (c4 : ClassId) (h0 : Heap) (v : Option Value) (h : Heap) : Prop := ∃ (b12 : Addr) (b32 : Addr) (kc13 : ClassId) (kc33 : ClassId), v = none ∧ Keep h0 h [a10, a7, a9] ∧ h0.size ≤ b12 ∧ h0.size ≤ b32 ∧ b12 < b32 ∧ Exa Z h a10 "java/util/ArrayList" ∧ Fld Z h a10 "java/util/AbstractList" "modCount" "I" (.int (1 : Int32)) ∧ Fld Z h a10 "java/util/ArrayList" "elementData" "[Ljava/lang/Object;" (.ref b12) ∧ Fld Z h a10 "java/util/ArrayList" "size" "I" (.int (1 : Int32)) ∧ Ar Z h a7 c4 .int [(.int i1), (.int (0 : Int32)), (.int (0 : Int32)), (.int (0 : Int32)), (.int (0 : Int32)), (.int (0 : Int32)), (.int (0 : Int32)), (.int (0 : Int32)), (.int (0 : Int32)), (.int (0 : Int32)), (.int (0 : Int32)), (.int (0 : Int32)), (.int (0 : Int32)), (.int (0 : Int32)), (.int (0 : Int32)), (.int (0 : Int32))] ∧ Exa Z h a7 "[I" ∧ Exa Z h a9 "java/util/ArrayList" ∧ Fld Z h a9 "java/util/AbstractList" "modCount" "I" (.int (1 : Int32)) ∧ Fld Z h a9 "java/util/ArrayList" "elementData" "[Ljava/lang/Object;" (.ref b32) ∧ Fld Z h a9 "java/util/ArrayList" "size" "I" (.int (1 : Int32)) ∧ Ar Z h b12 kc13 (.object "java/lang/Object") [(.ref a2), .null, .null, .null, .null, .null, .null, .null, .null, .null] ∧ Exa Z h b12 "[Ljava/lang/Object;" ∧ Ar Z h b32 kc33 (.object "java/lang/Object") [(.ref a3), .null, .null, .null, .null, .null, .null, .null, .null, .null] ∧ Exa Z h b32 "[Ljava/lang/Object;" ∧ Ovr Z kc13 "java/lang/Object" ∧ Ovr Z kc33 "java/lang/Object"
def R_add_13 : Room := { frames := 5, cells := 2, slots := 20, locals := 69 }
theorem rm_add_13 {w : Bool} {Z : State} {a0 : Array Value} (hw : ∀ d ∈ tables_1, d.before a0 Z = true) (Ts : List String) (a1 : Addr) (a2 : Addr) (a3 : Addr) (a7 : Addr) (a9 : Addr) (a10 : Addr) (i1 : Int32) (c4 : ClassId) (ed0 : Addr) (kced : ClassId) (h0 : Heap) (f : Nat) (Zf : Z.heap.size ≤ f) (Z0 : f ≤ h0.size) (F_rows_a1 : Fld Z h0 a1 "com/example/steady_fixtures/steadyfixtures/load/TableRows" "rows" "Ljava/util/ArrayList;" (.ref a10)) (E_a10 : Exa Z h0 a10 "java/util/ArrayList") (F_size_a10 : Fld Z h0 a10 "java/util/ArrayList" "size" "I" (.int (0 : Int32))) (F_lines_a1 : Fld Z h0 a1 "com/example/steady_fixtures/steadyfixtures/load/TableRows" "lines" "[I" (.ref a7)) (A_a7 : Ar Z h0 a7 c4 .int [(.int (0 : Int32)), (.int (0 : Int32)), (.int (0 : Int32)), (.int (0 : Int32)), (.int (0 : Int32)), (.int (0 : Int32)), (.int (0 : Int32)), (.int (0 : Int32)), (.int (0 : Int32)), (.int (0 : Int32)), (.int (0 : Int32)), (.int (0 : Int32)), (.int (0 : Int32)), (.int (0 : Int32)), (.int (0 : Int32)), (.int (0 : Int32))]) (g_a7 : f ≤ a7) (E_a7 : Exa Z h0 a7 "[I") (E_a1 : Exa Z h0 a1 "com/example/steady_fixtures/steadyfixtures/load/TableRows") (g_a10 : f ≤ a10) (F_modCount_a10 : Fld Z h0 a10 "java/util/AbstractList" "modCount" "I" (.int (0 : Int32))) (F_elementData_a10 : Fld Z h0 a10 "java/util/ArrayList" "elementData" "[Ljava/lang/Object;" (.ref ed0)) (E_a2 : Exa Z h0 a2 "[Ljava/lang/String;") (F_resources_a1 : Fld Z h0 a1 "com/example/steady_fixtures/steadyfixtures/load/TableRows" "resources" "Ljava/util/ArrayList;" (.ref a9)) (E_a9 : Exa Z h0 a9 "java/util/ArrayList") (g_a9 : f ≤ a9) (F_modCount_a9 : Fld Z h0 a9 "java/util/AbstractList" "modCount" "I" (.int (0 : Int32))) (n_a9_a10 : a9 ≠ a10) (F_elementData_a9 : Fld Z h0 a9 "java/util/ArrayList" "elementData" "[Ljava/lang/Object;" (.ref ed0)) (F_size_a9 : Fld Z h0 a9 "java/util/ArrayList" "size" "I" (.int (0 : Int32))) (E_a3 : Exa Z h0 a3 "java/lang/String") (n_a10_a9 : a10 ≠ a9) (A_ed0 : Ar Z Z.heap ed0 kced (.object "java/lang/Object") []) (S_ed : Sta Z Z.heap "java/util/ArrayList" "DEFAULTCAPACITY_EMPTY_ELEMENTDATA" "[Ljava/lang/Object;" (.ref ed0)) :
    Con w [] Z (⟨"com/example/steady_fixtures/steadyfixtures/load/TableRows", "add", "([Ljava/lang/String;Ljava/lang/String;I)V"⟩ : MethodName) prog_21_method_5_code 4 none R_add_13 Ts Ts f #[(.ref a1), (.ref a2), (.ref a3), (.int i1)] h0 (Q_add_13 Z a2 a3 a7 a9 a10 i1 c4 h0) := by
  refine con_of f #[.val (.ref a1), .val (.ref a2), .val (.ref a3), .val (.int i1)] (plainFor_of_name pn_8) (fun m => by first | rfl | (simp [entryFrame, mkF, argsToLocals, Value.category]; done)) Zf ?_
  intro C H hX0
  refine r_aloadN H 1 d_g21_5_0 rfl rfl rfl ?_
  refine r_getf H 4 d_g21_5_1 (tw92 hw) Via.refl F_rows_a1 rfl ?_
  refine r_virtual H 7 (z := (⟨"java/util/ArrayList", "size", "()I"⟩ : MethodName)) (a := a10) d_g21_5_4 (tw107 hw) (tw108 hw) (nf_sel (tw110 hw)) (tw110 hw) (tw109 hw) (tw40 hw) (tw111 hw) (by decide) E_a10 (lenOf pd_8 rfl) (rm_size_14 hw Ts a10 h0 f Zf Z0 F_size_a10) (argsL := []) (rest := []) rfl (W := 0) (Nat.le_of_eq rfl) rfl (by decide) (by decide) (by decide) (by decide) (Nat.le_refl _) rfl ?_
  rintro _ _ ⟨rfl, rfl⟩
  refine r_aloadN H 8 d_g21_5_7 rfl rfl rfl ?_
  refine r_getf H 11 d_g21_5_8 (tw96 hw) Via.refl F_lines_a1 rfl ?_
  refine r_alen H 12 (16 : Int32) d_g21_5_11 A_a7 rfl rfl ?_
  refine r_icmpneT H 33 d_g21_5_12 (by decide) (by decide) (by decide) ?_
  refine r_aloadN H 34 d_g21_5_33 rfl rfl rfl ?_
  refine r_getf H 37 d_g21_5_34 (tw96 hw) Via.refl F_lines_a1 rfl ?_
  refine r_aloadN H 38 d_g21_5_37 rfl rfl rfl ?_
  refine r_getf H 41 d_g21_5_38 (tw92 hw) Via.refl F_rows_a1 rfl ?_
  refine r_virtual H 44 (z := (⟨"java/util/ArrayList", "size", "()I"⟩ : MethodName)) (a := a10) d_g21_5_41 (tw107 hw) (tw108 hw) (nf_sel (tw110 hw)) (tw110 hw) (tw109 hw) (tw40 hw) (tw111 hw) (by decide) E_a10 (lenOf pd_8 rfl) (rm_size_14 hw Ts a10 h0 f Zf Z0 F_size_a10) (argsL := []) (rest := [(.ref a7)]) rfl (W := 1) (Nat.le_of_eq rfl) rfl (by decide) (by decide) (by decide) (by decide) (Nat.le_refl _) rfl ?_
  rintro _ _ ⟨rfl, rfl⟩
  refine r_iloadN H 45 d_g21_5_44 rfl rfl ?_
  refine r_iastore H 46 i1 d_g21_5_45 A_a7 (by decide) (Nat.le_of_ble_eq_true rfl) g_a7 rfl rfl ?_
  intro h3 K3 A3
  change Ar Z h3 a7 c4 .int [(.int i1), (.int (0 : Int32)), (.int (0 : Int32)), (.int (0 : Int32)), (.int (0 : Int32)), (.int (0 : Int32)), (.int (0 : Int32)), (.int (0 : Int32)), (.int (0 : Int32)), (.int (0 : Int32)), (.int (0 : Int32)), (.int (0 : Int32)), (.int (0 : Int32)), (.int (0 : Int32)), (.int (0 : Int32)), (.int (0 : Int32))] at A3
  refine r_aloadN H 47 d_g21_5_46 rfl rfl rfl ?_
  have q4 := (E_a1.keep K3)
  have q5 := (E_a7.keep K3)
  have q6 := (F_rows_a1.keep K3 (ninS (ne_exa q4 q5 (by decide)) nin0))
  refine r_getf H 50 d_g21_5_47 (tw92 hw) Via.refl q6 rfl ?_
  refine r_aloadN H 51 d_g21_5_50 rfl rfl rfl ?_
  have q7 := (E_a10.keep K3)
  have q8 := (F_modCount_a10.keep K3 (ninS (ne_exa q7 q5 (by decide)) nin0))
  have q9 := (F_elementData_a10.keep K3 (ninS (ne_exa q7 q5 (by decide)) nin0))
  have q10 := (F_size_a10.keep K3 (ninS (ne_exa q7 q5 (by decide)) nin0))
  have q11 := (E_a2.keep K3)
  refine r_virtual H 54 (z := (⟨"java/util/ArrayList", "add", "(Ljava/lang/Object;)Z"⟩ : MethodName)) (a := a10) d_g21_5_51 (tw114 hw) (tw115 hw) (nf_sel (tw117 hw)) (tw117 hw) (tw116 hw) (tw40 hw) (tw118 hw) (by decide) q7 (lenOf pd_13 rfl) (rm_add_15 hw Ts a10 a2 ed0 kced h3 f Zf (Nat.le_trans Z0 K3.1) q8 q7 g_a10 q9 q10 q11 A_ed0 S_ed) (argsL := [(.ref a2)]) (rest := []) rfl (W := 0) (Nat.le_of_eq rfl) rfl (by decide) (by decide) (by decide) (by decide) (Nat.le_refl _) rfl ?_
  rintro _ hh23 ⟨b12, kc13, rfl, K14, g15, q16, q17, q18, q19, q20, q21, q22⟩
  refine r_pop H 55 d_g21_5_54 rfl rfl ?_
  refine r_aloadN H 56 d_g21_5_55 rfl rfl rfl ?_
  have q24 := (q4.keep K14)
  have q25 := (q5.keep K14)
  have q26 := ((F_resources_a1.keep K3 (ninS (ne_exa q24 q25 (by decide)) nin0)).keep K14 (ninS (ne_exa q24 q16 (by decide)) nin0))
  refine r_getf H 59 d_g21_5_56 (tw94 hw) Via.refl q26 rfl ?_
  refine r_aloadN H 60 d_g21_5_59 rfl rfl rfl ?_
  have q27 := ((E_a9.keep K3).keep K14)
  have q28 := ((F_modCount_a9.keep K3 (ninS (ne_exa q27 q25 (by decide)) nin0)).keep K14 (ninS n_a9_a10 nin0))
  have q29 := ((F_elementData_a9.keep K3 (ninS (ne_exa q27 q25 (by decide)) nin0)).keep K14 (ninS n_a9_a10 nin0))
  have q30 := ((F_size_a9.keep K3 (ninS (ne_exa q27 q25 (by decide)) nin0)).keep K14 (ninS n_a9_a10 nin0))
  have q31 := ((E_a3.keep K3).keep K14)
  refine r_virtual H 63 (z := (⟨"java/util/ArrayList", "add", "(Ljava/lang/Object;)Z"⟩ : MethodName)) (a := a9) d_g21_5_60 (tw114 hw) (tw115 hw) (nf_sel (tw117 hw)) (tw117 hw) (tw116 hw) (tw40 hw) (tw118 hw) (by decide) q27 (lenOf pd_13 rfl) (rm_add_20 hw Ts a9 a3 ed0 kced hh23 f Zf (Nat.le_trans Z0 (Nat.le_trans K3.1 K14.1)) q28 q27 g_a9 q29 q30 q31 A_ed0 S_ed) (argsL := [(.ref a3)]) (rest := []) rfl (W := 0) (Nat.le_of_eq rfl) rfl (by decide) (by decide) (by decide) (by decide) (Nat.le_refl _) rfl ?_
  rintro _ hh43 ⟨b32, kc33, rfl, K34, g35, q36, q37, q38, q39, q40, q41, q42⟩
  refine r_pop H 64 d_g21_5_63 rfl rfl ?_
  have k44 : Keep h0 h3 [a10, a7, a9] := Keep.trans (Keep.refl h0 [a10, a7, a9]) K3 (allS (Or.inl (List.mem_of_getElem? (i := 1) rfl)) all0)
  have k45 : Keep h0 hh23 [a10, a7, a9] := Keep.trans k44 K14 (allS (Or.inl (List.mem_of_getElem? (i := 0) rfl)) all0)
  have k46 : Keep h0 hh43 [a10, a7, a9] := Keep.trans k45 K34 (allS (Or.inl (List.mem_of_getElem? (i := 2) rfl)) all0)
  have q47 := (q16.keep K34)
  have q48 := (q17.keep K34 (ninS n_a10_a9 nin0))
  have q49 := (q18.keep K34 (ninS n_a10_a9 nin0))
  have q50 := (q19.keep K34 (ninS n_a10_a9 nin0))
  have q51 := (q25.keep K34)
  have q52 := ((A3.keep K14 (ninS (ne_exa q51 q47 (by decide)) nin0)).keep K34 (ninS (ne_exa q51 q36 (by decide)) nin0))
  have q53 := (q20.keep K34 (ninS (Ne.symm (Nat.ne_of_lt (Nat.lt_of_lt_of_le E_a9.lt (Nat.le_trans K3.1 g15)))) nin0))
  have q54 := (q21.keep K34)
  exact r_return H d_g21_5_64 (by decide) (by decide) (Nat.le_refl _) (fun _ t => t) (⟨b12, b32, kc13, kc33, rfl, k46, (Nat.le_trans K3.1 g15), (Nat.le_trans (Nat.le_trans K3.1 K14.1) g35), (Nat.lt_of_lt_of_le q20.lt (Nat.le_trans (Nat.le_refl _) g35)), q47, q48, q49, q50, q52, q51, q36, q37, q38, q39, q53, q54, q40, q41, q22, q42⟩)
def Q_checkIndex_25 (Z : State) (h0 : Heap) (v : Option Value) (h : Heap) : Prop := v = some (.int (0 : Int32)) ∧ h0 = h
def R_checkIndex_25 : Room := { frames := 0, cells := 0, slots := 0, locals := 0 }
theorem rm_checkIndex_25 {w : Bool} {Z : State} {a0 : Array Value} (hw : ∀ d ∈ tables_1, d.before a0 Z = true) (Ts : List String) (h0 : Heap) (f : Nat) (Zf : Z.heap.size ≤ f) (Z0 : f ≤ h0.size) :
    Con w [] Z (⟨"jdk/internal/util/Preconditions", "checkIndex", "(IILjava/util/function/BiFunction;)I"⟩ : MethodName) jdk_41_method_11_code 3 (some .int) R_checkIndex_25 Ts Ts f #[(.int (0 : Int32)), (.int (1 : Int32)), .null] h0 (Q_checkIndex_25 Z h0) := by
  refine con_of f #[.val (.int (0 : Int32)), .val (.int (1 : Int32)), .val .null] (plainFor_of_name pn_9) (fun m => by first | rfl | (simp [entryFrame, mkF, argsToLocals, Value.category]; done)) Zf ?_
  intro C H hX0
  refine r_iloadN H 1 d_j41_11_0 rfl rfl ?_
  refine r_ifltF H 4 d_j41_11_1 rfl (by decide) ?_
  refine r_iloadN H 5 d_j41_11_4 rfl rfl ?_
  refine r_iloadN H 6 d_j41_11_5 rfl rfl ?_
  refine r_icmpltT H 16 d_j41_11_6 (by decide) (by decide) (by decide) ?_
  refine r_iloadN H 17 d_j41_11_16 rfl rfl ?_
  exact r_ireturn H d_j41_11_17 (by decide) (by decide) (Nat.le_refl _) (fun _ t => t) (⟨rfl, rfl⟩)
def Q_checkIndex_24 (Z : State) (h0 : Heap) (v : Option Value) (h : Heap) : Prop := v = some (.int (0 : Int32)) ∧ h0 = h
def R_checkIndex_24 : Room := { frames := 1, cells := 0, slots := 0, locals := 14 }
theorem rm_checkIndex_24 {w : Bool} {Z : State} {a0 : Array Value} (hw : ∀ d ∈ tables_1, d.before a0 Z = true) (Ts : List String) (h0 : Heap) (f : Nat) (Zf : Z.heap.size ≤ f) (Z0 : f ≤ h0.size) :
    Con w [] Z (⟨"java/util/Objects", "checkIndex", "(II)I"⟩ : MethodName) jdk_31_method_17_code 2 (some .int) R_checkIndex_24 Ts Ts f #[(.int (0 : Int32)), (.int (1 : Int32))] h0 (Q_checkIndex_24 Z h0) := by
  refine con_of f #[.val (.int (0 : Int32)), .val (.int (1 : Int32))] (plainFor_of_name pn_10) (fun m => by first | rfl | (simp [entryFrame, mkF, argsToLocals, Value.category]; done)) Zf ?_
  intro C H hX0
  refine r_iloadN H 1 d_j31_17_0 rfl rfl ?_
  refine r_iloadN H 2 d_j31_17_1 rfl rfl ?_
  refine r_null H 3 d_j31_17_2 rfl ?_
  refine r_static H 6 d_j31_17_3 (tw158 hw) (tw159 hw) (tw160 hw) (tw161 hw) (by decide) (lenOf pd_15 rfl) (rm_checkIndex_25 hw Ts h0 f Zf Z0) (argsL := [(.int (0 : Int32)), (.int (1 : Int32)), .null]) (rest := []) rfl (W := 0) (Nat.le_of_eq rfl) rfl (by decide) (by decide) (by decide) (by decide) (Nat.le_refl _) rfl ?_
  rintro _ _ ⟨rfl, rfl⟩
  exact r_ireturn H d_j31_17_6 (by decide) (by decide) (Nat.le_refl _) (fun _ t => t) (⟨rfl, rfl⟩)
def Q_elementData_26 (Z : State) (a3 : Addr) (h0 : Heap) (v : Option Value) (h : Heap) : Prop := v = some (.ref a3) ∧ h0 = h
def R_elementData_26 : Room := { frames := 0, cells := 0, slots := 0, locals := 0 }
theorem rm_elementData_26 {w : Bool} {Z : State} {a0 : Array Value} (hw : ∀ d ∈ tables_1, d.before a0 Z = true) (Ts : List String) (a1 : Addr) (a2 : Addr) (a3 : Addr) (c1 : ClassId) (h0 : Heap) (f : Nat) (Zf : Z.heap.size ≤ f) (Z0 : f ≤ h0.size) (F_elementData_a1 : Fld Z h0 a1 "java/util/ArrayList" "elementData" "[Ljava/lang/Object;" (.ref a2)) (A_a2 : Ar Z h0 a2 c1 (.object "java/lang/Object") [(.ref a3), .null, .null, .null, .null, .null, .null, .null, .null, .null]) :
    Con w [] Z (⟨"java/util/ArrayList", "elementData", "(I)Ljava/lang/Object;"⟩ : MethodName) jdk_38_method_18_code 2 (some (.object "java/lang/Object")) R_elementData_26 Ts Ts f #[(.ref a1), (.int (0 : Int32))] h0 (Q_elementData_26 Z a3 h0) := by
  refine con_of f #[.val (.ref a1), .val (.int (0 : Int32))] (plainFor_of_name pn_5) (fun m => by first | rfl | (simp [entryFrame, mkF, argsToLocals, Value.category]; done)) Zf ?_
  intro C H hX0
  refine r_aloadN H 1 d_j38_18_0 rfl rfl rfl ?_
  refine r_getf H 4 d_j38_18_1 (tw60 hw) Via.refl F_elementData_a1 rfl ?_
  refine r_iloadN H 5 d_j38_18_4 rfl rfl ?_
  refine r_aaload H 6 (.ref a3) d_j38_18_5 A_a2 rfl (by decide) rfl rfl ?_
  exact r_areturn H rfl rfl d_j38_18_6 (by decide) (by decide) (Nat.le_refl _) (fun _ t => t) (⟨rfl, rfl⟩)
def Q_get_23 (Z : State) (a3 : Addr) (h0 : Heap) (v : Option Value) (h : Heap) : Prop := v = some (.ref a3) ∧ h0 = h
def R_get_23 : Room := { frames := 2, cells := 0, slots := 0, locals := 27 }
theorem rm_get_23 {w : Bool} {Z : State} {a0 : Array Value} (hw : ∀ d ∈ tables_1, d.before a0 Z = true) (Ts : List String) (a1 : Addr) (a2 : Addr) (a3 : Addr) (c1 : ClassId) (h0 : Heap) (f : Nat) (Zf : Z.heap.size ≤ f) (Z0 : f ≤ h0.size) (F_size_a1 : Fld Z h0 a1 "java/util/ArrayList" "size" "I" (.int (1 : Int32))) (E_a1 : Exa Z h0 a1 "java/util/ArrayList") (F_elementData_a1 : Fld Z h0 a1 "java/util/ArrayList" "elementData" "[Ljava/lang/Object;" (.ref a2)) (A_a2 : Ar Z h0 a2 c1 (.object "java/lang/Object") [(.ref a3), .null, .null, .null, .null, .null, .null, .null, .null, .null]) :
    Con w [] Z (⟨"java/util/ArrayList", "get", "(I)Ljava/lang/Object;"⟩ : MethodName) jdk_38_method_20_code 2 (some (.object "java/lang/Object")) R_get_23 Ts Ts f #[(.ref a1), (.int (0 : Int32))] h0 (Q_get_23 Z a3 h0) := by
  refine con_of f #[.val (.ref a1), .val (.int (0 : Int32))] (plainFor_of_name pn_5) (fun m => by first | rfl | (simp [entryFrame, mkF, argsToLocals, Value.category]; done)) Zf ?_
  intro C H hX0
  refine r_iloadN H 1 d_j38_20_0 rfl rfl ?_
  refine r_aloadN H 2 d_j38_20_1 rfl rfl rfl ?_
  refine r_getf H 5 d_j38_20_2 (tw112 hw) Via.refl F_size_a1 rfl ?_
  refine r_static H 8 d_j38_20_5 (tw154 hw) (tw155 hw) (tw156 hw) (tw157 hw) (by decide) (lenOf pd_9 rfl) (rm_checkIndex_24 hw Ts h0 f Zf Z0) (argsL := [(.int (0 : Int32)), (.int (1 : Int32))]) (rest := []) rfl (W := 0) (Nat.le_of_eq rfl) rfl (by decide) (by decide) (by decide) (by decide) (Nat.le_refl _) rfl ?_
  rintro _ _ ⟨rfl, rfl⟩
  refine r_pop H 9 d_j38_20_8 rfl rfl ?_
  refine r_aloadN H 10 d_j38_20_9 rfl rfl rfl ?_
  refine r_iloadN H 11 d_j38_20_10 rfl rfl ?_
  refine r_virtual H 14 (z := (⟨"java/util/ArrayList", "elementData", "(I)Ljava/lang/Object;"⟩ : MethodName)) (a := a1) d_j38_20_11 (tw162 hw) (tw163 hw) (nf_sel (tw165 hw)) (tw165 hw) (tw164 hw) (tw40 hw) (tw166 hw) (by decide) E_a1 (lenOf pd_16 rfl) (rm_elementData_26 hw Ts a1 a2 a3 c1 h0 f Zf Z0 F_elementData_a1 A_a2) (argsL := [(.int (0 : Int32))]) (rest := []) rfl (W := 0) (Nat.le_of_eq rfl) rfl (by decide) (by decide) (by decide) (by decide) (Nat.le_refl _) rfl ?_
  rintro _ _ ⟨rfl, rfl⟩
  exact r_areturn H rfl rfl d_j38_20_14 (by decide) (by decide) (Nat.le_refl _) (fun _ t => t) (⟨rfl, rfl⟩)
def Q_resource_22 (Z : State) (a11 : Addr) (h0 : Heap) (v : Option Value) (h : Heap) : Prop := v = some (.ref a11) ∧ h0 = h
def R_resource_22 : Room := { frames := 3, cells := 0, slots := 0, locals := 40 }
theorem rm_resource_22 {w : Bool} {Z : State} {a0 : Array Value} (hw : ∀ d ∈ tables_1, d.before a0 Z = true) (Ts : List String) (a1 : Addr) (a7 : Addr) (a9 : Addr) (a11 : Addr) (c4 : ClassId) (h0 : Heap) (f : Nat) (Zf : Z.heap.size ≤ f) (Z0 : f ≤ h0.size) (F_resources_a1 : Fld Z h0 a1 "com/example/steady_fixtures/steadyfixtures/load/TableRows" "resources" "Ljava/util/ArrayList;" (.ref a7)) (E_a7 : Exa Z h0 a7 "java/util/ArrayList") (F_size_a7 : Fld Z h0 a7 "java/util/ArrayList" "size" "I" (.int (1 : Int32))) (F_elementData_a7 : Fld Z h0 a7 "java/util/ArrayList" "elementData" "[Ljava/lang/Object;" (.ref a9)) (A_a9 : Ar Z h0 a9 c4 (.object "java/lang/Object") [(.ref a11), .null, .null, .null, .null, .null, .null, .null, .null, .null]) (E_a11 : Exa Z h0 a11 "java/lang/String") :
    Con w [] Z (⟨"com/example/steady_fixtures/steadyfixtures/load/TableRows", "resource", "(I)Ljava/lang/String;"⟩ : MethodName) prog_21_method_10_code 2 (some (.object "java/lang/String")) R_resource_22 Ts Ts f #[(.ref a1), (.int (0 : Int32))] h0 (Q_resource_22 Z a11 h0) := by
  refine con_of f #[.val (.ref a1), .val (.int (0 : Int32))] (plainFor_of_name pn_8) (fun m => by first | rfl | (simp [entryFrame, mkF, argsToLocals, Value.category]; done)) Zf ?_
  intro C H hX0
  refine r_aloadN H 1 d_g21_10_0 rfl rfl rfl ?_
  refine r_getf H 4 d_g21_10_1 (tw94 hw) Via.refl F_resources_a1 rfl ?_
  refine r_iloadN H 5 d_g21_10_4 rfl rfl ?_
  refine r_virtual H 8 (z := (⟨"java/util/ArrayList", "get", "(I)Ljava/lang/Object;"⟩ : MethodName)) (a := a7) d_g21_10_5 (tw149 hw) (tw150 hw) (nf_sel (tw152 hw)) (tw152 hw) (tw151 hw) (tw40 hw) (tw153 hw) (by decide) E_a7 (lenOf pd_16 rfl) (rm_get_23 hw Ts a7 a9 a11 c4 h0 f Zf Z0 F_size_a7 E_a7 F_elementData_a7 A_a9) (argsL := [(.int (0 : Int32))]) (rest := []) rfl (W := 0) (Nat.le_of_eq rfl) rfl (by decide) (by decide) (by decide) (by decide) (Nat.le_refl _) rfl ?_
  rintro _ _ ⟨rfl, rfl⟩
  refine r_castY H 11 d_g21_10_8 (tw84 hw) (Ins.self E_a11) rfl ?_
  exact r_areturn H rfl rfl d_g21_10_11 (by decide) (by decide) (Nat.le_refl _) (fun _ t => t) (⟨rfl, rfl⟩)
def Q_equals_27 (Z : State) (h0 : Heap) (v : Option Value) (h : Heap) : Prop := v = some (.int (1 : Int32)) ∧ h0 = h
def R_equals_27 : Room := { frames := 0, cells := 0, slots := 0, locals := 0 }
theorem rm_equals_27 {w : Bool} {Z : State} {a0 : Array Value} (hw : ∀ d ∈ tables_1, d.before a0 Z = true) (Ts : List String) (a1 : Addr) (h0 : Heap) (f : Nat) (Zf : Z.heap.size ≤ f) (Z0 : f ≤ h0.size) :
    Con w [] Z (⟨"java/lang/String", "equals", "(Ljava/lang/Object;)Z"⟩ : MethodName) jdk_42_method_66_code 3 (some .boolean) R_equals_27 Ts Ts f #[(.ref a1), (.ref a1)] h0 (Q_equals_27 Z h0) := by
  refine con_of f #[.val (.ref a1), .val (.ref a1), .unset] (plainFor_of_name pn_1) (fun m => by first | rfl | (simp [entryFrame, mkF, argsToLocals, Value.category]; done)) Zf ?_
  intro C H hX0
  refine r_aloadN H 1 d_j42_66_0 rfl rfl rfl ?_
  refine r_aloadN H 2 d_j42_66_1 rfl rfl rfl ?_
  refine r_acmp H 5 true d_j42_66_2 rfl rfl (decide_eq_true rfl) (by decide) (by decide) ?_
  refine r_iconst H 6 (1 : Int32) d_j42_66_5 (by decide) rfl ?_
  exact r_nreturn (1 : Int32) H (by simp) d_j42_66_6 (by decide) (by decide) (by decide) (Nat.le_refl _) (fun _ t => t) (⟨rfl, rfl⟩)
def Q_size_29 (Z : State) (h0 : Heap) (v : Option Value) (h : Heap) : Prop := v = some (.int (1 : Int32)) ∧ h0 = h
def R_size_29 : Room := { frames := 0, cells := 0, slots := 0, locals := 0 }
theorem rm_size_29 {w : Bool} {Z : State} {a0 : Array Value} (hw : ∀ d ∈ tables_1, d.before a0 Z = true) (Ts : List String) (a1 : Addr) (h0 : Heap) (f : Nat) (Zf : Z.heap.size ≤ f) (Z0 : f ≤ h0.size) (F_size_a1 : Fld Z h0 a1 "java/util/ArrayList" "size" "I" (.int (1 : Int32))) :
    Con w [] Z (⟨"java/util/ArrayList", "size", "()I"⟩ : MethodName) jdk_38_method_8_code 1 (some .int) R_size_29 Ts Ts f #[(.ref a1)] h0 (Q_size_29 Z h0) := by
  refine con_of f #[.val (.ref a1)] (plainFor_of_name pn_5) (fun m => by first | rfl | (simp [entryFrame, mkF, argsToLocals, Value.category]; done)) Zf ?_
  intro C H hX0
  refine r_aloadN H 1 d_j38_8_0 rfl rfl rfl ?_
  refine r_getf H 4 d_j38_8_1 (tw112 hw) Via.refl F_size_a1 rfl ?_
  exact r_ireturn H d_j38_8_4 (by decide) (by decide) (Nat.le_refl _) (fun _ t => t) (⟨rfl, rfl⟩)
def Q_add_31 (Z : State) (a1 : Addr) (a2 : Addr) (a3 : Addr) (a4 : Addr) (c2 : ClassId) (h0 : Heap) (v : Option Value) (h : Heap) : Prop := v = none ∧ Keep h0 h [a1, a3] ∧ Exa Z h a1 "java/util/ArrayList" ∧ Fld Z h a1 "java/util/AbstractList" "modCount" "I" (.int (2 : Int32)) ∧ Fld Z h a1 "java/util/ArrayList" "elementData" "[Ljava/lang/Object;" (.ref a3) ∧ Fld Z h a1 "java/util/ArrayList" "size" "I" (.int (2 : Int32)) ∧ Ar Z h a3 c2 (.object "java/lang/Object") [(.ref a4), (.ref a2), .null, .null, .null, .null, .null, .null, .null, .null] ∧ Exa Z h a3 "[Ljava/lang/Object;"
def R_add_31 : Room := { frames := 0, cells := 0, slots := 0, locals := 0 }
theorem rm_add_31 {w : Bool} {Z : State} {a0 : Array Value} (hw : ∀ d ∈ tables_1, d.before a0 Z = true) (Ts : List String) (a1 : Addr) (a2 : Addr) (a3 : Addr) (a4 : Addr) (c2 : ClassId) (h0 : Heap) (f : Nat) (Zf : Z.heap.size ≤ f) (Z0 : f ≤ h0.size) (A_a3 : Ar Z h0 a3 c2 (.object "java/lang/Object") [(.ref a4), .null, .null, .null, .null, .null, .null, .null, .null, .null]) (g_a3 : f ≤ a3) (O_c2 : Ovr Z c2 "java/lang/Object") (E_a2 : Exa Z h0 a2 "[Ljava/lang/String;") (E_a3 : Exa Z h0 a3 "[Ljava/lang/Object;") (E_a1 : Exa Z h0 a1 "java/util/ArrayList") (F_size_a1 : Fld Z h0 a1 "java/util/ArrayList" "size" "I" (.int (1 : Int32))) (g_a1 : f ≤ a1) (F_modCount_a1 : Fld Z h0 a1 "java/util/AbstractList" "modCount" "I" (.int (2 : Int32))) (F_elementData_a1 : Fld Z h0 a1 "java/util/ArrayList" "elementData" "[Ljava/lang/Object;" (.ref a3)) :
    Con w [] Z (⟨"java/util/ArrayList", "add", "(Ljava/lang/Object;[Ljava/lang/Object;I)V"⟩ : MethodName) jdk_38_method_24_code 4 none R_add_31 Ts Ts f #[(.ref a1), (.ref a2), (.ref a3), (.int (1 : Int32))] h0 (Q_add_31 Z a1 a2 a3 a4 c2 h0) := by
  refine con_of f #[.val (.ref a1), .val (.ref a2), .val (.ref a3), .val (.int (1 : Int32))] (plainFor_of_name pn_5) (fun m => by first | rfl | (simp [entryFrame, mkF, argsToLocals, Value.category]; done)) Zf ?_
  intro C H hX0
  refine r_iloadN H 1 d_j38_24_0 rfl rfl ?_
  refine r_aloadN H 2 d_j38_24_1 rfl rfl rfl ?_
  refine r_alen H 3 (10 : Int32) d_j38_24_2 A_a3 rfl rfl ?_
  refine r_icmpneT H 11 d_j38_24_3 (by decide) (by decide) (by decide) ?_
  refine r_aloadN H 12 d_j38_24_11 rfl rfl rfl ?_
  refine r_iloadN H 13 d_j38_24_12 rfl rfl ?_
  refine r_aloadN H 14 d_j38_24_13 rfl rfl rfl ?_
  refine r_aastore H 15 d_j38_24_14 A_a3 rfl rfl (sto_ar A_a3 O_c2 (Ins.of_exa E_a2 (tw142 hw))) (by decide) (Nat.le_of_ble_eq_true rfl) g_a3 rfl ?_
  intro h1 K1 A1
  change Ar Z h1 a3 c2 (.object "java/lang/Object") [(.ref a4), (.ref a2), .null, .null, .null, .null, .null, .null, .null, .null] at A1
  refine r_aloadN H 16 d_j38_24_15 rfl rfl rfl ?_
  refine r_iloadN H 17 d_j38_24_16 rfl rfl ?_
  refine r_iconst H 18 (1 : Int32) d_j38_24_17 (by decide) rfl ?_
  refine r_iadd H 19 (2 : Int32) d_j38_24_18 (by decide) rfl ?_
  have q2 := (E_a1.keep K1)
  have q3 := (E_a3.keep K1)
  have q4 := (F_size_a1.keep K1 (ninS (ne_exa q2 q3 (by decide)) nin0))
  refine r_putf H 22 d_j38_24_19 (tw112 hw) Via.refl q4 q2 (Or.inl (tw113 hw)) (tw39 hw) (ty := .int) (by decide) rfl rfl g_a1 rfl ?_
  intro h5 W5 K5 E5 F5
  have k6 : Keep h0 h1 [a1, a3] := Keep.trans (Keep.refl h0 [a1, a3]) K1 (allS (Or.inl (List.mem_of_getElem? (i := 1) rfl)) all0)
  have k7 : Keep h0 h5 [a1, a3] := Keep.trans k6 K5 (allS (Or.inl (List.mem_of_getElem? (i := 0) rfl)) all0)
  have q8 := (q3.keep K5)
  have q9 := ((F_modCount_a1.keep K1 (ninS (ne_exa E5 q8 (by decide)) nin0)).other W5 (Or.inr (slot_ne (Or.inl (tw58 hw)) (Or.inl (tw113 hw)) (by decide) (t := .int) (t' := .int) (by decide) (by decide))))
  have q10 := ((F_elementData_a1.keep K1 (ninS (ne_exa E5 q8 (by decide)) nin0)).other W5 (Or.inr (slot_ne (Or.inl (tw61 hw)) (Or.inl (tw113 hw)) (by decide) (t := (.array (.object "java/lang/Object"))) (t' := .int) (by decide) (by decide))))
  have q11 := (A1.keep K5 (ninS (ne_exa q8 E5 (by decide)) nin0))
  exact r_return H d_j38_24_22 (by decide) (by decide) (Nat.le_refl _) (fun _ t => t) (⟨rfl, k7, E5, q9, q10, F5, q11, q8⟩)
def Q_add_30 (Z : State) (a1 : Addr) (a2 : Addr) (a3 : Addr) (a4 : Addr) (c2 : ClassId) (h0 : Heap) (v : Option Value) (h : Heap) : Prop := v = some (.int (1 : Int32)) ∧ Keep h0 h [a1, a3] ∧ Exa Z h a1 "java/util/ArrayList" ∧ Fld Z h a1 "java/util/AbstractList" "modCount" "I" (.int (2 : Int32)) ∧ Fld Z h a1 "java/util/ArrayList" "elementData" "[Ljava/lang/Object;" (.ref a3) ∧ Fld Z h a1 "java/util/ArrayList" "size" "I" (.int (2 : Int32)) ∧ Ar Z h a3 c2 (.object "java/lang/Object") [(.ref a4), (.ref a2), .null, .null, .null, .null, .null, .null, .null, .null] ∧ Exa Z h a3 "[Ljava/lang/Object;"
def R_add_30 : Room := { frames := 1, cells := 0, slots := 0, locals := 15 }
theorem rm_add_30 {w : Bool} {Z : State} {a0 : Array Value} (hw : ∀ d ∈ tables_1, d.before a0 Z = true) (Ts : List String) (a1 : Addr) (a2 : Addr) (a3 : Addr) (a4 : Addr) (c2 : ClassId) (h0 : Heap) (f : Nat) (Zf : Z.heap.size ≤ f) (Z0 : f ≤ h0.size) (F_modCount_a1 : Fld Z h0 a1 "java/util/AbstractList" "modCount" "I" (.int (1 : Int32))) (E_a1 : Exa Z h0 a1 "java/util/ArrayList") (g_a1 : f ≤ a1) (F_elementData_a1 : Fld Z h0 a1 "java/util/ArrayList" "elementData" "[Ljava/lang/Object;" (.ref a3)) (F_size_a1 : Fld Z h0 a1 "java/util/ArrayList" "size" "I" (.int (1 : Int32))) (g_a3 : f ≤ a3) (A_a3 : Ar Z h0 a3 c2 (.object "java/lang/Object") [(.ref a4), .null, .null, .null, .null, .null, .null, .null, .null, .null]) (E_a3 : Exa Z h0 a3 "[Ljava/lang/Object;") (O_c2 : Ovr Z c2 "java/lang/Object") (E_a2 : Exa Z h0 a2 "[Ljava/lang/String;") :
    Con w [] Z (⟨"java/util/ArrayList", "add", "(Ljava/lang/Object;)Z"⟩ : MethodName) jdk_38_method_25_code 2 (some .boolean) R_add_30 Ts Ts f #[(.ref a1), (.ref a2)] h0 (Q_add_30 Z a1 a2 a3 a4 c2 h0) := by
  refine con_of f #[.val (.ref a1), .val (.ref a2)] (plainFor_of_name pn_5) (fun m => by first | rfl | (simp [entryFrame, mkF, argsToLocals, Value.category]; done)) Zf ?_
  intro C H hX0
  refine r_aloadN H 1 d_j38_25_0 rfl rfl rfl ?_
  refine r_dup H 2 d_j38_25_1 rfl rfl ?_
  refine r_getf H 5 d_j38_25_2 (tw119 hw) (Via.of (tw120 hw)) F_modCount_a1 rfl ?_
  refine r_iconst H 6 (1 : Int32) d_j38_25_5 (by decide) rfl ?_
  refine r_iadd H 7 (2 : Int32) d_j38_25_6 (by decide) rfl ?_
  refine r_putf H 10 d_j38_25_7 (tw119 hw) (Via.of (tw120 hw)) F_modCount_a1 E_a1 (Or.inl (tw58 hw)) (tw39 hw) (ty := .int) (by decide) rfl rfl g_a1 rfl ?_
  intro h1 W1 K1 E1 F1
  refine r_aloadN H 11 d_j38_25_10 rfl rfl rfl ?_
  refine r_aloadN H 12 d_j38_25_11 rfl rfl rfl ?_
  refine r_aloadN H 13 d_j38_25_12 rfl rfl rfl ?_
  have q2 := (F_elementData_a1.other W1 (Or.inr (slot_ne (Or.inl (tw61 hw)) (Or.inl (tw58 hw)) (by decide) (t := (.array (.object "java/lang/Object"))) (t' := .int) (by decide) (by decide))))
  refine r_getf H 16 d_j38_25_13 (tw60 hw) Via.refl q2 rfl ?_
  refine r_aloadN H 17 d_j38_25_16 rfl rfl rfl ?_
  have q3 := (F_size_a1.other W1 (Or.inr (slot_ne (Or.inl (tw113 hw)) (Or.inl (tw58 hw)) (by decide) (t := .int) (t' := .int) (by decide) (by decide))))
  refine r_getf H 20 d_j38_25_17 (tw112 hw) Via.refl q3 rfl ?_
  have q4 := (E_a3.keep K1)
  have q5 := (A_a3.keep K1 (ninS (ne_exa q4 E1 (by decide)) nin0))
  have q6 := (E_a2.keep K1)
  refine r_private H 23 (a := a1) d_j38_25_20 (tw121 hw) (tw122 hw) (tw124 hw) (tw123 hw) (tw40 hw) (tw125 hw) (by decide) E1 (lenOf pd_12 rfl) (rm_add_31 hw Ts a1 a2 a3 a4 c2 h1 f Zf (Nat.le_trans Z0 K1.1) q5 g_a3 O_c2 q6 q4 E1 q3 g_a1 F1 q2) (argsL := [(.ref a2), (.ref a3), (.int (1 : Int32))]) (rest := []) rfl (W := 0) (Nat.le_of_eq rfl) rfl (by decide) (by decide) (by decide) (by decide) (Nat.le_refl _) rfl ?_
  rintro _ hh14 ⟨rfl, K7, q8, q9, q10, q11, q12, q13⟩
  refine r_iconst H 24 (1 : Int32) d_j38_25_23 (by decide) rfl ?_
  have k15 : Keep h0 h1 [a1, a3] := Keep.trans (Keep.refl h0 [a1, a3]) K1 (allS (Or.inl (List.mem_of_getElem? (i := 0) rfl)) all0)
  have k16 : Keep h0 hh14 [a1, a3] := Keep.trans k15 K7 (allS (Or.inl (List.mem_of_getElem? (i := 0) rfl)) (allS (Or.inl (List.mem_of_getElem? (i := 1) rfl)) all0))
  exact r_nreturn (1 : Int32) H (by simp) d_j38_25_24 (by decide) (by decide) (by decide) (Nat.le_refl _) (fun _ t => t) (⟨rfl, k16, q8, q9, q10, q11, q12, q13⟩)
def Q_add_33 (Z : State) (a1 : Addr) (a2 : Addr) (a3 : Addr) (a5 : Addr) (c1 : ClassId) (h0 : Heap) (v : Option Value) (h : Heap) : Prop := v = none ∧ Keep h0 h [a1, a3] ∧ Exa Z h a1 "java/util/ArrayList" ∧ Fld Z h a1 "java/util/AbstractList" "modCount" "I" (.int (2 : Int32)) ∧ Fld Z h a1 "java/util/ArrayList" "elementData" "[Ljava/lang/Object;" (.ref a3) ∧ Fld Z h a1 "java/util/ArrayList" "size" "I" (.int (2 : Int32)) ∧ Ar Z h a3 c1 (.object "java/lang/Object") [(.ref a5), (.ref a2), .null, .null, .null, .null, .null, .null, .null, .null] ∧ Exa Z h a3 "[Ljava/lang/Object;"
def R_add_33 : Room := { frames := 0, cells := 0, slots := 0, locals := 0 }
theorem rm_add_33 {w : Bool} {Z : State} {a0 : Array Value} (hw : ∀ d ∈ tables_1, d.before a0 Z = true) (Ts : List String) (a1 : Addr) (a2 : Addr) (a3 : Addr) (a5 : Addr) (c1 : ClassId) (h0 : Heap) (f : Nat) (Zf : Z.heap.size ≤ f) (Z0 : f ≤ h0.size) (A_a3 : Ar Z h0 a3 c1 (.object "java/lang/Object") [(.ref a5), .null, .null, .null, .null, .null, .null, .null, .null, .null]) (g_a3 : f ≤ a3) (O_c1 : Ovr Z c1 "java/lang/Object") (E_a2 : Exa Z h0 a2 "java/lang/String") (E_a3 : Exa Z h0 a3 "[Ljava/lang/Object;") (E_a1 : Exa Z h0 a1 "java/util/ArrayList") (F_size_a1 : Fld Z h0 a1 "java/util/ArrayList" "size" "I" (.int (1 : Int32))) (g_a1 : f ≤ a1) (F_modCount_a1 : Fld Z h0 a1 "java/util/AbstractList" "modCount" "I" (.int (2 : Int32))) (F_elementData_a1 : Fld Z h0 a1 "java/util/ArrayList" "elementData" "[Ljava/lang/Object;" (.ref a3)) :
    Con w [] Z (⟨"java/util/ArrayList", "add", "(Ljava/lang/Object;[Ljava/lang/Object;I)V"⟩ : MethodName) jdk_38_method_24_code 4 none R_add_33 Ts Ts f #[(.ref a1), (.ref a2), (.ref a3), (.int (1 : Int32))] h0 (Q_add_33 Z a1 a2 a3 a5 c1 h0) := by
  refine con_of f #[.val (.ref a1), .val (.ref a2), .val (.ref a3), .val (.int (1 : Int32))] (plainFor_of_name pn_5) (fun m => by first | rfl | (simp [entryFrame, mkF, argsToLocals, Value.category]; done)) Zf ?_
  intro C H hX0
  refine r_iloadN H 1 d_j38_24_0 rfl rfl ?_
  refine r_aloadN H 2 d_j38_24_1 rfl rfl rfl ?_
  refine r_alen H 3 (10 : Int32) d_j38_24_2 A_a3 rfl rfl ?_
  refine r_icmpneT H 11 d_j38_24_3 (by decide) (by decide) (by decide) ?_
  refine r_aloadN H 12 d_j38_24_11 rfl rfl rfl ?_
  refine r_iloadN H 13 d_j38_24_12 rfl rfl ?_
  refine r_aloadN H 14 d_j38_24_13 rfl rfl rfl ?_
  refine r_aastore H 15 d_j38_24_14 A_a3 rfl rfl (sto_ar A_a3 O_c1 (Ins.of_exa E_a2 (tw143 hw))) (by decide) (Nat.le_of_ble_eq_true rfl) g_a3 rfl ?_
  intro h1 K1 A1
  change Ar Z h1 a3 c1 (.object "java/lang/Object") [(.ref a5), (.ref a2), .null, .null, .null, .null, .null, .null, .null, .null] at A1
  refine r_aloadN H 16 d_j38_24_15 rfl rfl rfl ?_
  refine r_iloadN H 17 d_j38_24_16 rfl rfl ?_
  refine r_iconst H 18 (1 : Int32) d_j38_24_17 (by decide) rfl ?_
  refine r_iadd H 19 (2 : Int32) d_j38_24_18 (by decide) rfl ?_
  have q2 := (E_a1.keep K1)
  have q3 := (E_a3.keep K1)
  have q4 := (F_size_a1.keep K1 (ninS (ne_exa q2 q3 (by decide)) nin0))
  refine r_putf H 22 d_j38_24_19 (tw112 hw) Via.refl q4 q2 (Or.inl (tw113 hw)) (tw39 hw) (ty := .int) (by decide) rfl rfl g_a1 rfl ?_
  intro h5 W5 K5 E5 F5
  have k6 : Keep h0 h1 [a1, a3] := Keep.trans (Keep.refl h0 [a1, a3]) K1 (allS (Or.inl (List.mem_of_getElem? (i := 1) rfl)) all0)
  have k7 : Keep h0 h5 [a1, a3] := Keep.trans k6 K5 (allS (Or.inl (List.mem_of_getElem? (i := 0) rfl)) all0)
  have q8 := (q3.keep K5)
  have q9 := ((F_modCount_a1.keep K1 (ninS (ne_exa E5 q8 (by decide)) nin0)).other W5 (Or.inr (slot_ne (Or.inl (tw58 hw)) (Or.inl (tw113 hw)) (by decide) (t := .int) (t' := .int) (by decide) (by decide))))
  have q10 := ((F_elementData_a1.keep K1 (ninS (ne_exa E5 q8 (by decide)) nin0)).other W5 (Or.inr (slot_ne (Or.inl (tw61 hw)) (Or.inl (tw113 hw)) (by decide) (t := (.array (.object "java/lang/Object"))) (t' := .int) (by decide) (by decide))))
  have q11 := (A1.keep K5 (ninS (ne_exa q8 E5 (by decide)) nin0))
  exact r_return H d_j38_24_22 (by decide) (by decide) (Nat.le_refl _) (fun _ t => t) (⟨rfl, k7, E5, q9, q10, F5, q11, q8⟩)
def Q_add_32 (Z : State) (a1 : Addr) (a2 : Addr) (a3 : Addr) (a5 : Addr) (c1 : ClassId) (h0 : Heap) (v : Option Value) (h : Heap) : Prop := v = some (.int (1 : Int32)) ∧ Keep h0 h [a1, a3] ∧ Exa Z h a1 "java/util/ArrayList" ∧ Fld Z h a1 "java/util/AbstractList" "modCount" "I" (.int (2 : Int32)) ∧ Fld Z h a1 "java/util/ArrayList" "elementData" "[Ljava/lang/Object;" (.ref a3) ∧ Fld Z h a1 "java/util/ArrayList" "size" "I" (.int (2 : Int32)) ∧ Ar Z h a3 c1 (.object "java/lang/Object") [(.ref a5), (.ref a2), .null, .null, .null, .null, .null, .null, .null, .null] ∧ Exa Z h a3 "[Ljava/lang/Object;"
def R_add_32 : Room := { frames := 1, cells := 0, slots := 0, locals := 15 }
theorem rm_add_32 {w : Bool} {Z : State} {a0 : Array Value} (hw : ∀ d ∈ tables_1, d.before a0 Z = true) (Ts : List String) (a1 : Addr) (a2 : Addr) (a3 : Addr) (a5 : Addr) (c1 : ClassId) (h0 : Heap) (f : Nat) (Zf : Z.heap.size ≤ f) (Z0 : f ≤ h0.size) (F_modCount_a1 : Fld Z h0 a1 "java/util/AbstractList" "modCount" "I" (.int (1 : Int32))) (E_a1 : Exa Z h0 a1 "java/util/ArrayList") (g_a1 : f ≤ a1) (F_elementData_a1 : Fld Z h0 a1 "java/util/ArrayList" "elementData" "[Ljava/lang/Object;" (.ref a3)) (F_size_a1 : Fld Z h0 a1 "java/util/ArrayList" "size" "I" (.int (1 : Int32))) (g_a3 : f ≤ a3) (A_a3 : Ar Z h0 a3 c1 (.object "java/lang/Object") [(.ref a5), .null, .null, .null, .null, .null, .null, .null, .null, .null]) (E_a3 : Exa Z h0 a3 "[Ljava/lang/Object;") (O_c1 : Ovr Z c1 "java/lang/Object") (E_a2 : Exa Z h0 a2 "java/lang/String") :
    Con w [] Z (⟨"java/util/ArrayList", "add", "(Ljava/lang/Object;)Z"⟩ : MethodName) jdk_38_method_25_code 2 (some .boolean) R_add_32 Ts Ts f #[(.ref a1), (.ref a2)] h0 (Q_add_32 Z a1 a2 a3 a5 c1 h0) := by
  refine con_of f #[.val (.ref a1), .val (.ref a2)] (plainFor_of_name pn_5) (fun m => by first | rfl | (simp [entryFrame, mkF, argsToLocals, Value.category]; done)) Zf ?_
  intro C H hX0
  refine r_aloadN H 1 d_j38_25_0 rfl rfl rfl ?_
  refine r_dup H 2 d_j38_25_1 rfl rfl ?_
  refine r_getf H 5 d_j38_25_2 (tw119 hw) (Via.of (tw120 hw)) F_modCount_a1 rfl ?_
  refine r_iconst H 6 (1 : Int32) d_j38_25_5 (by decide) rfl ?_
  refine r_iadd H 7 (2 : Int32) d_j38_25_6 (by decide) rfl ?_
  refine r_putf H 10 d_j38_25_7 (tw119 hw) (Via.of (tw120 hw)) F_modCount_a1 E_a1 (Or.inl (tw58 hw)) (tw39 hw) (ty := .int) (by decide) rfl rfl g_a1 rfl ?_
  intro h1 W1 K1 E1 F1
  refine r_aloadN H 11 d_j38_25_10 rfl rfl rfl ?_
  refine r_aloadN H 12 d_j38_25_11 rfl rfl rfl ?_
  refine r_aloadN H 13 d_j38_25_12 rfl rfl rfl ?_
  have q2 := (F_elementData_a1.other W1 (Or.inr (slot_ne (Or.inl (tw61 hw)) (Or.inl (tw58 hw)) (by decide) (t := (.array (.object "java/lang/Object"))) (t' := .int) (by decide) (by decide))))
  refine r_getf H 16 d_j38_25_13 (tw60 hw) Via.refl q2 rfl ?_
  refine r_aloadN H 17 d_j38_25_16 rfl rfl rfl ?_
  have q3 := (F_size_a1.other W1 (Or.inr (slot_ne (Or.inl (tw113 hw)) (Or.inl (tw58 hw)) (by decide) (t := .int) (t' := .int) (by decide) (by decide))))
  refine r_getf H 20 d_j38_25_17 (tw112 hw) Via.refl q3 rfl ?_
  have q4 := (E_a3.keep K1)
  have q5 := (A_a3.keep K1 (ninS (ne_exa q4 E1 (by decide)) nin0))
  have q6 := (E_a2.keep K1)
  refine r_private H 23 (a := a1) d_j38_25_20 (tw121 hw) (tw122 hw) (tw124 hw) (tw123 hw) (tw40 hw) (tw125 hw) (by decide) E1 (lenOf pd_12 rfl) (rm_add_33 hw Ts a1 a2 a3 a5 c1 h1 f Zf (Nat.le_trans Z0 K1.1) q5 g_a3 O_c1 q6 q4 E1 q3 g_a1 F1 q2) (argsL := [(.ref a2), (.ref a3), (.int (1 : Int32))]) (rest := []) rfl (W := 0) (Nat.le_of_eq rfl) rfl (by decide) (by decide) (by decide) (by decide) (Nat.le_refl _) rfl ?_
  rintro _ hh14 ⟨rfl, K7, q8, q9, q10, q11, q12, q13⟩
  refine r_iconst H 24 (1 : Int32) d_j38_25_23 (by decide) rfl ?_
  have k15 : Keep h0 h1 [a1, a3] := Keep.trans (Keep.refl h0 [a1, a3]) K1 (allS (Or.inl (List.mem_of_getElem? (i := 0) rfl)) all0)
  have k16 : Keep h0 hh14 [a1, a3] := Keep.trans k15 K7 (allS (Or.inl (List.mem_of_getElem? (i := 0) rfl)) (allS (Or.inl (List.mem_of_getElem? (i := 1) rfl)) all0))
  exact r_nreturn (1 : Int32) H (by simp) d_j38_25_24 (by decide) (by decide) (by decide) (Nat.le_refl _) (fun _ t => t) (⟨rfl, k16, q8, q9, q10, q11, q12, q13⟩)
def Q_add_28 (Z : State) (a2 : Addr) (a3 : Addr) (a7 : Addr) (a9 : Addr) (a10 : Addr) (a12 : Addr) (a13 : Addr) (a14 : Addr) (a15 : Addr) (i1 : Int32) (i2 : Int32) (c4 : ClassId) (c6 : ClassId) (c7 : ClassId) (h0 : Heap) (v : Option Value) (h : Heap) : Prop := v = none ∧ Keep h0 h [a10, a12, a13, a7, a9] ∧ Exa Z h a10 "java/util/ArrayList" ∧ Fld Z h a10 "java/util/AbstractList" "modCount" "I" (.int (2 : Int32)) ∧ Fld Z h a10 "java/util/ArrayList" "elementData" "[Ljava/lang/Object;" (.ref a13) ∧ Fld Z h a10 "java/util/ArrayList" "size" "I" (.int (2 : Int32)) ∧ Ar Z h a12 c6 (.object "java/lang/Object") [(.ref a14), (.ref a3), .null, .null, .null, .null, .null, .null, .null, .null] ∧ Exa Z h a12 "[Ljava/lang/Object;" ∧ Ar Z h a13 c7 (.object "java/lang/Object") [(.ref a15), (.ref a2), .null, .null, .null, .null, .null, .null, .null, .null] ∧ Exa Z h a13 "[Ljava/lang/Object;" ∧ Ar Z h a7 c4 .int [(.int i2), (.int i1), (.int (0 : Int32)), (.int (0 : Int32)), (.int (0 : Int32)), (.int (0 : Int32)), (.int (0 : Int32)), (.int (0 : Int32)), (.int (0 : Int32)), (.int (0 : Int32)), (.int (0 : Int32)), (.int (0 : Int32)), (.int (0 : Int32)), (.int (0 : Int32)), (.int (0 : Int32)), (.int (0 : Int32))] ∧ Exa Z h a7 "[I" ∧ Exa Z h a9 "java/util/ArrayList" ∧ Fld Z h a9 "java/util/AbstractList" "modCount" "I" (.int (2 : Int32)) ∧ Fld Z h a9 "java/util/ArrayList" "elementData" "[Ljava/lang/Object;" (.ref a12) ∧ Fld Z h a9 "java/util/ArrayList" "size" "I" (.int (2 : Int32))
def R_add_28 : Room := { frames := 2, cells := 0, slots := 0, locals := 28 }
theorem rm_add_28 {w : Bool} {Z : State} {a0 : Array Value} (hw : ∀ d ∈ tables_1, d.before a0 Z = true) (Ts : List String) (a1 : Addr) (a2 : Addr) (a3 : Addr) (a7 : Addr) (a9 : Addr) (a10 : Addr) (a12 : Addr) (a13 : Addr) (a14 : Addr) (a15 : Addr) (i1 : Int32) (i2 : Int32) (c4 : ClassId) (c6 : ClassId) (c7 : ClassId) (h0 : Heap) (f : Nat) (Zf : Z.heap.size ≤ f) (Z0 : f ≤ h0.size) (F_rows_a1 : Fld Z h0 a1 "com/example/steady_fixtures/steadyfixtures/load/TableRows" "rows" "Ljava/util/ArrayList;" (.ref a10)) (E_a10 : Exa Z h0 a10 "java/util/ArrayList") (F_size_a10 : Fld Z h0 a10 "java/util/ArrayList" "size" "I" (.int (1 : Int32))) (F_lines_a1 : Fld Z h0 a1 "com/example/steady_fixtures/steadyfixtures/load/TableRows" "lines" "[I" (.ref a7)) (A_a7 : Ar Z h0 a7 c4 .int [(.int i2), (.int (0 : Int32)), (.int (0 : Int32)), (.int (0 : Int32)), (.int (0 : Int32)), (.int (0 : Int32)), (.int (0 : Int32)), (.int (0 : Int32)), (.int (0 : Int32)), (.int (0 : Int32)), (.int (0 : Int32)), (.int (0 : Int32)), (.int (0 : Int32)), (.int (0 : Int32)), (.int (0 : Int32)), (.int (0 : Int32))]) (g_a7 : f ≤ a7) (E_a7 : Exa Z h0 a7 "[I") (E_a1 : Exa Z h0 a1 "com/example/steady_fixtures/steadyfixtures/load/TableRows") (g_a10 : f ≤ a10) (g_a13 : f ≤ a13) (F_modCount_a10 : Fld Z h0 a10 "java/util/AbstractList" "modCount" "I" (.int (1 : Int32))) (F_elementData_a10 : Fld Z h0 a10 "java/util/ArrayList" "elementData" "[Ljava/lang/Object;" (.ref a13)) (A_a13 : Ar Z h0 a13 c7 (.object "java/lang/Object") [(.ref a15), .null, .null, .null, .null, .null, .null, .null, .null, .null]) (E_a13 : Exa Z h0 a13 "[Ljava/lang/Object;") (O_c7 : Ovr Z c7 "java/lang/Object") (E_a2 : Exa Z h0 a2 "[Ljava/lang/String;") (F_resources_a1 : Fld Z h0 a1 "com/example/steady_fixtures/steadyfixtures/load/TableRows" "resources" "Ljava/util/ArrayList;" (.ref a9)) (E_a9 : Exa Z h0 a9 "java/util/ArrayList") (g_a9 : f ≤ a9) (g_a12 : f ≤ a12) (F_modCount_a9 : Fld Z h0 a9 "java/util/AbstractList" "modCount" "I" (.int (1 : Int32))) (n_a9_a10 : a9 ≠ a10) (F_elementData_a9 : Fld Z h0 a9 "java/util/ArrayList" "elementData" "[Ljava/lang/Object;" (.ref a12)) (F_size_a9 : Fld Z h0 a9 "java/util/ArrayList" "size" "I" (.int (1 : Int32))) (A_a12 : Ar Z h0 a12 c6 (.object "java/lang/Object") [(.ref a14), .null, .null, .null, .null, .null, .null, .null, .null, .null]) (E_a12 : Exa Z h0 a12 "[Ljava/lang/Object;") (n_a12_a13 : a12 ≠ a13) (O_c6 : Ovr Z c6 "java/lang/Object") (E_a3 : Exa Z h0 a3 "java/lang/String") (n_a10_a9 : a10 ≠ a9) (n_a13_a12 : a13 ≠ a12) :
    Con w [] Z (⟨"com/example/steady_fixtures/steadyfixtures/load/TableRows", "add", "([Ljava/lang/String;Ljava/lang/String;I)V"⟩ : MethodName) prog_21_method_5_code 4 none R_add_28 Ts Ts f #[(.ref a1), (.ref a2), (.ref a3), (.int i1)] h0 (Q_add_28 Z a2 a3 a7 a9 a10 a12 a13 a14 a15 i1 i2 c4 c6 c7 h0) := by
  refine con_of f #[.val (.ref a1), .val (.ref a2), .val (.ref a3), .val (.int i1)] (plainFor_of_name pn_8) (fun m => by first | rfl | (simp [entryFrame, mkF, argsToLocals, Value.category]; done)) Zf ?_
  intro C H hX0
  refine r_aloadN H 1 d_g21_5_0 rfl rfl rfl ?_
  refine r_getf H 4 d_g21_5_1 (tw92 hw) Via.refl F_rows_a1 rfl ?_
  refine r_virtual H 7 (z := (⟨"java/util/ArrayList", "size", "()I"⟩ : MethodName)) (a := a10) d_g21_5_4 (tw107 hw) (tw108 hw) (nf_sel (tw110 hw)) (tw110 hw) (tw109 hw) (tw40 hw) (tw111 hw) (by decide) E_a10 (lenOf pd_8 rfl) (rm_size_29 hw Ts a10 h0 f Zf Z0 F_size_a10) (argsL := []) (rest := []) rfl (W := 0) (Nat.le_of_eq rfl) rfl (by decide) (by decide) (by decide) (by decide) (Nat.le_refl _) rfl ?_
  rintro _ _ ⟨rfl, rfl⟩
  refine r_aloadN H 8 d_g21_5_7 rfl rfl rfl ?_
  refine r_getf H 11 d_g21_5_8 (tw96 hw) Via.refl F_lines_a1 rfl ?_
  refine r_alen H 12 (16 : Int32) d_g21_5_11 A_a7 rfl rfl ?_
  refine r_icmpneT H 33 d_g21_5_12 (by decide) (by decide) (by decide) ?_
  refine r_aloadN H 34 d_g21_5_33 rfl rfl rfl ?_
  refine r_getf H 37 d_g21_5_34 (tw96 hw) Via.refl F_lines_a1 rfl ?_
  refine r_aloadN H 38 d_g21_5_37 rfl rfl rfl ?_
  refine r_getf H 41 d_g21_5_38 (tw92 hw) Via.refl F_rows_a1 rfl ?_
  refine r_virtual H 44 (z := (⟨"java/util/ArrayList", "size", "()I"⟩ : MethodName)) (a := a10) d_g21_5_41 (tw107 hw) (tw108 hw) (nf_sel (tw110 hw)) (tw110 hw) (tw109 hw) (tw40 hw) (tw111 hw) (by decide) E_a10 (lenOf pd_8 rfl) (rm_size_29 hw Ts a10 h0 f Zf Z0 F_size_a10) (argsL := []) (rest := [(.ref a7)]) rfl (W := 1) (Nat.le_of_eq rfl) rfl (by decide) (by decide) (by decide) (by decide) (Nat.le_refl _) rfl ?_
  rintro _ _ ⟨rfl, rfl⟩
  refine r_iloadN H 45 d_g21_5_44 rfl rfl ?_
  refine r_iastore H 46 i1 d_g21_5_45 A_a7 (by decide) (Nat.le_of_ble_eq_true rfl) g_a7 rfl rfl ?_
  intro h3 K3 A3
  change Ar Z h3 a7 c4 .int [(.int i2), (.int i1), (.int (0 : Int32)), (.int (0 : Int32)), (.int (0 : Int32)), (.int (0 : Int32)), (.int (0 : Int32)), (.int (0 : Int32)), (.int (0 : Int32)), (.int (0 : Int32)), (.int (0 : Int32)), (.int (0 : Int32)), (.int (0 : Int32)), (.int (0 : Int32)), (.int (0 : Int32)), (.int (0 : Int32))] at A3
  refine r_aloadN H 47 d_g21_5_46 rfl rfl rfl ?_
  have q4 := (E_a1.keep K3)
  have q5 := (E_a7.keep K3)
  have q6 := (F_rows_a1.keep K3 (ninS (ne_exa q4 q5 (by decide)) nin0))
  refine r_getf H 50 d_g21_5_47 (tw92 hw) Via.refl q6 rfl ?_
  refine r_aloadN H 51 d_g21_5_50 rfl rfl rfl ?_
  have q7 := (E_a10.keep K3)
  have q8 := (F_modCount_a10.keep K3 (ninS (ne_exa q7 q5 (by decide)) nin0))
  have q9 := (F_elementData_a10.keep K3 (ninS (ne_exa q7 q5 (by decide)) nin0))
  have q10 := (F_size_a10.keep K3 (ninS (ne_exa q7 q5 (by decide)) nin0))
  have q11 := (E_a13.keep K3)
  have q12 := (A_a13.keep K3 (ninS (ne_exa q11 q5 (by decide)) nin0))
  have q13 := (E_a2.keep K3)
  refine r_virtual H 54 (z := (⟨"java/util/ArrayList", "add", "(Ljava/lang/Object;)Z"⟩ : MethodName)) (a := a10) d_g21_5_51 (tw114 hw) (tw115 hw) (nf_sel (tw117 hw)) (tw117 hw) (tw116 hw) (tw40 hw) (tw118 hw) (by decide) q7 (lenOf pd_13 rfl) (rm_add_30 hw Ts a10 a2 a13 a15 c7 h3 f Zf (Nat.le_trans Z0 K3.1) q8 q7 g_a10 q9 q10 g_a13 q12 q11 O_c7 q13) (argsL := [(.ref a2)]) (rest := []) rfl (W := 0) (Nat.le_of_eq rfl) rfl (by decide) (by decide) (by decide) (by decide) (Nat.le_refl _) rfl ?_
  rintro _ hh21 ⟨rfl, K14, q15, q16, q17, q18, q19, q20⟩
  refine r_pop H 55 d_g21_5_54 rfl rfl ?_
  refine r_aloadN H 56 d_g21_5_55 rfl rfl rfl ?_
  have q22 := (q4.keep K14)
  have q23 := (q5.keep K14)
  have q24 := ((F_resources_a1.keep K3 (ninS (ne_exa q22 q23 (by decide)) nin0)).keep K14 (ninS (ne_exa q22 q15 (by decide)) (ninS (ne_exa q22 q20 (by decide)) nin0)))
  refine r_getf H 59 d_g21_5_56 (tw94 hw) Via.refl q24 rfl ?_
  refine r_aloadN H 60 d_g21_5_59 rfl rfl rfl ?_
  have q25 := ((E_a9.keep K3).keep K14)
  have q26 := ((F_modCount_a9.keep K3 (ninS (ne_exa q25 q23 (by decide)) nin0)).keep K14 (ninS n_a9_a10 (ninS (ne_exa q25 q20 (by decide)) nin0)))
  have q27 := ((F_elementData_a9.keep K3 (ninS (ne_exa q25 q23 (by decide)) nin0)).keep K14 (ninS n_a9_a10 (ninS (ne_exa q25 q20 (by decide)) nin0)))
  have q28 := ((F_size_a9.keep K3 (ninS (ne_exa q25 q23 (by decide)) nin0)).keep K14 (ninS n_a9_a10 (ninS (ne_exa q25 q20 (by decide)) nin0)))
  have q29 := ((E_a12.keep K3).keep K14)
  have q30 := ((A_a12.keep K3 (ninS (ne_exa q29 q23 (by decide)) nin0)).keep K14 (ninS (ne_exa q29 q15 (by decide)) (ninS n_a12_a13 nin0)))
  have q31 := ((E_a3.keep K3).keep K14)
  refine r_virtual H 63 (z := (⟨"java/util/ArrayList", "add", "(Ljava/lang/Object;)Z"⟩ : MethodName)) (a := a9) d_g21_5_60 (tw114 hw) (tw115 hw) (nf_sel (tw117 hw)) (tw117 hw) (tw116 hw) (tw40 hw) (tw118 hw) (by decide) q25 (lenOf pd_13 rfl) (rm_add_32 hw Ts a9 a3 a12 a14 c6 hh21 f Zf (Nat.le_trans Z0 (Nat.le_trans K3.1 K14.1)) q26 q25 g_a9 q27 q28 g_a12 q30 q29 O_c6 q31) (argsL := [(.ref a3)]) (rest := []) rfl (W := 0) (Nat.le_of_eq rfl) rfl (by decide) (by decide) (by decide) (by decide) (Nat.le_refl _) rfl ?_
  rintro _ hh39 ⟨rfl, K32, q33, q34, q35, q36, q37, q38⟩
  refine r_pop H 64 d_g21_5_63 rfl rfl ?_
  have k40 : Keep h0 h3 [a10, a12, a13, a7, a9] := Keep.trans (Keep.refl h0 [a10, a12, a13, a7, a9]) K3 (allS (Or.inl (List.mem_of_getElem? (i := 3) rfl)) all0)
  have k41 : Keep h0 hh21 [a10, a12, a13, a7, a9] := Keep.trans k40 K14 (allS (Or.inl (List.mem_of_getElem? (i := 0) rfl)) (allS (Or.inl (List.mem_of_getElem? (i := 2) rfl)) all0))
  have k42 : Keep h0 hh39 [a10, a12, a13, a7, a9] := Keep.trans k41 K32 (allS (Or.inl (List.mem_of_getElem? (i := 4) rfl)) (allS (Or.inl (List.mem_of_getElem? (i := 1) rfl)) all0))
  have q43 := (q15.keep K32)
  have q44 := (q16.keep K32 (ninS n_a10_a9 (ninS (ne_exa q43 q38 (by decide)) nin0)))
  have q45 := (q17.keep K32 (ninS n_a10_a9 (ninS (ne_exa q43 q38 (by decide)) nin0)))
  have q46 := (q18.keep K32 (ninS n_a10_a9 (ninS (ne_exa q43 q38 (by decide)) nin0)))
  have q47 := (q20.keep K32)
  have q48 := (q19.keep K32 (ninS (ne_exa q47 q33 (by decide)) (ninS n_a13_a12 nin0)))
  have q49 := (q23.keep K32)
  have q50 := ((A3.keep K14 (ninS (ne_exa q49 q43 (by decide)) (ninS (ne_exa q49 q47 (by decide)) nin0))).keep K32 (ninS (ne_exa q49 q33 (by decide)) (ninS (ne_exa q49 q38 (by decide)) nin0)))
  exact r_return H d_g21_5_64 (by decide) (by decide) (Nat.le_refl _) (fun _ t => t) (⟨rfl, k42, q43, q44, q45, q46, q37, q38, q48, q47, q50, q49, q33, q34, q35, q36⟩)
def Q_size_35 (Z : State) (h0 : Heap) (v : Option Value) (h : Heap) : Prop := v = some (.int (2 : Int32)) ∧ h0 = h
def R_size_35 : Room := { frames := 0, cells := 0, slots := 0, locals := 0 }
theorem rm_size_35 {w : Bool} {Z : State} {a0 : Array Value} (hw : ∀ d ∈ tables_1, d.before a0 Z = true) (Ts : List String) (a1 : Addr) (h0 : Heap) (f : Nat) (Zf : Z.heap.size ≤ f) (Z0 : f ≤ h0.size) (F_size_a1 : Fld Z h0 a1 "java/util/ArrayList" "size" "I" (.int (2 : Int32))) :
    Con w [] Z (⟨"java/util/ArrayList", "size", "()I"⟩ : MethodName) jdk_38_method_8_code 1 (some .int) R_size_35 Ts Ts f #[(.ref a1)] h0 (Q_size_35 Z h0) := by
  refine con_of f #[.val (.ref a1)] (plainFor_of_name pn_5) (fun m => by first | rfl | (simp [entryFrame, mkF, argsToLocals, Value.category]; done)) Zf ?_
  intro C H hX0
  refine r_aloadN H 1 d_j38_8_0 rfl rfl rfl ?_
  refine r_getf H 4 d_j38_8_1 (tw112 hw) Via.refl F_size_a1 rfl ?_
  exact r_ireturn H d_j38_8_4 (by decide) (by decide) (Nat.le_refl _) (fun _ t => t) (⟨rfl, rfl⟩)
def Q_add_37 (Z : State) (a1 : Addr) (a2 : Addr) (a3 : Addr) (a4 : Addr) (a5 : Addr) (c2 : ClassId) (h0 : Heap) (v : Option Value) (h : Heap) : Prop := v = none ∧ Keep h0 h [a1, a3] ∧ Exa Z h a1 "java/util/ArrayList" ∧ Fld Z h a1 "java/util/AbstractList" "modCount" "I" (.int (3 : Int32)) ∧ Fld Z h a1 "java/util/ArrayList" "elementData" "[Ljava/lang/Object;" (.ref a3) ∧ Fld Z h a1 "java/util/ArrayList" "size" "I" (.int (3 : Int32)) ∧ Ar Z h a3 c2 (.object "java/lang/Object") [(.ref a4), (.ref a5), (.ref a2), .null, .null, .null, .null, .null, .null, .null] ∧ Exa Z h a3 "[Ljava/lang/Object;"
def R_add_37 : Room := { frames := 0, cells := 0, slots := 0, locals := 0 }
theorem rm_add_37 {w : Bool} {Z : State} {a0 : Array Value} (hw : ∀ d ∈ tables_1, d.before a0 Z = true) (Ts : List String) (a1 : Addr) (a2 : Addr) (a3 : Addr) (a4 : Addr) (a5 : Addr) (c2 : ClassId) (h0 : Heap) (f : Nat) (Zf : Z.heap.size ≤ f) (Z0 : f ≤ h0.size) (A_a3 : Ar Z h0 a3 c2 (.object "java/lang/Object") [(.ref a4), (.ref a5), .null, .null, .null, .null, .null, .null, .null, .null]) (g_a3 : f ≤ a3) (O_c2 : Ovr Z c2 "java/lang/Object") (E_a2 : Exa Z h0 a2 "[Ljava/lang/String;") (E_a3 : Exa Z h0 a3 "[Ljava/lang/Object;") (E_a1 : Exa Z h0 a1 "java/util/ArrayList") (F_size_a1 : Fld Z h0 a1 "java/util/ArrayList" "size" "I" (.int (2 : Int32))) (g_a1 : f ≤ a1) (F_modCount_a1 : Fld Z h0 a1 "java/util/AbstractList" "modCount" "I" (.int (3 : Int32))) (F_elementData_a1 : Fld Z h0 a1 "java/util/ArrayList" "elementData" "[Ljava/lang/Object;" (.ref a3)) :
    Con w [] Z (⟨"java/util/ArrayList", "add", "(Ljava/lang/Object;[Ljava/lang/Object;I)V"⟩ : MethodName) jdk_38_method_24_code 4 none R_add_37 Ts Ts f #[(.ref a1), (.ref a2), (.ref a3), (.int (2 : Int32))] h0 (Q_add_37 Z a1 a2 a3 a4 a5 c2 h0) := by
  refine con_of f #[.val (.ref a1), .val (.ref a2), .val (.ref a3), .val (.int (2 : Int32))] (plainFor_of_name pn_5) (fun m => by first | rfl | (simp [entryFrame, mkF, argsToLocals, Value.category]; done)) Zf ?_
  intro C H hX0
  refine r_iloadN H 1 d_j38_24_0 rfl rfl ?_
  refine r_aloadN H 2 d_j38_24_1 rfl rfl rfl ?_
  refine r_alen H 3 (10 : Int32) d_j38_24_2 A_a3 rfl rfl ?_
  refine r_icmpneT H 11 d_j38_24_3 (by decide) (by decide) (by decide) ?_
  refine r_aloadN H 12 d_j38_24_11 rfl rfl rfl ?_
  refine r_iloadN H 13 d_j38_24_12 rfl rfl ?_
  refine r_aloadN H 14 d_j38_24_13 rfl rfl rfl ?_
  refine r_aastore H 15 d_j38_24_14 A_a3 rfl rfl (sto_ar A_a3 O_c2 (Ins.of_exa E_a2 (tw142 hw))) (by decide) (Nat.le_of_ble_eq_true rfl) g_a3 rfl ?_
  intro h1 K1 A1
  change Ar Z h1 a3 c2 (.object "java/lang/Object") [(.ref a4), (.ref a5), (.ref a2), .null, .null, .null, .null, .null, .null, .null] at A1
  refine r_aloadN H 16 d_j38_24_15 rfl rfl rfl ?_
  refine r_iloadN H 17 d_j38_24_16 rfl rfl ?_
  refine r_iconst H 18 (1 : Int32) d_j38_24_17 (by decide) rfl ?_
  refine r_iadd H 19 (3 : Int32) d_j38_24_18 (by decide) rfl ?_
  have q2 := (E_a1.keep K1)
  have q3 := (E_a3.keep K1)
  have q4 := (F_size_a1.keep K1 (ninS (ne_exa q2 q3 (by decide)) nin0))
  refine r_putf H 22 d_j38_24_19 (tw112 hw) Via.refl q4 q2 (Or.inl (tw113 hw)) (tw39 hw) (ty := .int) (by decide) rfl rfl g_a1 rfl ?_
  intro h5 W5 K5 E5 F5
  have k6 : Keep h0 h1 [a1, a3] := Keep.trans (Keep.refl h0 [a1, a3]) K1 (allS (Or.inl (List.mem_of_getElem? (i := 1) rfl)) all0)
  have k7 : Keep h0 h5 [a1, a3] := Keep.trans k6 K5 (allS (Or.inl (List.mem_of_getElem? (i := 0) rfl)) all0)
  have q8 := (q3.keep K5)
  have q9 := ((F_modCount_a1.keep K1 (ninS (ne_exa E5 q8 (by decide)) nin0)).other W5 (Or.inr (slot_ne (Or.inl (tw58 hw)) (Or.inl (tw113 hw)) (by decide) (t := .int) (t' := .int) (by decide) (by decide))))
  have q10 := ((F_elementData_a1.keep K1 (ninS (ne_exa E5 q8 (by decide)) nin0)).other W5 (Or.inr (slot_ne (Or.inl (tw61 hw)) (Or.inl (tw113 hw)) (by decide) (t := (.array (.object "java/lang/Object"))) (t' := .int) (by decide) (by decide))))
  have q11 := (A1.keep K5 (ninS (ne_exa q8 E5 (by decide)) nin0))
  exact r_return H d_j38_24_22 (by decide) (by decide) (Nat.le_refl _) (fun _ t => t) (⟨rfl, k7, E5, q9, q10, F5, q11, q8⟩)
def Q_add_36 (Z : State) (a1 : Addr) (a2 : Addr) (a3 : Addr) (a4 : Addr) (a5 : Addr) (c2 : ClassId) (h0 : Heap) (v : Option Value) (h : Heap) : Prop := v = some (.int (1 : Int32)) ∧ Keep h0 h [a1, a3] ∧ Exa Z h a1 "java/util/ArrayList" ∧ Fld Z h a1 "java/util/AbstractList" "modCount" "I" (.int (3 : Int32)) ∧ Fld Z h a1 "java/util/ArrayList" "elementData" "[Ljava/lang/Object;" (.ref a3) ∧ Fld Z h a1 "java/util/ArrayList" "size" "I" (.int (3 : Int32)) ∧ Ar Z h a3 c2 (.object "java/lang/Object") [(.ref a4), (.ref a5), (.ref a2), .null, .null, .null, .null, .null, .null, .null] ∧ Exa Z h a3 "[Ljava/lang/Object;"
def R_add_36 : Room := { frames := 1, cells := 0, slots := 0, locals := 15 }
theorem rm_add_36 {w : Bool} {Z : State} {a0 : Array Value} (hw : ∀ d ∈ tables_1, d.before a0 Z = true) (Ts : List String) (a1 : Addr) (a2 : Addr) (a3 : Addr) (a4 : Addr) (a5 : Addr) (c2 : ClassId) (h0 : Heap) (f : Nat) (Zf : Z.heap.size ≤ f) (Z0 : f ≤ h0.size) (F_modCount_a1 : Fld Z h0 a1 "java/util/AbstractList" "modCount" "I" (.int (2 : Int32))) (E_a1 : Exa Z h0 a1 "java/util/ArrayList") (g_a1 : f ≤ a1) (F_elementData_a1 : Fld Z h0 a1 "java/util/ArrayList" "elementData" "[Ljava/lang/Object;" (.ref a3)) (F_size_a1 : Fld Z h0 a1 "java/util/ArrayList" "size" "I" (.int (2 : Int32))) (g_a3 : f ≤ a3) (A_a3 : Ar Z h0 a3 c2 (.object "java/lang/Object") [(.ref a4), (.ref a5), .null, .null, .null, .null, .null, .null, .null, .null]) (E_a3 : Exa Z h0 a3 "[Ljava/lang/Object;") (O_c2 : Ovr Z c2 "java/lang/Object") (E_a2 : Exa Z h0 a2 "[Ljava/lang/String;") :
    Con w [] Z (⟨"java/util/ArrayList", "add", "(Ljava/lang/Object;)Z"⟩ : MethodName) jdk_38_method_25_code 2 (some .boolean) R_add_36 Ts Ts f #[(.ref a1), (.ref a2)] h0 (Q_add_36 Z a1 a2 a3 a4 a5 c2 h0) := by
  refine con_of f #[.val (.ref a1), .val (.ref a2)] (plainFor_of_name pn_5) (fun m => by first | rfl | (simp [entryFrame, mkF, argsToLocals, Value.category]; done)) Zf ?_
  intro C H hX0
  refine r_aloadN H 1 d_j38_25_0 rfl rfl rfl ?_
  refine r_dup H 2 d_j38_25_1 rfl rfl ?_
  refine r_getf H 5 d_j38_25_2 (tw119 hw) (Via.of (tw120 hw)) F_modCount_a1 rfl ?_
  refine r_iconst H 6 (1 : Int32) d_j38_25_5 (by decide) rfl ?_
  refine r_iadd H 7 (3 : Int32) d_j38_25_6 (by decide) rfl ?_
  refine r_putf H 10 d_j38_25_7 (tw119 hw) (Via.of (tw120 hw)) F_modCount_a1 E_a1 (Or.inl (tw58 hw)) (tw39 hw) (ty := .int) (by decide) rfl rfl g_a1 rfl ?_
  intro h1 W1 K1 E1 F1
  refine r_aloadN H 11 d_j38_25_10 rfl rfl rfl ?_
  refine r_aloadN H 12 d_j38_25_11 rfl rfl rfl ?_
  refine r_aloadN H 13 d_j38_25_12 rfl rfl rfl ?_
  have q2 := (F_elementData_a1.other W1 (Or.inr (slot_ne (Or.inl (tw61 hw)) (Or.inl (tw58 hw)) (by decide) (t := (.array (.object "java/lang/Object"))) (t' := .int) (by decide) (by decide))))
  refine r_getf H 16 d_j38_25_13 (tw60 hw) Via.refl q2 rfl ?_
  refine r_aloadN H 17 d_j38_25_16 rfl rfl rfl ?_
  have q3 := (F_size_a1.other W1 (Or.inr (slot_ne (Or.inl (tw113 hw)) (Or.inl (tw58 hw)) (by decide) (t := .int) (t' := .int) (by decide) (by decide))))
  refine r_getf H 20 d_j38_25_17 (tw112 hw) Via.refl q3 rfl ?_
  have q4 := (E_a3.keep K1)
  have q5 := (A_a3.keep K1 (ninS (ne_exa q4 E1 (by decide)) nin0))
  have q6 := (E_a2.keep K1)
  refine r_private H 23 (a := a1) d_j38_25_20 (tw121 hw) (tw122 hw) (tw124 hw) (tw123 hw) (tw40 hw) (tw125 hw) (by decide) E1 (lenOf pd_12 rfl) (rm_add_37 hw Ts a1 a2 a3 a4 a5 c2 h1 f Zf (Nat.le_trans Z0 K1.1) q5 g_a3 O_c2 q6 q4 E1 q3 g_a1 F1 q2) (argsL := [(.ref a2), (.ref a3), (.int (2 : Int32))]) (rest := []) rfl (W := 0) (Nat.le_of_eq rfl) rfl (by decide) (by decide) (by decide) (by decide) (Nat.le_refl _) rfl ?_
  rintro _ hh14 ⟨rfl, K7, q8, q9, q10, q11, q12, q13⟩
  refine r_iconst H 24 (1 : Int32) d_j38_25_23 (by decide) rfl ?_
  have k15 : Keep h0 h1 [a1, a3] := Keep.trans (Keep.refl h0 [a1, a3]) K1 (allS (Or.inl (List.mem_of_getElem? (i := 0) rfl)) all0)
  have k16 : Keep h0 hh14 [a1, a3] := Keep.trans k15 K7 (allS (Or.inl (List.mem_of_getElem? (i := 0) rfl)) (allS (Or.inl (List.mem_of_getElem? (i := 1) rfl)) all0))
  exact r_nreturn (1 : Int32) H (by simp) d_j38_25_24 (by decide) (by decide) (by decide) (Nat.le_refl _) (fun _ t => t) (⟨rfl, k16, q8, q9, q10, q11, q12, q13⟩)
def Q_add_39 (Z : State) (a1 : Addr) (a2 : Addr) (a3 : Addr) (a5 : Addr) (a6 : Addr) (c1 : ClassId) (h0 : Heap) (v : Option Value) (h : Heap) : Prop := v = none ∧ Keep h0 h [a1, a3] ∧ Exa Z h a1 "java/util/ArrayList" ∧ Fld Z h a1 "java/util/AbstractList" "modCount" "I" (.int (3 : Int32)) ∧ Fld Z h a1 "java/util/ArrayList" "elementData" "[Ljava/lang/Object;" (.ref a3) ∧ Fld Z h a1 "java/util/ArrayList" "size" "I" (.int (3 : Int32)) ∧ Ar Z h a3 c1 (.object "java/lang/Object") [(.ref a5), (.ref a6), (.ref a2), .null, .null, .null, .null, .null, .null, .null] ∧ Exa Z h a3 "[Ljava/lang/Object;"
def R_add_39 : Room := { frames := 0, cells := 0, slots := 0, locals := 0 }
theorem rm_add_39 {w : Bool} {Z : State} {a0 : Array Value} (hw : ∀ d ∈ tables_1, d.before a0 Z = true) (Ts : List String) (a1 : Addr) (a2 : Addr) (a3 : Addr) (a5 : Addr) (a6 : Addr) (c1 : ClassId) (h0 : Heap) (f : Nat) (Zf : Z.heap.size ≤ f) (Z0 : f ≤ h0.size) (A_a3 : Ar Z h0 a3 c1 (.object "java/lang/Object") [(.ref a5), (.ref a6), .null, .null, .null, .null, .null, .null, .null, .null]) (g_a3 : f ≤ a3) (O_c1 : Ovr Z c1 "java/lang/Object") (E_a2 : Exa Z h0 a2 "java/lang/String") (E_a3 : Exa Z h0 a3 "[Ljava/lang/Object;") (E_a1 : Exa Z h0 a1 "java/util/ArrayList") (F_size_a1 : Fld Z h0 a1 "java/util/ArrayList" "size" "I" (.int (2 : Int32))) (g_a1 : f ≤ a1) (F_modCount_a1 : Fld Z h0 a1 "java/util/AbstractList" "modCount" "I" (.int (3 : Int32))) (F_elementData_a1 : Fld Z h0 a1 "java/util/ArrayList" "elementData" "[Ljava/lang/Object;" (.ref a3)) :
    Con w [] Z (⟨"java/util/ArrayList", "add", "(Ljava/lang/Object;[Ljava/lang/Object;I)V"⟩ : MethodName) jdk_38_method_24_code 4 none R_add_39 Ts Ts f #[(.ref a1), (.ref a2), (.ref a3), (.int (2 : Int32))] h0 (Q_add_39 Z a1 a2 a3 a5 a6 c1 h0) := by
  refine con_of f #[.val (.ref a1), .val (.ref a2), .val (.ref a3), .val (.int (2 : Int32))] (plainFor_of_name pn_5) (fun m => by first | rfl | (simp [entryFrame, mkF, argsToLocals, Value.category]; done)) Zf ?_
  intro C H hX0
  refine r_iloadN H 1 d_j38_24_0 rfl rfl ?_
  refine r_aloadN H 2 d_j38_24_1 rfl rfl rfl ?_
  refine r_alen H 3 (10 : Int32) d_j38_24_2 A_a3 rfl rfl ?_
  refine r_icmpneT H 11 d_j38_24_3 (by decide) (by decide) (by decide) ?_
  refine r_aloadN H 12 d_j38_24_11 rfl rfl rfl ?_
  refine r_iloadN H 13 d_j38_24_12 rfl rfl ?_
  refine r_aloadN H 14 d_j38_24_13 rfl rfl rfl ?_
  refine r_aastore H 15 d_j38_24_14 A_a3 rfl rfl (sto_ar A_a3 O_c1 (Ins.of_exa E_a2 (tw143 hw))) (by decide) (Nat.le_of_ble_eq_true rfl) g_a3 rfl ?_
  intro h1 K1 A1
  change Ar Z h1 a3 c1 (.object "java/lang/Object") [(.ref a5), (.ref a6), (.ref a2), .null, .null, .null, .null, .null, .null, .null] at A1
  refine r_aloadN H 16 d_j38_24_15 rfl rfl rfl ?_
  refine r_iloadN H 17 d_j38_24_16 rfl rfl ?_
  refine r_iconst H 18 (1 : Int32) d_j38_24_17 (by decide) rfl ?_
  refine r_iadd H 19 (3 : Int32) d_j38_24_18 (by decide) rfl ?_
  have q2 := (E_a1.keep K1)
  have q3 := (E_a3.keep K1)
  have q4 := (F_size_a1.keep K1 (ninS (ne_exa q2 q3 (by decide)) nin0))
  refine r_putf H 22 d_j38_24_19 (tw112 hw) Via.refl q4 q2 (Or.inl (tw113 hw)) (tw39 hw) (ty := .int) (by decide) rfl rfl g_a1 rfl ?_
  intro h5 W5 K5 E5 F5
  have k6 : Keep h0 h1 [a1, a3] := Keep.trans (Keep.refl h0 [a1, a3]) K1 (allS (Or.inl (List.mem_of_getElem? (i := 1) rfl)) all0)
  have k7 : Keep h0 h5 [a1, a3] := Keep.trans k6 K5 (allS (Or.inl (List.mem_of_getElem? (i := 0) rfl)) all0)
  have q8 := (q3.keep K5)
  have q9 := ((F_modCount_a1.keep K1 (ninS (ne_exa E5 q8 (by decide)) nin0)).other W5 (Or.inr (slot_ne (Or.inl (tw58 hw)) (Or.inl (tw113 hw)) (by decide) (t := .int) (t' := .int) (by decide) (by decide))))
  have q10 := ((F_elementData_a1.keep K1 (ninS (ne_exa E5 q8 (by decide)) nin0)).other W5 (Or.inr (slot_ne (Or.inl (tw61 hw)) (Or.inl (tw113 hw)) (by decide) (t := (.array (.object "java/lang/Object"))) (t' := .int) (by decide) (by decide))))
  have q11 := (A1.keep K5 (ninS (ne_exa q8 E5 (by decide)) nin0))
  exact r_return H d_j38_24_22 (by decide) (by decide) (Nat.le_refl _) (fun _ t => t) (⟨rfl, k7, E5, q9, q10, F5, q11, q8⟩)
def Q_add_38 (Z : State) (a1 : Addr) (a2 : Addr) (a3 : Addr) (a5 : Addr) (a6 : Addr) (c1 : ClassId) (h0 : Heap) (v : Option Value) (h : Heap) : Prop := v = some (.int (1 : Int32)) ∧ Keep h0 h [a1, a3] ∧ Exa Z h a1 "java/util/ArrayList" ∧ Fld Z h a1 "java/util/AbstractList" "modCount" "I" (.int (3 : Int32)) ∧ Fld Z h a1 "java/util/ArrayList" "elementData" "[Ljava/lang/Object;" (.ref a3) ∧ Fld Z h a1 "java/util/ArrayList" "size" "I" (.int (3 : Int32)) ∧ Ar Z h a3 c1 (.object "java/lang/Object") [(.ref a5), (.ref a6), (.ref a2), .null, .null, .null, .null, .null, .null, .null] ∧ Exa Z h a3 "[Ljava/lang/Object;"
def R_add_38 : Room := { frames := 1, cells := 0, slots := 0, locals := 15 }
theorem rm_add_38 {w : Bool} {Z : State} {a0 : Array Value} (hw : ∀ d ∈ tables_1, d.before a0 Z = true) (Ts : List String) (a1 : Addr) (a2 : Addr) (a3 : Addr) (a5 : Addr) (a6 : Addr) (c1 : ClassId) (h0 : Heap) (f : Nat) (Zf : Z.heap.size ≤ f) (Z0 : f ≤ h0.size) (F_modCount_a1 : Fld Z h0 a1 "java/util/AbstractList" "modCount" "I" (.int (2 : Int32))) (E_a1 : Exa Z h0 a1 "java/util/ArrayList") (g_a1 : f ≤ a1) (F_elementData_a1 : Fld Z h0 a1 "java/util/ArrayList" "elementData" "[Ljava/lang/Object;" (.ref a3)) (F_size_a1 : Fld Z h0 a1 "java/util/ArrayList" "size" "I" (.int (2 : Int32))) (g_a3 : f ≤ a3) (A_a3 : Ar Z h0 a3 c1 (.object "java/lang/Object") [(.ref a5), (.ref a6), .null, .null, .null, .null, .null, .null, .null, .null]) (E_a3 : Exa Z h0 a3 "[Ljava/lang/Object;") (O_c1 : Ovr Z c1 "java/lang/Object") (E_a2 : Exa Z h0 a2 "java/lang/String") :
    Con w [] Z (⟨"java/util/ArrayList", "add", "(Ljava/lang/Object;)Z"⟩ : MethodName) jdk_38_method_25_code 2 (some .boolean) R_add_38 Ts Ts f #[(.ref a1), (.ref a2)] h0 (Q_add_38 Z a1 a2 a3 a5 a6 c1 h0) := by
  refine con_of f #[.val (.ref a1), .val (.ref a2)] (plainFor_of_name pn_5) (fun m => by first | rfl | (simp [entryFrame, mkF, argsToLocals, Value.category]; done)) Zf ?_
  intro C H hX0
  refine r_aloadN H 1 d_j38_25_0 rfl rfl rfl ?_
  refine r_dup H 2 d_j38_25_1 rfl rfl ?_
  refine r_getf H 5 d_j38_25_2 (tw119 hw) (Via.of (tw120 hw)) F_modCount_a1 rfl ?_
  refine r_iconst H 6 (1 : Int32) d_j38_25_5 (by decide) rfl ?_
  refine r_iadd H 7 (3 : Int32) d_j38_25_6 (by decide) rfl ?_
  refine r_putf H 10 d_j38_25_7 (tw119 hw) (Via.of (tw120 hw)) F_modCount_a1 E_a1 (Or.inl (tw58 hw)) (tw39 hw) (ty := .int) (by decide) rfl rfl g_a1 rfl ?_
  intro h1 W1 K1 E1 F1
  refine r_aloadN H 11 d_j38_25_10 rfl rfl rfl ?_
  refine r_aloadN H 12 d_j38_25_11 rfl rfl rfl ?_
  refine r_aloadN H 13 d_j38_25_12 rfl rfl rfl ?_
  have q2 := (F_elementData_a1.other W1 (Or.inr (slot_ne (Or.inl (tw61 hw)) (Or.inl (tw58 hw)) (by decide) (t := (.array (.object "java/lang/Object"))) (t' := .int) (by decide) (by decide))))
  refine r_getf H 16 d_j38_25_13 (tw60 hw) Via.refl q2 rfl ?_
  refine r_aloadN H 17 d_j38_25_16 rfl rfl rfl ?_
  have q3 := (F_size_a1.other W1 (Or.inr (slot_ne (Or.inl (tw113 hw)) (Or.inl (tw58 hw)) (by decide) (t := .int) (t' := .int) (by decide) (by decide))))
  refine r_getf H 20 d_j38_25_17 (tw112 hw) Via.refl q3 rfl ?_
  have q4 := (E_a3.keep K1)
  have q5 := (A_a3.keep K1 (ninS (ne_exa q4 E1 (by decide)) nin0))
  have q6 := (E_a2.keep K1)
  refine r_private H 23 (a := a1) d_j38_25_20 (tw121 hw) (tw122 hw) (tw124 hw) (tw123 hw) (tw40 hw) (tw125 hw) (by decide) E1 (lenOf pd_12 rfl) (rm_add_39 hw Ts a1 a2 a3 a5 a6 c1 h1 f Zf (Nat.le_trans Z0 K1.1) q5 g_a3 O_c1 q6 q4 E1 q3 g_a1 F1 q2) (argsL := [(.ref a2), (.ref a3), (.int (2 : Int32))]) (rest := []) rfl (W := 0) (Nat.le_of_eq rfl) rfl (by decide) (by decide) (by decide) (by decide) (Nat.le_refl _) rfl ?_
  rintro _ hh14 ⟨rfl, K7, q8, q9, q10, q11, q12, q13⟩
  refine r_iconst H 24 (1 : Int32) d_j38_25_23 (by decide) rfl ?_
  have k15 : Keep h0 h1 [a1, a3] := Keep.trans (Keep.refl h0 [a1, a3]) K1 (allS (Or.inl (List.mem_of_getElem? (i := 0) rfl)) all0)
  have k16 : Keep h0 hh14 [a1, a3] := Keep.trans k15 K7 (allS (Or.inl (List.mem_of_getElem? (i := 0) rfl)) (allS (Or.inl (List.mem_of_getElem? (i := 1) rfl)) all0))
  exact r_nreturn (1 : Int32) H (by simp) d_j38_25_24 (by decide) (by decide) (by decide) (Nat.le_refl _) (fun _ t => t) (⟨rfl, k16, q8, q9, q10, q11, q12, q13⟩)
def Q_add_34 (Z : State) (a2 : Addr) (a3 : Addr) (a7 : Addr) (a9 : Addr) (a10 : Addr) (a12 : Addr) (a13 : Addr) (a14 : Addr) (a15 : Addr) (a16 : Addr) (a17 : Addr) (i1 : Int32) (i2 : Int32) (i3 : Int32) (c4 : ClassId) (c6 : ClassId) (c7 : ClassId) (h0 : Heap) (v : Option Value) (h : Heap) : Prop := v = none ∧ Keep h0 h [a10, a12, a13, a7, a9] ∧ Exa Z h a10 "java/util/ArrayList" ∧ Fld Z h a10 "java/util/AbstractList" "modCount" "I" (.int (3 : Int32)) ∧ Fld Z h a10 "java/util/ArrayList" "elementData" "[Ljava/lang/Object;" (.ref a13) ∧ Fld Z h a10 "java/util/ArrayList" "size" "I" (.int (3 : Int32)) ∧ Ar Z h a12 c6 (.object "java/lang/Object") [(.ref a14), (.ref a15), (.ref a3), .null, .null, .null, .null, .null, .null, .null] ∧ Exa Z h a12 "[Ljava/lang/Object;" ∧ Ar Z h a13 c7 (.object "java/lang/Object") [(.ref a16), (.ref a17), (.ref a2), .null, .null, .null, .null, .null, .null, .null] ∧ Exa Z h a13 "[Ljava/lang/Object;" ∧ Ar Z h a7 c4 .int [(.int i2), (.int i3), (.int i1), (.int (0 : Int32)), (.int (0 : Int32)), (.int (0 : Int32)), (.int (0 : Int32)), (.int (0 : Int32)), (.int (0 : Int32)), (.int (0 : Int32)), (.int (0 : Int32)), (.int (0 : Int32)), (.int (0 : Int32)), (.int (0 : Int32)), (.int (0 : Int32)), (.int (0 : Int32))] ∧ Exa Z h a7 "[I" ∧ Exa Z h a9 "java/util/ArrayList" ∧ Fld Z h a9 "java/util/AbstractList" "modCount" "I" (.int (3 : Int32)) ∧ Fld Z h a9 "java/util/ArrayList" "elementData" "[Ljava/lang/Object;" (.ref a12) ∧ Fld Z h a9 "java/util/ArrayList" "size" "I" (.int (3 : Int32))
def R_add_34 : Room := { frames := 2, cells := 0, slots := 0, locals := 28 }
theorem rm_add_34 {w : Bool} {Z : State} {a0 : Array Value} (hw : ∀ d ∈ tables_1, d.before a0 Z = true) (Ts : List String) (a1 : Addr) (a2 : Addr) (a3 : Addr) (a7 : Addr) (a9 : Addr) (a10 : Addr) (a12 : Addr) (a13 : Addr) (a14 : Addr) (a15 : Addr) (a16 : Addr) (a17 : Addr) (i1 : Int32) (i2 : Int32) (i3 : Int32) (c4 : ClassId) (c6 : ClassId) (c7 : ClassId) (h0 : Heap) (f : Nat) (Zf : Z.heap.size ≤ f) (Z0 : f ≤ h0.size) (F_rows_a1 : Fld Z h0 a1 "com/example/steady_fixtures/steadyfixtures/load/TableRows" "rows" "Ljava/util/ArrayList;" (.ref a10)) (E_a10 : Exa Z h0 a10 "java/util/ArrayList") (F_size_a10 : Fld Z h0 a10 "java/util/ArrayList" "size" "I" (.int (2 : Int32))) (F_lines_a1 : Fld Z h0 a1 "com/example/steady_fixtures/steadyfixtures/load/TableRows" "lines" "[I" (.ref a7)) (A_a7 : Ar Z h0 a7 c4 .int [(.int i2), (.int i3), (.int (0 : Int32)), (.int (0 : Int32)), (.int (0 : Int32)), (.int (0 : Int32)), (.int (0 : Int32)), (.int (0 : Int32)), (.int (0 : Int32)), (.int (0 : Int32)), (.int (0 : Int32)), (.int (0 : Int32)), (.int (0 : Int32)), (.int (0 : Int32)), (.int (0 : Int32)), (.int (0 : Int32))]) (g_a7 : f ≤ a7) (E_a7 : Exa Z h0 a7 "[I") (E_a1 : Exa Z h0 a1 "com/example/steady_fixtures/steadyfixtures/load/TableRows") (g_a10 : f ≤ a10) (g_a13 : f ≤ a13) (F_modCount_a10 : Fld Z h0 a10 "java/util/AbstractList" "modCount" "I" (.int (2 : Int32))) (F_elementData_a10 : Fld Z h0 a10 "java/util/ArrayList" "elementData" "[Ljava/lang/Object;" (.ref a13)) (A_a13 : Ar Z h0 a13 c7 (.object "java/lang/Object") [(.ref a16), (.ref a17), .null, .null, .null, .null, .null, .null, .null, .null]) (E_a13 : Exa Z h0 a13 "[Ljava/lang/Object;") (O_c7 : Ovr Z c7 "java/lang/Object") (E_a2 : Exa Z h0 a2 "[Ljava/lang/String;") (F_resources_a1 : Fld Z h0 a1 "com/example/steady_fixtures/steadyfixtures/load/TableRows" "resources" "Ljava/util/ArrayList;" (.ref a9)) (E_a9 : Exa Z h0 a9 "java/util/ArrayList") (g_a9 : f ≤ a9) (g_a12 : f ≤ a12) (F_modCount_a9 : Fld Z h0 a9 "java/util/AbstractList" "modCount" "I" (.int (2 : Int32))) (n_a9_a10 : a9 ≠ a10) (F_elementData_a9 : Fld Z h0 a9 "java/util/ArrayList" "elementData" "[Ljava/lang/Object;" (.ref a12)) (F_size_a9 : Fld Z h0 a9 "java/util/ArrayList" "size" "I" (.int (2 : Int32))) (A_a12 : Ar Z h0 a12 c6 (.object "java/lang/Object") [(.ref a14), (.ref a15), .null, .null, .null, .null, .null, .null, .null, .null]) (E_a12 : Exa Z h0 a12 "[Ljava/lang/Object;") (n_a12_a13 : a12 ≠ a13) (O_c6 : Ovr Z c6 "java/lang/Object") (E_a3 : Exa Z h0 a3 "java/lang/String") (n_a10_a9 : a10 ≠ a9) (n_a13_a12 : a13 ≠ a12) :
    Con w [] Z (⟨"com/example/steady_fixtures/steadyfixtures/load/TableRows", "add", "([Ljava/lang/String;Ljava/lang/String;I)V"⟩ : MethodName) prog_21_method_5_code 4 none R_add_34 Ts Ts f #[(.ref a1), (.ref a2), (.ref a3), (.int i1)] h0 (Q_add_34 Z a2 a3 a7 a9 a10 a12 a13 a14 a15 a16 a17 i1 i2 i3 c4 c6 c7 h0) := by
  refine con_of f #[.val (.ref a1), .val (.ref a2), .val (.ref a3), .val (.int i1)] (plainFor_of_name pn_8) (fun m => by first | rfl | (simp [entryFrame, mkF, argsToLocals, Value.category]; done)) Zf ?_
  intro C H hX0
  refine r_aloadN H 1 d_g21_5_0 rfl rfl rfl ?_
  refine r_getf H 4 d_g21_5_1 (tw92 hw) Via.refl F_rows_a1 rfl ?_
  refine r_virtual H 7 (z := (⟨"java/util/ArrayList", "size", "()I"⟩ : MethodName)) (a := a10) d_g21_5_4 (tw107 hw) (tw108 hw) (nf_sel (tw110 hw)) (tw110 hw) (tw109 hw) (tw40 hw) (tw111 hw) (by decide) E_a10 (lenOf pd_8 rfl) (rm_size_35 hw Ts a10 h0 f Zf Z0 F_size_a10) (argsL := []) (rest := []) rfl (W := 0) (Nat.le_of_eq rfl) rfl (by decide) (by decide) (by decide) (by decide) (Nat.le_refl _) rfl ?_
  rintro _ _ ⟨rfl, rfl⟩
  refine r_aloadN H 8 d_g21_5_7 rfl rfl rfl ?_
  refine r_getf H 11 d_g21_5_8 (tw96 hw) Via.refl F_lines_a1 rfl ?_
  refine r_alen H 12 (16 : Int32) d_g21_5_11 A_a7 rfl rfl ?_
  refine r_icmpneT H 33 d_g21_5_12 (by decide) (by decide) (by decide) ?_
  refine r_aloadN H 34 d_g21_5_33 rfl rfl rfl ?_
  refine r_getf H 37 d_g21_5_34 (tw96 hw) Via.refl F_lines_a1 rfl ?_
  refine r_aloadN H 38 d_g21_5_37 rfl rfl rfl ?_
  refine r_getf H 41 d_g21_5_38 (tw92 hw) Via.refl F_rows_a1 rfl ?_
  refine r_virtual H 44 (z := (⟨"java/util/ArrayList", "size", "()I"⟩ : MethodName)) (a := a10) d_g21_5_41 (tw107 hw) (tw108 hw) (nf_sel (tw110 hw)) (tw110 hw) (tw109 hw) (tw40 hw) (tw111 hw) (by decide) E_a10 (lenOf pd_8 rfl) (rm_size_35 hw Ts a10 h0 f Zf Z0 F_size_a10) (argsL := []) (rest := [(.ref a7)]) rfl (W := 1) (Nat.le_of_eq rfl) rfl (by decide) (by decide) (by decide) (by decide) (Nat.le_refl _) rfl ?_
  rintro _ _ ⟨rfl, rfl⟩
  refine r_iloadN H 45 d_g21_5_44 rfl rfl ?_
  refine r_iastore H 46 i1 d_g21_5_45 A_a7 (by decide) (Nat.le_of_ble_eq_true rfl) g_a7 rfl rfl ?_
  intro h3 K3 A3
  change Ar Z h3 a7 c4 .int [(.int i2), (.int i3), (.int i1), (.int (0 : Int32)), (.int (0 : Int32)), (.int (0 : Int32)), (.int (0 : Int32)), (.int (0 : Int32)), (.int (0 : Int32)), (.int (0 : Int32)), (.int (0 : Int32)), (.int (0 : Int32)), (.int (0 : Int32)), (.int (0 : Int32)), (.int (0 : Int32)), (.int (0 : Int32))] at A3
  refine r_aloadN H 47 d_g21_5_46 rfl rfl rfl ?_
  have q4 := (E_a1.keep K3)
  have q5 := (E_a7.keep K3)
  have q6 := (F_rows_a1.keep K3 (ninS (ne_exa q4 q5 (by decide)) nin0))
  refine r_getf H 50 d_g21_5_47 (tw92 hw) Via.refl q6 rfl ?_
  refine r_aloadN H 51 d_g21_5_50 rfl rfl rfl ?_
  have q7 := (E_a10.keep K3)
  have q8 := (F_modCount_a10.keep K3 (ninS (ne_exa q7 q5 (by decide)) nin0))
  have q9 := (F_elementData_a10.keep K3 (ninS (ne_exa q7 q5 (by decide)) nin0))
  have q10 := (F_size_a10.keep K3 (ninS (ne_exa q7 q5 (by decide)) nin0))
  have q11 := (E_a13.keep K3)
  have q12 := (A_a13.keep K3 (ninS (ne_exa q11 q5 (by decide)) nin0))
  have q13 := (E_a2.keep K3)
  refine r_virtual H 54 (z := (⟨"java/util/ArrayList", "add", "(Ljava/lang/Object;)Z"⟩ : MethodName)) (a := a10) d_g21_5_51 (tw114 hw) (tw115 hw) (nf_sel (tw117 hw)) (tw117 hw) (tw116 hw) (tw40 hw) (tw118 hw) (by decide) q7 (lenOf pd_13 rfl) (rm_add_36 hw Ts a10 a2 a13 a16 a17 c7 h3 f Zf (Nat.le_trans Z0 K3.1) q8 q7 g_a10 q9 q10 g_a13 q12 q11 O_c7 q13) (argsL := [(.ref a2)]) (rest := []) rfl (W := 0) (Nat.le_of_eq rfl) rfl (by decide) (by decide) (by decide) (by decide) (Nat.le_refl _) rfl ?_
  rintro _ hh21 ⟨rfl, K14, q15, q16, q17, q18, q19, q20⟩
  refine r_pop H 55 d_g21_5_54 rfl rfl ?_
  refine r_aloadN H 56 d_g21_5_55 rfl rfl rfl ?_
  have q22 := (q4.keep K14)
  have q23 := (q5.keep K14)
  have q24 := ((F_resources_a1.keep K3 (ninS (ne_exa q22 q23 (by decide)) nin0)).keep K14 (ninS (ne_exa q22 q15 (by decide)) (ninS (ne_exa q22 q20 (by decide)) nin0)))
  refine r_getf H 59 d_g21_5_56 (tw94 hw) Via.refl q24 rfl ?_
  refine r_aloadN H 60 d_g21_5_59 rfl rfl rfl ?_
  have q25 := ((E_a9.keep K3).keep K14)
  have q26 := ((F_modCount_a9.keep K3 (ninS (ne_exa q25 q23 (by decide)) nin0)).keep K14 (ninS n_a9_a10 (ninS (ne_exa q25 q20 (by decide)) nin0)))
  have q27 := ((F_elementData_a9.keep K3 (ninS (ne_exa q25 q23 (by decide)) nin0)).keep K14 (ninS n_a9_a10 (ninS (ne_exa q25 q20 (by decide)) nin0)))
  have q28 := ((F_size_a9.keep K3 (ninS (ne_exa q25 q23 (by decide)) nin0)).keep K14 (ninS n_a9_a10 (ninS (ne_exa q25 q20 (by decide)) nin0)))
  have q29 := ((E_a12.keep K3).keep K14)
  have q30 := ((A_a12.keep K3 (ninS (ne_exa q29 q23 (by decide)) nin0)).keep K14 (ninS (ne_exa q29 q15 (by decide)) (ninS n_a12_a13 nin0)))
  have q31 := ((E_a3.keep K3).keep K14)
  refine r_virtual H 63 (z := (⟨"java/util/ArrayList", "add", "(Ljava/lang/Object;)Z"⟩ : MethodName)) (a := a9) d_g21_5_60 (tw114 hw) (tw115 hw) (nf_sel (tw117 hw)) (tw117 hw) (tw116 hw) (tw40 hw) (tw118 hw) (by decide) q25 (lenOf pd_13 rfl) (rm_add_38 hw Ts a9 a3 a12 a14 a15 c6 hh21 f Zf (Nat.le_trans Z0 (Nat.le_trans K3.1 K14.1)) q26 q25 g_a9 q27 q28 g_a12 q30 q29 O_c6 q31) (argsL := [(.ref a3)]) (rest := []) rfl (W := 0) (Nat.le_of_eq rfl) rfl (by decide) (by decide) (by decide) (by decide) (Nat.le_refl _) rfl ?_
  rintro _ hh39 ⟨rfl, K32, q33, q34, q35, q36, q37, q38⟩
  refine r_pop H 64 d_g21_5_63 rfl rfl ?_
  have k40 : Keep h0 h3 [a10, a12, a13, a7, a9] := Keep.trans (Keep.refl h0 [a10, a12, a13, a7, a9]) K3 (allS (Or.inl (List.mem_of_getElem? (i := 3) rfl)) all0)
  have k41 : Keep h0 hh21 [a10, a12, a13, a7, a9] := Keep.trans k40 K14 (allS (Or.inl (List.mem_of_getElem? (i := 0) rfl)) (allS (Or.inl (List.mem_of_getElem? (i := 2) rfl)) all0))
  have k42 : Keep h0 hh39 [a10, a12, a13, a7, a9] := Keep.trans k41 K32 (allS (Or.inl (List.mem_of_getElem? (i := 4) rfl)) (allS (Or.inl (List.mem_of_getElem? (i := 1) rfl)) all0))
  have q43 := (q15.keep K32)
  have q44 := (q16.keep K32 (ninS n_a10_a9 (ninS (ne_exa q43 q38 (by decide)) nin0)))
  have q45 := (q17.keep K32 (ninS n_a10_a9 (ninS (ne_exa q43 q38 (by decide)) nin0)))
  have q46 := (q18.keep K32 (ninS n_a10_a9 (ninS (ne_exa q43 q38 (by decide)) nin0)))
  have q47 := (q20.keep K32)
  have q48 := (q19.keep K32 (ninS (ne_exa q47 q33 (by decide)) (ninS n_a13_a12 nin0)))
  have q49 := (q23.keep K32)
  have q50 := ((A3.keep K14 (ninS (ne_exa q49 q43 (by decide)) (ninS (ne_exa q49 q47 (by decide)) nin0))).keep K32 (ninS (ne_exa q49 q33 (by decide)) (ninS (ne_exa q49 q38 (by decide)) nin0)))
  exact r_return H d_g21_5_64 (by decide) (by decide) (Nat.le_refl _) (fun _ t => t) (⟨rfl, k42, q43, q44, q45, q46, q37, q38, q48, q47, q50, q49, q33, q34, q35, q36⟩)
def Q_checkIndex_43 (Z : State) (h0 : Heap) (v : Option Value) (h : Heap) : Prop := v = some (.int (0 : Int32)) ∧ h0 = h
def R_checkIndex_43 : Room := { frames := 0, cells := 0, slots := 0, locals := 0 }
theorem rm_checkIndex_43 {w : Bool} {Z : State} {a0 : Array Value} (hw : ∀ d ∈ tables_1, d.before a0 Z = true) (Ts : List String) (h0 : Heap) (f : Nat) (Zf : Z.heap.size ≤ f) (Z0 : f ≤ h0.size) :
    Con w [] Z (⟨"jdk/internal/util/Preconditions", "checkIndex", "(IILjava/util/function/BiFunction;)I"⟩ : MethodName) jdk_41_method_11_code 3 (some .int) R_checkIndex_43 Ts Ts f #[(.int (0 : Int32)), (.int (3 : Int32)), .null] h0 (Q_checkIndex_43 Z h0) := by
  refine con_of f #[.val (.int (0 : Int32)), .val (.int (3 : Int32)), .val .null] (plainFor_of_name pn_9) (fun m => by first | rfl | (simp [entryFrame, mkF, argsToLocals, Value.category]; done)) Zf ?_
  intro C H hX0
  refine r_iloadN H 1 d_j41_11_0 rfl rfl ?_
  refine r_ifltF H 4 d_j41_11_1 rfl (by decide) ?_
  refine r_iloadN H 5 d_j41_11_4 rfl rfl ?_
  refine r_iloadN H 6 d_j41_11_5 rfl rfl ?_
  refine r_icmpltT H 16 d_j41_11_6 (by decide) (by decide) (by decide) ?_
  refine r_iloadN H 17 d_j41_11_16 rfl rfl ?_
  exact r_ireturn H d_j41_11_17 (by decide) (by decide) (Nat.le_refl _) (fun _ t => t) (⟨rfl, rfl⟩)
def Q_checkIndex_42 (Z : State) (h0 : Heap) (v : Option Value) (h : Heap) : Prop := v = some (.int (0 : Int32)) ∧ h0 = h
def R_checkIndex_42 : Room := { frames := 1, cells := 0, slots := 0, locals := 14 }
theorem rm_checkIndex_42 {w : Bool} {Z : State} {a0 : Array Value} (hw : ∀ d ∈ tables_1, d.before a0 Z = true) (Ts : List String) (h0 : Heap) (f : Nat) (Zf : Z.heap.size ≤ f) (Z0 : f ≤ h0.size) :
    Con w [] Z (⟨"java/util/Objects", "checkIndex", "(II)I"⟩ : MethodName) jdk_31_method_17_code 2 (some .int) R_checkIndex_42 Ts Ts f #[(.int (0 : Int32)), (.int (3 : Int32))] h0 (Q_checkIndex_42 Z h0) := by
  refine con_of f #[.val (.int (0 : Int32)), .val (.int (3 : Int32))] (plainFor_of_name pn_10) (fun m => by first | rfl | (simp [entryFrame, mkF, argsToLocals, Value.category]; done)) Zf ?_
  intro C H hX0
  refine r_iloadN H 1 d_j31_17_0 rfl rfl ?_
  refine r_iloadN H 2 d_j31_17_1 rfl rfl ?_
  refine r_null H 3 d_j31_17_2 rfl ?_
  refine r_static H 6 d_j31_17_3 (tw158 hw) (tw159 hw) (tw160 hw) (tw161 hw) (by decide) (lenOf pd_15 rfl) (rm_checkIndex_43 hw Ts h0 f Zf Z0) (argsL := [(.int (0 : Int32)), (.int (3 : Int32)), .null]) (rest := []) rfl (W := 0) (Nat.le_of_eq rfl) rfl (by decide) (by decide) (by decide) (by decide) (Nat.le_refl _) rfl ?_
  rintro _ _ ⟨rfl, rfl⟩
  exact r_ireturn H d_j31_17_6 (by decide) (by decide) (Nat.le_refl _) (fun _ t => t) (⟨rfl, rfl⟩)
def Q_elementData_44 (Z : State) (a3 : Addr) (h0 : Heap) (v : Option Value) (h : Heap) : Prop := v = some (.ref a3) ∧ h0 = h
def R_elementData_44 : Room := { frames := 0, cells := 0, slots := 0, locals := 0 }
theorem rm_elementData_44 {w : Bool} {Z : State} {a0 : Array Value} (hw : ∀ d ∈ tables_1, d.before a0 Z = true) (Ts : List String) (a1 : Addr) (a2 : Addr) (a3 : Addr) (a4 : Addr) (a5 : Addr) (c1 : ClassId) (h0 : Heap) (f : Nat) (Zf : Z.heap.size ≤ f) (Z0 : f ≤ h0.size) (F_elementData_a1 : Fld Z h0 a1 "java/util/ArrayList" "elementData" "[Ljava/lang/Object;" (.ref a2)) (A_a2 : Ar Z h0 a2 c1 (.object "java/lang/Object") [(.ref a3), (.ref a4), (.ref a5), .null, .null, .null, .null, .null, .null, .null]) :
    Con w [] Z (⟨"java/util/ArrayList", "elementData", "(I)Ljava/lang/Object;"⟩ : MethodName) jdk_38_method_18_code 2 (some (.object "java/lang/Object")) R_elementData_44 Ts Ts f #[(.ref a1), (.int (0 : Int32))] h0 (Q_elementData_44 Z a3 h0) := by
  refine con_of f #[.val (.ref a1), .val (.int (0 : Int32))] (plainFor_of_name pn_5) (fun m => by first | rfl | (simp [entryFrame, mkF, argsToLocals, Value.category]; done)) Zf ?_
  intro C H hX0
  refine r_aloadN H 1 d_j38_18_0 rfl rfl rfl ?_
  refine r_getf H 4 d_j38_18_1 (tw60 hw) Via.refl F_elementData_a1 rfl ?_
  refine r_iloadN H 5 d_j38_18_4 rfl rfl ?_
  refine r_aaload H 6 (.ref a3) d_j38_18_5 A_a2 rfl (by decide) rfl rfl ?_
  exact r_areturn H rfl rfl d_j38_18_6 (by decide) (by decide) (Nat.le_refl _) (fun _ t => t) (⟨rfl, rfl⟩)
def Q_get_41 (Z : State) (a3 : Addr) (h0 : Heap) (v : Option Value) (h : Heap) : Prop := v = some (.ref a3) ∧ h0 = h
def R_get_41 : Room := { frames := 2, cells := 0, slots := 0, locals := 27 }
theorem rm_get_41 {w : Bool} {Z : State} {a0 : Array Value} (hw : ∀ d ∈ tables_1, d.before a0 Z = true) (Ts : List String) (a1 : Addr) (a2 : Addr) (a3 : Addr) (a4 : Addr) (a5 : Addr) (c1 : ClassId) (h0 : Heap) (f : Nat) (Zf : Z.heap.size ≤ f) (Z0 : f ≤ h0.size) (F_size_a1 : Fld Z h0 a1 "java/util/ArrayList" "size" "I" (.int (3 : Int32))) (E_a1 : Exa Z h0 a1 "java/util/ArrayList") (F_elementData_a1 : Fld Z h0 a1 "java/util/ArrayList" "elementData" "[Ljava/lang/Object;" (.ref a2)) (A_a2 : Ar Z h0 a2 c1 (.object "java/lang/Object") [(.ref a3), (.ref a4), (.ref a5), .null, .null, .null, .null, .null, .null, .null]) :
    Con w [] Z (⟨"java/util/ArrayList", "get", "(I)Ljava/lang/Object;"⟩ : MethodName) jdk_38_method_20_code 2 (some (.object "java/lang/Object")) R_get_41 Ts Ts f #[(.ref a1), (.int (0 : Int32))] h0 (Q_get_41 Z a3 h0) := by
  refine con_of f #[.val (.ref a1), .val (.int (0 : Int32))] (plainFor_of_name pn_5) (fun m => by first | rfl | (simp [entryFrame, mkF, argsToLocals, Value.category]; done)) Zf ?_
  intro C H hX0
  refine r_iloadN H 1 d_j38_20_0 rfl rfl ?_
  refine r_aloadN H 2 d_j38_20_1 rfl rfl rfl ?_
  refine r_getf H 5 d_j38_20_2 (tw112 hw) Via.refl F_size_a1 rfl ?_
  refine r_static H 8 d_j38_20_5 (tw154 hw) (tw155 hw) (tw156 hw) (tw157 hw) (by decide) (lenOf pd_9 rfl) (rm_checkIndex_42 hw Ts h0 f Zf Z0) (argsL := [(.int (0 : Int32)), (.int (3 : Int32))]) (rest := []) rfl (W := 0) (Nat.le_of_eq rfl) rfl (by decide) (by decide) (by decide) (by decide) (Nat.le_refl _) rfl ?_
  rintro _ _ ⟨rfl, rfl⟩
  refine r_pop H 9 d_j38_20_8 rfl rfl ?_
  refine r_aloadN H 10 d_j38_20_9 rfl rfl rfl ?_
  refine r_iloadN H 11 d_j38_20_10 rfl rfl ?_
  refine r_virtual H 14 (z := (⟨"java/util/ArrayList", "elementData", "(I)Ljava/lang/Object;"⟩ : MethodName)) (a := a1) d_j38_20_11 (tw162 hw) (tw163 hw) (nf_sel (tw165 hw)) (tw165 hw) (tw164 hw) (tw40 hw) (tw166 hw) (by decide) E_a1 (lenOf pd_16 rfl) (rm_elementData_44 hw Ts a1 a2 a3 a4 a5 c1 h0 f Zf Z0 F_elementData_a1 A_a2) (argsL := [(.int (0 : Int32))]) (rest := []) rfl (W := 0) (Nat.le_of_eq rfl) rfl (by decide) (by decide) (by decide) (by decide) (Nat.le_refl _) rfl ?_
  rintro _ _ ⟨rfl, rfl⟩
  exact r_areturn H rfl rfl d_j38_20_14 (by decide) (by decide) (Nat.le_refl _) (fun _ t => t) (⟨rfl, rfl⟩)
def Q_resource_40 (Z : State) (a11 : Addr) (h0 : Heap) (v : Option Value) (h : Heap) : Prop := v = some (.ref a11) ∧ h0 = h
def R_resource_40 : Room := { frames := 3, cells := 0, slots := 0, locals := 40 }
theorem rm_resource_40 {w : Bool} {Z : State} {a0 : Array Value} (hw : ∀ d ∈ tables_1, d.before a0 Z = true) (Ts : List String) (a1 : Addr) (a7 : Addr) (a9 : Addr) (a11 : Addr) (a12 : Addr) (a13 : Addr) (c4 : ClassId) (h0 : Heap) (f : Nat) (Zf : Z.heap.size ≤ f) (Z0 : f ≤ h0.size) (F_resources_a1 : Fld Z h0 a1 "com/example/steady_fixtures/steadyfixtures/load/TableRows" "resources" "Ljava/util/ArrayList;" (.ref a7)) (E_a7 : Exa Z h0 a7 "java/util/ArrayList") (F_size_a7 : Fld Z h0 a7 "java/util/ArrayList" "size" "I" (.int (3 : Int32))) (F_elementData_a7 : Fld Z h0 a7 "java/util/ArrayList" "elementData" "[Ljava/lang/Object;" (.ref a9)) (A_a9 : Ar Z h0 a9 c4 (.object "java/lang/Object") [(.ref a11), (.ref a12), (.ref a13), .null, .null, .null, .null, .null, .null, .null]) (E_a11 : Exa Z h0 a11 "java/lang/String") :
    Con w [] Z (⟨"com/example/steady_fixtures/steadyfixtures/load/TableRows", "resource", "(I)Ljava/lang/String;"⟩ : MethodName) prog_21_method_10_code 2 (some (.object "java/lang/String")) R_resource_40 Ts Ts f #[(.ref a1), (.int (0 : Int32))] h0 (Q_resource_40 Z a11 h0) := by
  refine con_of f #[.val (.ref a1), .val (.int (0 : Int32))] (plainFor_of_name pn_8) (fun m => by first | rfl | (simp [entryFrame, mkF, argsToLocals, Value.category]; done)) Zf ?_
  intro C H hX0
  refine r_aloadN H 1 d_g21_10_0 rfl rfl rfl ?_
  refine r_getf H 4 d_g21_10_1 (tw94 hw) Via.refl F_resources_a1 rfl ?_
  refine r_iloadN H 5 d_g21_10_4 rfl rfl ?_
  refine r_virtual H 8 (z := (⟨"java/util/ArrayList", "get", "(I)Ljava/lang/Object;"⟩ : MethodName)) (a := a7) d_g21_10_5 (tw149 hw) (tw150 hw) (nf_sel (tw152 hw)) (tw152 hw) (tw151 hw) (tw40 hw) (tw153 hw) (by decide) E_a7 (lenOf pd_16 rfl) (rm_get_41 hw Ts a7 a9 a11 a12 a13 c4 h0 f Zf Z0 F_size_a7 E_a7 F_elementData_a7 A_a9) (argsL := [(.int (0 : Int32))]) (rest := []) rfl (W := 0) (Nat.le_of_eq rfl) rfl (by decide) (by decide) (by decide) (by decide) (Nat.le_refl _) rfl ?_
  rintro _ _ ⟨rfl, rfl⟩
  refine r_castY H 11 d_g21_10_8 (tw84 hw) (Ins.self E_a11) rfl ?_
  exact r_areturn H rfl rfl d_g21_10_11 (by decide) (by decide) (Nat.le_refl _) (fun _ t => t) (⟨rfl, rfl⟩)
def Q_checkIndex_48 (Z : State) (h0 : Heap) (v : Option Value) (h : Heap) : Prop := v = some (.int (1 : Int32)) ∧ h0 = h
def R_checkIndex_48 : Room := { frames := 0, cells := 0, slots := 0, locals := 0 }
theorem rm_checkIndex_48 {w : Bool} {Z : State} {a0 : Array Value} (hw : ∀ d ∈ tables_1, d.before a0 Z = true) (Ts : List String) (h0 : Heap) (f : Nat) (Zf : Z.heap.size ≤ f) (Z0 : f ≤ h0.size) :
    Con w [] Z (⟨"jdk/internal/util/Preconditions", "checkIndex", "(IILjava/util/function/BiFunction;)I"⟩ : MethodName) jdk_41_method_11_code 3 (some .int) R_checkIndex_48 Ts Ts f #[(.int (1 : Int32)), (.int (3 : Int32)), .null] h0 (Q_checkIndex_48 Z h0) := by
  refine con_of f #[.val (.int (1 : Int32)), .val (.int (3 : Int32)), .val .null] (plainFor_of_name pn_9) (fun m => by first | rfl | (simp [entryFrame, mkF, argsToLocals, Value.category]; done)) Zf ?_
  intro C H hX0
  refine r_iloadN H 1 d_j41_11_0 rfl rfl ?_
  refine r_ifltF H 4 d_j41_11_1 rfl (by decide) ?_
  refine r_iloadN H 5 d_j41_11_4 rfl rfl ?_
  refine r_iloadN H 6 d_j41_11_5 rfl rfl ?_
  refine r_icmpltT H 16 d_j41_11_6 (by decide) (by decide) (by decide) ?_
  refine r_iloadN H 17 d_j41_11_16 rfl rfl ?_
  exact r_ireturn H d_j41_11_17 (by decide) (by decide) (Nat.le_refl _) (fun _ t => t) (⟨rfl, rfl⟩)
def Q_checkIndex_47 (Z : State) (h0 : Heap) (v : Option Value) (h : Heap) : Prop := v = some (.int (1 : Int32)) ∧ h0 = h
def R_checkIndex_47 : Room := { frames := 1, cells := 0, slots := 0, locals := 14 }
theorem rm_checkIndex_47 {w : Bool} {Z : State} {a0 : Array Value} (hw : ∀ d ∈ tables_1, d.before a0 Z = true) (Ts : List String) (h0 : Heap) (f : Nat) (Zf : Z.heap.size ≤ f) (Z0 : f ≤ h0.size) :
    Con w [] Z (⟨"java/util/Objects", "checkIndex", "(II)I"⟩ : MethodName) jdk_31_method_17_code 2 (some .int) R_checkIndex_47 Ts Ts f #[(.int (1 : Int32)), (.int (3 : Int32))] h0 (Q_checkIndex_47 Z h0) := by
  refine con_of f #[.val (.int (1 : Int32)), .val (.int (3 : Int32))] (plainFor_of_name pn_10) (fun m => by first | rfl | (simp [entryFrame, mkF, argsToLocals, Value.category]; done)) Zf ?_
  intro C H hX0
  refine r_iloadN H 1 d_j31_17_0 rfl rfl ?_
  refine r_iloadN H 2 d_j31_17_1 rfl rfl ?_
  refine r_null H 3 d_j31_17_2 rfl ?_
  refine r_static H 6 d_j31_17_3 (tw158 hw) (tw159 hw) (tw160 hw) (tw161 hw) (by decide) (lenOf pd_15 rfl) (rm_checkIndex_48 hw Ts h0 f Zf Z0) (argsL := [(.int (1 : Int32)), (.int (3 : Int32)), .null]) (rest := []) rfl (W := 0) (Nat.le_of_eq rfl) rfl (by decide) (by decide) (by decide) (by decide) (Nat.le_refl _) rfl ?_
  rintro _ _ ⟨rfl, rfl⟩
  exact r_ireturn H d_j31_17_6 (by decide) (by decide) (Nat.le_refl _) (fun _ t => t) (⟨rfl, rfl⟩)
def Q_elementData_49 (Z : State) (a4 : Addr) (h0 : Heap) (v : Option Value) (h : Heap) : Prop := v = some (.ref a4) ∧ h0 = h
def R_elementData_49 : Room := { frames := 0, cells := 0, slots := 0, locals := 0 }
theorem rm_elementData_49 {w : Bool} {Z : State} {a0 : Array Value} (hw : ∀ d ∈ tables_1, d.before a0 Z = true) (Ts : List String) (a1 : Addr) (a2 : Addr) (a3 : Addr) (a4 : Addr) (a5 : Addr) (c1 : ClassId) (h0 : Heap) (f : Nat) (Zf : Z.heap.size ≤ f) (Z0 : f ≤ h0.size) (F_elementData_a1 : Fld Z h0 a1 "java/util/ArrayList" "elementData" "[Ljava/lang/Object;" (.ref a2)) (A_a2 : Ar Z h0 a2 c1 (.object "java/lang/Object") [(.ref a3), (.ref a4), (.ref a5), .null, .null, .null, .null, .null, .null, .null]) :
    Con w [] Z (⟨"java/util/ArrayList", "elementData", "(I)Ljava/lang/Object;"⟩ : MethodName) jdk_38_method_18_code 2 (some (.object "java/lang/Object")) R_elementData_49 Ts Ts f #[(.ref a1), (.int (1 : Int32))] h0 (Q_elementData_49 Z a4 h0) := by
  refine con_of f #[.val (.ref a1), .val (.int (1 : Int32))] (plainFor_of_name pn_5) (fun m => by first | rfl | (simp [entryFrame, mkF, argsToLocals, Value.category]; done)) Zf ?_
  intro C H hX0
  refine r_aloadN H 1 d_j38_18_0 rfl rfl rfl ?_
  refine r_getf H 4 d_j38_18_1 (tw60 hw) Via.refl F_elementData_a1 rfl ?_
  refine r_iloadN H 5 d_j38_18_4 rfl rfl ?_
  refine r_aaload H 6 (.ref a4) d_j38_18_5 A_a2 rfl (by decide) rfl rfl ?_
  exact r_areturn H rfl rfl d_j38_18_6 (by decide) (by decide) (Nat.le_refl _) (fun _ t => t) (⟨rfl, rfl⟩)
def Q_get_46 (Z : State) (a4 : Addr) (h0 : Heap) (v : Option Value) (h : Heap) : Prop := v = some (.ref a4) ∧ h0 = h
def R_get_46 : Room := { frames := 2, cells := 0, slots := 0, locals := 27 }
theorem rm_get_46 {w : Bool} {Z : State} {a0 : Array Value} (hw : ∀ d ∈ tables_1, d.before a0 Z = true) (Ts : List String) (a1 : Addr) (a2 : Addr) (a3 : Addr) (a4 : Addr) (a5 : Addr) (c1 : ClassId) (h0 : Heap) (f : Nat) (Zf : Z.heap.size ≤ f) (Z0 : f ≤ h0.size) (F_size_a1 : Fld Z h0 a1 "java/util/ArrayList" "size" "I" (.int (3 : Int32))) (E_a1 : Exa Z h0 a1 "java/util/ArrayList") (F_elementData_a1 : Fld Z h0 a1 "java/util/ArrayList" "elementData" "[Ljava/lang/Object;" (.ref a2)) (A_a2 : Ar Z h0 a2 c1 (.object "java/lang/Object") [(.ref a3), (.ref a4), (.ref a5), .null, .null, .null, .null, .null, .null, .null]) :
    Con w [] Z (⟨"java/util/ArrayList", "get", "(I)Ljava/lang/Object;"⟩ : MethodName) jdk_38_method_20_code 2 (some (.object "java/lang/Object")) R_get_46 Ts Ts f #[(.ref a1), (.int (1 : Int32))] h0 (Q_get_46 Z a4 h0) := by
  refine con_of f #[.val (.ref a1), .val (.int (1 : Int32))] (plainFor_of_name pn_5) (fun m => by first | rfl | (simp [entryFrame, mkF, argsToLocals, Value.category]; done)) Zf ?_
  intro C H hX0
  refine r_iloadN H 1 d_j38_20_0 rfl rfl ?_
  refine r_aloadN H 2 d_j38_20_1 rfl rfl rfl ?_
  refine r_getf H 5 d_j38_20_2 (tw112 hw) Via.refl F_size_a1 rfl ?_
  refine r_static H 8 d_j38_20_5 (tw154 hw) (tw155 hw) (tw156 hw) (tw157 hw) (by decide) (lenOf pd_9 rfl) (rm_checkIndex_47 hw Ts h0 f Zf Z0) (argsL := [(.int (1 : Int32)), (.int (3 : Int32))]) (rest := []) rfl (W := 0) (Nat.le_of_eq rfl) rfl (by decide) (by decide) (by decide) (by decide) (Nat.le_refl _) rfl ?_
  rintro _ _ ⟨rfl, rfl⟩
  refine r_pop H 9 d_j38_20_8 rfl rfl ?_
  refine r_aloadN H 10 d_j38_20_9 rfl rfl rfl ?_
  refine r_iloadN H 11 d_j38_20_10 rfl rfl ?_
  refine r_virtual H 14 (z := (⟨"java/util/ArrayList", "elementData", "(I)Ljava/lang/Object;"⟩ : MethodName)) (a := a1) d_j38_20_11 (tw162 hw) (tw163 hw) (nf_sel (tw165 hw)) (tw165 hw) (tw164 hw) (tw40 hw) (tw166 hw) (by decide) E_a1 (lenOf pd_16 rfl) (rm_elementData_49 hw Ts a1 a2 a3 a4 a5 c1 h0 f Zf Z0 F_elementData_a1 A_a2) (argsL := [(.int (1 : Int32))]) (rest := []) rfl (W := 0) (Nat.le_of_eq rfl) rfl (by decide) (by decide) (by decide) (by decide) (Nat.le_refl _) rfl ?_
  rintro _ _ ⟨rfl, rfl⟩
  exact r_areturn H rfl rfl d_j38_20_14 (by decide) (by decide) (Nat.le_refl _) (fun _ t => t) (⟨rfl, rfl⟩)
def Q_resource_45 (Z : State) (a12 : Addr) (h0 : Heap) (v : Option Value) (h : Heap) : Prop := v = some (.ref a12) ∧ h0 = h
def R_resource_45 : Room := { frames := 3, cells := 0, slots := 0, locals := 40 }
theorem rm_resource_45 {w : Bool} {Z : State} {a0 : Array Value} (hw : ∀ d ∈ tables_1, d.before a0 Z = true) (Ts : List String) (a1 : Addr) (a7 : Addr) (a9 : Addr) (a11 : Addr) (a12 : Addr) (a13 : Addr) (c4 : ClassId) (h0 : Heap) (f : Nat) (Zf : Z.heap.size ≤ f) (Z0 : f ≤ h0.size) (F_resources_a1 : Fld Z h0 a1 "com/example/steady_fixtures/steadyfixtures/load/TableRows" "resources" "Ljava/util/ArrayList;" (.ref a7)) (E_a7 : Exa Z h0 a7 "java/util/ArrayList") (F_size_a7 : Fld Z h0 a7 "java/util/ArrayList" "size" "I" (.int (3 : Int32))) (F_elementData_a7 : Fld Z h0 a7 "java/util/ArrayList" "elementData" "[Ljava/lang/Object;" (.ref a9)) (A_a9 : Ar Z h0 a9 c4 (.object "java/lang/Object") [(.ref a11), (.ref a12), (.ref a13), .null, .null, .null, .null, .null, .null, .null]) (E_a12 : Exa Z h0 a12 "java/lang/String") :
    Con w [] Z (⟨"com/example/steady_fixtures/steadyfixtures/load/TableRows", "resource", "(I)Ljava/lang/String;"⟩ : MethodName) prog_21_method_10_code 2 (some (.object "java/lang/String")) R_resource_45 Ts Ts f #[(.ref a1), (.int (1 : Int32))] h0 (Q_resource_45 Z a12 h0) := by
  refine con_of f #[.val (.ref a1), .val (.int (1 : Int32))] (plainFor_of_name pn_8) (fun m => by first | rfl | (simp [entryFrame, mkF, argsToLocals, Value.category]; done)) Zf ?_
  intro C H hX0
  refine r_aloadN H 1 d_g21_10_0 rfl rfl rfl ?_
  refine r_getf H 4 d_g21_10_1 (tw94 hw) Via.refl F_resources_a1 rfl ?_
  refine r_iloadN H 5 d_g21_10_4 rfl rfl ?_
  refine r_virtual H 8 (z := (⟨"java/util/ArrayList", "get", "(I)Ljava/lang/Object;"⟩ : MethodName)) (a := a7) d_g21_10_5 (tw149 hw) (tw150 hw) (nf_sel (tw152 hw)) (tw152 hw) (tw151 hw) (tw40 hw) (tw153 hw) (by decide) E_a7 (lenOf pd_16 rfl) (rm_get_46 hw Ts a7 a9 a11 a12 a13 c4 h0 f Zf Z0 F_size_a7 E_a7 F_elementData_a7 A_a9) (argsL := [(.int (1 : Int32))]) (rest := []) rfl (W := 0) (Nat.le_of_eq rfl) rfl (by decide) (by decide) (by decide) (by decide) (Nat.le_refl _) rfl ?_
  rintro _ _ ⟨rfl, rfl⟩
  refine r_castY H 11 d_g21_10_8 (tw84 hw) (Ins.self E_a12) rfl ?_
  exact r_areturn H rfl rfl d_g21_10_11 (by decide) (by decide) (Nat.le_refl _) (fun _ t => t) (⟨rfl, rfl⟩)
def Q_checkIndex_53 (Z : State) (h0 : Heap) (v : Option Value) (h : Heap) : Prop := v = some (.int (2 : Int32)) ∧ h0 = h
def R_checkIndex_53 : Room := { frames := 0, cells := 0, slots := 0, locals := 0 }
theorem rm_checkIndex_53 {w : Bool} {Z : State} {a0 : Array Value} (hw : ∀ d ∈ tables_1, d.before a0 Z = true) (Ts : List String) (h0 : Heap) (f : Nat) (Zf : Z.heap.size ≤ f) (Z0 : f ≤ h0.size) :
    Con w [] Z (⟨"jdk/internal/util/Preconditions", "checkIndex", "(IILjava/util/function/BiFunction;)I"⟩ : MethodName) jdk_41_method_11_code 3 (some .int) R_checkIndex_53 Ts Ts f #[(.int (2 : Int32)), (.int (3 : Int32)), .null] h0 (Q_checkIndex_53 Z h0) := by
  refine con_of f #[.val (.int (2 : Int32)), .val (.int (3 : Int32)), .val .null] (plainFor_of_name pn_9) (fun m => by first | rfl | (simp [entryFrame, mkF, argsToLocals, Value.category]; done)) Zf ?_
  intro C H hX0
  refine r_iloadN H 1 d_j41_11_0 rfl rfl ?_
  refine r_ifltF H 4 d_j41_11_1 rfl (by decide) ?_
  refine r_iloadN H 5 d_j41_11_4 rfl rfl ?_
  refine r_iloadN H 6 d_j41_11_5 rfl rfl ?_
  refine r_icmpltT H 16 d_j41_11_6 (by decide) (by decide) (by decide) ?_
  refine r_iloadN H 17 d_j41_11_16 rfl rfl ?_
  exact r_ireturn H d_j41_11_17 (by decide) (by decide) (Nat.le_refl _) (fun _ t => t) (⟨rfl, rfl⟩)
def Q_checkIndex_52 (Z : State) (h0 : Heap) (v : Option Value) (h : Heap) : Prop := v = some (.int (2 : Int32)) ∧ h0 = h
def R_checkIndex_52 : Room := { frames := 1, cells := 0, slots := 0, locals := 14 }
theorem rm_checkIndex_52 {w : Bool} {Z : State} {a0 : Array Value} (hw : ∀ d ∈ tables_1, d.before a0 Z = true) (Ts : List String) (h0 : Heap) (f : Nat) (Zf : Z.heap.size ≤ f) (Z0 : f ≤ h0.size) :
    Con w [] Z (⟨"java/util/Objects", "checkIndex", "(II)I"⟩ : MethodName) jdk_31_method_17_code 2 (some .int) R_checkIndex_52 Ts Ts f #[(.int (2 : Int32)), (.int (3 : Int32))] h0 (Q_checkIndex_52 Z h0) := by
  refine con_of f #[.val (.int (2 : Int32)), .val (.int (3 : Int32))] (plainFor_of_name pn_10) (fun m => by first | rfl | (simp [entryFrame, mkF, argsToLocals, Value.category]; done)) Zf ?_
  intro C H hX0
  refine r_iloadN H 1 d_j31_17_0 rfl rfl ?_
  refine r_iloadN H 2 d_j31_17_1 rfl rfl ?_
  refine r_null H 3 d_j31_17_2 rfl ?_
  refine r_static H 6 d_j31_17_3 (tw158 hw) (tw159 hw) (tw160 hw) (tw161 hw) (by decide) (lenOf pd_15 rfl) (rm_checkIndex_53 hw Ts h0 f Zf Z0) (argsL := [(.int (2 : Int32)), (.int (3 : Int32)), .null]) (rest := []) rfl (W := 0) (Nat.le_of_eq rfl) rfl (by decide) (by decide) (by decide) (by decide) (Nat.le_refl _) rfl ?_
  rintro _ _ ⟨rfl, rfl⟩
  exact r_ireturn H d_j31_17_6 (by decide) (by decide) (Nat.le_refl _) (fun _ t => t) (⟨rfl, rfl⟩)
def Q_elementData_54 (Z : State) (a5 : Addr) (h0 : Heap) (v : Option Value) (h : Heap) : Prop := v = some (.ref a5) ∧ h0 = h
def R_elementData_54 : Room := { frames := 0, cells := 0, slots := 0, locals := 0 }
theorem rm_elementData_54 {w : Bool} {Z : State} {a0 : Array Value} (hw : ∀ d ∈ tables_1, d.before a0 Z = true) (Ts : List String) (a1 : Addr) (a2 : Addr) (a3 : Addr) (a4 : Addr) (a5 : Addr) (c1 : ClassId) (h0 : Heap) (f : Nat) (Zf : Z.heap.size ≤ f) (Z0 : f ≤ h0.size) (F_elementData_a1 : Fld Z h0 a1 "java/util/ArrayList" "elementData" "[Ljava/lang/Object;" (.ref a2)) (A_a2 : Ar Z h0 a2 c1 (.object "java/lang/Object") [(.ref a3), (.ref a4), (.ref a5), .null, .null, .null, .null, .null, .null, .null]) :
    Con w [] Z (⟨"java/util/ArrayList", "elementData", "(I)Ljava/lang/Object;"⟩ : MethodName) jdk_38_method_18_code 2 (some (.object "java/lang/Object")) R_elementData_54 Ts Ts f #[(.ref a1), (.int (2 : Int32))] h0 (Q_elementData_54 Z a5 h0) := by
  refine con_of f #[.val (.ref a1), .val (.int (2 : Int32))] (plainFor_of_name pn_5) (fun m => by first | rfl | (simp [entryFrame, mkF, argsToLocals, Value.category]; done)) Zf ?_
  intro C H hX0
  refine r_aloadN H 1 d_j38_18_0 rfl rfl rfl ?_
  refine r_getf H 4 d_j38_18_1 (tw60 hw) Via.refl F_elementData_a1 rfl ?_
  refine r_iloadN H 5 d_j38_18_4 rfl rfl ?_
  refine r_aaload H 6 (.ref a5) d_j38_18_5 A_a2 rfl (by decide) rfl rfl ?_
  exact r_areturn H rfl rfl d_j38_18_6 (by decide) (by decide) (Nat.le_refl _) (fun _ t => t) (⟨rfl, rfl⟩)
def Q_get_51 (Z : State) (a5 : Addr) (h0 : Heap) (v : Option Value) (h : Heap) : Prop := v = some (.ref a5) ∧ h0 = h
def R_get_51 : Room := { frames := 2, cells := 0, slots := 0, locals := 27 }
theorem rm_get_51 {w : Bool} {Z : State} {a0 : Array Value} (hw : ∀ d ∈ tables_1, d.before a0 Z = true) (Ts : List String) (a1 : Addr) (a2 : Addr) (a3 : Addr) (a4 : Addr) (a5 : Addr) (c1 : ClassId) (h0 : Heap) (f : Nat) (Zf : Z.heap.size ≤ f) (Z0 : f ≤ h0.size) (F_size_a1 : Fld Z h0 a1 "java/util/ArrayList" "size" "I" (.int (3 : Int32))) (E_a1 : Exa Z h0 a1 "java/util/ArrayList") (F_elementData_a1 : Fld Z h0 a1 "java/util/ArrayList" "elementData" "[Ljava/lang/Object;" (.ref a2)) (A_a2 : Ar Z h0 a2 c1 (.object "java/lang/Object") [(.ref a3), (.ref a4), (.ref a5), .null, .null, .null, .null, .null, .null, .null]) :
    Con w [] Z (⟨"java/util/ArrayList", "get", "(I)Ljava/lang/Object;"⟩ : MethodName) jdk_38_method_20_code 2 (some (.object "java/lang/Object")) R_get_51 Ts Ts f #[(.ref a1), (.int (2 : Int32))] h0 (Q_get_51 Z a5 h0) := by
  refine con_of f #[.val (.ref a1), .val (.int (2 : Int32))] (plainFor_of_name pn_5) (fun m => by first | rfl | (simp [entryFrame, mkF, argsToLocals, Value.category]; done)) Zf ?_
  intro C H hX0
  refine r_iloadN H 1 d_j38_20_0 rfl rfl ?_
  refine r_aloadN H 2 d_j38_20_1 rfl rfl rfl ?_
  refine r_getf H 5 d_j38_20_2 (tw112 hw) Via.refl F_size_a1 rfl ?_
  refine r_static H 8 d_j38_20_5 (tw154 hw) (tw155 hw) (tw156 hw) (tw157 hw) (by decide) (lenOf pd_9 rfl) (rm_checkIndex_52 hw Ts h0 f Zf Z0) (argsL := [(.int (2 : Int32)), (.int (3 : Int32))]) (rest := []) rfl (W := 0) (Nat.le_of_eq rfl) rfl (by decide) (by decide) (by decide) (by decide) (Nat.le_refl _) rfl ?_
  rintro _ _ ⟨rfl, rfl⟩
  refine r_pop H 9 d_j38_20_8 rfl rfl ?_
  refine r_aloadN H 10 d_j38_20_9 rfl rfl rfl ?_
  refine r_iloadN H 11 d_j38_20_10 rfl rfl ?_
  refine r_virtual H 14 (z := (⟨"java/util/ArrayList", "elementData", "(I)Ljava/lang/Object;"⟩ : MethodName)) (a := a1) d_j38_20_11 (tw162 hw) (tw163 hw) (nf_sel (tw165 hw)) (tw165 hw) (tw164 hw) (tw40 hw) (tw166 hw) (by decide) E_a1 (lenOf pd_16 rfl) (rm_elementData_54 hw Ts a1 a2 a3 a4 a5 c1 h0 f Zf Z0 F_elementData_a1 A_a2) (argsL := [(.int (2 : Int32))]) (rest := []) rfl (W := 0) (Nat.le_of_eq rfl) rfl (by decide) (by decide) (by decide) (by decide) (Nat.le_refl _) rfl ?_
  rintro _ _ ⟨rfl, rfl⟩
  exact r_areturn H rfl rfl d_j38_20_14 (by decide) (by decide) (Nat.le_refl _) (fun _ t => t) (⟨rfl, rfl⟩)
def Q_resource_50 (Z : State) (a13 : Addr) (h0 : Heap) (v : Option Value) (h : Heap) : Prop := v = some (.ref a13) ∧ h0 = h
def R_resource_50 : Room := { frames := 3, cells := 0, slots := 0, locals := 40 }
theorem rm_resource_50 {w : Bool} {Z : State} {a0 : Array Value} (hw : ∀ d ∈ tables_1, d.before a0 Z = true) (Ts : List String) (a1 : Addr) (a7 : Addr) (a9 : Addr) (a11 : Addr) (a12 : Addr) (a13 : Addr) (c4 : ClassId) (h0 : Heap) (f : Nat) (Zf : Z.heap.size ≤ f) (Z0 : f ≤ h0.size) (F_resources_a1 : Fld Z h0 a1 "com/example/steady_fixtures/steadyfixtures/load/TableRows" "resources" "Ljava/util/ArrayList;" (.ref a7)) (E_a7 : Exa Z h0 a7 "java/util/ArrayList") (F_size_a7 : Fld Z h0 a7 "java/util/ArrayList" "size" "I" (.int (3 : Int32))) (F_elementData_a7 : Fld Z h0 a7 "java/util/ArrayList" "elementData" "[Ljava/lang/Object;" (.ref a9)) (A_a9 : Ar Z h0 a9 c4 (.object "java/lang/Object") [(.ref a11), (.ref a12), (.ref a13), .null, .null, .null, .null, .null, .null, .null]) (E_a13 : Exa Z h0 a13 "java/lang/String") :
    Con w [] Z (⟨"com/example/steady_fixtures/steadyfixtures/load/TableRows", "resource", "(I)Ljava/lang/String;"⟩ : MethodName) prog_21_method_10_code 2 (some (.object "java/lang/String")) R_resource_50 Ts Ts f #[(.ref a1), (.int (2 : Int32))] h0 (Q_resource_50 Z a13 h0) := by
  refine con_of f #[.val (.ref a1), .val (.int (2 : Int32))] (plainFor_of_name pn_8) (fun m => by first | rfl | (simp [entryFrame, mkF, argsToLocals, Value.category]; done)) Zf ?_
  intro C H hX0
  refine r_aloadN H 1 d_g21_10_0 rfl rfl rfl ?_
  refine r_getf H 4 d_g21_10_1 (tw94 hw) Via.refl F_resources_a1 rfl ?_
  refine r_iloadN H 5 d_g21_10_4 rfl rfl ?_
  refine r_virtual H 8 (z := (⟨"java/util/ArrayList", "get", "(I)Ljava/lang/Object;"⟩ : MethodName)) (a := a7) d_g21_10_5 (tw149 hw) (tw150 hw) (nf_sel (tw152 hw)) (tw152 hw) (tw151 hw) (tw40 hw) (tw153 hw) (by decide) E_a7 (lenOf pd_16 rfl) (rm_get_51 hw Ts a7 a9 a11 a12 a13 c4 h0 f Zf Z0 F_size_a7 E_a7 F_elementData_a7 A_a9) (argsL := [(.int (2 : Int32))]) (rest := []) rfl (W := 0) (Nat.le_of_eq rfl) rfl (by decide) (by decide) (by decide) (by decide) (Nat.le_refl _) rfl ?_
  rintro _ _ ⟨rfl, rfl⟩
  refine r_castY H 11 d_g21_10_8 (tw84 hw) (Ins.self E_a13) rfl ?_
  exact r_areturn H rfl rfl d_g21_10_11 (by decide) (by decide) (Nat.le_refl _) (fun _ t => t) (⟨rfl, rfl⟩)
set_option maxRecDepth 65536 in
set_option maxHeartbeats 40000000 in
theorem rm_law {Z : State} {a0 : Array Value} (hw : ∀ d ∈ tables_1, d.before a0 Z = true) (Ts : List String) (hTs : Ts = []) (x0 : Int32) (x1 : Int32) (x2 : Int32) (x3 : Int32) (cs : Int32) (ed0 : Addr) (kced : ClassId) (h0 : Heap) (f : Nat) (Zf : Z.heap.size ≤ f) (Z0 : f ≤ h0.size) (S_cs : Sta Z Z.heap "java/lang/String" "COMPACT_STRINGS" "Z" (.int cs)) (S_ed : Sta Z Z.heap "java/util/ArrayList" "DEFAULTCAPACITY_EMPTY_ELEMENTDATA" "[Ljava/lang/Object;" (.ref ed0)) (A_ed0 : Ar Z Z.heap ed0 kced (.object "java/lang/Object") []) (hcs : ¬ cs = 0) :
    Con false tables_1 Z x code maxLocals ret room_1 Ts Ts f #[(.int x0), (.int x1), (.int x2), (.int x3)] h0 (fun v _ => v = some (.int 1)) := by
  refine con_of f #[.val (.int x0), .val (.int x1), .val (.int x2), .val (.int x3), .unset, .unset, .unset, .unset, .unset, .unset, .unset, .unset] (plainFor_of_name pn_2) (fun m => by first | rfl | (simp [entryFrame, mkF, argsToLocals, Value.category, maxLocals]; done)) Zf ?_
  intro C H hX0
  refine r_iloadN H 1 at_0 rfl rfl ?_
  refine r_static H 4 at_1 (tw0 hw) (tw1 hw) (tw2 hw) (tw3 hw) (by decide) (lenOf pd_5 rfl) (rm_str_1 hw Ts x0 cs h0 f Zf Z0 S_cs hcs) (argsL := [(.int x0)]) (rest := []) rfl (W := 0) (Nat.le_of_eq rfl) rfl (by decide) (by decide) (by decide) (by decide) (Nat.le_refl _) rfl ?_
  rintro _ hh13 ⟨b1, b2, kc3, rfl, K4, g5, g6, g7, q8, q9, q10, q11, q12⟩
  refine r_astore H 6 #[.val (.int x0), .val (.int x1), .val (.int x2), .val (.int x3), .val (.ref b1), .unset, .unset, .unset, .unset, .unset, .unset, .unset] at_4 rfl rfl rfl ?_
  refine r_iloadN H 7 at_6 rfl rfl ?_
  refine r_static H 10 at_7 (tw0 hw) (tw1 hw) (tw2 hw) (tw3 hw) (by decide) (lenOf pd_5 rfl) (rm_str_1 hw Ts x1 cs hh13 f Zf (Nat.le_trans Z0 K4.1) S_cs hcs) (argsL := [(.int x1)]) (rest := []) rfl (W := 0) (Nat.le_of_eq rfl) rfl (by decide) (by decide) (by decide) (by decide) (Nat.le_refl _) rfl ?_
  rintro _ hh26 ⟨b14, b15, kc16, rfl, K17, g18, g19, g20, q21, q22, q23, q24, q25⟩
  refine r_astore H 12 #[.val (.int x0), .val (.int x1), .val (.int x2), .val (.int x3), .val (.ref b1), .val (.ref b14), .unset, .unset, .unset, .unset, .unset, .unset] at_10 rfl rfl rfl ?_
  refine r_iloadN H 13 at_12 rfl rfl ?_
  refine r_static H 16 at_13 (tw0 hw) (tw1 hw) (tw2 hw) (tw3 hw) (by decide) (lenOf pd_5 rfl) (rm_str_1 hw Ts x2 cs hh26 f Zf (Nat.le_trans Z0 (Nat.le_trans K4.1 K17.1)) S_cs hcs) (argsL := [(.int x2)]) (rest := []) rfl (W := 0) (Nat.le_of_eq rfl) rfl (by decide) (by decide) (by decide) (by decide) (Nat.le_refl _) rfl ?_
  rintro _ hh39 ⟨b27, b28, kc29, rfl, K30, g31, g32, g33, q34, q35, q36, q37, q38⟩
  refine r_astore H 18 #[.val (.int x0), .val (.int x1), .val (.int x2), .val (.int x3), .val (.ref b1), .val (.ref b14), .val (.ref b27), .unset, .unset, .unset, .unset, .unset] at_16 rfl rfl rfl ?_
  refine r_iconst H 19 (0 : Int32) at_18 (by decide) rfl ?_
  refine r_newR H 22 "[Ljava/lang/String;" 0 at_19 (tw5 hw) (tw34 hw) rfl (by decide) (by decide) (by decide) (by decide) (by decide) rfl ?_
  intro h40 b40 kc40 g40 l40 K40 E40 O40 A40
  change Ar Z h40 b40 kc40 (.object "java/lang/String") [] at A40
  refine r_astore H 24 #[.val (.int x0), .val (.int x1), .val (.int x2), .val (.int x3), .val (.ref b1), .val (.ref b14), .val (.ref b27), .val (.ref b40), .unset, .unset, .unset, .unset] at_22 rfl rfl rfl ?_
  refine r_iconst H 25 (1 : Int32) at_24 (by decide) rfl ?_
  refine r_newR H 28 "[Ljava/lang/String;" 1 at_25 (tw5 hw) (tw34 hw) rfl (by decide) (by decide) (by decide) (by decide) (by decide) rfl ?_
  intro h41 b41 kc41 g41 l41 K41 E41 O41 A41
  change Ar Z h41 b41 kc41 (.object "java/lang/String") [.null] at A41
  refine r_astore H 30 #[.val (.int x0), .val (.int x1), .val (.int x2), .val (.int x3), .val (.ref b1), .val (.ref b14), .val (.ref b27), .val (.ref b40), .val (.ref b41), .unset, .unset, .unset] at_28 rfl rfl rfl ?_
  refine r_iconst H 31 (2 : Int32) at_30 (by decide) rfl ?_
  refine r_newR H 34 "[Ljava/lang/String;" 2 at_31 (tw5 hw) (tw34 hw) rfl (by decide) (by decide) (by decide) (by decide) (by decide) rfl ?_
  intro h42 b42 kc42 g42 l42 K42 E42 O42 A42
  change Ar Z h42 b42 kc42 (.object "java/lang/String") [.null, .null] at A42
  refine r_astore H 36 #[.val (.int x0), .val (.int x1), .val (.int x2), .val (.int x3), .val (.ref b1), .val (.ref b14), .val (.ref b27), .val (.ref b40), .val (.ref b41), .val (.ref b42), .unset, .unset] at_34 rfl rfl rfl ?_
  refine r_new H 39 at_36 (tw35 hw) (tw36 hw) (tw37 hw) (by decide) (by decide) rfl ?_
  intro h43 b43 g43 l43 K43 E43 D43
  refine r_dup H 40 at_39 rfl rfl ?_
  refine r_null H 41 at_40 rfl ?_
  refine r_new H 44 at_41 (tw38 hw) (tw39 hw) (tw40 hw) (by decide) (by decide) rfl ?_
  intro h44 b44 g44 l44 K44 E44 D44
  refine r_dup H 45 at_44 rfl rfl ?_
  refine r_special H 48 (a := b44) at_45 (tw41 hw) (tw42 hw) (tw40 hw) (tw43 hw) (by decide) rfl (lenOf pd_6 rfl) (rm_init_7 hw Ts b44 ed0 h44 f Zf (Nat.le_trans Z0 (Nat.le_trans (Nat.le_trans (Nat.le_trans (Nat.le_trans (Nat.le_trans (Nat.le_trans (Nat.le_trans K4.1 K17.1) K30.1) K40.1) K41.1) K42.1) K43.1) K44.1)) (Nat.le_trans (Nat.le_trans Z0 (Nat.le_trans (Nat.le_trans (Nat.le_trans (Nat.le_trans (Nat.le_trans (Nat.le_trans K4.1 K17.1) K30.1) K40.1) K41.1) K42.1) K43.1)) (Nat.le_of_eq g44.symm)) E44 (show Fld Z h44 b44 "java/util/AbstractList" "modCount" "I" (.int (0 : Int32)) from D44 (Or.inl (tw58 hw)) (ty := .int) (by decide)) (show Fld Z h44 b44 "java/util/ArrayList" "elementData" "[Ljava/lang/Object;" .null from D44 (Or.inl (tw61 hw)) (ty := (.array (.object "java/lang/Object"))) (by decide)) (show Fld Z h44 b44 "java/util/ArrayList" "size" "I" (.int (0 : Int32)) from D44 (Or.inl (tw113 hw)) (ty := .int) (by decide)) S_ed) (argsL := []) (rest := [(.ref b44), .null, (.ref b43), (.ref b43)]) rfl (W := 4) (Nat.le_of_eq rfl) rfl (by decide) (by decide) (by decide) (by decide) (Nat.le_refl _) rfl ?_
  rintro _ hh50 ⟨rfl, K45, q46, q47, q48, q49⟩
  have q51 := ((E43.keep K44).keep K45)
  have q52 := (((show Fld Z h43 b43 "com/example/steady_fixtures/steadyfixtures/load/TableRows" "positionOf" "Ljava/util/Map;" .null from D43 (Or.inr (tw83 hw)) (ty := (.object "java/util/Map")) (by decide)).keep K44 nin0).keep K45 (ninS (Nat.ne_of_lt (Nat.lt_of_lt_of_le E43.lt (Nat.le_trans (Nat.le_refl _) (Nat.le_of_eq g44.symm)))) nin0))
  have q53 := (((show Fld Z h43 b43 "com/example/steady_fixtures/steadyfixtures/load/TableRows" "lastAttributes" "[Ljava/lang/String;" .null from D43 (Or.inl (tw86 hw)) (ty := (.array (.object "java/lang/String"))) (by decide)).keep K44 nin0).keep K45 (ninS (Nat.ne_of_lt (Nat.lt_of_lt_of_le E43.lt (Nat.le_trans (Nat.le_refl _) (Nat.le_of_eq g44.symm)))) nin0))
  have q54 := (((show Fld Z h43 b43 "com/example/steady_fixtures/steadyfixtures/load/TableRows" "lastPositions" "[I" .null from D43 (Or.inl (tw89 hw)) (ty := (.array .int)) (by decide)).keep K44 nin0).keep K45 (ninS (Nat.ne_of_lt (Nat.lt_of_lt_of_le E43.lt (Nat.le_trans (Nat.le_refl _) (Nat.le_of_eq g44.symm)))) nin0))
  have q55 := (((show Fld Z h43 b43 "com/example/steady_fixtures/steadyfixtures/load/TableRows" "rows" "Ljava/util/ArrayList;" .null from D43 (Or.inr (tw93 hw)) (ty := (.object "java/util/ArrayList")) (by decide)).keep K44 nin0).keep K45 (ninS (Nat.ne_of_lt (Nat.lt_of_lt_of_le E43.lt (Nat.le_trans (Nat.le_refl _) (Nat.le_of_eq g44.symm)))) nin0))
  have q56 := (((show Fld Z h43 b43 "com/example/steady_fixtures/steadyfixtures/load/TableRows" "resources" "Ljava/util/ArrayList;" .null from D43 (Or.inr (tw95 hw)) (ty := (.object "java/util/ArrayList")) (by decide)).keep K44 nin0).keep K45 (ninS (Nat.ne_of_lt (Nat.lt_of_lt_of_le E43.lt (Nat.le_trans (Nat.le_refl _) (Nat.le_of_eq g44.symm)))) nin0))
  have q57 := (((show Fld Z h43 b43 "com/example/steady_fixtures/steadyfixtures/load/TableRows" "lines" "[I" .null from D43 (Or.inl (tw97 hw)) (ty := (.array .int)) (by decide)).keep K44 nin0).keep K45 (ninS (Nat.ne_of_lt (Nat.lt_of_lt_of_le E43.lt (Nat.le_trans (Nat.le_refl _) (Nat.le_of_eq g44.symm)))) nin0))
  have q58 := (((show Fld Z h43 b43 "com/example/steady_fixtures/steadyfixtures/load/TableRows" "table" "Lcom/example/steady_fixtures/steadyfixtures/schema/Table;" .null from D43 (Or.inr (tw99 hw)) (ty := (.object "com/example/steady_fixtures/steadyfixtures/schema/Table")) (by decide)).keep K44 nin0).keep K45 (ninS (Nat.ne_of_lt (Nat.lt_of_lt_of_le E43.lt (Nat.le_trans (Nat.le_refl _) (Nat.le_of_eq g44.symm)))) nin0))
  have q59 := (((show Fld Z h43 b43 "com/example/steady_fixtures/steadyfixtures/load/TableRows" "columns" "Ljava/util/List;" .null from D43 (Or.inr (tw101 hw)) (ty := (.object "java/util/List")) (by decide)).keep K44 nin0).keep K45 (ninS (Nat.ne_of_lt (Nat.lt_of_lt_of_le E43.lt (Nat.le_trans (Nat.le_refl _) (Nat.le_of_eq g44.symm)))) nin0))
  refine r_special H 51 (a := b43) at_48 (tw62 hw) (tw63 hw) (tw37 hw) (tw64 hw) (by decide) rfl (lenOf pd_7 rfl) (rm_init_10 hw Ts b43 b44 ed0 hh50 f Zf (Nat.le_trans Z0 (Nat.le_trans (Nat.le_trans (Nat.le_trans (Nat.le_trans (Nat.le_trans (Nat.le_trans (Nat.le_trans (Nat.le_trans K4.1 K17.1) K30.1) K40.1) K41.1) K42.1) K43.1) K44.1) K45.1)) q51 q52 (Nat.le_trans (Nat.le_trans Z0 (Nat.le_trans (Nat.le_trans (Nat.le_trans (Nat.le_trans (Nat.le_trans K4.1 K17.1) K30.1) K40.1) K41.1) K42.1)) (Nat.le_of_eq g43.symm)) q53 q54 q55 q56 q57 q58 q59 S_ed) (argsL := [.null, (.ref b44)]) (rest := [(.ref b43)]) rfl (W := 1) (Nat.le_of_eq rfl) rfl (by decide) (by decide) (by decide) (by decide) (Nat.le_refl _) rfl ?_
  rintro _ hh107 ⟨b60, b61, b62, b63, b64, b65, kc66, kc67, kc68, rfl, K69, g70, g71, g72, g73, g74, g75, g76, g77, g78, g79, g80, q81, q82, q83, q84, q85, q86, q87, q88, q89, q90, q91, q92, q93, q94, q95, q96, q97, q98, q99, q100, q101, q102, q103, q104, q105, q106⟩
  refine r_astore H 53 #[.val (.int x0), .val (.int x1), .val (.int x2), .val (.int x3), .val (.ref b1), .val (.ref b14), .val (.ref b27), .val (.ref b40), .val (.ref b41), .val (.ref b42), .val (.ref b43), .unset] at_51 rfl rfl rfl ?_
  refine r_aload H 55 at_53 rfl rfl rfl ?_
  refine r_aload H 57 at_55 rfl rfl rfl ?_
  refine r_aload H 59 at_57 rfl rfl rfl ?_
  refine r_iloadN H 60 at_59 rfl rfl ?_
  have q108 := ((((((E40.keep K41).keep K42).keep K43).keep K44).keep K45).keep K69)
  have q109 := (((((((((q8.keep K17).keep K30).keep K40).keep K41).keep K42).keep K43).keep K44).keep K45).keep K69)
  refine r_virtual H 63 (z := (⟨"com/example/steady_fixtures/steadyfixtures/load/TableRows", "add", "([Ljava/lang/String;Ljava/lang/String;I)V"⟩ : MethodName)) (a := b43) at_60 (tw102 hw) (tw103 hw) (nf_sel (tw105 hw)) (tw105 hw) (tw104 hw) (tw37 hw) (tw106 hw) (by decide) q81 (lenOf pd_14 rfl) (rm_add_13 hw Ts b43 b40 b1 b65 b64 b63 x3 kc68 ed0 kced hh107 f Zf (Nat.le_trans Z0 (Nat.le_trans (Nat.le_trans (Nat.le_trans (Nat.le_trans (Nat.le_trans (Nat.le_trans (Nat.le_trans (Nat.le_trans (Nat.le_trans K4.1 K17.1) K30.1) K40.1) K41.1) K42.1) K43.1) K44.1) K45.1) K69.1)) q88 q96 q99 q85 q104 (Nat.le_trans (Nat.le_trans Z0 (Nat.le_trans (Nat.le_trans (Nat.le_trans (Nat.le_trans (Nat.le_trans (Nat.le_trans (Nat.le_trans (Nat.le_trans K4.1 K17.1) K30.1) K40.1) K41.1) K42.1) K43.1) K44.1) K45.1)) g75) q105 q81 (Nat.le_trans (Nat.le_trans Z0 (Nat.le_trans (Nat.le_trans (Nat.le_trans (Nat.le_trans (Nat.le_trans (Nat.le_trans (Nat.le_trans (Nat.le_trans K4.1 K17.1) K30.1) K40.1) K41.1) K42.1) K43.1) K44.1) K45.1)) g73) q97 q98 q108 q87 q100 (Nat.le_trans (Nat.le_trans Z0 (Nat.le_trans (Nat.le_trans (Nat.le_trans (Nat.le_trans (Nat.le_trans (Nat.le_trans (Nat.le_trans (Nat.le_trans K4.1 K17.1) K30.1) K40.1) K41.1) K42.1) K43.1) K44.1) K45.1)) g74) q101 (Ne.symm (Nat.ne_of_lt g79)) q102 q103 q109 (Nat.ne_of_lt g79) A_ed0 S_ed) (argsL := [(.ref b40), (.ref b1), (.int x3)]) (rest := []) rfl (W := 0) (Nat.le_of_eq rfl) rfl (by decide) (by decide) (by decide) (by decide) (Nat.le_refl _) rfl ?_
  rintro _ hh134 ⟨b110, b111, kc112, kc113, rfl, K114, g115, g116, g117, q118, q119, q120, q121, q122, q123, q124, q125, q126, q127, q128, q129, q130, q131, q132, q133⟩
  refine r_aload H 65 at_63 rfl rfl rfl ?_
  refine r_aload H 67 at_65 rfl rfl rfl ?_
  refine r_iconst H 68 (0 : Int32) at_67 (by decide) rfl ?_
  have q135 := (q87.keep K114 (ninS (Nat.ne_of_lt (Nat.lt_of_lt_of_le E43.lt (Nat.le_trans (Nat.le_trans K44.1 K45.1) g73))) (ninS (Nat.ne_of_lt (Nat.lt_of_lt_of_le E43.lt (Nat.le_trans (Nat.le_trans K44.1 K45.1) g75))) (ninS (Nat.ne_of_lt (Nat.lt_of_lt_of_le E43.lt (Nat.le_trans (Nat.le_trans K44.1 K45.1) g74))) nin0))))
  have q136 := (q109.keep K114)
  have q137 := (q81.keep K114)
  refine r_virtual H 71 (z := (⟨"com/example/steady_fixtures/steadyfixtures/load/TableRows", "resource", "(I)Ljava/lang/String;"⟩ : MethodName)) (a := b43) at_68 (tw144 hw) (tw145 hw) (nf_sel (tw147 hw)) (tw147 hw) (tw146 hw) (tw37 hw) (tw148 hw) (by decide) q137 (lenOf pd_5 rfl) (rm_resource_22 hw Ts b43 b64 b111 b1 kc113 hh134 f Zf (Nat.le_trans Z0 (Nat.le_trans (Nat.le_trans (Nat.le_trans (Nat.le_trans (Nat.le_trans (Nat.le_trans (Nat.le_trans (Nat.le_trans (Nat.le_trans (Nat.le_trans K4.1 K17.1) K30.1) K40.1) K41.1) K42.1) K43.1) K44.1) K45.1) K69.1) K114.1)) q135 q124 q127 q126 q130 q136) (argsL := [(.int (0 : Int32))]) (rest := [(.ref b1)]) rfl (W := 1) (Nat.le_of_eq rfl) rfl (by decide) (by decide) (by decide) (by decide) (Nat.le_refl _) rfl ?_
  rintro _ _ ⟨rfl, rfl⟩
  refine r_virtual H 74 (z := (⟨"java/lang/String", "equals", "(Ljava/lang/Object;)Z"⟩ : MethodName)) (a := b1) at_71 (tw167 hw) (tw168 hw) (nf_sel (tw170 hw)) (tw170 hw) (tw169 hw) (tw7 hw) (tw171 hw) (by decide) q136 (lenOf pd_13 rfl) (rm_equals_27 hw Ts b1 hh134 f Zf (Nat.le_trans Z0 (Nat.le_trans (Nat.le_trans (Nat.le_trans (Nat.le_trans (Nat.le_trans (Nat.le_trans (Nat.le_trans (Nat.le_trans (Nat.le_trans (Nat.le_trans K4.1 K17.1) K30.1) K40.1) K41.1) K42.1) K43.1) K44.1) K45.1) K69.1) K114.1))) (argsL := [(.ref b1)]) (rest := []) rfl (W := 0) (Nat.le_of_eq rfl) rfl (by decide) (by decide) (by decide) (by decide) (Nat.le_refl _) rfl ?_
  rintro _ _ ⟨rfl, rfl⟩
  refine r_istore H 76 #[.val (.int x0), .val (.int x1), .val (.int x2), .val (.int x3), .val (.ref b1), .val (.ref b14), .val (.ref b27), .val (.ref b40), .val (.ref b41), .val (.ref b42), .val (.ref b43), .val (.int (1 : Int32))] at_74 rfl rfl ?_
  refine r_aload H 78 at_76 rfl rfl rfl ?_
  refine r_aload H 80 at_78 rfl rfl rfl ?_
  refine r_aload H 82 at_80 rfl rfl rfl ?_
  refine r_iloadN H 83 at_82 rfl rfl ?_
  refine r_iconst H 84 (1 : Int32) at_83 (by decide) rfl ?_
  refine r_ixor H 85 (x3 ^^^ (1 : Int32)) at_84 rfl rfl ?_
  have q140 := (q88.keep K114 (ninS (Nat.ne_of_lt (Nat.lt_of_lt_of_le E43.lt (Nat.le_trans (Nat.le_trans K44.1 K45.1) g73))) (ninS (Nat.ne_of_lt (Nat.lt_of_lt_of_le E43.lt (Nat.le_trans (Nat.le_trans K44.1 K45.1) g75))) (ninS (Nat.ne_of_lt (Nat.lt_of_lt_of_le E43.lt (Nat.le_trans (Nat.le_trans K44.1 K45.1) g74))) nin0))))
  have q141 := (q85.keep K114 (ninS (Nat.ne_of_lt (Nat.lt_of_lt_of_le E43.lt (Nat.le_trans (Nat.le_trans K44.1 K45.1) g73))) (ninS (Nat.ne_of_lt (Nat.lt_of_lt_of_le E43.lt (Nat.le_trans (Nat.le_trans K44.1 K45.1) g75))) (ninS (Nat.ne_of_lt (Nat.lt_of_lt_of_le E43.lt (Nat.le_trans (Nat.le_trans K44.1 K45.1) g74))) nin0))))
  have q142 := ((((((E41.keep K42).keep K43).keep K44).keep K45).keep K69).keep K114)
  have q143 := (((((((((q21.keep K30).keep K40).keep K41).keep K42).keep K43).keep K44).keep K45).keep K69).keep K114)
  refine r_virtual H 88 (z := (⟨"com/example/steady_fixtures/steadyfixtures/load/TableRows", "add", "([Ljava/lang/String;Ljava/lang/String;I)V"⟩ : MethodName)) (a := b43) at_85 (tw102 hw) (tw103 hw) (nf_sel (tw105 hw)) (tw105 hw) (tw104 hw) (tw37 hw) (tw106 hw) (by decide) q137 (lenOf pd_14 rfl) (rm_add_28 hw Ts b43 b41 b14 b65 b64 b63 b111 b110 b1 b40 (x3 ^^^ (1 : Int32)) x3 kc68 kc113 kc112 hh134 f Zf (Nat.le_trans Z0 (Nat.le_trans (Nat.le_trans (Nat.le_trans (Nat.le_trans (Nat.le_trans (Nat.le_trans (Nat.le_trans (Nat.le_trans (Nat.le_trans (Nat.le_trans K4.1 K17.1) K30.1) K40.1) K41.1) K42.1) K43.1) K44.1) K45.1) K69.1) K114.1)) q140 q118 q121 q141 q122 (Nat.le_trans (Nat.le_trans Z0 (Nat.le_trans (Nat.le_trans (Nat.le_trans (Nat.le_trans (Nat.le_trans (Nat.le_trans (Nat.le_trans (Nat.le_trans K4.1 K17.1) K30.1) K40.1) K41.1) K42.1) K43.1) K44.1) K45.1)) g75) q123 q137 (Nat.le_trans (Nat.le_trans Z0 (Nat.le_trans (Nat.le_trans (Nat.le_trans (Nat.le_trans (Nat.le_trans (Nat.le_trans (Nat.le_trans (Nat.le_trans K4.1 K17.1) K30.1) K40.1) K41.1) K42.1) K43.1) K44.1) K45.1)) g73) (Nat.le_trans (Nat.le_trans Z0 (Nat.le_trans (Nat.le_trans (Nat.le_trans (Nat.le_trans (Nat.le_trans (Nat.le_trans (Nat.le_trans (Nat.le_trans (Nat.le_trans K4.1 K17.1) K30.1) K40.1) K41.1) K42.1) K43.1) K44.1) K45.1) K69.1)) g115) q119 q120 q128 q129 q132 q142 q135 q124 (Nat.le_trans (Nat.le_trans Z0 (Nat.le_trans (Nat.le_trans (Nat.le_trans (Nat.le_trans (Nat.le_trans (Nat.le_trans (Nat.le_trans (Nat.le_trans K4.1 K17.1) K30.1) K40.1) K41.1) K42.1) K43.1) K44.1) K45.1)) g74) (Nat.le_trans (Nat.le_trans Z0 (Nat.le_trans (Nat.le_trans (Nat.le_trans (Nat.le_trans (Nat.le_trans (Nat.le_trans (Nat.le_trans (Nat.le_trans (Nat.le_trans K4.1 K17.1) K30.1) K40.1) K41.1) K42.1) K43.1) K44.1) K45.1) K69.1)) g116) q125 (Ne.symm (Nat.ne_of_lt g79)) q126 q127 q130 q131 (Ne.symm (Nat.ne_of_lt g117)) q133 q143 (Nat.ne_of_lt g79) (Nat.ne_of_lt g117)) (argsL := [(.ref b41), (.ref b14), (.int (x3 ^^^ (1 : Int32)))]) (rest := []) rfl (W := 0) (Nat.le_of_eq rfl) rfl (by decide) (by decide) (by decide) (by decide) (Nat.le_refl _) rfl ?_
  rintro _ hh159 ⟨rfl, K144, q145, q146, q147, q148, q149, q150, q151, q152, q153, q154, q155, q156, q157, q158⟩
  refine r_aload H 90 at_88 rfl rfl rfl ?_
  refine r_aload H 92 at_90 rfl rfl rfl ?_
  refine r_aload H 94 at_92 rfl rfl rfl ?_
  refine r_iloadN H 95 at_94 rfl rfl ?_
  refine r_iconst H 96 (2 : Int32) at_95 (by decide) rfl ?_
  refine r_ixor H 97 (x3 ^^^ (2 : Int32)) at_96 rfl rfl ?_
  have q160 := (q140.keep K144 (ninS (Nat.ne_of_lt (Nat.lt_of_lt_of_le E43.lt (Nat.le_trans (Nat.le_trans K44.1 K45.1) g73))) (ninS (Nat.ne_of_lt (Nat.lt_of_lt_of_le E43.lt (Nat.le_trans (Nat.le_trans (Nat.le_trans K44.1 K45.1) K69.1) g116))) (ninS (Nat.ne_of_lt (Nat.lt_of_lt_of_le E43.lt (Nat.le_trans (Nat.le_trans (Nat.le_trans K44.1 K45.1) K69.1) g115))) (ninS (Nat.ne_of_lt (Nat.lt_of_lt_of_le E43.lt (Nat.le_trans (Nat.le_trans K44.1 K45.1) g75))) (ninS (Nat.ne_of_lt (Nat.lt_of_lt_of_le E43.lt (Nat.le_trans (Nat.le_trans K44.1 K45.1) g74))) nin0))))))
  have q161 := (q141.keep K144 (ninS (Nat.ne_of_lt (Nat.lt_of_lt_of_le E43.lt (Nat.le_trans (Nat.le_trans K44.1 K45.1) g73))) (ninS (Nat.ne_of_lt (Nat.lt_of_lt_of_le E43.lt (Nat.le_trans (Nat.le_trans (Nat.le_trans K44.1 K45.1) K69.1) g116))) (ninS (Nat.ne_of_lt (Nat.lt_of_lt_of_le E43.lt (Nat.le_trans (Nat.le_trans (Nat.le_trans K44.1 K45.1) K69.1) g115))) (ninS (Nat.ne_of_lt (Nat.lt_of_lt_of_le E43.lt (Nat.le_trans (Nat.le_trans K44.1 K45.1) g75))) (ninS (Nat.ne_of_lt (Nat.lt_of_lt_of_le E43.lt (Nat.le_trans (Nat.le_trans K44.1 K45.1) g74))) nin0))))))
  have q162 := (q137.keep K144)
  have q163 := ((((((E42.keep K43).keep K44).keep K45).keep K69).keep K114).keep K144)
  have q164 := (q135.keep K144 (ninS (Nat.ne_of_lt (Nat.lt_of_lt_of_le E43.lt (Nat.le_trans (Nat.le_trans K44.1 K45.1) g73))) (ninS (Nat.ne_of_lt (Nat.lt_of_lt_of_le E43.lt (Nat.le_trans (Nat.le_trans (Nat.le_trans K44.1 K45.1) K69.1) g116))) (ninS (Nat.ne_of_lt (Nat.lt_of_lt_of_le E43.lt (Nat.le_trans (Nat.le_trans (Nat.le_trans K44.1 K45.1) K69.1) g115))) (ninS (Nat.ne_of_lt (Nat.lt_of_lt_of_le E43.lt (Nat.le_trans (Nat.le_trans K44.1 K45.1) g75))) (ninS (Nat.ne_of_lt (Nat.lt_of_lt_of_le E43.lt (Nat.le_trans (Nat.le_trans K44.1 K45.1) g74))) nin0))))))
  have q165 := (((((((((q34.keep K40).keep K41).keep K42).keep K43).keep K44).keep K45).keep K69).keep K114).keep K144)
  refine r_virtual H 100 (z := (⟨"com/example/steady_fixtures/steadyfixtures/load/TableRows", "add", "([Ljava/lang/String;Ljava/lang/String;I)V"⟩ : MethodName)) (a := b43) at_97 (tw102 hw) (tw103 hw) (nf_sel (tw105 hw)) (tw105 hw) (tw104 hw) (tw37 hw) (tw106 hw) (by decide) q162 (lenOf pd_14 rfl) (rm_add_34 hw Ts b43 b42 b27 b65 b64 b63 b111 b110 b1 b14 b40 b41 (x3 ^^^ (2 : Int32)) x3 (x3 ^^^ (1 : Int32)) kc68 kc113 kc112 hh159 f Zf (Nat.le_trans Z0 (Nat.le_trans (Nat.le_trans (Nat.le_trans (Nat.le_trans (Nat.le_trans (Nat.le_trans (Nat.le_trans (Nat.le_trans (Nat.le_trans (Nat.le_trans (Nat.le_trans K4.1 K17.1) K30.1) K40.1) K41.1) K42.1) K43.1) K44.1) K45.1) K69.1) K114.1) K144.1)) q160 q145 q148 q161 q153 (Nat.le_trans (Nat.le_trans Z0 (Nat.le_trans (Nat.le_trans (Nat.le_trans (Nat.le_trans (Nat.le_trans (Nat.le_trans (Nat.le_trans (Nat.le_trans K4.1 K17.1) K30.1) K40.1) K41.1) K42.1) K43.1) K44.1) K45.1)) g75) q154 q162 (Nat.le_trans (Nat.le_trans Z0 (Nat.le_trans (Nat.le_trans (Nat.le_trans (Nat.le_trans (Nat.le_trans (Nat.le_trans (Nat.le_trans (Nat.le_trans K4.1 K17.1) K30.1) K40.1) K41.1) K42.1) K43.1) K44.1) K45.1)) g73) (Nat.le_trans (Nat.le_trans Z0 (Nat.le_trans (Nat.le_trans (Nat.le_trans (Nat.le_trans (Nat.le_trans (Nat.le_trans (Nat.le_trans (Nat.le_trans (Nat.le_trans K4.1 K17.1) K30.1) K40.1) K41.1) K42.1) K43.1) K44.1) K45.1) K69.1)) g115) q146 q147 q151 q152 q132 q163 q164 q155 (Nat.le_trans (Nat.le_trans Z0 (Nat.le_trans (Nat.le_trans (Nat.le_trans (Nat.le_trans (Nat.le_trans (Nat.le_trans (Nat.le_trans (Nat.le_trans K4.1 K17.1) K30.1) K40.1) K41.1) K42.1) K43.1) K44.1) K45.1)) g74) (Nat.le_trans (Nat.le_trans Z0 (Nat.le_trans (Nat.le_trans (Nat.le_trans (Nat.le_trans (Nat.le_trans (Nat.le_trans (Nat.le_trans (Nat.le_trans (Nat.le_trans K4.1 K17.1) K30.1) K40.1) K41.1) K42.1) K43.1) K44.1) K45.1) K69.1)) g116) q156 (Ne.symm (Nat.ne_of_lt g79)) q157 q158 q149 q150 (Ne.symm (Nat.ne_of_lt g117)) q133 q165 (Nat.ne_of_lt g79) (Nat.ne_of_lt g117)) (argsL := [(.ref b42), (.ref b27), (.int (x3 ^^^ (2 : Int32)))]) (rest := []) rfl (W := 0) (Nat.le_of_eq rfl) rfl (by decide) (by decide) (by decide) (by decide) (Nat.le_refl _) rfl ?_
  rintro _ hh181 ⟨rfl, K166, q167, q168, q169, q170, q171, q172, q173, q174, q175, q176, q177, q178, q179, q180⟩
  refine r_iload H 102 at_100 rfl rfl ?_
  refine r_ifeqF H 105 at_102 rfl (by decide) ?_
  refine r_aload H 107 at_105 rfl rfl rfl ?_
  refine r_aload H 109 at_107 rfl rfl rfl ?_
  refine r_iconst H 110 (0 : Int32) at_109 (by decide) rfl ?_
  have q182 := (q164.keep K166 (ninS (Nat.ne_of_lt (Nat.lt_of_lt_of_le E43.lt (Nat.le_trans (Nat.le_trans K44.1 K45.1) g73))) (ninS (Nat.ne_of_lt (Nat.lt_of_lt_of_le E43.lt (Nat.le_trans (Nat.le_trans (Nat.le_trans K44.1 K45.1) K69.1) g116))) (ninS (Nat.ne_of_lt (Nat.lt_of_lt_of_le E43.lt (Nat.le_trans (Nat.le_trans (Nat.le_trans K44.1 K45.1) K69.1) g115))) (ninS (Nat.ne_of_lt (Nat.lt_of_lt_of_le E43.lt (Nat.le_trans (Nat.le_trans K44.1 K45.1) g75))) (ninS (Nat.ne_of_lt (Nat.lt_of_lt_of_le E43.lt (Nat.le_trans (Nat.le_trans K44.1 K45.1) g74))) nin0))))))
  have q183 := ((q136.keep K144).keep K166)
  have q184 := (q162.keep K166)
  refine r_virtual H 113 (z := (⟨"com/example/steady_fixtures/steadyfixtures/load/TableRows", "resource", "(I)Ljava/lang/String;"⟩ : MethodName)) (a := b43) at_110 (tw144 hw) (tw145 hw) (nf_sel (tw147 hw)) (tw147 hw) (tw146 hw) (tw37 hw) (tw148 hw) (by decide) q184 (lenOf pd_5 rfl) (rm_resource_40 hw Ts b43 b64 b111 b1 b14 b27 kc113 hh181 f Zf (Nat.le_trans Z0 (Nat.le_trans (Nat.le_trans (Nat.le_trans (Nat.le_trans (Nat.le_trans (Nat.le_trans (Nat.le_trans (Nat.le_trans (Nat.le_trans (Nat.le_trans (Nat.le_trans (Nat.le_trans K4.1 K17.1) K30.1) K40.1) K41.1) K42.1) K43.1) K44.1) K45.1) K69.1) K114.1) K144.1) K166.1)) q182 q177 q180 q179 q171 q183) (argsL := [(.int (0 : Int32))]) (rest := [(.ref b1)]) rfl (W := 1) (Nat.le_of_eq rfl) rfl (by decide) (by decide) (by decide) (by decide) (Nat.le_refl _) rfl ?_
  rintro _ _ ⟨rfl, rfl⟩
  refine r_virtual H 116 (z := (⟨"java/lang/String", "equals", "(Ljava/lang/Object;)Z"⟩ : MethodName)) (a := b1) at_113 (tw167 hw) (tw168 hw) (nf_sel (tw170 hw)) (tw170 hw) (tw169 hw) (tw7 hw) (tw171 hw) (by decide) q183 (lenOf pd_13 rfl) (rm_equals_27 hw Ts b1 hh181 f Zf (Nat.le_trans Z0 (Nat.le_trans (Nat.le_trans (Nat.le_trans (Nat.le_trans (Nat.le_trans (Nat.le_trans (Nat.le_trans (Nat.le_trans (Nat.le_trans (Nat.le_trans (Nat.le_trans (Nat.le_trans K4.1 K17.1) K30.1) K40.1) K41.1) K42.1) K43.1) K44.1) K45.1) K69.1) K114.1) K144.1) K166.1))) (argsL := [(.ref b1)]) (rest := []) rfl (W := 0) (Nat.le_of_eq rfl) rfl (by decide) (by decide) (by decide) (by decide) (Nat.le_refl _) rfl ?_
  rintro _ _ ⟨rfl, rfl⟩
  refine r_ifeqF H 119 at_116 rfl (by decide) ?_
  refine r_iconst H 120 (1 : Int32) at_119 (by decide) rfl ?_
  refine r_goto H 124 at_120 (by decide) (by decide) ?_
  refine r_istore H 126 #[.val (.int x0), .val (.int x1), .val (.int x2), .val (.int x3), .val (.ref b1), .val (.ref b14), .val (.ref b27), .val (.ref b40), .val (.ref b41), .val (.ref b42), .val (.ref b43), .val (.int (1 : Int32))] at_124 rfl rfl ?_
  refine r_iload H 128 at_126 rfl rfl ?_
  refine r_ifeqF H 131 at_128 rfl (by decide) ?_
  refine r_aload H 133 at_131 rfl rfl rfl ?_
  refine r_aload H 135 at_133 rfl rfl rfl ?_
  refine r_iconst H 136 (1 : Int32) at_135 (by decide) rfl ?_
  have q187 := ((q143.keep K144).keep K166)
  refine r_virtual H 139 (z := (⟨"com/example/steady_fixtures/steadyfixtures/load/TableRows", "resource", "(I)Ljava/lang/String;"⟩ : MethodName)) (a := b43) at_136 (tw144 hw) (tw145 hw) (nf_sel (tw147 hw)) (tw147 hw) (tw146 hw) (tw37 hw) (tw148 hw) (by decide) q184 (lenOf pd_5 rfl) (rm_resource_45 hw Ts b43 b64 b111 b1 b14 b27 kc113 hh181 f Zf (Nat.le_trans Z0 (Nat.le_trans (Nat.le_trans (Nat.le_trans (Nat.le_trans (Nat.le_trans (Nat.le_trans (Nat.le_trans (Nat.le_trans (Nat.le_trans (Nat.le_trans (Nat.le_trans (Nat.le_trans K4.1 K17.1) K30.1) K40.1) K41.1) K42.1) K43.1) K44.1) K45.1) K69.1) K114.1) K144.1) K166.1)) q182 q177 q180 q179 q171 q187) (argsL := [(.int (1 : Int32))]) (rest := [(.ref b14)]) rfl (W := 1) (Nat.le_of_eq rfl) rfl (by decide) (by decide) (by decide) (by decide) (Nat.le_refl _) rfl ?_
  rintro _ _ ⟨rfl, rfl⟩
  refine r_virtual H 142 (z := (⟨"java/lang/String", "equals", "(Ljava/lang/Object;)Z"⟩ : MethodName)) (a := b14) at_139 (tw167 hw) (tw168 hw) (nf_sel (tw170 hw)) (tw170 hw) (tw169 hw) (tw7 hw) (tw171 hw) (by decide) q187 (lenOf pd_13 rfl) (rm_equals_27 hw Ts b14 hh181 f Zf (Nat.le_trans Z0 (Nat.le_trans (Nat.le_trans (Nat.le_trans (Nat.le_trans (Nat.le_trans (Nat.le_trans (Nat.le_trans (Nat.le_trans (Nat.le_trans (Nat.le_trans (Nat.le_trans (Nat.le_trans K4.1 K17.1) K30.1) K40.1) K41.1) K42.1) K43.1) K44.1) K45.1) K69.1) K114.1) K144.1) K166.1))) (argsL := [(.ref b14)]) (rest := []) rfl (W := 0) (Nat.le_of_eq rfl) rfl (by decide) (by decide) (by decide) (by decide) (Nat.le_refl _) rfl ?_
  rintro _ _ ⟨rfl, rfl⟩
  refine r_ifeqF H 145 at_142 rfl (by decide) ?_
  refine r_iconst H 146 (1 : Int32) at_145 (by decide) rfl ?_
  refine r_goto H 150 at_146 (by decide) (by decide) ?_
  refine r_istore H 152 #[.val (.int x0), .val (.int x1), .val (.int x2), .val (.int x3), .val (.ref b1), .val (.ref b14), .val (.ref b27), .val (.ref b40), .val (.ref b41), .val (.ref b42), .val (.ref b43), .val (.int (1 : Int32))] at_150 rfl rfl ?_
  refine r_iload H 154 at_152 rfl rfl ?_
  refine r_ifeqF H 157 at_154 rfl (by decide) ?_
  refine r_aload H 159 at_157 rfl rfl rfl ?_
  refine r_aload H 161 at_159 rfl rfl rfl ?_
  refine r_iconst H 162 (2 : Int32) at_161 (by decide) rfl ?_
  have q190 := (q165.keep K166)
  refine r_virtual H 165 (z := (⟨"com/example/steady_fixtures/steadyfixtures/load/TableRows", "resource", "(I)Ljava/lang/String;"⟩ : MethodName)) (a := b43) at_162 (tw144 hw) (tw145 hw) (nf_sel (tw147 hw)) (tw147 hw) (tw146 hw) (tw37 hw) (tw148 hw) (by decide) q184 (lenOf pd_5 rfl) (rm_resource_50 hw Ts b43 b64 b111 b1 b14 b27 kc113 hh181 f Zf (Nat.le_trans Z0 (Nat.le_trans (Nat.le_trans (Nat.le_trans (Nat.le_trans (Nat.le_trans (Nat.le_trans (Nat.le_trans (Nat.le_trans (Nat.le_trans (Nat.le_trans (Nat.le_trans (Nat.le_trans K4.1 K17.1) K30.1) K40.1) K41.1) K42.1) K43.1) K44.1) K45.1) K69.1) K114.1) K144.1) K166.1)) q182 q177 q180 q179 q171 q190) (argsL := [(.int (2 : Int32))]) (rest := [(.ref b27)]) rfl (W := 1) (Nat.le_of_eq rfl) rfl (by decide) (by decide) (by decide) (by decide) (Nat.le_refl _) rfl ?_
  rintro _ _ ⟨rfl, rfl⟩
  refine r_virtual H 168 (z := (⟨"java/lang/String", "equals", "(Ljava/lang/Object;)Z"⟩ : MethodName)) (a := b27) at_165 (tw167 hw) (tw168 hw) (nf_sel (tw170 hw)) (tw170 hw) (tw169 hw) (tw7 hw) (tw171 hw) (by decide) q190 (lenOf pd_13 rfl) (rm_equals_27 hw Ts b27 hh181 f Zf (Nat.le_trans Z0 (Nat.le_trans (Nat.le_trans (Nat.le_trans (Nat.le_trans (Nat.le_trans (Nat.le_trans (Nat.le_trans (Nat.le_trans (Nat.le_trans (Nat.le_trans (Nat.le_trans (Nat.le_trans K4.1 K17.1) K30.1) K40.1) K41.1) K42.1) K43.1) K44.1) K45.1) K69.1) K114.1) K144.1) K166.1))) (argsL := [(.ref b27)]) (rest := []) rfl (W := 0) (Nat.le_of_eq rfl) rfl (by decide) (by decide) (by decide) (by decide) (Nat.le_refl _) rfl ?_
  rintro _ _ ⟨rfl, rfl⟩
  refine r_ifeqF H 171 at_168 rfl (by decide) ?_
  refine r_iconst H 172 (1 : Int32) at_171 (by decide) rfl ?_
  refine r_goto H 176 at_172 (by decide) (by decide) ?_
  refine r_istore H 178 #[.val (.int x0), .val (.int x1), .val (.int x2), .val (.int x3), .val (.ref b1), .val (.ref b14), .val (.ref b27), .val (.ref b40), .val (.ref b41), .val (.ref b42), .val (.ref b43), .val (.int (1 : Int32))] at_176 rfl rfl ?_
  refine r_iload H 180 at_178 rfl rfl ?_
  have k193 : Keep h0 hh13 [] := Keep.trans (Keep.refl h0 []) K4 all0
  have k194 : Keep h0 hh26 [] := Keep.trans k193 K17 all0
  have k195 : Keep h0 hh39 [] := Keep.trans k194 K30 all0
  have k196 : Keep h0 h40 [] := Keep.trans k195 K40 all0
  have k197 : Keep h0 h41 [] := Keep.trans k196 K41 all0
  have k198 : Keep h0 h42 [] := Keep.trans k197 K42 all0
  have k199 : Keep h0 h43 [] := Keep.trans k198 K43 all0
  have k200 : Keep h0 h44 [] := Keep.trans k199 K44 all0
  have k201 : Keep h0 hh50 [] := Keep.trans k200 K45 (allS (Or.inr (Nat.le_trans (Nat.le_trans (Nat.le_trans (Nat.le_trans (Nat.le_trans (Nat.le_trans (Nat.le_trans K4.1 K17.1) K30.1) K40.1) K41.1) K42.1) K43.1) (Nat.le_of_eq g44.symm))) all0)
  have k202 : Keep h0 hh107 [] := Keep.trans k201 K69 (allS (Or.inr (Nat.le_trans (Nat.le_trans (Nat.le_trans (Nat.le_trans (Nat.le_trans (Nat.le_trans K4.1 K17.1) K30.1) K40.1) K41.1) K42.1) (Nat.le_of_eq g43.symm))) all0)
  have k203 : Keep h0 hh134 [] := Keep.trans k202 K114 (allS (Or.inr (Nat.le_trans (Nat.le_trans (Nat.le_trans (Nat.le_trans (Nat.le_trans (Nat.le_trans (Nat.le_trans (Nat.le_trans (Nat.le_trans K4.1 K17.1) K30.1) K40.1) K41.1) K42.1) K43.1) K44.1) K45.1) g73)) (allS (Or.inr (Nat.le_trans (Nat.le_trans (Nat.le_trans (Nat.le_trans (Nat.le_trans (Nat.le_trans (Nat.le_trans (Nat.le_trans (Nat.le_trans K4.1 K17.1) K30.1) K40.1) K41.1) K42.1) K43.1) K44.1) K45.1) g75)) (allS (Or.inr (Nat.le_trans (Nat.le_trans (Nat.le_trans (Nat.le_trans (Nat.le_trans (Nat.le_trans (Nat.le_trans (Nat.le_trans (Nat.le_trans K4.1 K17.1) K30.1) K40.1) K41.1) K42.1) K43.1) K44.1) K45.1) g74)) all0)))
  have k204 : Keep h0 hh159 [] := Keep.trans k203 K144 (allS (Or.inr (Nat.le_trans (Nat.le_trans (Nat.le_trans (Nat.le_trans (Nat.le_trans (Nat.le_trans (Nat.le_trans (Nat.le_trans (Nat.le_trans K4.1 K17.1) K30.1) K40.1) K41.1) K42.1) K43.1) K44.1) K45.1) g73)) (allS (Or.inr (Nat.le_trans (Nat.le_trans (Nat.le_trans (Nat.le_trans (Nat.le_trans (Nat.le_trans (Nat.le_trans (Nat.le_trans (Nat.le_trans (Nat.le_trans K4.1 K17.1) K30.1) K40.1) K41.1) K42.1) K43.1) K44.1) K45.1) K69.1) g116)) (allS (Or.inr (Nat.le_trans (Nat.le_trans (Nat.le_trans (Nat.le_trans (Nat.le_trans (Nat.le_trans (Nat.le_trans (Nat.le_trans (Nat.le_trans (Nat.le_trans K4.1 K17.1) K30.1) K40.1) K41.1) K42.1) K43.1) K44.1) K45.1) K69.1) g115)) (allS (Or.inr (Nat.le_trans (Nat.le_trans (Nat.le_trans (Nat.le_trans (Nat.le_trans (Nat.le_trans (Nat.le_trans (Nat.le_trans (Nat.le_trans K4.1 K17.1) K30.1) K40.1) K41.1) K42.1) K43.1) K44.1) K45.1) g75)) (allS (Or.inr (Nat.le_trans (Nat.le_trans (Nat.le_trans (Nat.le_trans (Nat.le_trans (Nat.le_trans (Nat.le_trans (Nat.le_trans (Nat.le_trans K4.1 K17.1) K30.1) K40.1) K41.1) K42.1) K43.1) K44.1) K45.1) g74)) all0)))))
  have k205 : Keep h0 hh181 [] := Keep.trans k204 K166 (allS (Or.inr (Nat.le_trans (Nat.le_trans (Nat.le_trans (Nat.le_trans (Nat.le_trans (Nat.le_trans (Nat.le_trans (Nat.le_trans (Nat.le_trans K4.1 K17.1) K30.1) K40.1) K41.1) K42.1) K43.1) K44.1) K45.1) g73)) (allS (Or.inr (Nat.le_trans (Nat.le_trans (Nat.le_trans (Nat.le_trans (Nat.le_trans (Nat.le_trans (Nat.le_trans (Nat.le_trans (Nat.le_trans (Nat.le_trans K4.1 K17.1) K30.1) K40.1) K41.1) K42.1) K43.1) K44.1) K45.1) K69.1) g116)) (allS (Or.inr (Nat.le_trans (Nat.le_trans (Nat.le_trans (Nat.le_trans (Nat.le_trans (Nat.le_trans (Nat.le_trans (Nat.le_trans (Nat.le_trans (Nat.le_trans K4.1 K17.1) K30.1) K40.1) K41.1) K42.1) K43.1) K44.1) K45.1) K69.1) g115)) (allS (Or.inr (Nat.le_trans (Nat.le_trans (Nat.le_trans (Nat.le_trans (Nat.le_trans (Nat.le_trans (Nat.le_trans (Nat.le_trans (Nat.le_trans K4.1 K17.1) K30.1) K40.1) K41.1) K42.1) K43.1) K44.1) K45.1) g75)) (allS (Or.inr (Nat.le_trans (Nat.le_trans (Nat.le_trans (Nat.le_trans (Nat.le_trans (Nat.le_trans (Nat.le_trans (Nat.le_trans (Nat.le_trans K4.1 K17.1) K30.1) K40.1) K41.1) K42.1) K43.1) K44.1) K45.1) g74)) all0)))))
  exact r_nreturn (1 : Int32) H (by simp) at_180 (by decide) (by decide) (by decide) (Nat.le_refl _) (fun _ t => t) rfl
set_option maxRecDepth 65536 in
set_option maxHeartbeats 40000000 in
theorem comes_1 {Post : Tables → Env → Array Value → State → Outcome → State → Prop} (hpost : ∀ tb e args s v u, (limb_1_1.after args s (.returned v) u = true ∧ limb_1_2.after args s (.returned v) u = true ∧ True) → FrameEnd s (.returned v) u (Jvm.fieldLocs frame_1_writes args s ++ Jvm.arrayLocs frame_1_arrays args s ++ Jvm.staticLocs frame_1_statics s) 56 256 → Post tb e args s (.returned v) u) :
    ArmFor flags0 classFile x code maxLocals ret World_1 tables_1 room_1 Calls_1 rest_1 Pre_1 Post := by
  intro l hfl _ _ p e ha hc hk s m args below hf hA hF happ hP
  obtain ⟨hcalls, hrest, hpre⟩ := hP
  obtain ⟨-, -, -, hnamed, -, -, -, hat⟩ := (Spec.applies_iff hf).mp happ
  obtain ⟨hg, hn⟩ := and_e (Cond.before_iff.mp (show (Jvm.Cond.and given_1 narrow_1).before args s = true from hpre))
  obtain ⟨hcnt, hg0⟩ := and_e hg
  obtain ⟨ga0, hg1⟩ := and_e hg0
  obtain ⟨ga1, hg2⟩ := and_e hg1
  obtain ⟨ga2, hg3⟩ := and_e hg2
  obtain ⟨w0, w1, w2, w3, rfl⟩ : ∃ w0 w1 w2 w3 : Value, args = #[w0, w1, w2, w3] := by
    have hs : args.size = 4 := by simpa [Cond.value, given_1] using hcnt
    obtain ⟨L⟩ := args
    match L, hs with
    | [w0, w1, w2, w3], _ => exact ⟨w0, w1, w2, w3, rfl⟩
  have hw := fun d (hd : d ∈ tables_1) => atoms_spec (ws := Jvm.Cond.code x code maxLocals ret :: tables_1) hat d (List.mem_cons_of_mem _ hd)
  obtain ⟨hsets, hown0⟩ := atoms_of _ (rest_1_c_eq ▸ (show rest_1_c.before _ s = true from hrest))
  obtain ⟨i0, ei0⟩ := is_v ga0
  obtain rfl : w0 = (.int i0) := Option.some.inj ei0
  obtain ⟨i1, ei1⟩ := is_v ga1
  obtain rfl : w1 = (.int i1) := Option.some.inj ei1
  obtain ⟨i2, ei2⟩ := is_v ga2
  obtain rfl : w2 = (.int i2) := Option.some.inj ei2
  obtain ⟨i3, ei3⟩ := is_v hg3
  obtain rfl : w3 = (.int i3) := Option.some.inj ei3
  have ncs := not_v (Cond.before_iff.mp (hsets _ (List.mem_of_getElem? (i := 2) rfl)))
  obtain ⟨cs, ecs⟩ := is_v (Cond.before_iff.mp (hsets _ (List.mem_of_getElem? (i := 1) rfl)))
  have S_cs : Sta s s.heap "java/lang/String" "COMPACT_STRINGS" "Z" (.int cs) := Sta.start ecs (Or.inl (hsets _ (List.mem_of_getElem? (i := 0) rfl)))
  have hcs : ¬ (cs = (0 : Int32)) := gotF (Cond.eq_ints ecs (Term.int_eval (0))) ncs
  obtain ⟨ed0, eed⟩ := exa_v (Cond.before_iff.mp (hsets _ (List.mem_of_getElem? (i := 16) rfl)))
  have S_ed : Sta s s.heap "java/util/ArrayList" "DEFAULTCAPACITY_EMPTY_ELEMENTDATA" "[Ljava/lang/Object;" (.ref ed0) := Sta.start eed (Or.inr ⟨(tw40 hw), (hsets _ (List.mem_of_getElem? (i := 11) rfl))⟩)
  obtain ⟨ced, Aed⟩ := Arr.start eed (Cond.before_iff.mp (hsets _ (List.mem_of_getElem? (i := 15) rfl)))
  have A_ed0 : Ar s s.heap ed0 ced.cls (.object "java/lang/Object") [] := ar_nil Aed (len0 eed Aed (hsets _ (List.mem_of_getElem? (i := 17) rfl)))
  obtain ⟨n, o, h1, h2, h3, _, L, rfl, ⟨rfl, N, -, -⟩, hq⟩ := rm_law hw [] rfl i0 i1 i2 i3 cs ed0 ced.cls s.heap s.heap.size (Nat.le_refl _) (Nat.le_refl _) S_cs S_ed A_ed0 hcs l p e ha hc hk s m _ below hf ((Spec.applies_iff_loose hf).mp happ).1 ⟨rfl, State.Warmed39.refl s, rfl, IB.start, ⟨Nat.le_refl _, fun _ _ q => q⟩⟩ trivial
  refine ⟨n, _, h1, h2, h3, hpost _ _ _ _ _ _ ⟨Cond.after_iff.mpr rfl, Cond.after_iff.mpr (eq_i res_at (Term.int_eval (1)) rfl), trivial⟩ ⟨hq.1, hq.2.1, (hq.2.2.sift fun y hy => Or.inr (N y hy)).mono (by decide) (by decide)⟩⟩
theorem main_1_1 : Claimed_1_1 := comes_1 fun _ _ _ _ _ _ h hF => ⟨h.1, hF⟩
theorem main_1_2 : Claimed_1_2 := comes_1 fun _ _ _ _ _ _ h hF => ⟨h.2.1, hF⟩
end Jvm.Pilot.@@N@@
namespace Jvm.Pilot.@@N@@
open Jvm Jvm.ClassFile Sem Op Lib Jvm.Free Jvm.Stand Jvm.Pilot.@@N@@.Jvm.D
/-! MADE BY PROGRAM (witnessworld.py) out of the Statement's table words and the real class files: 35 classes; the members and pool entries that the words name. The judged class is class 1, her method 1. -/
namespace start1
open Jvm.ClassFile
def u (s : String) : CpInfo := .utf8 (stringToUtf16 s)
/-- a pool by its gaps: so many unusable entries, then the entry; so many at the end -/
def gap : Nat → List CpInfo → List CpInfo
  | 0, r => r
  | n + 1, r => .unusable :: gap n r
def poolList (es : List (Nat × CpInfo)) (last : Nat) : List CpInfo := es.foldr (fun e r => gap e.1 (e.2 :: r)) (gap last [])
def pool (es : List (Nat × CpInfo)) (last : Nat) : Array CpInfo := ⟨poolList es last⟩
def fileOf (pool : Array CpInfo) (this : Nat) (attrs : Array Attribute := #[]) (ms : Array MethodInfo := #[]) (fl : Nat := 33) (sup : Nat := 0) (ifs : Array Nat := #[]) (fds : Array FieldInfo := #[]) : ClassFile where
  minorVersion := 0
  majorVersion := 65
  constantPool := pool
  accessFlags := fl
  thisClass := this
  superClass := sup
  interfaces := ifs
  fields := fds
  methods := ms
  attributes := attrs
def plain (name : String) (sup : Option ClassId) : Class where
  name := name
  kind := .ordinary
  loader := none
  accessFlags := 33
  super := sup
  interfaces := #[]
  cf := none
  fields := #[]
  methods := #[]
  instanceTypes := #[]
  staticTypes := #[]
  resolved := #[]
  callSites := []
  init := .initialized
  statics := none
  mirror := none

def pool0 : Array CpInfo := pool [(5, u "<init>"), (0, u "()V"), (1, .class_ 10), (1, u "java/lang/Object")] 113

def k0c0 : Code := { maxStack := 0, maxLocals := 1, code := object_method_1_code, exceptionTable := #[], attributes := #[] }
def k0m0 : Method := { name := "<init>", desc := "()V", sig := { parameters := [], returnType := none }, accessFlags := 1, code := some k0c0 }
/-- java/lang/Object -/
def k0 : Class := { plain "java/lang/Object" none with
  accessFlags := 33
  interfaces := #[]
  cf := some (fileOf pool0 8 #[] #[{ accessFlags := 1, nameIndex := 5, descriptorIndex := 6, attributes := #[] }] 33 0 #[] #[])
  fields := #[]
  methods := #[k0m0]
  instanceTypes := #[]
  staticTypes := #[]
  resolved := Array.replicate 124 none
  statics := none }

def pool1 : Array CpInfo := pool [(2, .class_ 4), (0, .nameAndType 5 6), (0, u "java/lang/Object"), (0, u "<init>"), (0, u "()V"), (0, .methodref 8 9), (0, .class_ 10), (0, .nameAndType 11 12), (0, u "com/example/steady_fixtures/steadyfixtures/load/TableRowsResourcePinLaw"), (0, u "str"), (0, u "(I)Ljava/lang/String;"), (0, .class_ 14), (0, u "java/lang/String"), (0, .class_ 16), (0, u "com/example/steady_fixtures/steadyfixtures/load/TableRows"), (0, .class_ 18), (0, u "java/util/ArrayList"), (0, .methodref 17 3), (0, .methodref 15 21), (0, .nameAndType 5 22), (0, u "(Lcom/example/steady_fixtures/steadyfixtures/schema/Table;Ljava/util/List;)V"), (0, .methodref 15 24), (0, .nameAndType 25 26), (0, u "add"), (0, u "([Ljava/lang/String;Ljava/lang/String;I)V"), (0, .methodref 15 28), (0, .nameAndType 29 12), (0, u "resource"), (0, .methodref 13 31), (0, .nameAndType 32 33), (0, u "equals"), (0, u "(Ljava/lang/Object;)Z"), (0, .methodref 13 35), (0, .nameAndType 5 36), (0, u "([C)V"), (2, u "law"), (0, u "(IIII)Z")] 5

def k1m0 : Method := { name := "<init>", desc := "()V", sig := { parameters := [], returnType := none }, accessFlags := 1, code := none }
def k1c1 : Code := { maxStack := 5, maxLocals := 12, code := code, exceptionTable := #[], attributes := #[] }
def k1m1 : Method := { name := "law", desc := "(IIII)Z", sig := { parameters := [.int, .int, .int, .int], returnType := some .boolean }, accessFlags := 9, code := some k1c1 }
def k1c2 : Code := { maxStack := 4, maxLocals := 2, code := method_3_code, exceptionTable := #[], attributes := #[] }
def k1m2 : Method := { name := "str", desc := "(I)Ljava/lang/String;", sig := { parameters := [.int], returnType := some (.object "java/lang/String") }, accessFlags := 10, code := some k1c2 }
/-- com/example/steady_fixtures/steadyfixtures/load/TableRowsResourcePinLaw -/
def k1 : Class := { plain "com/example/steady_fixtures/steadyfixtures/load/TableRowsResourcePinLaw" (some 0) with
  accessFlags := 49
  interfaces := #[]
  cf := some (fileOf pool1 8 #[] #[{ accessFlags := 1, nameIndex := 5, descriptorIndex := 6, attributes := #[] }, { accessFlags := 9, nameIndex := 39, descriptorIndex := 40, attributes := #[] }, { accessFlags := 10, nameIndex := 11, descriptorIndex := 12, attributes := #[] }] 49 2 #[] #[])
  fields := #[]
  methods := #[k1m0, k1m1, k1m2]
  instanceTypes := #[]
  staticTypes := #[]
  resolved := Array.replicate 46 none
  statics := none }

def pool2 : Array CpInfo := pool [(1, .class_ 2), (0, u "java/io/Serializable"), (0, .class_ 4), (0, u "java/lang/Object")] 2

/-- java/io/Serializable -/
def k2 : Class := { plain "java/io/Serializable" (some 0) with
  accessFlags := 1537
  interfaces := #[]
  cf := some (fileOf pool2 1 #[] #[] 1537 3 #[] #[])
  fields := #[]
  methods := #[]
  instanceTypes := #[]
  staticTypes := #[]
  resolved := Array.replicate 7 none
  statics := none }

def pool3 : Array CpInfo := pool [(1, .class_ 2), (0, u "java/lang/Comparable"), (0, .class_ 4), (0, u "java/lang/Object")] 7

/-- java/lang/Comparable -/
def k3 : Class := { plain "java/lang/Comparable" (some 0) with
  accessFlags := 1537
  interfaces := #[]
  cf := some (fileOf pool3 1 #[] #[] 1537 3 #[] #[])
  fields := #[]
  methods := #[]
  instanceTypes := #[]
  staticTypes := #[]
  resolved := Array.replicate 12 none
  statics := none }

def pool4 : Array CpInfo := pool [(2, .class_ 4), (1, u "java/lang/CharSequence"), (42, .class_ 48), (0, u "java/lang/CharSequence$1CodePointIterator"), (10, .class_ 60), (0, u "java/lang/CharSequence$1CharIterator"), (5, .class_ 67), (0, u "java/lang/Object")] 63

/-- java/lang/CharSequence -/
def k4 : Class := { plain "java/lang/CharSequence" (some 0) with
  accessFlags := 1537
  interfaces := #[]
  cf := some (fileOf pool4 2 #[.nestMembers #[47, 59]] #[] 1537 66 #[] #[])
  fields := #[]
  methods := #[]
  instanceTypes := #[]
  staticTypes := #[]
  resolved := Array.replicate 131 none
  statics := none }

def pool5 : Array CpInfo := pool [(1, .class_ 2), (0, u "java/lang/constant/Constable"), (0, .class_ 4), (0, u "java/lang/Object")] 6

/-- java/lang/constant/Constable -/
def k5 : Class := { plain "java/lang/constant/Constable" (some 0) with
  accessFlags := 1537
  interfaces := #[]
  cf := some (fileOf pool5 1 #[] #[] 1537 3 #[] #[])
  fields := #[]
  methods := #[]
  instanceTypes := #[]
  staticTypes := #[]
  resolved := Array.replicate 11 none
  statics := none }

def pool6 : Array CpInfo := pool [(1, .class_ 2), (0, u "java/lang/constant/ConstantDesc"), (0, .class_ 4), (0, u "java/lang/Object")] 32

/-- java/lang/constant/ConstantDesc -/
def k6 : Class := { plain "java/lang/constant/ConstantDesc" (some 0) with
  accessFlags := 1537
  interfaces := #[]
  cf := some (fileOf pool6 1 #[] #[] 1537 3 #[] #[])
  fields := #[]
  methods := #[]
  instanceTypes := #[]
  staticTypes := #[]
  resolved := Array.replicate 37 none
  statics := none }

def pool7 : Array CpInfo := pool [(1, .methodref 2 3), (0, .class_ 4), (0, .nameAndType 5 6), (0, u "java/lang/Object"), (0, u "<init>"), (0, u "()V"), (2, .fieldref 10 11), (0, .class_ 12), (0, .nameAndType 13 14), (0, u "java/lang/String"), (0, u "value"), (0, u "[B"), (0, .fieldref 10 16), (0, .nameAndType 17 18), (0, u "coder"), (0, u "B"), (2, u "hash"), (0, u "I"), (2, u "hashIsZero"), (0, u "Z"), (0, .methodref 10 28), (0, .nameAndType 5 29), (0, u "([CIILjava/lang/Void;)V"), (8, .fieldref 10 39), (0, .nameAndType 40 26), (0, u "COMPACT_STRINGS"), (1, .class_ 44), (1, u "java/lang/StringUTF16"), (0, u "compress"), (1, .methodref 42 48), (0, .nameAndType 49 50), (0, u "coderFromArrayLen"), (0, u "([BI)B"), (126, .methodref 42 178), (0, .nameAndType 45 179), (0, u "([CII)[B"), (363, u "equals"), (29, u "(Ljava/lang/Object;)Z"), (1, .class_ 576), (0, u "java/lang/CharSequence"), (22, u "CASE_INSENSITIVE_ORDER"), (0, u "Ljava/util/Comparator;"), (409, u "([C)V"), (90, u "serialPersistentFields"), (0, u "[Ljava/io/ObjectStreamField;"), (0, .class_ 1104), (0, u "java/lang/String$CaseInsensitiveComparator"), (1, .class_ 1107), (0, u "java/io/Serializable"), (0, .class_ 1109), (0, u "java/lang/Comparable"), (0, .class_ 1111), (0, u "java/lang/constant/Constable"), (0, .class_ 1113), (0, u "java/lang/constant/ConstantDesc"), (2, u "serialVersionUID"), (0, u "J"), (3, u "REPL"), (0, u "C"), (2, u "LATIN1"), (1, u "UTF16")] 323

def k7m0 : Method := { name := "<init>", desc := "()V", sig := { parameters := [], returnType := none }, accessFlags := 1, code := none }
def k7c1 : Code := { maxStack := 5, maxLocals := 2, code := jdk_42_method_3_code, exceptionTable := #[], attributes := #[] }
def k7m1 : Method := { name := "<init>", desc := "([C)V", sig := { parameters := [(.array .char)], returnType := none }, accessFlags := 1, code := some k7c1 }
def k7c2 : Code := { maxStack := 2, maxLocals := 3, code := jdk_42_method_66_code, exceptionTable := #[], attributes := #[] }
def k7m2 : Method := { name := "equals", desc := "(Ljava/lang/Object;)Z", sig := { parameters := [(.object "java/lang/Object")], returnType := some .boolean }, accessFlags := 1, code := some k7c2 }
def k7c3 : Code := { maxStack := 4, maxLocals := 6, code := jdk_42_method_149_code, exceptionTable := #[], attributes := #[] }
def k7m3 : Method := { name := "<init>", desc := "([CIILjava/lang/Void;)V", sig := { parameters := [(.array .char), .int, .int, (.object "java/lang/Void")], returnType := none }, accessFlags := 2, code := some k7c3 }
/-- java/lang/String -/
def k7 : Class := { plain "java/lang/String" (some 0) with
  accessFlags := 49
  interfaces := #[2, 3, 4, 5, 6]
  cf := some (fileOf pool7 10 #[.nestMembers #[1103]] #[{ accessFlags := 1, nameIndex := 5, descriptorIndex := 6, attributes := #[] }, { accessFlags := 1, nameIndex := 5, descriptorIndex := 1010, attributes := #[] }, { accessFlags := 1, nameIndex := 543, descriptorIndex := 573, attributes := #[] }, { accessFlags := 2, nameIndex := 5, descriptorIndex := 29, attributes := #[] }] 49 2 #[1106, 1108, 575, 1110, 1112] #[{ accessFlags := 18, nameIndex := 13, descriptorIndex := 14, attributes := #[] }, { accessFlags := 18, nameIndex := 17, descriptorIndex := 18, attributes := #[] }, { accessFlags := 2, nameIndex := 21, descriptorIndex := 22, attributes := #[] }, { accessFlags := 2, nameIndex := 25, descriptorIndex := 26, attributes := #[] }, { accessFlags := 26, nameIndex := 1116, descriptorIndex := 1117, attributes := #[] }, { accessFlags := 24, nameIndex := 40, descriptorIndex := 26, attributes := #[] }, { accessFlags := 26, nameIndex := 1101, descriptorIndex := 1102, attributes := #[] }, { accessFlags := 26, nameIndex := 1121, descriptorIndex := 1122, attributes := #[] }, { accessFlags := 25, nameIndex := 599, descriptorIndex := 600, attributes := #[] }, { accessFlags := 24, nameIndex := 1125, descriptorIndex := 18, attributes := #[] }, { accessFlags := 24, nameIndex := 1127, descriptorIndex := 18, attributes := #[] }])
  fields := #[{ name := "value", type := (.array .byte), accessFlags := 18, slot := 0, constantValue := 0 }, { name := "coder", type := .byte, accessFlags := 18, slot := 1, constantValue := 0 }, { name := "hash", type := .int, accessFlags := 2, slot := 2, constantValue := 0 }, { name := "hashIsZero", type := .boolean, accessFlags := 2, slot := 3, constantValue := 0 }, { name := "serialVersionUID", type := .long, accessFlags := 26, slot := 0, constantValue := 0 }, { name := "COMPACT_STRINGS", type := .boolean, accessFlags := 24, slot := 1, constantValue := 0 }, { name := "serialPersistentFields", type := (.array (.object "java/io/ObjectStreamField")), accessFlags := 26, slot := 2, constantValue := 0 }, { name := "REPL", type := .char, accessFlags := 26, slot := 3, constantValue := 0 }, { name := "CASE_INSENSITIVE_ORDER", type := (.object "java/util/Comparator"), accessFlags := 25, slot := 4, constantValue := 0 }, { name := "LATIN1", type := .byte, accessFlags := 24, slot := 5, constantValue := 0 }, { name := "UTF16", type := .byte, accessFlags := 24, slot := 6, constantValue := 0 }]
  methods := #[k7m0, k7m1, k7m2, k7m3]
  instanceTypes := #[(.array .byte), .byte, .int, .boolean]
  staticTypes := #[.long, .boolean, (.array (.object "java/io/ObjectStreamField")), .char, (.object "java/util/Comparator"), .byte, .byte]
  resolved := Array.replicate 1451 none
  statics := some 0 }

def pool8 : Array CpInfo := pool [(6, .class_ 8), (1, u "java/lang/Object"), (0, u "<init>"), (0, u "()V"), (1, .class_ 14), (1, u "java/lang/StringUTF16"), (31, u "$assertionsDisabled"), (0, u "Z"), (13, u "HI_BYTE_SHIFT"), (0, u "I"), (2, u "LO_BYTE_SHIFT"), (49, .methodref 12 116), (0, .nameAndType 117 118), (0, u "compress"), (0, u "([CI[BII)I"), (3, u "([CII)[B"), (138, u "coderFromArrayLen"), (0, u "([BI)B"), (106, .class_ 371), (1, u "java/lang/StringUTF16$LinesSpliterator"), (58, u "MAX_LENGTH"), (196, .class_ 628), (0, u "java/lang/StringUTF16$CodePointsSpliterator"), (0, .class_ 630), (0, u "java/lang/StringUTF16$CharsSpliterator")] 4

def k8m0 : Method := { name := "<init>", desc := "()V", sig := { parameters := [], returnType := none }, accessFlags := 0, code := none }
def k8c1 : Code := { maxStack := 2, maxLocals := 2, code := jdk_52_method_15_code, exceptionTable := #[], attributes := #[] }
def k8m1 : Method := { name := "coderFromArrayLen", desc := "([BI)B", sig := { parameters := [(.array .byte), .int], returnType := some .byte }, accessFlags := 8, code := some k8c1 }
def k8c2 : Code := { maxStack := 5, maxLocals := 6, code := jdk_52_method_16_code, exceptionTable := #[], attributes := #[] }
def k8m2 : Method := { name := "compress", desc := "([CII)[B", sig := { parameters := [(.array .char), .int, .int], returnType := some (.array .byte) }, accessFlags := 9, code := some k8c2 }
def k8c3 : Code := { maxStack := 3, maxLocals := 7, code := jdk_52_method_21_code, exceptionTable := #[], attributes := #[] }
def k8m3 : Method := { name := "compress", desc := "([CI[BII)I", sig := { parameters := [(.array .char), .int, (.array .byte), .int, .int], returnType := some .int }, accessFlags := 9, code := some k8c3 }
/-- java/lang/StringUTF16 -/
def k8 : Class := { plain "java/lang/StringUTF16" (some 0) with
  accessFlags := 48
  interfaces := #[]
  cf := some (fileOf pool8 12 #[.nestMembers #[627, 629, 369]] #[{ accessFlags := 0, nameIndex := 9, descriptorIndex := 10, attributes := #[] }, { accessFlags := 8, nameIndex := 261, descriptorIndex := 262, attributes := #[] }, { accessFlags := 9, nameIndex := 117, descriptorIndex := 122, attributes := #[] }, { accessFlags := 9, nameIndex := 117, descriptorIndex := 118, attributes := #[] }] 48 6 #[] #[{ accessFlags := 26, nameIndex := 61, descriptorIndex := 62, attributes := #[] }, { accessFlags := 26, nameIndex := 65, descriptorIndex := 62, attributes := #[] }, { accessFlags := 24, nameIndex := 430, descriptorIndex := 62, attributes := #[] }, { accessFlags := 4120, nameIndex := 46, descriptorIndex := 47, attributes := #[] }])
  fields := #[{ name := "HI_BYTE_SHIFT", type := .int, accessFlags := 26, slot := 0, constantValue := 0 }, { name := "LO_BYTE_SHIFT", type := .int, accessFlags := 26, slot := 1, constantValue := 0 }, { name := "MAX_LENGTH", type := .int, accessFlags := 24, slot := 2, constantValue := 0 }, { name := "$assertionsDisabled", type := .boolean, accessFlags := 4120, slot := 3, constantValue := 0 }]
  methods := #[k8m0, k8m1, k8m2, k8m3]
  instanceTypes := #[]
  staticTypes := #[.int, .int, .int, .boolean]
  resolved := Array.replicate 635 none
  statics := none }

def pool9 : Array CpInfo := pool [(1, .class_ 2), (0, u "java/util/ArrayList"), (0, .methodref 1 4), (0, .nameAndType 5 6), (0, u "<init>"), (0, u "()V"), (1, .class_ 10), (1, u "com/example/steady_fixtures/steadyfixtures/load/TableRows"), (0, u "(Lcom/example/steady_fixtures/steadyfixtures/schema/Table;Ljava/util/List;)V"), (0, .methodref 13 4), (0, .class_ 14), (0, u "java/lang/Object"), (0, .class_ 16), (0, u "java/util/HashMap"), (0, .methodref 15 4), (0, .fieldref 8 19), (0, .nameAndType 20 21), (0, u "positionOf"), (0, u "Ljava/util/Map;"), (0, .class_ 23), (0, u "java/lang/String"), (0, .fieldref 8 25), (0, .nameAndType 26 27), (0, u "lastAttributes"), (0, u "[Ljava/lang/String;"), (0, .fieldref 8 29), (0, .nameAndType 30 31), (0, u "lastPositions"), (0, u "[I"), (0, .fieldref 8 33), (0, .nameAndType 34 35), (0, u "rows"), (0, u "Ljava/util/ArrayList;"), (0, .fieldref 8 37), (0, .nameAndType 38 35), (0, u "resources"), (0, .fieldref 8 40), (0, .nameAndType 41 31), (0, u "lines"), (0, .fieldref 8 43), (0, .nameAndType 44 45), (0, u "table"), (0, u "Lcom/example/steady_fixtures/steadyfixtures/schema/Table;"), (0, .fieldref 8 47), (0, .nameAndType 48 49), (0, u "columns"), (0, u "Ljava/util/List;"), (6, .nameAndType 58 59), (1, u "size"), (0, u "()I"), (1, .nameAndType 62 63), (0, u "get"), (0, u "(I)Ljava/lang/Object;"), (7, u "(I)Ljava/lang/String;"), (4, u "resource"), (28, u "narrow"), (0, u "Z"), (8, .methodref 1 56), (6, .methodref 1 123), (0, .nameAndType 124 125), (0, u "add"), (0, u "(Ljava/lang/Object;)Z"), (6, .methodref 1 61), (61, u "([Ljava/lang/String;Ljava/lang/String;I)V")] 48

def k9c0 : Code := { maxStack := 3, maxLocals := 3, code := prog_21_method_2_code, exceptionTable := #[], attributes := #[] }
def k9m0 : Method := { name := "<init>", desc := "(Lcom/example/steady_fixtures/steadyfixtures/schema/Table;Ljava/util/List;)V", sig := { parameters := [(.object "com/example/steady_fixtures/steadyfixtures/schema/Table"), (.object "java/util/List")], returnType := none }, accessFlags := 0, code := some k9c0 }
def k9c1 : Code := { maxStack := 4, maxLocals := 4, code := prog_21_method_5_code, exceptionTable := #[], attributes := #[] }
def k9m1 : Method := { name := "add", desc := "([Ljava/lang/String;Ljava/lang/String;I)V", sig := { parameters := [(.array (.object "java/lang/String")), (.object "java/lang/String"), .int], returnType := none }, accessFlags := 0, code := some k9c1 }
def k9c2 : Code := { maxStack := 2, maxLocals := 2, code := prog_21_method_10_code, exceptionTable := #[], attributes := #[] }
def k9m2 : Method := { name := "resource", desc := "(I)Ljava/lang/String;", sig := { parameters := [.int], returnType := some (.object "java/lang/String") }, accessFlags := 0, code := some k9c2 }
/-- com/example/steady_fixtures/steadyfixtures/load/TableRows -/
def k9 : Class := { plain "com/example/steady_fixtures/steadyfixtures/load/TableRows" (some 0) with
  accessFlags := 32
  interfaces := #[]
  cf := some (fileOf pool9 8 #[] #[{ accessFlags := 0, nameIndex := 5, descriptorIndex := 11, attributes := #[] }, { accessFlags := 0, nameIndex := 124, descriptorIndex := 194, attributes := #[] }, { accessFlags := 0, nameIndex := 76, descriptorIndex := 71, attributes := #[] }] 32 13 #[] #[{ accessFlags := 18, nameIndex := 44, descriptorIndex := 45, attributes := #[] }, { accessFlags := 18, nameIndex := 48, descriptorIndex := 49, attributes := #[] }, { accessFlags := 18, nameIndex := 20, descriptorIndex := 21, attributes := #[] }, { accessFlags := 2, nameIndex := 26, descriptorIndex := 27, attributes := #[] }, { accessFlags := 2, nameIndex := 30, descriptorIndex := 31, attributes := #[] }, { accessFlags := 18, nameIndex := 34, descriptorIndex := 35, attributes := #[] }, { accessFlags := 18, nameIndex := 38, descriptorIndex := 35, attributes := #[] }, { accessFlags := 2, nameIndex := 41, descriptorIndex := 31, attributes := #[] }, { accessFlags := 2, nameIndex := 105, descriptorIndex := 106, attributes := #[] }])
  fields := #[{ name := "table", type := (.object "com/example/steady_fixtures/steadyfixtures/schema/Table"), accessFlags := 18, slot := 0, constantValue := 0 }, { name := "columns", type := (.object "java/util/List"), accessFlags := 18, slot := 1, constantValue := 0 }, { name := "positionOf", type := (.object "java/util/Map"), accessFlags := 18, slot := 2, constantValue := 0 }, { name := "lastAttributes", type := (.array (.object "java/lang/String")), accessFlags := 2, slot := 3, constantValue := 0 }, { name := "lastPositions", type := (.array .int), accessFlags := 2, slot := 4, constantValue := 0 }, { name := "rows", type := (.object "java/util/ArrayList"), accessFlags := 18, slot := 5, constantValue := 0 }, { name := "resources", type := (.object "java/util/ArrayList"), accessFlags := 18, slot := 6, constantValue := 0 }, { name := "lines", type := (.array .int), accessFlags := 2, slot := 7, constantValue := 0 }, { name := "narrow", type := .boolean, accessFlags := 2, slot := 8, constantValue := 0 }]
  methods := #[k9m0, k9m1, k9m2]
  instanceTypes := #[(.object "com/example/steady_fixtures/steadyfixtures/schema/Table"), (.object "java/util/List"), (.object "java/util/Map"), (.array (.object "java/lang/String")), (.array .int), (.object "java/util/ArrayList"), (.object "java/util/ArrayList"), (.array .int), .boolean]
  staticTypes := #[]
  resolved := Array.replicate 243 none
  statics := none }

def pool10 : Array CpInfo := pool [(8, .class_ 10), (1, u "java/lang/Iterable"), (24, .class_ 36), (0, u "java/lang/Object")] 25

/-- java/lang/Iterable -/
def k10 : Class := { plain "java/lang/Iterable" (some 0) with
  accessFlags := 1537
  interfaces := #[]
  cf := some (fileOf pool10 8 #[] #[] 1537 35 #[] #[])
  fields := #[]
  methods := #[]
  instanceTypes := #[]
  staticTypes := #[]
  resolved := Array.replicate 62 none
  statics := none }

def pool11 : Array CpInfo := pool [(10, .class_ 12), (1, u "java/util/Collection"), (47, .class_ 61), (0, u "java/lang/Object"), (0, .class_ 63), (0, u "java/lang/Iterable")] 51

/-- java/util/Collection -/
def k11 : Class := { plain "java/util/Collection" (some 0) with
  accessFlags := 1537
  interfaces := #[10]
  cf := some (fileOf pool11 10 #[] #[] 1537 60 #[62] #[])
  fields := #[]
  methods := #[]
  instanceTypes := #[]
  staticTypes := #[]
  resolved := Array.replicate 115 none
  statics := none }

def pool12 : Array CpInfo := pool [(1, .methodref 2 3), (0, .class_ 4), (0, .nameAndType 5 6), (0, u "java/lang/Object"), (0, u "<init>"), (0, u "()V"), (1, .class_ 10), (1, u "java/util/AbstractCollection"), (66, .class_ 78), (0, u "java/util/Collection")] 81

def k12c0 : Code := { maxStack := 1, maxLocals := 1, code := jdk_22_method_1_code, exceptionTable := #[], attributes := #[] }
def k12m0 : Method := { name := "<init>", desc := "()V", sig := { parameters := [], returnType := none }, accessFlags := 4, code := some k12c0 }
/-- java/util/AbstractCollection -/
def k12 : Class := { plain "java/util/AbstractCollection" (some 0) with
  accessFlags := 1057
  interfaces := #[11]
  cf := some (fileOf pool12 8 #[] #[{ accessFlags := 4, nameIndex := 5, descriptorIndex := 6, attributes := #[] }] 1057 2 #[77] #[])
  fields := #[]
  methods := #[k12m0]
  instanceTypes := #[]
  staticTypes := #[]
  resolved := Array.replicate 160 none
  statics := none }

def pool13 : Array CpInfo := pool [(8, .class_ 10), (1, u "java/util/SequencedCollection"), (15, .class_ 27), (0, u "java/lang/Object"), (0, .class_ 29), (0, u "java/util/Collection")] 27

/-- java/util/SequencedCollection -/
def k13 : Class := { plain "java/util/SequencedCollection" (some 0) with
  accessFlags := 1537
  interfaces := #[11]
  cf := some (fileOf pool13 8 #[] #[] 1537 26 #[28] #[])
  fields := #[]
  methods := #[]
  instanceTypes := #[]
  staticTypes := #[]
  resolved := Array.replicate 57 none
  statics := none }

def pool14 : Array CpInfo := pool [(8, .class_ 10), (1, u "java/util/List"), (92, .class_ 104), (0, u "java/lang/Object"), (15, .class_ 121), (0, u "java/util/SequencedCollection")] 129

/-- java/util/List -/
def k14 : Class := { plain "java/util/List" (some 0) with
  accessFlags := 1537
  interfaces := #[13]
  cf := some (fileOf pool14 8 #[] #[] 1537 103 #[120] #[])
  fields := #[]
  methods := #[]
  instanceTypes := #[]
  staticTypes := #[]
  resolved := Array.replicate 251 none
  statics := none }

def pool15 : Array CpInfo := pool [(1, .methodref 2 3), (0, .class_ 4), (0, .nameAndType 5 6), (0, u "java/util/AbstractCollection"), (0, u "<init>"), (0, u "()V"), (0, .fieldref 8 9), (0, .class_ 10), (0, .nameAndType 11 12), (0, u "java/util/AbstractList"), (0, u "modCount"), (0, u "I"), (64, .class_ 78), (0, u "java/util/AbstractList$Itr"), (3, .class_ 83), (0, u "java/util/AbstractList$ListItr"), (9, .class_ 94), (0, u "java/util/AbstractList$RandomAccessSubList"), (3, .class_ 99), (0, u "java/util/AbstractList$SubList"), (33, .class_ 134), (0, u "java/util/List"), (73, .class_ 209), (0, u "java/util/AbstractList$SubList$1"), (0, .class_ 211), (0, u "java/util/AbstractList$RandomAccessSpliterator")] 6

def k15c0 : Code := { maxStack := 2, maxLocals := 1, code := jdk_39_method_1_code, exceptionTable := #[], attributes := #[] }
def k15m0 : Method := { name := "<init>", desc := "()V", sig := { parameters := [], returnType := none }, accessFlags := 4, code := some k15c0 }
/-- java/util/AbstractList -/
def k15 : Class := { plain "java/util/AbstractList" (some 12) with
  accessFlags := 1057
  interfaces := #[14]
  cf := some (fileOf pool15 8 #[.nestMembers #[93, 98, 208, 210, 82, 77]] #[{ accessFlags := 4, nameIndex := 5, descriptorIndex := 6, attributes := #[] }] 1057 2 #[133] #[{ accessFlags := 132, nameIndex := 11, descriptorIndex := 12, attributes := #[] }])
  fields := #[{ name := "modCount", type := .int, accessFlags := 132, slot := 0, constantValue := 0 }]
  methods := #[k15m0]
  instanceTypes := #[.int]
  staticTypes := #[]
  resolved := Array.replicate 218 none
  statics := none }

def pool16 : Array CpInfo := pool [(1, .class_ 2), (0, u "java/util/RandomAccess"), (0, .class_ 4), (0, u "java/lang/Object")] 2

/-- java/util/RandomAccess -/
def k16 : Class := { plain "java/util/RandomAccess" (some 0) with
  accessFlags := 1537
  interfaces := #[]
  cf := some (fileOf pool16 1 #[] #[] 1537 3 #[] #[])
  fields := #[]
  methods := #[]
  instanceTypes := #[]
  staticTypes := #[]
  resolved := Array.replicate 7 none
  statics := none }

def pool17 : Array CpInfo := pool [(1, .class_ 2), (0, u "java/lang/Cloneable"), (0, .class_ 4), (0, u "java/lang/Object")] 2

/-- java/lang/Cloneable -/
def k17 : Class := { plain "java/lang/Cloneable" (some 0) with
  accessFlags := 1537
  interfaces := #[]
  cf := some (fileOf pool17 1 #[] #[] 1537 3 #[] #[])
  fields := #[]
  methods := #[]
  instanceTypes := #[]
  staticTypes := #[]
  resolved := Array.replicate 7 none
  statics := none }

def pool18 : Array CpInfo := pool [(1, .methodref 2 3), (0, .class_ 4), (0, .nameAndType 5 6), (0, u "java/util/AbstractList"), (0, u "<init>"), (0, u "()V"), (0, .class_ 8), (0, u "java/lang/Object"), (0, .fieldref 10 11), (0, .class_ 12), (0, .nameAndType 13 14), (0, u "java/util/ArrayList"), (0, u "elementData"), (0, u "[Ljava/lang/Object;"), (2, u "EMPTY_ELEMENTDATA"), (21, .fieldref 10 40), (0, .nameAndType 41 14), (0, u "DEFAULTCAPACITY_EMPTY_ELEMENTDATA"), (5, u "()[Ljava/lang/Object;"), (0, .fieldref 10 49), (0, .nameAndType 50 51), (0, u "size"), (0, u "I"), (11, .fieldref 10 64), (0, .nameAndType 65 51), (0, u "modCount"), (3, .methodref 10 70), (0, .nameAndType 71 72), (0, u "grow"), (0, u "(I)[Ljava/lang/Object;"), (6, .methodref 80 81), (0, .class_ 82), (0, .nameAndType 83 84), (0, u "java/lang/Math"), (0, u "max"), (0, u "(II)I"), (11, u "(Ljava/lang/Object;)Z"), (21, .methodref 119 120), (0, .class_ 121), (0, .nameAndType 122 84), (0, u "java/util/Objects"), (0, u "checkIndex"), (0, .methodref 10 124), (0, .nameAndType 13 125), (0, u "(I)Ljava/lang/Object;"), (3, .methodref 10 130), (0, .nameAndType 71 47), (0, .methodref 10 132), (0, .nameAndType 133 134), (0, u "add"), (0, u "(Ljava/lang/Object;[Ljava/lang/Object;I)V"), (13, .class_ 149), (0, u "java/util/List"), (36, u "()I"), (75, .class_ 263), (0, u "java/util/ArrayList$ListItr"), (3, .class_ 268), (0, u "java/util/ArrayList$Itr"), (7, .class_ 277), (0, u "java/util/ArrayList$SubList"), (12, .class_ 291), (0, u "java/util/ArrayList$ArrayListSpliterator"), (37, .class_ 330), (0, u "java/util/RandomAccess"), (0, .class_ 332), (0, u "java/lang/Cloneable"), (0, .class_ 334), (0, u "java/io/Serializable"), (0, u "serialVersionUID"), (0, u "J"), (3, u "DEFAULT_CAPACITY"), (40, u "get"), (118, .class_ 501), (0, u "java/util/ArrayList$SubList$2"), (0, .class_ 503), (0, u "java/util/ArrayList$SubList$1")] 5

def k18c0 : Code := { maxStack := 2, maxLocals := 1, code := jdk_38_method_2_code, exceptionTable := #[], attributes := #[] }
def k18m0 : Method := { name := "<init>", desc := "()V", sig := { parameters := [], returnType := none }, accessFlags := 1, code := some k18c0 }
def k18c1 : Code := { maxStack := 4, maxLocals := 4, code := jdk_38_method_6_code, exceptionTable := #[], attributes := #[] }
def k18m1 : Method := { name := "grow", desc := "(I)[Ljava/lang/Object;", sig := { parameters := [.int], returnType := some (.array (.object "java/lang/Object")) }, accessFlags := 2, code := some k18c1 }
def k18c2 : Code := { maxStack := 3, maxLocals := 1, code := jdk_38_method_7_code, exceptionTable := #[], attributes := #[] }
def k18m2 : Method := { name := "grow", desc := "()[Ljava/lang/Object;", sig := { parameters := [], returnType := some (.array (.object "java/lang/Object")) }, accessFlags := 2, code := some k18c2 }
def k18c3 : Code := { maxStack := 1, maxLocals := 1, code := jdk_38_method_8_code, exceptionTable := #[], attributes := #[] }
def k18m3 : Method := { name := "size", desc := "()I", sig := { parameters := [], returnType := some .int }, accessFlags := 1, code := some k18c3 }
def k18c4 : Code := { maxStack := 2, maxLocals := 2, code := jdk_38_method_18_code, exceptionTable := #[], attributes := #[] }
def k18m4 : Method := { name := "elementData", desc := "(I)Ljava/lang/Object;", sig := { parameters := [.int], returnType := some (.object "java/lang/Object") }, accessFlags := 0, code := some k18c4 }
def k18c5 : Code := { maxStack := 2, maxLocals := 2, code := jdk_38_method_20_code, exceptionTable := #[], attributes := #[] }
def k18m5 : Method := { name := "get", desc := "(I)Ljava/lang/Object;", sig := { parameters := [.int], returnType := some (.object "java/lang/Object") }, accessFlags := 1, code := some k18c5 }
def k18c6 : Code := { maxStack := 3, maxLocals := 4, code := jdk_38_method_24_code, exceptionTable := #[], attributes := #[] }
def k18m6 : Method := { name := "add", desc := "(Ljava/lang/Object;[Ljava/lang/Object;I)V", sig := { parameters := [(.object "java/lang/Object"), (.array (.object "java/lang/Object")), .int], returnType := none }, accessFlags := 2, code := some k18c6 }
def k18c7 : Code := { maxStack := 4, maxLocals := 2, code := jdk_38_method_25_code, exceptionTable := #[], attributes := #[] }
def k18m7 : Method := { name := "add", desc := "(Ljava/lang/Object;)Z", sig := { parameters := [(.object "java/lang/Object")], returnType := some .boolean }, accessFlags := 1, code := some k18c7 }
/-- java/util/ArrayList -/
def k18 : Class := { plain "java/util/ArrayList" (some 15) with
  accessFlags := 33
  interfaces := #[14, 16, 17, 2]
  cf := some (fileOf pool18 10 #[.nestMembers #[290, 276, 500, 502, 262, 267]] #[{ accessFlags := 1, nameIndex := 5, descriptorIndex := 6, attributes := #[] }, { accessFlags := 2, nameIndex := 71, descriptorIndex := 72, attributes := #[] }, { accessFlags := 2, nameIndex := 71, descriptorIndex := 47, attributes := #[] }, { accessFlags := 1, nameIndex := 50, descriptorIndex := 186, attributes := #[] }, { accessFlags := 0, nameIndex := 13, descriptorIndex := 125, attributes := #[] }, { accessFlags := 1, nameIndex := 381, descriptorIndex := 125, attributes := #[] }, { accessFlags := 2, nameIndex := 133, descriptorIndex := 134, attributes := #[] }, { accessFlags := 1, nameIndex := 133, descriptorIndex := 96, attributes := #[] }] 33 2 #[148, 329, 331, 333] #[{ accessFlags := 26, nameIndex := 335, descriptorIndex := 336, attributes := #[] }, { accessFlags := 26, nameIndex := 340, descriptorIndex := 51, attributes := #[] }, { accessFlags := 26, nameIndex := 17, descriptorIndex := 14, attributes := #[] }, { accessFlags := 26, nameIndex := 41, descriptorIndex := 14, attributes := #[] }, { accessFlags := 128, nameIndex := 13, descriptorIndex := 14, attributes := #[] }, { accessFlags := 2, nameIndex := 50, descriptorIndex := 51, attributes := #[] }])
  fields := #[{ name := "serialVersionUID", type := .long, accessFlags := 26, slot := 0, constantValue := 0 }, { name := "DEFAULT_CAPACITY", type := .int, accessFlags := 26, slot := 1, constantValue := 0 }, { name := "EMPTY_ELEMENTDATA", type := (.array (.object "java/lang/Object")), accessFlags := 26, slot := 2, constantValue := 0 }, { name := "DEFAULTCAPACITY_EMPTY_ELEMENTDATA", type := (.array (.object "java/lang/Object")), accessFlags := 26, slot := 3, constantValue := 0 }, { name := "elementData", type := (.array (.object "java/lang/Object")), accessFlags := 128, slot := 1, constantValue := 0 }, { name := "size", type := .int, accessFlags := 2, slot := 2, constantValue := 0 }]
  methods := #[k18m0, k18m1, k18m2, k18m3, k18m4, k18m5, k18m6, k18m7]
  instanceTypes := #[.int, (.array (.object "java/lang/Object")), .int]
  staticTypes := #[.long, .int, (.array (.object "java/lang/Object")), (.array (.object "java/lang/Object"))]
  resolved := Array.replicate 509 none
  statics := some 1 }

def pool19 : Array CpInfo := pool [(2, .class_ 4), (1, u "java/util/Map"), (31, .class_ 37), (0, u "java/util/Map$Entry"), (55, .class_ 94), (0, u "java/lang/Object")] 168

/-- java/util/Map -/
def k19 : Class := { plain "java/util/Map" (some 0) with
  accessFlags := 1537
  interfaces := #[]
  cf := some (fileOf pool19 2 #[.nestMembers #[36]] #[] 1537 93 #[] #[])
  fields := #[]
  methods := #[]
  instanceTypes := #[]
  staticTypes := #[]
  resolved := Array.replicate 263 none
  statics := none }

def pool20 : Array CpInfo := pool [(1, .methodref 2 3), (0, .class_ 4), (0, .nameAndType 5 6), (0, u "java/lang/Object"), (0, u "<init>"), (0, u "()V"), (1, .class_ 10), (1, u "java/util/AbstractMap"), (42, .class_ 54), (0, u "java/util/Map"), (9, u "keySet"), (0, u "Ljava/util/Set;"), (0, .class_ 67), (0, u "java/util/AbstractMap$1"), (5, u "values"), (0, u "Ljava/util/Collection;"), (0, .class_ 76), (0, u "java/util/AbstractMap$2"), (104, .class_ 182), (0, u "java/util/AbstractMap$ViewCollection"), (0, .class_ 184), (0, u "java/util/AbstractMap$SimpleImmutableEntry"), (0, .class_ 186), (0, u "java/util/AbstractMap$SimpleEntry"), (0, .class_ 188), (0, u "java/util/AbstractMap$2$1"), (0, .class_ 190), (0, u "java/util/AbstractMap$1$1")] 5

def k20c0 : Code := { maxStack := 1, maxLocals := 1, code := jdk_71_method_1_code, exceptionTable := #[], attributes := #[] }
def k20m0 : Method := { name := "<init>", desc := "()V", sig := { parameters := [], returnType := none }, accessFlags := 4, code := some k20c0 }
/-- java/util/AbstractMap -/
def k20 : Class := { plain "java/util/AbstractMap" (some 0) with
  accessFlags := 1057
  interfaces := #[19]
  cf := some (fileOf pool20 8 #[.nestMembers #[181, 183, 185, 75, 187, 66, 189]] #[{ accessFlags := 4, nameIndex := 5, descriptorIndex := 6, attributes := #[] }] 1057 2 #[53] #[{ accessFlags := 128, nameIndex := 64, descriptorIndex := 65, attributes := #[] }, { accessFlags := 128, nameIndex := 73, descriptorIndex := 74, attributes := #[] }])
  fields := #[{ name := "keySet", type := (.object "java/util/Set"), accessFlags := 128, slot := 0, constantValue := 0 }, { name := "values", type := (.object "java/util/Collection"), accessFlags := 128, slot := 1, constantValue := 0 }]
  methods := #[k20m0]
  instanceTypes := #[(.object "java/util/Set"), (.object "java/util/Collection")]
  staticTypes := #[]
  resolved := Array.replicate 196 none
  statics := none }

def pool21 : Array CpInfo := pool [(40, .class_ 41), (0, u "java/util/HashMap"), (1, .methodref 44 45), (0, .class_ 46), (0, .nameAndType 47 48), (0, u "java/util/AbstractMap"), (0, u "<init>"), (0, u "()V"), (32, .fieldref 40 82), (0, .nameAndType 83 84), (0, u "loadFactor"), (0, u "F"), (5, u "threshold"), (0, u "I"), (0, .float 1061158912), (8, .class_ 103), (1, u "java/util/Map"), (0, u "size"), (2, u "table"), (0, u "[Ljava/util/HashMap$Node;"), (14, u "entrySet"), (39, .class_ 165), (1, u "java/util/HashMap$Node"), (14, .class_ 181), (0, u "java/util/HashMap$TreeNode"), (22, u "modCount"), (37, u "Ljava/util/Set;"), (0, .class_ 244), (0, u "java/util/HashMap$KeySet"), (18, .class_ 264), (0, u "java/util/HashMap$Values"), (3, .class_ 269), (0, u "java/util/HashMap$EntrySet"), (76, .class_ 348), (1, u "java/util/HashMap$UnsafeHolder"), (43, .class_ 393), (0, u "java/lang/Cloneable"), (0, .class_ 395), (0, u "java/io/Serializable"), (0, u "serialVersionUID"), (0, u "J"), (3, u "DEFAULT_INITIAL_CAPACITY"), (1, u "MAXIMUM_CAPACITY"), (0, u "DEFAULT_LOAD_FACTOR"), (0, u "TREEIFY_THRESHOLD"), (1, u "UNTREEIFY_THRESHOLD"), (1, u "MIN_TREEIFY_CAPACITY"), (186, .class_ 597), (0, u "java/util/HashMap$EntrySpliterator"), (0, .class_ 599), (0, u "java/util/HashMap$ValueSpliterator"), (0, .class_ 601), (0, u "java/util/HashMap$KeySpliterator"), (0, .class_ 603), (0, u "java/util/HashMap$HashMapSpliterator"), (0, .class_ 605), (0, u "java/util/HashMap$EntryIterator"), (0, .class_ 607), (0, u "java/util/HashMap$ValueIterator"), (0, .class_ 609), (0, u "java/util/HashMap$KeyIterator"), (0, .class_ 611), (0, u "java/util/HashMap$HashIterator")] 17

def k21c0 : Code := { maxStack := 2, maxLocals := 1, code := jdk_69_method_7_code, exceptionTable := #[], attributes := #[] }
def k21m0 : Method := { name := "<init>", desc := "()V", sig := { parameters := [], returnType := none }, accessFlags := 1, code := some k21c0 }
/-- java/util/HashMap -/
def k21 : Class := { plain "java/util/HashMap" (some 20) with
  accessFlags := 33
  interfaces := #[19, 17, 2]
  cf := some (fileOf pool21 40 #[.nestMembers #[180, 596, 598, 600, 602, 604, 606, 608, 610, 346, 268, 263, 243, 163]] #[{ accessFlags := 1, nameIndex := 47, descriptorIndex := 48, attributes := #[] }] 33 44 #[101, 392, 394] #[{ accessFlags := 26, nameIndex := 396, descriptorIndex := 397, attributes := #[] }, { accessFlags := 24, nameIndex := 401, descriptorIndex := 91, attributes := #[] }, { accessFlags := 24, nameIndex := 403, descriptorIndex := 91, attributes := #[] }, { accessFlags := 24, nameIndex := 404, descriptorIndex := 84, attributes := #[] }, { accessFlags := 24, nameIndex := 405, descriptorIndex := 91, attributes := #[] }, { accessFlags := 24, nameIndex := 407, descriptorIndex := 91, attributes := #[] }, { accessFlags := 24, nameIndex := 409, descriptorIndex := 91, attributes := #[] }, { accessFlags := 128, nameIndex := 107, descriptorIndex := 108, attributes := #[] }, { accessFlags := 128, nameIndex := 123, descriptorIndex := 242, attributes := #[] }, { accessFlags := 128, nameIndex := 104, descriptorIndex := 91, attributes := #[] }, { accessFlags := 128, nameIndex := 204, descriptorIndex := 91, attributes := #[] }, { accessFlags := 0, nameIndex := 90, descriptorIndex := 91, attributes := #[] }, { accessFlags := 16, nameIndex := 83, descriptorIndex := 84, attributes := #[] }])
  fields := #[{ name := "serialVersionUID", type := .long, accessFlags := 26, slot := 0, constantValue := 0 }, { name := "DEFAULT_INITIAL_CAPACITY", type := .int, accessFlags := 24, slot := 1, constantValue := 0 }, { name := "MAXIMUM_CAPACITY", type := .int, accessFlags := 24, slot := 2, constantValue := 0 }, { name := "DEFAULT_LOAD_FACTOR", type := .float, accessFlags := 24, slot := 3, constantValue := 0 }, { name := "TREEIFY_THRESHOLD", type := .int, accessFlags := 24, slot := 4, constantValue := 0 }, { name := "UNTREEIFY_THRESHOLD", type := .int, accessFlags := 24, slot := 5, constantValue := 0 }, { name := "MIN_TREEIFY_CAPACITY", type := .int, accessFlags := 24, slot := 6, constantValue := 0 }, { name := "table", type := (.array (.object "java/util/HashMap$Node")), accessFlags := 128, slot := 2, constantValue := 0 }, { name := "entrySet", type := (.object "java/util/Set"), accessFlags := 128, slot := 3, constantValue := 0 }, { name := "size", type := .int, accessFlags := 128, slot := 4, constantValue := 0 }, { name := "modCount", type := .int, accessFlags := 128, slot := 5, constantValue := 0 }, { name := "threshold", type := .int, accessFlags := 0, slot := 6, constantValue := 0 }, { name := "loadFactor", type := .float, accessFlags := 16, slot := 7, constantValue := 0 }]
  methods := #[k21m0]
  instanceTypes := #[(.object "java/util/Set"), (.object "java/util/Collection"), (.array (.object "java/util/HashMap$Node")), (.object "java/util/Set"), .int, .int, .int, .float]
  staticTypes := #[.long, .int, .int, .float, .int, .int, .int]
  resolved := Array.replicate 629 none
  statics := none }

def pool22 : Array CpInfo := pool [(1, .class_ 2), (0, u "java/lang/Math"), (1, .class_ 6), (1, u "java/lang/Object"), (0, u "<init>"), (0, u "()V"), (89, .class_ 100), (1, u "java/lang/Math$RandomNumberGeneratorHolder"), (71, u "negativeZeroFloatBits"), (0, u "J"), (2, u "negativeZeroDoubleBits"), (21, u "max"), (46, u "$assertionsDisabled"), (0, u "Z"), (88, u "(II)I"), (2, u "twoToTheDoubleScaleDown"), (0, u "D"), (4, u "twoToTheDoubleScaleUp"), (9, u "E"), (3, u "PI"), (2, u "TAU"), (2, u "DEGREES_TO_RADIANS"), (0, u "RADIANS_TO_DEGREES")] 94

def k22m0 : Method := { name := "<init>", desc := "()V", sig := { parameters := [], returnType := none }, accessFlags := 2, code := none }
def k22c1 : Code := { maxStack := 2, maxLocals := 2, code := jdk_29_method_65_code, exceptionTable := #[], attributes := #[] }
def k22m1 : Method := { name := "max", desc := "(II)I", sig := { parameters := [.int, .int], returnType := some .int }, accessFlags := 9, code := some k22c1 }
/-- java/lang/Math -/
def k22 : Class := { plain "java/lang/Math" (some 0) with
  accessFlags := 49
  interfaces := #[]
  cf := some (fileOf pool22 1 #[.nestMembers #[98]] #[{ accessFlags := 2, nameIndex := 7, descriptorIndex := 8, attributes := #[] }, { accessFlags := 9, nameIndex := 198, descriptorIndex := 335, attributes := #[] }] 49 4 #[] #[{ accessFlags := 25, nameIndex := 354, descriptorIndex := 339, attributes := #[] }, { accessFlags := 25, nameIndex := 358, descriptorIndex := 339, attributes := #[] }, { accessFlags := 25, nameIndex := 361, descriptorIndex := 339, attributes := #[] }, { accessFlags := 26, nameIndex := 364, descriptorIndex := 339, attributes := #[] }, { accessFlags := 26, nameIndex := 365, descriptorIndex := 339, attributes := #[] }, { accessFlags := 26, nameIndex := 172, descriptorIndex := 173, attributes := #[] }, { accessFlags := 26, nameIndex := 176, descriptorIndex := 173, attributes := #[] }, { accessFlags := 8, nameIndex := 344, descriptorIndex := 339, attributes := #[] }, { accessFlags := 8, nameIndex := 338, descriptorIndex := 339, attributes := #[] }, { accessFlags := 4120, nameIndex := 245, descriptorIndex := 246, attributes := #[] }])
  fields := #[{ name := "E", type := .double, accessFlags := 25, slot := 0, constantValue := 0 }, { name := "PI", type := .double, accessFlags := 25, slot := 1, constantValue := 0 }, { name := "TAU", type := .double, accessFlags := 25, slot := 2, constantValue := 0 }, { name := "DEGREES_TO_RADIANS", type := .double, accessFlags := 26, slot := 3, constantValue := 0 }, { name := "RADIANS_TO_DEGREES", type := .double, accessFlags := 26, slot := 4, constantValue := 0 }, { name := "negativeZeroFloatBits", type := .long, accessFlags := 26, slot := 5, constantValue := 0 }, { name := "negativeZeroDoubleBits", type := .long, accessFlags := 26, slot := 6, constantValue := 0 }, { name := "twoToTheDoubleScaleUp", type := .double, accessFlags := 8, slot := 7, constantValue := 0 }, { name := "twoToTheDoubleScaleDown", type := .double, accessFlags := 8, slot := 8, constantValue := 0 }, { name := "$assertionsDisabled", type := .boolean, accessFlags := 4120, slot := 9, constantValue := 0 }]
  methods := #[k22m0, k22m1]
  instanceTypes := #[]
  staticTypes := #[.double, .double, .double, .double, .double, .long, .long, .double, .double, .boolean]
  resolved := Array.replicate 460 none
  statics := none }

def pool23 : Array CpInfo := pool [(2, .class_ 4), (1, u "java/lang/Object"), (0, u "<init>"), (0, u "()V"), (35, .class_ 44), (1, u "java/util/Objects"), (60, .methodref 106 107), (0, .class_ 108), (0, .nameAndType 109 110), (0, u "jdk/internal/util/Preconditions"), (0, u "checkIndex"), (0, u "(IILjava/util/function/BiFunction;)I"), (60, u "(II)I")] 12

def k23m0 : Method := { name := "<init>", desc := "()V", sig := { parameters := [], returnType := none }, accessFlags := 2, code := none }
def k23c1 : Code := { maxStack := 3, maxLocals := 2, code := jdk_31_method_17_code, exceptionTable := #[], attributes := #[] }
def k23m1 : Method := { name := "checkIndex", desc := "(II)I", sig := { parameters := [.int, .int], returnType := some .int }, accessFlags := 9, code := some k23c1 }
/-- java/util/Objects -/
def k23 : Class := { plain "java/util/Objects" (some 0) with
  accessFlags := 49
  interfaces := #[]
  cf := some (fileOf pool23 42 #[] #[{ accessFlags := 2, nameIndex := 5, descriptorIndex := 6, attributes := #[] }, { accessFlags := 9, nameIndex := 109, descriptorIndex := 171, attributes := #[] }] 49 2 #[] #[])
  fields := #[]
  methods := #[k23m0, k23m1]
  instanceTypes := #[]
  staticTypes := #[]
  resolved := Array.replicate 184 none
  statics := none }

def pool24 : Array CpInfo := pool [(2, .class_ 4), (1, u "java/lang/Object"), (0, u "<init>"), (0, u "()V"), (17, .class_ 26), (1, u "jdk/internal/util/Preconditions"), (6, u "checkIndex"), (21, .class_ 56), (0, u "jdk/internal/util/Preconditions$4"), (57, .class_ 115), (0, u "jdk/internal/util/Preconditions$1"), (7, u "SIOOBE_FORMATTER"), (0, u "Ljava/util/function/BiFunction;"), (0, .class_ 126), (0, u "jdk/internal/util/Preconditions$2"), (3, u "AIOOBE_FORMATTER"), (0, .class_ 132), (0, u "jdk/internal/util/Preconditions$3"), (3, u "IOOBE_FORMATTER"), (41, u "(IILjava/util/function/BiFunction;)I")] 15

def k24m0 : Method := { name := "<init>", desc := "()V", sig := { parameters := [], returnType := none }, accessFlags := 1, code := none }
def k24c1 : Code := { maxStack := 3, maxLocals := 3, code := jdk_41_method_11_code, exceptionTable := #[], attributes := #[] }
def k24m1 : Method := { name := "checkIndex", desc := "(IILjava/util/function/BiFunction;)I", sig := { parameters := [.int, .int, (.object "java/util/function/BiFunction")], returnType := some .int }, accessFlags := 9, code := some k24c1 }
/-- jdk/internal/util/Preconditions -/
def k24 : Class := { plain "jdk/internal/util/Preconditions" (some 0) with
  accessFlags := 33
  interfaces := #[]
  cf := some (fileOf pool24 24 #[.nestMembers #[55, 131, 125, 114]] #[{ accessFlags := 1, nameIndex := 5, descriptorIndex := 6, attributes := #[] }, { accessFlags := 9, nameIndex := 33, descriptorIndex := 178, attributes := #[] }] 33 2 #[] #[{ accessFlags := 25, nameIndex := 123, descriptorIndex := 124, attributes := #[] }, { accessFlags := 25, nameIndex := 130, descriptorIndex := 124, attributes := #[] }, { accessFlags := 25, nameIndex := 136, descriptorIndex := 124, attributes := #[] }])
  fields := #[{ name := "SIOOBE_FORMATTER", type := (.object "java/util/function/BiFunction"), accessFlags := 25, slot := 0, constantValue := 0 }, { name := "AIOOBE_FORMATTER", type := (.object "java/util/function/BiFunction"), accessFlags := 25, slot := 1, constantValue := 0 }, { name := "IOOBE_FORMATTER", type := (.object "java/util/function/BiFunction"), accessFlags := 25, slot := 2, constantValue := 0 }]
  methods := #[k24m0, k24m1]
  instanceTypes := #[]
  staticTypes := #[(.object "java/util/function/BiFunction"), (.object "java/util/function/BiFunction"), (.object "java/util/function/BiFunction")]
  resolved := Array.replicate 194 none
  statics := some 2 }

def pool25 : Array CpInfo := pool [(4, .class_ 6), (1, u "java/lang/Object"), (0, u "<init>"), (0, u "()V"), (5, .class_ 16), (1, u "java/lang/StringLatin1"), (104, u "$assertionsDisabled"), (0, u "Z"), (98, .class_ 223), (1, u "java/lang/StringLatin1$LinesSpliterator"), (166, .class_ 391), (0, u "java/lang/StringLatin1$CharsSpliterator")] 3

def k25m0 : Method := { name := "<init>", desc := "()V", sig := { parameters := [], returnType := none }, accessFlags := 0, code := none }
/-- java/lang/StringLatin1 -/
def k25 : Class := { plain "java/lang/StringLatin1" (some 0) with
  accessFlags := 48
  interfaces := #[]
  cf := some (fileOf pool25 14 #[.nestMembers #[390, 221]] #[{ accessFlags := 0, nameIndex := 7, descriptorIndex := 8, attributes := #[] }] 48 4 #[] #[{ accessFlags := 4120, nameIndex := 121, descriptorIndex := 122, attributes := #[] }])
  fields := #[{ name := "$assertionsDisabled", type := .boolean, accessFlags := 4120, slot := 0, constantValue := 0 }]
  methods := #[k25m0]
  instanceTypes := #[]
  staticTypes := #[.boolean]
  resolved := Array.replicate 395 none
  statics := none }

def pool26 : Array CpInfo := pool [(9, u "<init>"), (6, .class_ 18), (1, u "java/lang/Object"), (0, u "()V"), (1, .class_ 23), (1, u "jdk/internal/util/ArraysSupport"), (0, u "LOG2_ARRAY_LONG_INDEX_SCALE"), (0, u "I"), (2, u "U"), (0, u "Ljdk/internal/misc/Unsafe;"), (8, u "BIG_ENDIAN"), (0, u "Z"), (8, u "LOG2_BYTE_BIT_SIZE"), (4, u "LOG2_ARRAY_INT_INDEX_SCALE"), (54, u "JLA"), (0, u "Ljdk/internal/access/JavaLangAccess;"), (11, u "LOG2_ARRAY_BOOLEAN_INDEX_SCALE"), (9, u "LOG2_ARRAY_BYTE_INDEX_SCALE"), (5, u "LOG2_ARRAY_CHAR_INDEX_SCALE"), (5, u "LOG2_ARRAY_SHORT_INDEX_SCALE"), (18, u "LOG2_ARRAY_FLOAT_INDEX_SCALE"), (24, u "LOG2_ARRAY_DOUBLE_INDEX_SCALE"), (89, u "T_BOOLEAN"), (2, u "T_CHAR"), (1, u "T_FLOAT"), (1, u "T_DOUBLE"), (1, u "T_BYTE"), (1, u "T_SHORT"), (1, u "T_INT"), (1, u "T_LONG"), (1, u "SOFT_MAX_ARRAY_LENGTH")] 83

def k26m0 : Method := { name := "<init>", desc := "()V", sig := { parameters := [], returnType := none }, accessFlags := 2, code := none }
/-- jdk/internal/util/ArraysSupport -/
def k26 : Class := { plain "jdk/internal/util/ArraysSupport" (some 0) with
  accessFlags := 33
  interfaces := #[]
  cf := some (fileOf pool26 21 #[] #[{ accessFlags := 2, nameIndex := 9, descriptorIndex := 19, attributes := #[] }] 33 16 #[] #[{ accessFlags := 24, nameIndex := 28, descriptorIndex := 29, attributes := #[] }, { accessFlags := 26, nameIndex := 38, descriptorIndex := 39, attributes := #[] }, { accessFlags := 25, nameIndex := 121, descriptorIndex := 25, attributes := #[] }, { accessFlags := 25, nameIndex := 131, descriptorIndex := 25, attributes := #[] }, { accessFlags := 25, nameIndex := 137, descriptorIndex := 25, attributes := #[] }, { accessFlags := 25, nameIndex := 143, descriptorIndex := 25, attributes := #[] }, { accessFlags := 25, nameIndex := 53, descriptorIndex := 25, attributes := #[] }, { accessFlags := 25, nameIndex := 24, descriptorIndex := 25, attributes := #[] }, { accessFlags := 25, nameIndex := 162, descriptorIndex := 25, attributes := #[] }, { accessFlags := 25, nameIndex := 187, descriptorIndex := 25, attributes := #[] }, { accessFlags := 26, nameIndex := 48, descriptorIndex := 25, attributes := #[] }, { accessFlags := 25, nameIndex := 277, descriptorIndex := 25, attributes := #[] }, { accessFlags := 25, nameIndex := 280, descriptorIndex := 25, attributes := #[] }, { accessFlags := 25, nameIndex := 282, descriptorIndex := 25, attributes := #[] }, { accessFlags := 25, nameIndex := 284, descriptorIndex := 25, attributes := #[] }, { accessFlags := 25, nameIndex := 286, descriptorIndex := 25, attributes := #[] }, { accessFlags := 25, nameIndex := 288, descriptorIndex := 25, attributes := #[] }, { accessFlags := 25, nameIndex := 290, descriptorIndex := 25, attributes := #[] }, { accessFlags := 25, nameIndex := 292, descriptorIndex := 25, attributes := #[] }, { accessFlags := 26, nameIndex := 108, descriptorIndex := 109, attributes := #[] }, { accessFlags := 25, nameIndex := 294, descriptorIndex := 25, attributes := #[] }])
  fields := #[{ name := "U", type := (.object "jdk/internal/misc/Unsafe"), accessFlags := 24, slot := 0, constantValue := 0 }, { name := "BIG_ENDIAN", type := .boolean, accessFlags := 26, slot := 1, constantValue := 0 }, { name := "LOG2_ARRAY_BOOLEAN_INDEX_SCALE", type := .int, accessFlags := 25, slot := 2, constantValue := 0 }, { name := "LOG2_ARRAY_BYTE_INDEX_SCALE", type := .int, accessFlags := 25, slot := 3, constantValue := 0 }, { name := "LOG2_ARRAY_CHAR_INDEX_SCALE", type := .int, accessFlags := 25, slot := 4, constantValue := 0 }, { name := "LOG2_ARRAY_SHORT_INDEX_SCALE", type := .int, accessFlags := 25, slot := 5, constantValue := 0 }, { name := "LOG2_ARRAY_INT_INDEX_SCALE", type := .int, accessFlags := 25, slot := 6, constantValue := 0 }, { name := "LOG2_ARRAY_LONG_INDEX_SCALE", type := .int, accessFlags := 25, slot := 7, constantValue := 0 }, { name := "LOG2_ARRAY_FLOAT_INDEX_SCALE", type := .int, accessFlags := 25, slot := 8, constantValue := 0 }, { name := "LOG2_ARRAY_DOUBLE_INDEX_SCALE", type := .int, accessFlags := 25, slot := 9, constantValue := 0 }, { name := "LOG2_BYTE_BIT_SIZE", type := .int, accessFlags := 26, slot := 10, constantValue := 0 }, { name := "T_BOOLEAN", type := .int, accessFlags := 25, slot := 11, constantValue := 0 }, { name := "T_CHAR", type := .int, accessFlags := 25, slot := 12, constantValue := 0 }, { name := "T_FLOAT", type := .int, accessFlags := 25, slot := 13, constantValue := 0 }, { name := "T_DOUBLE", type := .int, accessFlags := 25, slot := 14, constantValue := 0 }, { name := "T_BYTE", type := .int, accessFlags := 25, slot := 15, constantValue := 0 }, { name := "T_SHORT", type := .int, accessFlags := 25, slot := 16, constantValue := 0 }, { name := "T_INT", type := .int, accessFlags := 25, slot := 17, constantValue := 0 }, { name := "T_LONG", type := .int, accessFlags := 25, slot := 18, constantValue := 0 }, { name := "JLA", type := (.object "jdk/internal/access/JavaLangAccess"), accessFlags := 26, slot := 19, constantValue := 0 }, { name := "SOFT_MAX_ARRAY_LENGTH", type := .int, accessFlags := 25, slot := 20, constantValue := 0 }]
  methods := #[k26m0]
  instanceTypes := #[]
  staticTypes := #[(.object "jdk/internal/misc/Unsafe"), .boolean, .int, .int, .int, .int, .int, .int, .int, .int, .int, .int, .int, .int, .int, .int, .int, .int, .int, (.object "jdk/internal/access/JavaLangAccess"), .int]
  resolved := Array.replicate 378 none
  statics := none }

/-- the primitive byte -/
def k27 : Class := { plain "byte" none with kind := .primitive 'B', accessFlags := 0x411 }
/-- [B -/
def k28 : Class := { plain "[B" (some 0) with kind := .array 27 .byte, interfaces := #[17, 2], accessFlags := 1041 }

/-- the primitive char -/
def k29 : Class := { plain "char" none with kind := .primitive 'C', accessFlags := 0x411 }
/-- [C -/
def k30 : Class := { plain "[C" (some 0) with kind := .array 29 .char, interfaces := #[17, 2], accessFlags := 1041 }

/-- the primitive int -/
def k31 : Class := { plain "int" none with kind := .primitive 'I', accessFlags := 0x411 }
/-- [I -/
def k32 : Class := { plain "[I" (some 0) with kind := .array 31 .int, interfaces := #[17, 2], accessFlags := 1041 }

/-- [Ljava/lang/Object; -/
def k33 : Class := { plain "[Ljava/lang/Object;" (some 0) with kind := .array 0 (.object "java/lang/Object"), interfaces := #[17, 2], accessFlags := 1041 }

/-- [Ljava/lang/String; -/
def k34 : Class := { plain "[Ljava/lang/String;" (some 0) with kind := .array 7 (.object "java/lang/String"), interfaces := #[17, 2], accessFlags := 1041 }

def heap : Heap := #[{ cls := 7, slots := #[.long 0, .int 1, .null, .int 0, .null, .int 0, .int 0], vm := .statics 7 },
  { cls := 18, slots := #[.long 0, .int 0, .ref 3, .ref 4], vm := .statics 18 },
  { cls := 24, slots := #[.null, .null, .null], vm := .statics 24 },
  { cls := 33, slots := #[], vm := .none },
  { cls := 33, slots := #[], vm := .none }]
def classes : Array Class := #[k0, k1, k2, k3, k4, k5, k6, k7, k8, k9, k10, k11, k12, k13, k14, k15, k16, k17, k18, k19, k20, k21, k22, k23, k24, k25, k26, k27, k28, k29, k30, k31, k32, k33, k34]
def interned : List (Array UInt16 × Addr) := []
def slotsUsed : Nat := 14
def theMethod : MethodId := ⟨1, 1⟩
def args0 : Array Value := #[.int 5, .int 6, .int 7, .int 8]
def aboutOver (below : List Frame) : State where
  vm := { classes := classes, interned := interned.toArray }
  heap := heap
  slotsUsed := slotsUsed
  threads := #[{ frames := .invoking theMethod args0 :: below }]
def below0 : List Frame := [.native { method := ⟨0, 0⟩, args := #[] }]
def about1 : State := aboutOver below0
def p0 : Program := .bare "" "" ""
def e0 : Env := launch0.env 0 0 0
theorem w_frames : about1.frames = Frame.invoking theMethod args0 :: below0 := rfl
set_option maxRecDepth 65536 in
theorem w_args : argsFit about1.vm theMethod args0 = true := by decide +kernel
set_option maxRecDepth 65536 in
theorem w_heap : heapFits about1 = true := by decide +kernel
set_option maxRecDepth 65536 in
theorem w_runnable : about1.curStatus? = some .runnable := by decide +kernel
set_option maxRecDepth 65536 in
theorem w_alone : about1.alone = true := by decide +kernel
set_option maxRecDepth 65536 in
theorem w_named : about1.methodNamed? x = some theMethod := by decide +kernel
set_option maxRecDepth 65536 in
theorem w_hears : about1.hears theMethod below0 = true := by decide +kernel
set_option maxRecDepth 65536 in
theorem w_ripe : about1.ripe theMethod args0 below0 = true := by decide +kernel
theorem w_running : about1.status = .running := rfl
set_option maxRecDepth 65536 in
theorem w_room : about1.hasRoom e0.platform room_1 = true :=
  launch0.hasRoom_least _ room_1 (by decide +kernel) (by decide +kernel) (by decide +kernel) (by decide +kernel) (by decide +kernel) (by decide +kernel)
theorem allAtoms_all (ts : List Jvm.Cond) (a : Array Jvm.Value) (st : Jvm.State) : (allAtoms ts).before a st = ts.all (fun c => c.before a st) := by
  induction ts with
  | nil => rfl
  | cons c t ih =>
    show (Jvm.Cond.and c (allAtoms t)).before a st = _
    rw [Jvm.Cond.before_and, ih, List.all_cons]
def words1 : List Jvm.Cond := Jvm.Cond.code x code maxLocals ret :: tables_1
/-- a 'code' word, met by the world's own term for the bytes: nothing is compared byte by byte -/
theorem code_word {y : MethodName} {bytes : ByteArray} {mx : Nat} {rt : Option FieldType} {a : Array Value} {s : State} {m : MethodId} {meth : Method} {c : Code} (h1 : s.methodNamed? y = some m) (h2 : s.vm.method? m = some meth) (h3 : meth.code = some c) (h4 : c.code = bytes)
    (h5 : (c.maxLocals == mx && c.exceptionTable.isEmpty && decide (c.maxStack ≤ mostOperands) && decide (meth.sig.returnType = rt) && !meth.locks && decide (parseMethodDescriptor y.desc = some meth.sig)) = true) : (Jvm.Cond.code y bytes mx rt).before a s = true := by
  simp only [Bool.and_eq_true, beq_iff_eq, Bool.not_eq_true', decide_eq_true_eq] at h5
  obtain ⟨⟨⟨⟨⟨g1, g2⟩, g3⟩, g4⟩, g5⟩, g6⟩ := h5
  simp [Cond.before, Cond.holds, Cond.value, h1, h2, h3, h4, g1, g2, g3, g4, g5, g6]
def isCode : Jvm.Cond → Bool
  | .code _ _ _ _ => true
  | _ => false
theorem all_split {L : List Jvm.Cond} {P : Jvm.Cond → Bool} (h1 : L.all (fun c => isCode c || P c) = true) (h2 : ∀ c ∈ L.filter isCode, P c = true) : L.all P = true := by
  refine List.all_eq_true.mpr fun c hc => ?_
  have h := List.all_eq_true.mp h1 c hc
  rcases Bool.eq_false_or_eq_true (isCode c) with hi | hi
  · exact h2 c (List.mem_filter.mpr ⟨hc, hi⟩)
  · simpa [hi] using h
set_option maxRecDepth 65536 in
theorem w_c0 : (Jvm.Cond.code x code maxLocals ret).before args0 about1 = true := code_word (m := ⟨1, 1⟩) (meth := k1m1) (c := k1c1) (by decide +kernel) rfl rfl rfl (by decide +kernel)
set_option maxRecDepth 65536 in
theorem w_c1 : (Jvm.Cond.code ({ cls := "com/example/steady_fixtures/steadyfixtures/load/TableRowsResourcePinLaw", name := "str", desc := "(I)Ljava/lang/String;" } : Jvm.MethodName) method_3_code (2 : Nat) (Option.some (Jvm.ClassFile.FieldType.object "java/lang/String"))).before args0 about1 = true := code_word (m := ⟨1, 2⟩) (meth := k1m2) (c := k1c2) (by decide +kernel) rfl rfl rfl (by decide +kernel)
set_option maxRecDepth 65536 in
theorem w_c2 : (Jvm.Cond.code ({ cls := "java/lang/String", name := "<init>", desc := "([C)V" } : Jvm.MethodName) jdk_42_method_3_code (2 : Nat) (Option.none : Option Jvm.ClassFile.FieldType)).before args0 about1 = true := code_word (m := ⟨7, 1⟩) (meth := k7m1) (c := k7c1) (by decide +kernel) rfl rfl rfl (by decide +kernel)
set_option maxRecDepth 65536 in
theorem w_c3 : (Jvm.Cond.code ({ cls := "java/lang/String", name := "<init>", desc := "([CIILjava/lang/Void;)V" } : Jvm.MethodName) jdk_42_method_149_code (6 : Nat) (Option.none : Option Jvm.ClassFile.FieldType)).before args0 about1 = true := code_word (m := ⟨7, 3⟩) (meth := k7m3) (c := k7c3) (by decide +kernel) rfl rfl rfl (by decide +kernel)
set_option maxRecDepth 65536 in
theorem w_c4 : (Jvm.Cond.code ({ cls := "java/lang/Object", name := "<init>", desc := "()V" } : Jvm.MethodName) object_method_1_code (1 : Nat) (Option.none : Option Jvm.ClassFile.FieldType)).before args0 about1 = true := code_word (m := ⟨0, 0⟩) (meth := k0m0) (c := k0c0) (by decide +kernel) rfl rfl rfl (by decide +kernel)
set_option maxRecDepth 65536 in
theorem w_c5 : (Jvm.Cond.code ({ cls := "java/lang/StringUTF16", name := "compress", desc := "([CII)[B" } : Jvm.MethodName) jdk_52_method_16_code (6 : Nat) (Option.some (Jvm.ClassFile.FieldType.array Jvm.ClassFile.FieldType.byte))).before args0 about1 = true := code_word (m := ⟨8, 2⟩) (meth := k8m2) (c := k8c2) (by decide +kernel) rfl rfl rfl (by decide +kernel)
set_option maxRecDepth 65536 in
theorem w_c6 : (Jvm.Cond.code ({ cls := "java/lang/StringUTF16", name := "compress", desc := "([CI[BII)I" } : Jvm.MethodName) jdk_52_method_21_code (7 : Nat) (Option.some Jvm.ClassFile.FieldType.int)).before args0 about1 = true := code_word (m := ⟨8, 3⟩) (meth := k8m3) (c := k8c3) (by decide +kernel) rfl rfl rfl (by decide +kernel)
set_option maxRecDepth 65536 in
theorem w_c7 : (Jvm.Cond.code ({ cls := "java/lang/StringUTF16", name := "coderFromArrayLen", desc := "([BI)B" } : Jvm.MethodName) jdk_52_method_15_code (2 : Nat) (Option.some Jvm.ClassFile.FieldType.byte)).before args0 about1 = true := code_word (m := ⟨8, 1⟩) (meth := k8m1) (c := k8c1) (by decide +kernel) rfl rfl rfl (by decide +kernel)
set_option maxRecDepth 65536 in
theorem w_c8 : (Jvm.Cond.code ({ cls := "java/util/ArrayList", name := "<init>", desc := "()V" } : Jvm.MethodName) jdk_38_method_2_code (1 : Nat) (Option.none : Option Jvm.ClassFile.FieldType)).before args0 about1 = true := code_word (m := ⟨18, 0⟩) (meth := k18m0) (c := k18c0) (by decide +kernel) rfl rfl rfl (by decide +kernel)
set_option maxRecDepth 65536 in
theorem w_c9 : (Jvm.Cond.code ({ cls := "java/util/AbstractList", name := "<init>", desc := "()V" } : Jvm.MethodName) jdk_39_method_1_code (1 : Nat) (Option.none : Option Jvm.ClassFile.FieldType)).before args0 about1 = true := code_word (m := ⟨15, 0⟩) (meth := k15m0) (c := k15c0) (by decide +kernel) rfl rfl rfl (by decide +kernel)
set_option maxRecDepth 65536 in
theorem w_c10 : (Jvm.Cond.code ({ cls := "java/util/AbstractCollection", name := "<init>", desc := "()V" } : Jvm.MethodName) jdk_22_method_1_code (1 : Nat) (Option.none : Option Jvm.ClassFile.FieldType)).before args0 about1 = true := code_word (m := ⟨12, 0⟩) (meth := k12m0) (c := k12c0) (by decide +kernel) rfl rfl rfl (by decide +kernel)
set_option maxRecDepth 65536 in
theorem w_c11 : (Jvm.Cond.code ({ cls := "com/example/steady_fixtures/steadyfixtures/load/TableRows", name := "<init>", desc := "(Lcom/example/steady_fixtures/steadyfixtures/schema/Table;Ljava/util/List;)V" } : Jvm.MethodName) prog_21_method_2_code (3 : Nat) (Option.none : Option Jvm.ClassFile.FieldType)).before args0 about1 = true := code_word (m := ⟨9, 0⟩) (meth := k9m0) (c := k9c0) (by decide +kernel) rfl rfl rfl (by decide +kernel)
set_option maxRecDepth 65536 in
theorem w_c12 : (Jvm.Cond.code ({ cls := "java/util/HashMap", name := "<init>", desc := "()V" } : Jvm.MethodName) jdk_69_method_7_code (1 : Nat) (Option.none : Option Jvm.ClassFile.FieldType)).before args0 about1 = true := code_word (m := ⟨21, 0⟩) (meth := k21m0) (c := k21c0) (by decide +kernel) rfl rfl rfl (by decide +kernel)
set_option maxRecDepth 65536 in
theorem w_c13 : (Jvm.Cond.code ({ cls := "java/util/AbstractMap", name := "<init>", desc := "()V" } : Jvm.MethodName) jdk_71_method_1_code (1 : Nat) (Option.none : Option Jvm.ClassFile.FieldType)).before args0 about1 = true := code_word (m := ⟨20, 0⟩) (meth := k20m0) (c := k20c0) (by decide +kernel) rfl rfl rfl (by decide +kernel)
set_option maxRecDepth 65536 in
theorem w_c14 : (Jvm.Cond.code ({ cls := "com/example/steady_fixtures/steadyfixtures/load/TableRows", name := "add", desc := "([Ljava/lang/String;Ljava/lang/String;I)V" } : Jvm.MethodName) prog_21_method_5_code (4 : Nat) (Option.none : Option Jvm.ClassFile.FieldType)).before args0 about1 = true := code_word (m := ⟨9, 1⟩) (meth := k9m1) (c := k9c1) (by decide +kernel) rfl rfl rfl (by decide +kernel)
set_option maxRecDepth 65536 in
theorem w_c15 : (Jvm.Cond.code ({ cls := "java/util/ArrayList", name := "size", desc := "()I" } : Jvm.MethodName) jdk_38_method_8_code (1 : Nat) (Option.some Jvm.ClassFile.FieldType.int)).before args0 about1 = true := code_word (m := ⟨18, 3⟩) (meth := k18m3) (c := k18c3) (by decide +kernel) rfl rfl rfl (by decide +kernel)
set_option maxRecDepth 65536 in
theorem w_c16 : (Jvm.Cond.code ({ cls := "java/util/ArrayList", name := "add", desc := "(Ljava/lang/Object;)Z" } : Jvm.MethodName) jdk_38_method_25_code (2 : Nat) (Option.some Jvm.ClassFile.FieldType.boolean)).before args0 about1 = true := code_word (m := ⟨18, 7⟩) (meth := k18m7) (c := k18c7) (by decide +kernel) rfl rfl rfl (by decide +kernel)
set_option maxRecDepth 65536 in
theorem w_c17 : (Jvm.Cond.code ({ cls := "java/util/ArrayList", name := "add", desc := "(Ljava/lang/Object;[Ljava/lang/Object;I)V" } : Jvm.MethodName) jdk_38_method_24_code (4 : Nat) (Option.none : Option Jvm.ClassFile.FieldType)).before args0 about1 = true := code_word (m := ⟨18, 6⟩) (meth := k18m6) (c := k18c6) (by decide +kernel) rfl rfl rfl (by decide +kernel)
set_option maxRecDepth 65536 in
theorem w_c18 : (Jvm.Cond.code ({ cls := "java/util/ArrayList", name := "grow", desc := "()[Ljava/lang/Object;" } : Jvm.MethodName) jdk_38_method_7_code (1 : Nat) (Option.some (Jvm.ClassFile.FieldType.array (Jvm.ClassFile.FieldType.object "java/lang/Object")))).before args0 about1 = true := code_word (m := ⟨18, 2⟩) (meth := k18m2) (c := k18c2) (by decide +kernel) rfl rfl rfl (by decide +kernel)
set_option maxRecDepth 65536 in
theorem w_c19 : (Jvm.Cond.code ({ cls := "java/util/ArrayList", name := "grow", desc := "(I)[Ljava/lang/Object;" } : Jvm.MethodName) jdk_38_method_6_code (4 : Nat) (Option.some (Jvm.ClassFile.FieldType.array (Jvm.ClassFile.FieldType.object "java/lang/Object")))).before args0 about1 = true := code_word (m := ⟨18, 1⟩) (meth := k18m1) (c := k18c1) (by decide +kernel) rfl rfl rfl (by decide +kernel)
set_option maxRecDepth 65536 in
theorem w_c20 : (Jvm.Cond.code ({ cls := "java/lang/Math", name := "max", desc := "(II)I" } : Jvm.MethodName) jdk_29_method_65_code (2 : Nat) (Option.some Jvm.ClassFile.FieldType.int)).before args0 about1 = true := code_word (m := ⟨22, 1⟩) (meth := k22m1) (c := k22c1) (by decide +kernel) rfl rfl rfl (by decide +kernel)
set_option maxRecDepth 65536 in
theorem w_c21 : (Jvm.Cond.code ({ cls := "com/example/steady_fixtures/steadyfixtures/load/TableRows", name := "resource", desc := "(I)Ljava/lang/String;" } : Jvm.MethodName) prog_21_method_10_code (2 : Nat) (Option.some (Jvm.ClassFile.FieldType.object "java/lang/String"))).before args0 about1 = true := code_word (m := ⟨9, 2⟩) (meth := k9m2) (c := k9c2) (by decide +kernel) rfl rfl rfl (by decide +kernel)
set_option maxRecDepth 65536 in
theorem w_c22 : (Jvm.Cond.code ({ cls := "java/util/ArrayList", name := "get", desc := "(I)Ljava/lang/Object;" } : Jvm.MethodName) jdk_38_method_20_code (2 : Nat) (Option.some (Jvm.ClassFile.FieldType.object "java/lang/Object"))).before args0 about1 = true := code_word (m := ⟨18, 5⟩) (meth := k18m5) (c := k18c5) (by decide +kernel) rfl rfl rfl (by decide +kernel)
set_option maxRecDepth 65536 in
theorem w_c23 : (Jvm.Cond.code ({ cls := "java/util/Objects", name := "checkIndex", desc := "(II)I" } : Jvm.MethodName) jdk_31_method_17_code (2 : Nat) (Option.some Jvm.ClassFile.FieldType.int)).before args0 about1 = true := code_word (m := ⟨23, 1⟩) (meth := k23m1) (c := k23c1) (by decide +kernel) rfl rfl rfl (by decide +kernel)
set_option maxRecDepth 65536 in
theorem w_c24 : (Jvm.Cond.code ({ cls := "jdk/internal/util/Preconditions", name := "checkIndex", desc := "(IILjava/util/function/BiFunction;)I" } : Jvm.MethodName) jdk_41_method_11_code (3 : Nat) (Option.some Jvm.ClassFile.FieldType.int)).before args0 about1 = true := code_word (m := ⟨24, 1⟩) (meth := k24m1) (c := k24c1) (by decide +kernel) rfl rfl rfl (by decide +kernel)
set_option maxRecDepth 65536 in
theorem w_c25 : (Jvm.Cond.code ({ cls := "java/util/ArrayList", name := "elementData", desc := "(I)Ljava/lang/Object;" } : Jvm.MethodName) jdk_38_method_18_code (2 : Nat) (Option.some (Jvm.ClassFile.FieldType.object "java/lang/Object"))).before args0 about1 = true := code_word (m := ⟨18, 4⟩) (meth := k18m4) (c := k18c4) (by decide +kernel) rfl rfl rfl (by decide +kernel)
set_option maxRecDepth 65536 in
theorem w_c26 : (Jvm.Cond.code ({ cls := "java/lang/String", name := "equals", desc := "(Ljava/lang/Object;)Z" } : Jvm.MethodName) jdk_42_method_66_code (3 : Nat) (Option.some Jvm.ClassFile.FieldType.boolean)).before args0 about1 = true := code_word (m := ⟨7, 2⟩) (meth := k7m2) (c := k7c2) (by decide +kernel) rfl rfl rfl (by decide +kernel)
def codes1 : List Jvm.Cond := [Jvm.Cond.code x code maxLocals ret, Jvm.Cond.code ({ cls := "com/example/steady_fixtures/steadyfixtures/load/TableRowsResourcePinLaw", name := "str", desc := "(I)Ljava/lang/String;" } : Jvm.MethodName) method_3_code (2 : Nat) (Option.some (Jvm.ClassFile.FieldType.object "java/lang/String")), Jvm.Cond.code ({ cls := "java/lang/String", name := "<init>", desc := "([C)V" } : Jvm.MethodName) jdk_42_method_3_code (2 : Nat) (Option.none : Option Jvm.ClassFile.FieldType), Jvm.Cond.code ({ cls := "java/lang/String", name := "<init>", desc := "([CIILjava/lang/Void;)V" } : Jvm.MethodName) jdk_42_method_149_code (6 : Nat) (Option.none : Option Jvm.ClassFile.FieldType), Jvm.Cond.code ({ cls := "java/lang/Object", name := "<init>", desc := "()V" } : Jvm.MethodName) object_method_1_code (1 : Nat) (Option.none : Option Jvm.ClassFile.FieldType), Jvm.Cond.code ({ cls := "java/lang/StringUTF16", name := "compress", desc := "([CII)[B" } : Jvm.MethodName) jdk_52_method_16_code (6 : Nat) (Option.some (Jvm.ClassFile.FieldType.array Jvm.ClassFile.FieldType.byte)), Jvm.Cond.code ({ cls := "java/lang/StringUTF16", name := "compress", desc := "([CI[BII)I" } : Jvm.MethodName) jdk_52_method_21_code (7 : Nat) (Option.some Jvm.ClassFile.FieldType.int), Jvm.Cond.code ({ cls := "java/lang/StringUTF16", name := "coderFromArrayLen", desc := "([BI)B" } : Jvm.MethodName) jdk_52_method_15_code (2 : Nat) (Option.some Jvm.ClassFile.FieldType.byte), Jvm.Cond.code ({ cls := "java/util/ArrayList", name := "<init>", desc := "()V" } : Jvm.MethodName) jdk_38_method_2_code (1 : Nat) (Option.none : Option Jvm.ClassFile.FieldType), Jvm.Cond.code ({ cls := "java/util/AbstractList", name := "<init>", desc := "()V" } : Jvm.MethodName) jdk_39_method_1_code (1 : Nat) (Option.none : Option Jvm.ClassFile.FieldType), Jvm.Cond.code ({ cls := "java/util/AbstractCollection", name := "<init>", desc := "()V" } : Jvm.MethodName) jdk_22_method_1_code (1 : Nat) (Option.none : Option Jvm.ClassFile.FieldType), Jvm.Cond.code ({ cls := "com/example/steady_fixtures/steadyfixtures/load/TableRows", name := "<init>", desc := "(Lcom/example/steady_fixtures/steadyfixtures/schema/Table;Ljava/util/List;)V" } : Jvm.MethodName) prog_21_method_2_code (3 : Nat) (Option.none : Option Jvm.ClassFile.FieldType), Jvm.Cond.code ({ cls := "java/util/HashMap", name := "<init>", desc := "()V" } : Jvm.MethodName) jdk_69_method_7_code (1 : Nat) (Option.none : Option Jvm.ClassFile.FieldType), Jvm.Cond.code ({ cls := "java/util/AbstractMap", name := "<init>", desc := "()V" } : Jvm.MethodName) jdk_71_method_1_code (1 : Nat) (Option.none : Option Jvm.ClassFile.FieldType), Jvm.Cond.code ({ cls := "com/example/steady_fixtures/steadyfixtures/load/TableRows", name := "add", desc := "([Ljava/lang/String;Ljava/lang/String;I)V" } : Jvm.MethodName) prog_21_method_5_code (4 : Nat) (Option.none : Option Jvm.ClassFile.FieldType), Jvm.Cond.code ({ cls := "java/util/ArrayList", name := "size", desc := "()I" } : Jvm.MethodName) jdk_38_method_8_code (1 : Nat) (Option.some Jvm.ClassFile.FieldType.int), Jvm.Cond.code ({ cls := "java/util/ArrayList", name := "add", desc := "(Ljava/lang/Object;)Z" } : Jvm.MethodName) jdk_38_method_25_code (2 : Nat) (Option.some Jvm.ClassFile.FieldType.boolean), Jvm.Cond.code ({ cls := "java/util/ArrayList", name := "add", desc := "(Ljava/lang/Object;[Ljava/lang/Object;I)V" } : Jvm.MethodName) jdk_38_method_24_code (4 : Nat) (Option.none : Option Jvm.ClassFile.FieldType), Jvm.Cond.code ({ cls := "java/util/ArrayList", name := "grow", desc := "()[Ljava/lang/Object;" } : Jvm.MethodName) jdk_38_method_7_code (1 : Nat) (Option.some (Jvm.ClassFile.FieldType.array (Jvm.ClassFile.FieldType.object "java/lang/Object"))), Jvm.Cond.code ({ cls := "java/util/ArrayList", name := "grow", desc := "(I)[Ljava/lang/Object;" } : Jvm.MethodName) jdk_38_method_6_code (4 : Nat) (Option.some (Jvm.ClassFile.FieldType.array (Jvm.ClassFile.FieldType.object "java/lang/Object"))), Jvm.Cond.code ({ cls := "java/lang/Math", name := "max", desc := "(II)I" } : Jvm.MethodName) jdk_29_method_65_code (2 : Nat) (Option.some Jvm.ClassFile.FieldType.int), Jvm.Cond.code ({ cls := "com/example/steady_fixtures/steadyfixtures/load/TableRows", name := "resource", desc := "(I)Ljava/lang/String;" } : Jvm.MethodName) prog_21_method_10_code (2 : Nat) (Option.some (Jvm.ClassFile.FieldType.object "java/lang/String")), Jvm.Cond.code ({ cls := "java/util/ArrayList", name := "get", desc := "(I)Ljava/lang/Object;" } : Jvm.MethodName) jdk_38_method_20_code (2 : Nat) (Option.some (Jvm.ClassFile.FieldType.object "java/lang/Object")), Jvm.Cond.code ({ cls := "java/util/Objects", name := "checkIndex", desc := "(II)I" } : Jvm.MethodName) jdk_31_method_17_code (2 : Nat) (Option.some Jvm.ClassFile.FieldType.int), Jvm.Cond.code ({ cls := "jdk/internal/util/Preconditions", name := "checkIndex", desc := "(IILjava/util/function/BiFunction;)I" } : Jvm.MethodName) jdk_41_method_11_code (3 : Nat) (Option.some Jvm.ClassFile.FieldType.int), Jvm.Cond.code ({ cls := "java/util/ArrayList", name := "elementData", desc := "(I)Ljava/lang/Object;" } : Jvm.MethodName) jdk_38_method_18_code (2 : Nat) (Option.some (Jvm.ClassFile.FieldType.object "java/lang/Object")), Jvm.Cond.code ({ cls := "java/lang/String", name := "equals", desc := "(Ljava/lang/Object;)Z" } : Jvm.MethodName) jdk_42_method_66_code (3 : Nat) (Option.some Jvm.ClassFile.FieldType.boolean)]
set_option maxRecDepth 65536 in
theorem codes_eq : words1.filter isCode = codes1 := rfl
theorem w_codes : ∀ c ∈ words1.filter isCode, c.before args0 about1 = true := by
  rw [codes_eq]
  intro c hc
  simp only [codes1, List.mem_cons, List.not_mem_nil, or_false] at hc
  rcases hc with rfl | rfl | rfl | rfl | rfl | rfl | rfl | rfl | rfl | rfl | rfl | rfl | rfl | rfl | rfl | rfl | rfl | rfl | rfl | rfl | rfl | rfl | rfl | rfl | rfl | rfl | rfl
  · exact w_c0
  · exact w_c1
  · exact w_c2
  · exact w_c3
  · exact w_c4
  · exact w_c5
  · exact w_c6
  · exact w_c7
  · exact w_c8
  · exact w_c9
  · exact w_c10
  · exact w_c11
  · exact w_c12
  · exact w_c13
  · exact w_c14
  · exact w_c15
  · exact w_c16
  · exact w_c17
  · exact w_c18
  · exact w_c19
  · exact w_c20
  · exact w_c21
  · exact w_c22
  · exact w_c23
  · exact w_c24
  · exact w_c25
  · exact w_c26
set_option maxRecDepth 65536 in
theorem w_t1 : (words1.take 24).all (fun c => isCode c || c.before args0 about1) = true := by decide +kernel
set_option maxRecDepth 65536 in
theorem w_t2 : ((words1.drop 24).take 24).all (fun c => isCode c || c.before args0 about1) = true := by decide +kernel
set_option maxRecDepth 65536 in
theorem w_t3 : (((words1.drop 24).drop 24).take 24).all (fun c => isCode c || c.before args0 about1) = true := by decide +kernel
set_option maxRecDepth 65536 in
theorem w_t4 : ((((words1.drop 24).drop 24).drop 24).take 24).all (fun c => isCode c || c.before args0 about1) = true := by decide +kernel
set_option maxRecDepth 65536 in
theorem w_t5 : (((((words1.drop 24).drop 24).drop 24).drop 24).take 24).all (fun c => isCode c || c.before args0 about1) = true := by decide +kernel
set_option maxRecDepth 65536 in
theorem w_t6 : ((((((words1.drop 24).drop 24).drop 24).drop 24).drop 24).take 24).all (fun c => isCode c || c.before args0 about1) = true := by decide +kernel
set_option maxRecDepth 65536 in
theorem w_t7 : (((((((words1.drop 24).drop 24).drop 24).drop 24).drop 24).drop 24).take 24).all (fun c => isCode c || c.before args0 about1) = true := by decide +kernel
set_option maxRecDepth 65536 in
theorem w_t8 : (((((((words1.drop 24).drop 24).drop 24).drop 24).drop 24).drop 24).drop 24).all (fun c => isCode c || c.before args0 about1) = true := by decide +kernel
theorem w_tables : (allAtoms (Jvm.Cond.code x code maxLocals ret :: tables_1)).before args0 about1 = true := by
  rw [allAtoms_all]
  show words1.all (fun c => c.before args0 about1) = true
  refine all_split ?_ w_codes
  rw [← List.take_append_drop 24 words1, List.all_append, w_t1, ← List.take_append_drop 24 (words1.drop 24), List.all_append, w_t2, ← List.take_append_drop 24 ((words1.drop 24).drop 24), List.all_append, w_t3, ← List.take_append_drop 24 (((words1.drop 24).drop 24).drop 24), List.all_append, w_t4, ← List.take_append_drop 24 ((((words1.drop 24).drop 24).drop 24).drop 24), List.all_append, w_t5, ← List.take_append_drop 24 (((((words1.drop 24).drop 24).drop 24).drop 24).drop 24), List.all_append, w_t6, ← List.take_append_drop 24 ((((((words1.drop 24).drop 24).drop 24).drop 24).drop 24).drop 24), List.all_append, w_t7, w_t8]
  rfl
set_option maxRecDepth 65536 in
theorem w_rest : rest_1_c.before args0 about1 = true := by decide +kernel
set_option maxRecDepth 65536 in
theorem w_case : (Jvm.Cond.and given_1 narrow_1).before args0 about1 = true := by decide +kernel
theorem w_applies : (headSpec (Jvm.Cond.code x code maxLocals ret :: tables_1) room_1).applies x e0.platform about1 = true :=
  (Spec.applies_iff w_frames).mpr ⟨w_running, w_runnable, w_alone, w_named, w_hears, w_ripe, w_room, w_tables⟩
theorem atStart : AtStart classFile x code maxLocals ret World_1 tables_1 room_1 Calls_1 rest_1 Pre_1 launch0 p0 e0 about1 theMethod args0 below0 :=
  ⟨lists_1, trivial, launch0.admits_env _ _ _, launch0.least_env, fairChoices_fair.cas, fairChoices_fair.clock, w_frames, w_args, w_heap, w_applies, trivial, w_rest, w_case⟩
end start1
theorem witness_1 : WitnessClaimed_1 := ⟨start1.p0, start1.e0, start1.about1, start1.theMethod, start1.args0, start1.below0, start1.atStart⟩
end Jvm.Pilot.@@N@@
