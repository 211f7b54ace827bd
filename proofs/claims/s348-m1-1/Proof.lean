import JvmDerived
import JvmDerived.Pilot.@@N@@Statement
import JvmDerived.Pilot.@@N@@Code
set_option linter.unusedVariables false
set_option linter.unusedSimpArgs false
namespace Jvm.Own
open Jvm Jvm.ClassFile Sem Op Lib Jvm.Free Jvm.Stand Jvm.LawKit Jvm.RoadKit
/-! MY LAYER: a goal 'Wk' over the library's Stand (from any state that stands here with the heap h, the walk comes to its end and Q holds), one rule a step; W: may the walk intern (wide frame). -/
def Bs (W : Bool) (s : State) (vm0 : Vm) (sz : Nat) : Prop := match W with
  | false => vm0 = s.vm
  | true => ∃ k0, s.Since vm0 k0 ∧ k0 ≤ sz
def En (W : Bool) (s : State) (o : Outcome) (t : State) (L : List Loc) (k n : Nat) : Prop := match W with
  | false => FrameEnd s o t L k n
  | true => ReturnedEndW s o t L k n
def Cx (Z : State) (p : Program) (s : State) (m : MethodId) (meth : Method) (c : Code) (y : MethodName) (bytes : ByteArray) (maxL : Nat) (ret : Option FieldType) : Prop :=
  p.tables.exec = Jvm.exec ∧ c.code = bytes ∧ c.maxLocals = maxL ∧ Z.Warmed39 s.vm ∧ s.vm.findClass y.cls = some m.cls ∧ meth.name = y.name ∧ meth.sig.returnType = ret ∧ meth.locks = false
def Wk (W : Bool) (p : Program) (l : Launch) (e : Env) (R : Room) (s : State) (m : MethodId) (args : Array Value) (below : List Frame) (meth : Method) (c : Code) (n0 : Nat) (Q : Option Value → Heap → Prop) (h : Heap) (k n : Nat) (g : JFrame) : Prop :=
  ∀ T L vm0, Stand p l e R (s.setVm vm0) m args below meth c T L k n → Bs W s vm0 h.size → T.heap = h → Fr n0 L →
    ∃ s₂ o, Steps p.tables e below (T.setTop g) s₂ ∧ s₂.status = .running ∧ Ended s₂ below o ∧ ∃ v L, o = .returned v ∧ (Q v s₂.heap ∧ Fr n0 L) ∧ En W s o s₂ L R.cells R.slots
def Met (W : Bool) (l : Launch) (Z : State) (n0 : Nat) (y : MethodName) (bytes : ByteArray) (maxL : Nat) (ret : Option FieldType) (rm : Room) (as : Array Value) (h : Heap) (Q : Option Value → Heap → Prop) : Prop :=
  ∀ ws, MetFree l y (head1 (Cond.code y bytes maxL ret :: ws) rm) (fun a U => a = as ∧ Z.Warmed39 U.vm ∧ U.heap = h) (fun _ _ _ _ _ => True)
    (fun _ U o U' => ∃ v L, o = .returned v ∧ (Q v U'.heap ∧ Fr n0 L) ∧ En W U o U' L rm.cells rm.slots)
theorem Bs.start (W : Bool) (s : State) (sz : Nat) : Bs W s s.vm sz := by
  cases W
  · rfl
  · exact ⟨0, (State.WarmedH.refl s).since 0, Nat.zero_le _⟩
theorem Bs.mono {W : Bool} {s : State} {vm0 : Vm} {a b : Nat} (B : Bs W s vm0 a) (q : a ≤ b) : Bs W s vm0 b := by
  cases W
  · exact B
  · obtain ⟨k0, h1, h2⟩ := B; exact ⟨k0, h1, Nat.le_trans h2 q⟩
theorem Bs.warm {W : Bool} {s : State} {vm0 : Vm} {a : Nat} (B : Bs W s vm0 a) : s.Warmed39 vm0 := by
  cases W
  · cases (B : vm0 = s.vm); exact State.Warmed39.refl s
  · obtain ⟨k0, h1, h2⟩ := B; exact h1.1
section Cxs
variable {W : Bool} {Z : State} {p : Program} {s : State} {m : MethodId} {meth : Method} {c : Code} {y : MethodName} {bytes : ByteArray} {maxL : Nat} {ret : Option FieldType}
theorem Cx.hx (C : Cx Z p s m meth c y bytes maxL ret) : p.tables.exec = Jvm.exec := C.1
theorem Cx.hby (C : Cx Z p s m meth c y bytes maxL ret) : c.code = bytes := C.2.1
theorem Cx.hml (C : Cx Z p s m meth c y bytes maxL ret) : c.maxLocals = maxL := C.2.2.1
theorem Cx.hZ (C : Cx Z p s m meth c y bytes maxL ret) : Z.Warmed39 s.vm := C.2.2.2.1
theorem Cx.hown (C : Cx Z p s m meth c y bytes maxL ret) : s.vm.findClass y.cls = some m.cls := C.2.2.2.2.1
theorem Cx.hnm (C : Cx Z p s m meth c y bytes maxL ret) : meth.name = y.name := C.2.2.2.2.2.1
theorem Cx.hret (C : Cx Z p s m meth c y bytes maxL ret) : meth.sig.returnType = ret := C.2.2.2.2.2.2.1
theorem Cx.hlk (C : Cx Z p s m meth c y bytes maxL ret) : meth.locks = false := C.2.2.2.2.2.2.2
theorem Cx.wZ (C : Cx Z p s m meth c y bytes maxL ret) {vm0 : Vm} {a : Nat} (B : Bs W s vm0 a) : Z.Warmed39 (s.setVm vm0).vm := State.Warmed39.trans (t := s) C.hZ B.warm
theorem Cx.wo (C : Cx Z p s m meth c y bytes maxL ret) {vm0 : Vm} {a : Nat} (B : Bs W s vm0 a) : (s.setVm vm0).vm.findClass y.cls = some m.cls := by
  show vm0.findClass y.cls = _
  rw [B.warm.alike.findClass]; exact C.hown
end Cxs
theorem Met.of {W : Bool} {l : Launch} {Z : State} {n0 : Nat} {y : MethodName} {bytes : ByteArray} {maxL : Nat} {ret : Option FieldType} {rm : Room} {as : Array Value} {h : Heap} {Q : Option Value → Heap → Prop}
    (hpn : plainFor y = true) (Ls : Array Slot) (hef : ∀ m, entryFrame m as maxL = mkF m 0 Ls [])
    (H : ∀ p e s m below meth c, Cx Z p s m meth c y bytes maxL ret → Wk W p l e rm s m as below meth c n0 Q h 0 0 (mkF m 0 Ls [])) : Met W l Z n0 y bytes maxL ret rm as h Q := by
  intro ws
  refine MetFree.of_bodySF hpn hisR ?_
  intro p e s m args below meth c s₁ Bd hml0 hP hK
  obtain ⟨ha, hZ, hh⟩ := hP
  have hown := findClass_of_methodNamed Bd.named
  have hnm := (name_of_methodNamed Bd.named Bd.method).1
  have e0 : s₁.heap = h := by rw [← hh, Bd.state]; rfl
  have X0 : Stand p l e rm s m args below meth c s₁ [] 0 0 := Stand.of_body Bd
  rw [ha] at X0 ⊢
  obtain ⟨s₂, o, h1, h2⟩ := H p e s m below meth c ⟨Bd.exec, Bd.bytes, hml0, hZ, hown, hnm, Bd.returns, Bd.notSynchronized⟩ s₁ [] s.vm X0 (Bs.start W s _) e0 (Fr.nil n0)
  exact ⟨s₂, o, castTop (hef m) h1, h2⟩
section Rules
variable {W : Bool} {Z : State} {p : Program} {l : Launch} {e : Env} {R : Room} {s : State} {m : MethodId} {args : Array Value} {below : List Frame} {meth : Method} {c : Code} {y : MethodName} {bytes : ByteArray} {maxL : Nat} {ret : Option FieldType} {n0 : Nat} {Q : Option Value → Heap → Prop} {h : Heap} {k n : Nat} {g g' : JFrame} {a0 : Array Value}
theorem Wk.more {k' n' : Nat} (q1 : k ≤ k') (q2 : n ≤ n') (H : Wk W p l e R s m args below meth c n0 Q h k' n' g) : Wk W p l e R s m args below meth c n0 Q h k n g :=
  fun T L vm0 X B eT N => H T L vm0 (X.more q1 q2) B eT N
theorem Wk.st (f : ∀ {T : State} {L : List Loc} {vm0 : Vm}, Stand p l e R (s.setVm vm0) m args below meth c T L k n → ∀ t, Steps p.tables e below (T.setTop g') t → Steps p.tables e below (T.setTop g) t)
    (H : Wk W p l e R s m args below meth c n0 Q h k n g') : Wk W p l e R s m args below meth c n0 Q h k n g := by
  intro T L vm0 X B eT N
  obtain ⟨s₂, o, h1, h2⟩ := H T L vm0 X B eT N
  exact ⟨s₂, o, f X _ h1, h2⟩
/-- a step that needs the tables (as they stand at vm0) and the heap, and leaves the heap -/
theorem Wk.stZ (C : Cx Z p s m meth c y bytes maxL ret) (f : ∀ {T : State} {L : List Loc} {vm0 : Vm}, Stand p l e R (s.setVm vm0) m args below meth c T L k n → Z.Warmed39 (s.setVm vm0).vm → (s.setVm vm0).vm.findClass y.cls = some m.cls → T.heap = h → ∃ T', Stand p l e R (s.setVm vm0) m args below meth c T' L k n ∧ T'.heap = h ∧ ∀ t, Steps p.tables e below (T'.setTop g') t → Steps p.tables e below (T.setTop g) t)
    (H : Wk W p l e R s m args below meth c n0 Q h k n g') : Wk W p l e R s m args below meth c n0 Q h k n g := by
  intro T L vm0 X B eT N
  obtain ⟨T', X', e', st⟩ := f X (C.wZ B) (C.wo B) eT
  obtain ⟨s₂, o, h1, h2⟩ := H T' L vm0 X' B e' N
  exact ⟨s₂, o, st _ h1, h2⟩
/-- a step that writes one place of a new cell -/
theorem Wk.stW (C : Cx Z p s m meth c y bytes maxL ret) {a : Addr} {sl : Nat} {v : Value} (ge : n0 ≤ a) (f : ∀ {T : State} {L : List Loc} {vm0 : Vm}, Stand p l e R (s.setVm vm0) m args below meth c T L k n → Z.Warmed39 (s.setVm vm0).vm → (s.setVm vm0).vm.findClass y.cls = some m.cls → T.heap = h → ∃ T' h', Stand p l e R (s.setVm vm0) m args below meth c T' (L ++ [⟨a, sl⟩]) k n ∧ T'.heap = h' ∧ Wr h h' a sl v ∧ ∀ t, Steps p.tables e below (T'.setTop g') t → Steps p.tables e below (T.setTop g) t)
    (H : ∀ h', Wr h h' a sl v → Wk W p l e R s m args below meth c n0 Q h' k n g') : Wk W p l e R s m args below meth c n0 Q h k n g := by
  intro T L vm0 X B eT N
  obtain ⟨T', h', X', e', Wh, st⟩ := f X (C.wZ B) (C.wo B) eT
  obtain ⟨s₂, o, h1, h2⟩ := H h' Wh T' _ vm0 X' (B.mono (Nat.le_of_eq Wh.size.symm)) e' (Fr.snoc X' N ge)
  exact ⟨s₂, o, st _ h1, h2⟩
theorem Wk.ldcI (C : Cx Z p s m meth c y bytes maxL ret) {index : Nat} {v : Int32} (w : (Cond.constant y.cls index v).before a0 Z = true) {pc : Nat} {Ls : Array Slot} {st : List Value} (hd : decode bytes pc = .ok (.ldc index, 2))
    (H : Wk W p l e R s m args below meth c n0 Q h k n (mkF m (pc + 2) Ls (.int v :: st))) : Wk W p l e R s m args below meth c n0 Q h k n (mkF m pc Ls st) :=
  Wk.stZ C (fun X hZ ho eT => ⟨_, X, eT, fun t q => X.ldcI C.hx ho (mvT hZ w) rfl (hb C.hby hd) q⟩) H
theorem Wk.ldc2J (C : Cx Z p s m meth c y bytes maxL ret) {index : Nat} {v : Int64} (w : (Cond.constantLong y.cls index v).before a0 Z = true) {pc : Nat} {Ls : Array Slot} {st : List Value} (hd : decode bytes pc = .ok (.ldc2_w index, 3))
    (H : Wk W p l e R s m args below meth c n0 Q h k n (mkF m (pc + 3) Ls (.long v :: st))) : Wk W p l e R s m args below meth c n0 Q h k n (mkF m pc Ls st) :=
  Wk.stZ C (fun X hZ ho eT => ⟨_, X, eT, fun t q => X.ldc2J C.hx ho (mvT hZ w) rfl (hb C.hby hd) q⟩) H
theorem Wk.ldc2D (C : Cx Z p s m meth c y bytes maxL ret) {index : Nat} {v : UInt64} (w : (Cond.constantDouble y.cls index v).before a0 Z = true) {pc : Nat} {Ls : Array Slot} {st : List Value} (hd : decode bytes pc = .ok (.ldc2_w index, 3))
    (H : Wk W p l e R s m args below meth c n0 Q h k n (mkF m (pc + 3) Ls (.double v :: st))) : Wk W p l e R s m args below meth c n0 Q h k n (mkF m pc Ls st) :=
  Wk.stZ C (fun X hZ ho eT => ⟨_, X, eT, fun t q => X.ldc2DoubleC C.hx ho (mvT hZ w) (g := mkF m pc Ls st) rfl (hb C.hby hd) _ q⟩) H
theorem Wk.ldcF (C : Cx Z p s m meth c y bytes maxL ret) {index : Nat} {v : UInt32} (w : (Cond.constantFloat y.cls index v).before a0 Z = true) {pc : Nat} {Ls : Array Slot} {st : List Value} (hd : decode bytes pc = .ok (.ldc index, 2))
    (H : Wk W p l e R s m args below meth c n0 Q h k n (mkF m (pc + 2) Ls (.float v :: st))) : Wk W p l e R s m args below meth c n0 Q h k n (mkF m pc Ls st) :=
  Wk.stZ C (fun X hZ ho eT => ⟨_, X, eT, fun t q => X.ldcFloatC C.hx ho (mvT hZ w) (g := mkF m pc Ls st) rfl (hb C.hby hd) _ q⟩) H
theorem Wk.cast (C : Cx Z p s m meth c y bytes maxL ret) {K : String} {index : Nat} (w : (Cond.classLink y.cls index K).before a0 Z = true) {a : Addr} (F : Ins Z h a K true) {pc : Nat} {Ls : Array Slot} {st : List Value} (hd : decode bytes pc = .ok (.checkcast index, 3))
    (H : Wk W p l e R s m args below meth c n0 Q h k n (mkF m (pc + 3) Ls (.ref a :: st))) : Wk W p l e R s m args below meth c n0 Q h k n (mkF m pc Ls (.ref a :: st)) :=
  Wk.stZ C (fun X hZ ho eT => castY X C.hx hZ ho w eT F (g := mkF m pc Ls (.ref a :: st)) rfl rfl (hb C.hby hd)) H
theorem Wk.getS (C : Cx Z p s m meth c y bytes maxL ret) {O nm d : String} {index : Nat} (w : (Cond.fieldLink y.cls index O nm d).before a0 Z = true) {v : Value} (F : Sta Z h O nm d v) {pc : Nat} {Ls : Array Slot} {st : List Value} (hd : decode bytes pc = .ok (.getstatic index, 3))
    (H : Wk W p l e R s m args below meth c n0 Q h k n (mkF m (pc + 3) Ls (v :: st))) : Wk W p l e R s m args below meth c n0 Q h k n (mkF m pc Ls st) :=
  Wk.stZ C (fun X hZ ho eT => Jvm.RoadKit.getS (host := "") X C.hx hZ ho w Via.refl eT F (g := mkF m pc Ls st) rfl (hb C.hby hd)) H
theorem Wk.getF (C : Cx Z p s m meth c y bytes maxL ret) {R0 O nm d : String} {index : Nat} (w : (Cond.fieldLink y.cls index R0 nm d).before a0 Z = true) (via : Via Z R0 O nm d) {a : Addr} {v : Value} (F : Fld Z h a O nm d v) {pc : Nat} {Ls : Array Slot} {st : List Value} (hd : decode bytes pc = .ok (.getfield index, 3))
    (H : Wk W p l e R s m args below meth c n0 Q h k n (mkF m (pc + 3) Ls (v :: st))) : Wk W p l e R s m args below meth c n0 Q h k n (mkF m pc Ls (.ref a :: st)) :=
  Wk.stZ C (fun X hZ ho eT => Jvm.RoadKit.getF (host := "") X C.hx hZ ho (Or.inl w) via eT F (g := mkF m pc Ls (.ref a :: st)) rfl rfl (hb C.hby hd)) H
theorem Wk.putF (C : Cx Z p s m meth c y bytes maxL ret) {R0 O nm d K : String} {index kk : Nat} {ty : FieldType} (w : (Cond.fieldLink y.cls index R0 nm d).before a0 Z = true) (via : Via Z R0 O nm d) {a : Addr} {v v' old : Value} (F : Fld Z h a O nm d old) (E : Exa Z h a K)
    (L : (Cond.lays K O nm d).before a0 Z = true ∨ ((Cond.laysFinal K O nm d).before a0 Z = true ∧ y.cls = O ∧ y.name = "<init>")) (wi : (Cond.instantiable K kk).before a0 Z = true) (hty : parseFieldDescriptor d = some ty) (hn : narrow ty v = v') (hf : fits ty v' = true) (ge : n0 ≤ a)
    {pc : Nat} {Ls : Array Slot} {st : List Value} (hd : decode bytes pc = .ok (.putfield index, 3))
    (H : ∀ h', Wr h h' a (Jvm.RoadKit.slotOf Z O nm d) v' → Wk W p l e R s m args below meth c n0 Q h' k n (mkF m (pc + 3) Ls st)) : Wk W p l e R s m args below meth c n0 Q h k n (mkF m pc Ls (v :: .ref a :: st)) :=
  Wk.stW C ge (fun X hZ ho eT => Jvm.RoadKit.putFN X C.hx hZ ho w via eT F E (L.imp id fun q => ⟨q.1, q.2.1, C.hnm.trans q.2.2⟩) wi hty hn hf (g := mkF m pc Ls (v :: .ref a :: st)) rfl rfl (hb C.hby hd)) H
theorem Wk.newO (C : Cx Z p s m meth c y bytes maxL ret) {K : String} {index sz : Nat} (w : (Cond.classLink y.cls index K).before a0 Z = true) (wi : (Cond.instantiable K sz).before a0 Z = true) (wz : (Cond.initialized K).before a0 Z = true) {pc : Nat} {Ls : Array Slot} {st : List Value} (hd : decode bytes pc = .ok (.new index, 3)) (hc : k + 1 ≤ R.cells) (hl : n + sz ≤ R.slots)
    (H : ∀ h' a, a = h.size → Ext h h' → Exa Z h' a K → (∀ {O nm d : String} {ty : FieldType}, Laid Z a0 K O nm d → parseFieldDescriptor d = some ty → Fld Z h' a O nm d (defaultValue ty)) → Wk W p l e R s m args below meth c n0 Q h' (k + 1) (n + sz) (mkF m (pc + 3) Ls (.ref a :: st))) :
    Wk W p l e R s m args below meth c n0 Q h k n (mkF m pc Ls st) := by
  intro T L vm0 X B eT N
  obtain ⟨T', h', X', e', E, A, D, -, st⟩ := Jvm.RoadKit.newO X C.hx (C.wZ B) (C.wo B) w wi wz eT (g := mkF m pc Ls st) rfl (hb C.hby hd) hc hl
  obtain ⟨s₂, o, h1, h2⟩ := H h' _ rfl E A D T' L vm0 X' (B.mono E.1) e' N
  exact ⟨s₂, o, st _ h1, h2⟩
theorem Wk.newP (C : Cx Z p s m meth c y bytes maxL ret) {aty : ArrayType} (w : (Cond.arrayClass (newarray.typeOf aty)).before a0 Z = true) {z : Int32} (hz : ¬ z < 0) {cap : Nat} (hcap : z.toNatClampNeg ≤ cap) (hbig : cap * 8 ≤ 536870912) {pc : Nat} {Ls : Array Slot} {st : List Value} (hd : decode bytes pc = .ok (.newarray aty, 2)) (hc : k + 1 ≤ R.cells) (hl : n + cap ≤ R.slots)
    (H : ∀ h' a cA, a = h.size → Ext h h' → Arr Z h' a (newA cA (newarray.typeOf aty) z) (newarray.typeOf aty) → Wk W p l e R s m args below meth c n0 Q h' (k + 1) (n + cap) (mkF m (pc + 2) Ls (.ref a :: st))) :
    Wk W p l e R s m args below meth c n0 Q h k n (mkF m pc Ls (.int z :: st)) := by
  intro T L vm0 X B eT N
  obtain ⟨T', h', cA, X', e', E, A, st⟩ := Jvm.RoadKit.newP X C.hx (C.wZ B) w eT (g := mkF m pc Ls (.int z :: st)) rfl (hb C.hby hd) rfl hz hcap hbig hc hl
  obtain ⟨s₂, o, h1, h2⟩ := H h' _ cA rfl E A T' L vm0 X' (B.mono E.1) e' N
  exact ⟨s₂, o, st _ h1, h2⟩
theorem Wk.newR (C : Cx Z p s m meth c y bytes maxL ret) {K : String} {index : Nat} (w1 : (Cond.classLink y.cls index K).before a0 Z = true) (w2 : (Cond.arrayOver (.object K)).before a0 Z = true) {z : Int32} (hz : ¬ z < 0) {cap : Nat} (hcap : z.toNatClampNeg ≤ cap) (hbig : cap * 8 ≤ 536870912) {pc : Nat} {Ls : Array Slot} {st : List Value} (hd : decode bytes pc = .ok (.anewarray index, 3)) (hc : k + 1 ≤ R.cells) (hl : n + cap ≤ R.slots)
    (H : ∀ h' a cA, a = h.size → Ext h h' → Arr Z h' a (newA cA (.object K) z) (.object K) → Ovr Z cA K → Wk W p l e R s m args below meth c n0 Q h' (k + 1) (n + cap) (mkF m (pc + 3) Ls (.ref a :: st))) :
    Wk W p l e R s m args below meth c n0 Q h k n (mkF m pc Ls (.int z :: st)) := by
  intro T L vm0 X B eT N
  obtain ⟨T', h', cA, X', e', E, A, O, st⟩ := Jvm.RoadKit.newR X C.hx (C.wZ B) (C.wo B) w1 w2 eT (g := mkF m pc Ls (.int z :: st)) rfl (hb C.hby hd) rfl hz hcap hbig hc hl
  obtain ⟨s₂, o, h1, h2⟩ := H h' _ cA rfl E A O T' L vm0 X' (B.mono E.1) e' N
  exact ⟨s₂, o, st _ h1, h2⟩
theorem Wk.stI (C : Cx Z p s m meth c y bytes maxL ret) {a : Addr} {cl : Cell} (A : Arr Z h a cl .int) {j x : Int32} (hj : ¬ (j < 0 ∨ cl.slots.size ≤ j.toNatClampNeg)) (ge : n0 ≤ a) {pc : Nat} {Ls : Array Slot} {st : List Value} (hd : decode bytes pc = .ok (.iastore, 1))
    (H : ∀ h', Wr h h' a j.toNatClampNeg (.int x) → Wk W p l e R s m args below meth c n0 Q h' k n (mkF m (pc + 1) Ls st)) : Wk W p l e R s m args below meth c n0 Q h k n (mkF m pc Ls (.int x :: .int j :: .ref a :: st)) :=
  Wk.stW C ge (fun X hZ ho eT => Jvm.RoadKit.stI X C.hx hZ eT A hj (g := mkF m pc Ls (.int x :: .int j :: .ref a :: st)) rfl rfl (hb C.hby hd)) H
theorem Wk.stJ (C : Cx Z p s m meth c y bytes maxL ret) {a : Addr} {cl : Cell} (A : Arr Z h a cl .long) {j : Int32} {x : Int64} (hj : ¬ (j < 0 ∨ cl.slots.size ≤ j.toNatClampNeg)) (ge : n0 ≤ a) {pc : Nat} {Ls : Array Slot} {st : List Value} (hd : decode bytes pc = .ok (.lastore, 1))
    (H : ∀ h', Wr h h' a j.toNatClampNeg (.long x) → Wk W p l e R s m args below meth c n0 Q h' k n (mkF m (pc + 1) Ls st)) : Wk W p l e R s m args below meth c n0 Q h k n (mkF m pc Ls (.long x :: .int j :: .ref a :: st)) :=
  Wk.stW C ge (fun X hZ ho eT => Jvm.RoadKit.stJ X C.hx hZ eT A hj (g := mkF m pc Ls (.long x :: .int j :: .ref a :: st)) rfl rfl (hb C.hby hd)) H
theorem Wk.stD (C : Cx Z p s m meth c y bytes maxL ret) {a : Addr} {cl : Cell} (A : Arr Z h a cl .double) {j : Int32} {x : UInt64} (hj : ¬ (j < 0 ∨ cl.slots.size ≤ j.toNatClampNeg)) (ge : n0 ≤ a) {pc : Nat} {Ls : Array Slot} {st : List Value} (hd : decode bytes pc = .ok (.dastore, 1))
    (H : ∀ h', Wr h h' a j.toNatClampNeg (.double x) → Wk W p l e R s m args below meth c n0 Q h' k n (mkF m (pc + 1) Ls st)) : Wk W p l e R s m args below meth c n0 Q h k n (mkF m pc Ls (.double x :: .int j :: .ref a :: st)) :=
  Wk.stW C ge (fun X hZ ho eT => Jvm.RoadKit.stD X C.hx hZ eT A hj (g := mkF m pc Ls (.double x :: .int j :: .ref a :: st)) rfl rfl (hb C.hby hd)) H
theorem Wk.stR (C : Cx Z p s m meth c y bytes maxL ret) {a : Addr} {cl : Cell} {ty : FieldType} (A : Arr Z h a cl ty) {j : Int32} {v : Value} (hj : ¬ (j < 0 ∨ cl.slots.size ≤ j.toNatClampNeg)) (hty : ty.isReference = true) (F : Sto Z h a v) (ge : n0 ≤ a) {pc : Nat} {Ls : Array Slot} {st : List Value} (hd : decode bytes pc = .ok (.aastore, 1))
    (H : ∀ h', Wr h h' a j.toNatClampNeg v → Wk W p l e R s m args below meth c n0 Q h' k n (mkF m (pc + 1) Ls st)) : Wk W p l e R s m args below meth c n0 Q h k n (mkF m pc Ls (v :: .int j :: .ref a :: st)) :=
  Wk.stW C ge (fun X hZ ho eT => Jvm.RoadKit.stR X C.hx hZ eT A hj hty F (g := mkF m pc Ls (v :: .int j :: .ref a :: st)) rfl rfl (hb C.hby hd)) H
theorem Wk.len (C : Cx Z p s m meth c y bytes maxL ret) {a : Addr} {cl : Cell} {ty : FieldType} (A : Arr Z h a cl ty) {pc : Nat} {Ls : Array Slot} {st : List Value} (hd : decode bytes pc = .ok (.arraylength, 1))
    (H : Wk W p l e R s m args below meth c n0 Q h k n (mkF m (pc + 1) Ls (.int cl.slots.size.toInt32 :: st))) : Wk W p l e R s m args below meth c n0 Q h k n (mkF m pc Ls (.ref a :: st)) :=
  Wk.stZ C (fun X hZ ho eT => ⟨_, X, eT, X.arraylength C.hx (by rw [eT]; exact A.1) (State.isArrayOf_alike hZ.alike A.2.1) (g := mkF m pc Ls (.ref a :: st)) rfl rfl (hb C.hby hd)⟩) H
theorem Wk.ldI (C : Cx Z p s m meth c y bytes maxL ret) {a : Addr} {cl : Cell} (A : Arr Z h a cl .int) {j : Int32} {v : Value} (hj : ¬ (j < 0 ∨ cl.slots.size ≤ j.toNatClampNeg)) (hv : cl.slots[j.toNatClampNeg]? = some v) {pc : Nat} {Ls : Array Slot} {st : List Value} (hd : decode bytes pc = .ok (.iaload, 1))
    (H : Wk W p l e R s m args below meth c n0 Q h k n (mkF m (pc + 1) Ls (v :: st))) : Wk W p l e R s m args below meth c n0 Q h k n (mkF m pc Ls (.int j :: .ref a :: st)) :=
  Wk.stZ C (fun X hZ ho eT => ⟨_, X, eT, X.iaload C.hx (by rw [eT]; exact A.1) (State.isArrayOf_alike hZ.alike A.2.1) A.2.2 hj hv (g := mkF m pc Ls (.int j :: .ref a :: st)) rfl rfl (hb C.hby hd)⟩) H
theorem Wk.ldJ (C : Cx Z p s m meth c y bytes maxL ret) {a : Addr} {cl : Cell} (A : Arr Z h a cl .long) {j : Int32} {v : Value} (hj : ¬ (j < 0 ∨ cl.slots.size ≤ j.toNatClampNeg)) (hv : cl.slots[j.toNatClampNeg]? = some v) {pc : Nat} {Ls : Array Slot} {st : List Value} (hd : decode bytes pc = .ok (.laload, 1))
    (H : Wk W p l e R s m args below meth c n0 Q h k n (mkF m (pc + 1) Ls (v :: st))) : Wk W p l e R s m args below meth c n0 Q h k n (mkF m pc Ls (.int j :: .ref a :: st)) :=
  Wk.stZ C (fun X hZ ho eT => ⟨_, X, eT, X.laload C.hx (by rw [eT]; exact A.1) (State.isArrayOf_alike hZ.alike A.2.1) A.2.2 hj hv (g := mkF m pc Ls (.int j :: .ref a :: st)) rfl rfl (hb C.hby hd)⟩) H
theorem Wk.ldD (C : Cx Z p s m meth c y bytes maxL ret) {a : Addr} {cl : Cell} (A : Arr Z h a cl .double) {j : Int32} {v : Value} (hj : ¬ (j < 0 ∨ cl.slots.size ≤ j.toNatClampNeg)) (hv : cl.slots[j.toNatClampNeg]? = some v) {pc : Nat} {Ls : Array Slot} {st : List Value} (hd : decode bytes pc = .ok (.daload, 1))
    (H : Wk W p l e R s m args below meth c n0 Q h k n (mkF m (pc + 1) Ls (v :: st))) : Wk W p l e R s m args below meth c n0 Q h k n (mkF m pc Ls (.int j :: .ref a :: st)) :=
  Wk.stZ C (fun X hZ ho eT => ⟨_, X, eT, X.daload C.hx (by rw [eT]; exact A.1) (State.isArrayOf_alike hZ.alike A.2.1) A.2.2 hj hv (g := mkF m pc Ls (.int j :: .ref a :: st)) rfl rfl (hb C.hby hd)⟩) H
theorem Wk.ldR (C : Cx Z p s m meth c y bytes maxL ret) {a : Addr} {cl : Cell} {ty : FieldType} (A : Arr Z h a cl ty) (hty : ty.isReference = true) {j : Int32} {v : Value} (hj : ¬ (j < 0 ∨ cl.slots.size ≤ j.toNatClampNeg)) (hv : cl.slots[j.toNatClampNeg]? = some v) {pc : Nat} {Ls : Array Slot} {st : List Value} (hd : decode bytes pc = .ok (.aaload, 1))
    (H : Wk W p l e R s m args below meth c n0 Q h k n (mkF m (pc + 1) Ls (v :: st))) : Wk W p l e R s m args below meth c n0 Q h k n (mkF m pc Ls (.int j :: .ref a :: st)) :=
  Wk.stZ C (fun X hZ ho eT => ⟨_, X, eT, X.aaload C.hx (by rw [eT]; exact A.1) (State.isArrayOf_alike hZ.alike A.2.1) hty A.2.2 hj hv (g := mkF m pc Ls (.int j :: .ref a :: st)) rfl rfl (hb C.hby hd)⟩) H
theorem Wk.ldZ (C : Cx Z p s m meth c y bytes maxL ret) {a : Addr} {cl : Cell} (A : Arr Z h a cl .boolean) {j : Int32} {v : Value} (hj : ¬ (j < 0 ∨ cl.slots.size ≤ j.toNatClampNeg)) (hv : cl.slots[j.toNatClampNeg]? = some v) {pc : Nat} {Ls : Array Slot} {st : List Value} (hd : decode bytes pc = .ok (.baload, 1))
    (H : Wk W p l e R s m args below meth c n0 Q h k n (mkF m (pc + 1) Ls (v :: st))) : Wk W p l e R s m args below meth c n0 Q h k n (mkF m pc Ls (.int j :: .ref a :: st)) :=
  Wk.stZ C (fun X hZ ho eT => ⟨_, X, eT, X.baloadBooleans C.hx (by rw [eT]; exact A.1) (State.isArrayOf_alike hZ.alike A.2.1) A.2.2 hj hv (g := mkF m pc Ls (.int j :: .ref a :: st)) rfl rfl (hb C.hby hd)⟩) H
theorem Wk.ldC (C : Cx Z p s m meth c y bytes maxL ret) {a : Addr} {cl : Cell} (A : Arr Z h a cl .char) {j : Int32} {v : Value} (hj : ¬ (j < 0 ∨ cl.slots.size ≤ j.toNatClampNeg)) (hv : cl.slots[j.toNatClampNeg]? = some v) {pc : Nat} {Ls : Array Slot} {st : List Value} (hd : decode bytes pc = .ok (.caload, 1))
    (H : Wk W p l e R s m args below meth c n0 Q h k n (mkF m (pc + 1) Ls (v :: st))) : Wk W p l e R s m args below meth c n0 Q h k n (mkF m pc Ls (.int j :: .ref a :: st)) :=
  Wk.stZ C (fun X hZ ho eT => ⟨_, X, eT, X.caload C.hx (by rw [eT]; exact A.1) (State.isArrayOf_alike hZ.alike A.2.1) A.2.2 hj hv (g := mkF m pc Ls (.int j :: .ref a :: st)) rfl rfl (hb C.hby hd)⟩) H
theorem Wk.ldB (C : Cx Z p s m meth c y bytes maxL ret) {a : Addr} {cl : Cell} (A : Arr Z h a cl .byte) {j : Int32} {v : Value} (hj : ¬ (j < 0 ∨ cl.slots.size ≤ j.toNatClampNeg)) (hv : cl.slots[j.toNatClampNeg]? = some v) {pc : Nat} {Ls : Array Slot} {st : List Value} (hd : decode bytes pc = .ok (.baload, 1))
    (H : Wk W p l e R s m args below meth c n0 Q h k n (mkF m (pc + 1) Ls (v :: st))) : Wk W p l e R s m args below meth c n0 Q h k n (mkF m pc Ls (.int j :: .ref a :: st)) :=
  Wk.stZ C (fun X hZ ho eT => ⟨_, X, eT, X.baloadBytes C.hx (by rw [eT]; exact A.1) (State.isArrayOf_alike hZ.alike A.2.1) A.2.2 hj hv (g := mkF m pc Ls (.int j :: .ref a :: st)) rfl rfl (hb C.hby hd)⟩) H
theorem Wk.stZb (C : Cx Z p s m meth c y bytes maxL ret) {a : Addr} {cl : Cell} (A : Arr Z h a cl .boolean) {j x : Int32} (hj : ¬ (j < 0 ∨ cl.slots.size ≤ j.toNatClampNeg)) (ge : n0 ≤ a) {pc : Nat} {Ls : Array Slot} {st : List Value} (hd : decode bytes pc = .ok (.bastore, 1))
    (H : ∀ h', Wr h h' a j.toNatClampNeg (.int (nar .boolean x)) → Wk W p l e R s m args below meth c n0 Q h' k n (mkF m (pc + 1) Ls st)) : Wk W p l e R s m args below meth c n0 Q h k n (mkF m pc Ls (.int x :: .int j :: .ref a :: st)) :=
  Wk.stW C ge (fun X hZ ho eT => Jvm.RoadKit.stZ X C.hx hZ eT A hj (g := mkF m pc Ls (.int x :: .int j :: .ref a :: st)) rfl rfl (hb C.hby hd)) H
theorem Wk.stB (C : Cx Z p s m meth c y bytes maxL ret) {a : Addr} {cl : Cell} (A : Arr Z h a cl .byte) {j x : Int32} (hj : ¬ (j < 0 ∨ cl.slots.size ≤ j.toNatClampNeg)) (ge : n0 ≤ a) {pc : Nat} {Ls : Array Slot} {st : List Value} (hd : decode bytes pc = .ok (.bastore, 1))
    (H : ∀ h', Wr h h' a j.toNatClampNeg (.int (nar .byte x)) → Wk W p l e R s m args below meth c n0 Q h' k n (mkF m (pc + 1) Ls st)) : Wk W p l e R s m args below meth c n0 Q h k n (mkF m pc Ls (.int x :: .int j :: .ref a :: st)) :=
  Wk.stW C ge (fun X hZ ho eT => Jvm.RoadKit.stB X C.hx hZ eT A hj (g := mkF m pc Ls (.int x :: .int j :: .ref a :: st)) rfl rfl (hb C.hby hd)) H
theorem Wk.stC (C : Cx Z p s m meth c y bytes maxL ret) {a : Addr} {cl : Cell} (A : Arr Z h a cl .char) {j x : Int32} (hj : ¬ (j < 0 ∨ cl.slots.size ≤ j.toNatClampNeg)) (ge : n0 ≤ a) {pc : Nat} {Ls : Array Slot} {st : List Value} (hd : decode bytes pc = .ok (.castore, 1))
    (H : ∀ h', Wr h h' a j.toNatClampNeg (.int (nar .char x)) → Wk W p l e R s m args below meth c n0 Q h' k n (mkF m (pc + 1) Ls st)) : Wk W p l e R s m args below meth c n0 Q h k n (mkF m pc Ls (.int x :: .int j :: .ref a :: st)) :=
  Wk.stW C ge (fun X hZ ho eT => Jvm.RoadKit.stC X C.hx hZ eT A hj (g := mkF m pc Ls (.int x :: .int j :: .ref a :: st)) rfl rfl (hb C.hby hd)) H
theorem Wk.initO (C : Cx Z p s m meth c y bytes maxL ret) {index : Nat} (w1 : (Cond.methodLink y.cls index Lib.objectInit).before a0 Z = true) (w2 : (Cond.instanceMethod Lib.objectInit).before a0 Z = true) (w3 : (Cond.code Lib.objectInit ⟨#[0xb1]⟩ 1 none).before a0 Z = true) {a : Addr} {w : Nat} {pc : Nat} {Ls : Array Slot} {st : List Value} (hls : Ls.size = maxL) (hd : decode bytes pc = .ok (.invokespecial index, 3)) (hf : 1 ≤ R.frames) (hw : (st.map fun v => v.category).sum ≤ w) (hl : w + 12 ≤ R.locals)
    (H : Wk W p l e R s m args below meth c n0 Q h k n (mkF m (pc + 3) Ls st)) : Wk W p l e R s m args below meth c n0 Q h k n (mkF m pc Ls (.ref a :: st)) :=
  Wk.stZ C (fun X hZ ho eT => Jvm.RoadKit.initO X C.hx hZ ho w1 w2 w3 eT (g := mkF m pc Ls (.ref a :: st)) rfl (hls.trans C.hml.symm) rfl (hb C.hby hd) hf (W := w) (by show 2 * 0 + _ ≤ _; omega) hl) H
theorem Wk.retV (C : Cx Z p s m meth c y bytes maxL ret) {pc : Nat} {Ls : Array Slot} {w : Value} {t : FieldType} {i : Instr} {rest : List Value} (ht : ret = some t) (hn : narrow t w = w)
    (hi : (i = .ireturn ∧ (t = .int ∨ t = .boolean ∨ t = .byte ∨ t = .char ∨ t = .short) ∧ ∃ z, w = .int z) ∨ (i = .lreturn ∧ t = .long ∧ ∃ z, w = .long z) ∨ (i = .dreturn ∧ t = .double ∧ ∃ z, w = .double z) ∨ (i = .freturn ∧ t = .float ∧ ∃ z, w = .float z) ∨ (i = .areturn ∧ t.isReference = true ∧ w.isRef = true))
    (hd : decode bytes pc = .ok (i, 1)) (hk : k ≤ R.cells) (hs : n ≤ R.slots) (hq : Q (some w) h) : Wk W p l e R s m args below meth c n0 Q h k n (mkF m pc Ls (w :: rest)) := by
  intro T L vm0 X B eT N
  have hlk := C.hlk
  have hv : meth.sig.returnType = none → (some w : Option Value) = none := fun h => by rw [C.hret, ht] at h; cases h
  cases W
  · cases (B : vm0 = s.vm)
    obtain ⟨fs, hr, hrun, hended, hW, hsame⟩ := Stand.leave (s := s) X (v := some w) hv hlk
    refine ⟨_, _, retOut X C.hx (C.hret.trans ht) hn hi (hb C.hby hd) hr, hrun, hended, _, L, rfl, ⟨?_, N⟩, ⟨_, rfl⟩, hW, hsame.mono hk hs⟩
    show Q (some w) T.heap
    rw [eT]; exact hq
  · obtain ⟨k0, hS, hk0⟩ := (B : ∃ k0, s.Since vm0 k0 ∧ k0 ≤ h.size)
    obtain ⟨fs, hr, hrun, hended, hE⟩ := X.leaveW hS (by rw [eT]; exact hk0) (v := some w) hv hlk
    refine ⟨_, _, retOut X C.hx (C.hret.trans ht) hn hi (hb C.hby hd) hr, hrun, hended, _, L, rfl, ⟨?_, N⟩, hE.1, hE.2.1, hE.2.2.1, hE.2.2.2.mono hk hs⟩
    show Q (some w) T.heap
    rw [eT]; exact hq
theorem Wk.retN0 (C : Cx Z p s m meth c y bytes maxL ret) {pc : Nat} {Ls : Array Slot} (ht : ret = none) (hd : decode bytes pc = .ok (.return_, 1)) (hk : k ≤ R.cells) (hs : n ≤ R.slots) (hq : Q none h) : Wk W p l e R s m args below meth c n0 Q h k n (mkF m pc Ls []) := by
  intro T L vm0 X B eT N
  have hlk := C.hlk
  have hv : meth.sig.returnType = none → (none : Option Value) = none := fun _ => rfl
  cases W
  · cases (B : vm0 = s.vm)
    obtain ⟨fs, hr, hrun, hended, hW, hsame⟩ := Stand.leave (s := s) X (v := none) hv hlk
    refine ⟨_, _, X.returnOut C.hx (C.hret.trans ht) (hb C.hby hd) hr, hrun, hended, _, L, rfl, ⟨?_, N⟩, ⟨_, rfl⟩, hW, hsame.mono hk hs⟩
    show Q none T.heap
    rw [eT]; exact hq
  · obtain ⟨k0, hS, hk0⟩ := (B : ∃ k0, s.Since vm0 k0 ∧ k0 ≤ h.size)
    obtain ⟨fs, hr, hrun, hended, hE⟩ := X.leaveW hS (by rw [eT]; exact hk0) (v := none) hv hlk
    refine ⟨_, _, X.returnOut C.hx (C.hret.trans ht) (hb C.hby hd) hr, hrun, hended, _, L, rfl, ⟨?_, N⟩, hE.1, hE.2.1, hE.2.2.1, hE.2.2.2.mono hk hs⟩
    show Q none T.heap
    rw [eT]; exact hq
/-- the three calls, by the callee's contract -/
theorem Wk.callS (C : Cx Z p s m meth c y bytes maxL ret) {z : MethodName} {index : Nat} {bz : ByteArray} {mz : Nat} {rz : Option FieldType} {rm : Room} {asL : List Value} {Qz : Option Value → Heap → Prop}
    (w1 : (Cond.methodLink y.cls index z).before a0 Z = true) (w2 : (Cond.static z).before a0 Z = true) (w3 : (Cond.initialized z.cls).before a0 Z = true) (w4 : (Cond.code z bz mz rz).before a0 Z = true)
    (hz : z.cls ≠ "java/lang/invoke/MethodHandle" ∧ z.cls ≠ "java/lang/invoke/VarHandle") (M : Met W l Z n0 z bz mz rz rm asL.toArray h Qz) {w : Nat} (hf : rm.frames + 1 ≤ R.frames) (hl : w + (mz + 11) + rm.locals ≤ R.locals)
    {ps : List FieldType} {r : Option FieldType} (hlen : parseMethodDescriptor z.desc = some ⟨ps, r⟩) (hps : asL.length = ps.length) {pc : Nat} {Ls : Array Slot} {st rest : List Value} (hls : Ls.size = maxL) (hst : st = asL.reverse ++ rest) (hw : (rest.map fun v => v.category).sum ≤ w)
    (hc : k + rm.cells ≤ R.cells) (hs : n + rm.slots ≤ R.slots) (hd : decode bytes pc = .ok (.invokestatic index, 3))
    (H : ∀ v h', Qz v h' → Wk W p l e R s m args below meth c n0 Q h' (k + rm.cells) (n + rm.slots) (mkF m (pc + 3) Ls (v.toList ++ rest))) : Wk W p l e R s m args below meth c n0 Q h k n (mkF m pc Ls st) := by
  intro T L vm0 X B eT N
  subst hst
  have hZ := C.wZ B
  have ho := C.wo B
  have hw' : 2 * (mkF m pc Ls (asL.reverse ++ rest)).monitorRoom + (rest.map fun v => v.category).sum ≤ w := by show 2 * 0 + _ ≤ _; omega
  cases W
  · obtain ⟨v, vm₁, ⟨T', L', k', n'⟩, -, X', ⟨Lc, hQ, l1, y1, z1⟩, st⟩ := Jvm.LawKit.callS X C.hx ho (mvT hZ w1) (mvT hZ w2) (mvT hZ w3) (mvT hZ w4) hz (backOf (W := w) (Q := fun v h L => Qz v h ∧ Fr n0 L) (M []) hZ w4 w3 hf hl) (g := mkF m pc Ls (asL.reverse ++ rest)) rfl (hls.trans C.hml.symm) (argsL := asL) (rest := rest) (lenOf hlen hps) rfl hw' (hb C.hby hd) (fun _ _ => ⟨rfl, eT, hc, hs⟩)
    dsimp only [Pt.U, Pt.locs, Pt.cells, Pt.slots] at X' l1 y1 z1 st hQ
    subst l1 y1 z1
    obtain ⟨s₂, o, h1, h2⟩ := H v T'.heap hQ.1 T' _ vm0 X' (B : vm0 = s.vm) rfl (N.app hQ.2)
    exact ⟨s₂, o, st _ h1, h2⟩
  · obtain ⟨v, vm₁, ⟨T', L', k', n'⟩, -, X', hS', hgr, ⟨Lc, hQ, l1, y1, z1⟩, st⟩ := callSS X C.hx ho (mvT hZ w1) (mvT hZ w2) (mvT hZ w3) (mvT hZ w4) hz (backOfS (W := w) (Q := fun v h L => Qz v h ∧ Fr n0 L) (M []) hZ w4 w3 hf hl) (g := mkF m pc Ls (asL.reverse ++ rest)) rfl (hls.trans C.hml.symm) (argsL := asL) (rest := rest) (lenOf hlen hps) rfl hw' (hb C.hby hd) (fun _ _ => ⟨rfl, eT, hc, hs⟩)
    dsimp only [Pt.U, Pt.locs, Pt.cells, Pt.slots] at X' hS' hgr l1 y1 z1 st hQ
    subst l1 y1 z1
    obtain ⟨k0, hS, hk0⟩ := (B : ∃ k0, s.Since vm0 k0 ∧ k0 ≤ h.size)
    obtain ⟨s₂, o, h1, h2⟩ := H v T'.heap hQ.1 T' _ T'.vm X' ⟨_, foldS hS (by rw [eT]; exact hk0) hS' hgr, Nat.le_refl _⟩ rfl (N.app hQ.2)
    exact ⟨s₂, o, st.trans h1, h2⟩
theorem Wk.callI (C : Cx Z p s m meth c y bytes maxL ret) {z : MethodName} {index : Nat} {bz : ByteArray} {mz : Nat} {rm : Room} {a : Addr} {asL : List Value} {Qz : Option Value → Heap → Prop} (hz1 : z.name = "<init>")
    (w1 : (Cond.methodLink y.cls index z).before a0 Z = true) (w2 : (Cond.instanceMethod z).before a0 Z = true) (w3 : (Cond.initialized z.cls).before a0 Z = true) (w4 : (Cond.code z bz mz none).before a0 Z = true)
    (hz : z.cls ≠ "java/lang/invoke/MethodHandle" ∧ z.cls ≠ "java/lang/invoke/VarHandle") (M : Met W l Z n0 z bz mz none rm (.ref a :: asL).toArray h Qz) {w : Nat} (hf : rm.frames + 1 ≤ R.frames) (hl : w + (mz + 11) + rm.locals ≤ R.locals)
    {ps : List FieldType} {r : Option FieldType} (hlen : parseMethodDescriptor z.desc = some ⟨ps, r⟩) (hps : asL.length = ps.length) {pc : Nat} {Ls : Array Slot} {st rest : List Value} (hls : Ls.size = maxL) (hst : st = asL.reverse ++ .ref a :: rest) (hw : (rest.map fun v => v.category).sum ≤ w)
    (hc : k + rm.cells ≤ R.cells) (hs : n + rm.slots ≤ R.slots) (hd : decode bytes pc = .ok (.invokespecial index, 3))
    (H : ∀ v h', Qz v h' → Wk W p l e R s m args below meth c n0 Q h' (k + rm.cells) (n + rm.slots) (mkF m (pc + 3) Ls (v.toList ++ rest))) : Wk W p l e R s m args below meth c n0 Q h k n (mkF m pc Ls st) := by
  intro T L vm0 X B eT N
  subst hst
  have hZ := C.wZ B
  have ho := C.wo B
  have hw' : 2 * (mkF m pc Ls (asL.reverse ++ .ref a :: rest)).monitorRoom + (rest.map fun v => v.category).sum ≤ w := by show 2 * 0 + _ ≤ _; omega
  cases W
  · obtain ⟨v, vm₁, ⟨T', L', k', n'⟩, -, X', ⟨Lc, hQ, l1, y1, z1⟩, st⟩ := X.specialBack C.hx hz1 ho (mvT hZ w1) (mvT hZ w2) (mvT hZ w4) hz (backOf (W := w) (Q := fun v h L => Qz v h ∧ Fr n0 L) (M []) hZ w4 w3 hf hl) (g := mkF m pc Ls (asL.reverse ++ .ref a :: rest)) rfl (hls.trans C.hml.symm) (Steps.refl _) (a := a) (argsL := asL) (rest := rest) (lenOf hlen hps) rfl hw' (hb C.hby hd) (fun _ _ => ⟨rfl, eT, hc, hs⟩)
    dsimp only [Pt.U, Pt.locs, Pt.cells, Pt.slots] at X' l1 y1 z1 st hQ
    subst l1 y1 z1
    obtain ⟨s₂, o, h1, h2⟩ := H v T'.heap hQ.1 T' _ vm0 X' (B : vm0 = s.vm) rfl (N.app hQ.2)
    exact ⟨s₂, o, st.trans h1, h2⟩
  · obtain ⟨v, vm₁, ⟨T', L', k', n'⟩, -, X', hS', hgr, ⟨Lc, hQ, l1, y1, z1⟩, st⟩ := X.specialBackS C.hx hz1 ho (mvT hZ w1) (mvT hZ w2) (mvT hZ w4) hz (backOfS (W := w) (Q := fun v h L => Qz v h ∧ Fr n0 L) (M []) hZ w4 w3 hf hl) (g := mkF m pc Ls (asL.reverse ++ .ref a :: rest)) rfl (hls.trans C.hml.symm) (Steps.refl _) (a := a) (argsL := asL) (rest := rest) (lenOf hlen hps) rfl hw' (hb C.hby hd) (fun _ _ => ⟨rfl, eT, hc, hs⟩)
    dsimp only [Pt.U, Pt.locs, Pt.cells, Pt.slots] at X' hS' hgr l1 y1 z1 st hQ
    subst l1 y1 z1
    obtain ⟨k0, hS, hk0⟩ := (B : ∃ k0, s.Since vm0 k0 ∧ k0 ≤ h.size)
    obtain ⟨s₂, o, h1, h2⟩ := H v T'.heap hQ.1 T' _ T'.vm X' ⟨_, foldS hS (by rw [eT]; exact hk0) hS' hgr, Nat.le_refl _⟩ rfl (N.app hQ.2)
    exact ⟨s₂, o, st.trans h1, h2⟩
theorem Wk.callV (C : Cx Z p s m meth c y bytes maxL ret) {x z : MethodName} {K : String} {index : Nat} {bz : ByteArray} {mz : Nat} {rz : Option FieldType} {rm : Room} {a : Addr} {asL : List Value} {Qz : Option Value → Heap → Prop}
    (w1 : (Cond.methodLink y.cls index x).before a0 Z = true) (w2 : (Cond.declares x).before a0 Z = true) (w5 : (Cond.selects K x z).before a0 Z = true) (w6 : (Cond.instanceMethod z).before a0 Z = true) (w3 : (Cond.initialized z.cls).before a0 Z = true) (w4 : (Cond.code z bz mz rz).before a0 Z = true)
    (hz : x.cls ≠ "java/lang/invoke/MethodHandle" ∧ x.cls ≠ "java/lang/invoke/VarHandle") (hnf : ∀ s' : State, Z.Warmed39 s'.vm → NotFace s' x) (E : Exa Z h a K) (M : Met W l Z n0 z bz mz rz rm (.ref a :: asL).toArray h Qz) {w : Nat} (hf : rm.frames + 1 ≤ R.frames) (hl : w + (mz + 11) + rm.locals ≤ R.locals)
    {ps : List FieldType} {r : Option FieldType} (hlen : parseMethodDescriptor x.desc = some ⟨ps, r⟩) (hps : asL.length = ps.length) {pc : Nat} {Ls : Array Slot} {st rest : List Value} (hls : Ls.size = maxL) (hst : st = asL.reverse ++ .ref a :: rest) (hw : (rest.map fun v => v.category).sum ≤ w)
    (hc : k + rm.cells ≤ R.cells) (hs : n + rm.slots ≤ R.slots) (hd : decode bytes pc = .ok (.invokevirtual index, 3))
    (H : ∀ v h', Qz v h' → Wk W p l e R s m args below meth c n0 Q h' (k + rm.cells) (n + rm.slots) (mkF m (pc + 3) Ls (v.toList ++ rest))) : Wk W p l e R s m args below meth c n0 Q h k n (mkF m pc Ls st) := by
  intro T L vm0 X B eT N
  subst hst
  have hZ := C.wZ B
  have ho := C.wo B
  have hw' : 2 * (mkF m pc Ls (asL.reverse ++ .ref a :: rest)).monitorRoom + (rest.map fun v => v.category).sum ≤ w := by show 2 * 0 + _ ≤ _; omega
  obtain ⟨cq, kq, qa, qb, qc⟩ := isOf hZ eT E
  cases W
  · obtain ⟨v, vm₁, ⟨T', L', k', n'⟩, -, X', ⟨Lc, hQ, l1, y1, z1⟩, st⟩ := X.virtualBack C.hx (y := x) (z := z) ho (mvT hZ w1) (mvT hZ w2) (hnf _ hZ) (mvT hZ w5) (mvT hZ w6) hz (backOf (W := w) (Q := fun v h L => Qz v h ∧ Fr n0 L) (M []) hZ w4 w3 hf hl) qa qc (g := mkF m pc Ls (asL.reverse ++ .ref a :: rest)) rfl (hls.trans C.hml.symm) (Steps.refl _) (argsL := asL) (rest := rest) (lenOf hlen hps) rfl hw' (hb C.hby hd) (fun _ _ => ⟨rfl, eT, hc, hs⟩)
    dsimp only [Pt.U, Pt.locs, Pt.cells, Pt.slots] at X' l1 y1 z1 st hQ
    subst l1 y1 z1
    obtain ⟨s₂, o, h1, h2⟩ := H v T'.heap hQ.1 T' _ vm0 X' (B : vm0 = s.vm) rfl (N.app hQ.2)
    exact ⟨s₂, o, st.trans h1, h2⟩
  · obtain ⟨v, vm₁, ⟨T', L', k', n'⟩, -, X', hS', hgr, ⟨Lc, hQ, l1, y1, z1⟩, st⟩ := X.virtualBackS C.hx (y := x) (z := z) ho (mvT hZ w1) (mvT hZ w2) (hnf _ hZ) (mvT hZ w5) (mvT hZ w6) hz (backOfS (W := w) (Q := fun v h L => Qz v h ∧ Fr n0 L) (M []) hZ w4 w3 hf hl) qa qc (g := mkF m pc Ls (asL.reverse ++ .ref a :: rest)) rfl (hls.trans C.hml.symm) (Steps.refl _) (argsL := asL) (rest := rest) (lenOf hlen hps) rfl hw' (hb C.hby hd) (fun _ _ => ⟨rfl, eT, hc, hs⟩)
    dsimp only [Pt.U, Pt.locs, Pt.cells, Pt.slots] at X' hS' hgr l1 y1 z1 st hQ
    subst l1 y1 z1
    obtain ⟨k0, hS, hk0⟩ := (B : ∃ k0, s.Since vm0 k0 ∧ k0 ≤ h.size)
    obtain ⟨s₂, o, h1, h2⟩ := H v T'.heap hQ.1 T' _ T'.vm X' ⟨_, foldS hS (by rw [eT]; exact hk0) hS' hgr, Nat.le_refl _⟩ rfl (N.app hQ.2)
    exact ⟨s₂, o, st.trans h1, h2⟩
theorem Wk.callU (C : Cx Z p s m meth c y bytes maxL ret) {x z : MethodName} {K owner : String} {index : Nat} {bz : ByteArray} {mz : Nat} {rz : Option FieldType} {rm : Room} {a : Addr} {asL : List Value} {Qz : Option Value → Heap → Prop}
    (w1 : (Cond.methodLink y.cls index x).before a0 Z = true) (w7 : (Cond.sameMethod x.cls owner x.name x.desc).before a0 Z = true) (w2 : (Cond.declares ⟨owner, x.name, x.desc⟩).before a0 Z = true) (w5 : (Cond.selects K x z).before a0 Z = true) (w6 : (Cond.instanceMethod z).before a0 Z = true) (w3 : (Cond.initialized z.cls).before a0 Z = true) (w4 : (Cond.code z bz mz rz).before a0 Z = true)
    (hz : owner ≠ "java/lang/invoke/MethodHandle" ∧ owner ≠ "java/lang/invoke/VarHandle") (E : Exa Z h a K) (M : Met W l Z n0 z bz mz rz rm (.ref a :: asL).toArray h Qz) {w : Nat} (hf : rm.frames + 1 ≤ R.frames) (hl : w + (mz + 11) + rm.locals ≤ R.locals)
    {ps : List FieldType} {r : Option FieldType} (hlen : parseMethodDescriptor x.desc = some ⟨ps, r⟩) (hps : asL.length = ps.length) {pc : Nat} {Ls : Array Slot} {st rest : List Value} (hls : Ls.size = maxL) (hst : st = asL.reverse ++ .ref a :: rest) (hw : (rest.map fun v => v.category).sum ≤ w)
    (hc : k + rm.cells ≤ R.cells) (hs : n + rm.slots ≤ R.slots) (hd : decode bytes pc = .ok (.invokevirtual index, 3))
    (H : ∀ v h', Qz v h' → Wk W p l e R s m args below meth c n0 Q h' (k + rm.cells) (n + rm.slots) (mkF m (pc + 3) Ls (v.toList ++ rest))) : Wk W p l e R s m args below meth c n0 Q h k n (mkF m pc Ls st) := by
  intro T L vm0 X B eT N
  subst hst
  have hZ := C.wZ B
  have ho := C.wo B
  have hw' : 2 * (mkF m pc Ls (asL.reverse ++ .ref a :: rest)).monitorRoom + (rest.map fun v => v.category).sum ≤ w := by show 2 * 0 + _ ≤ _; omega
  obtain ⟨cq, kq, qa, qb, qc⟩ := isOf hZ eT E
  cases W
  · obtain ⟨v, vm₁, ⟨T', L', k', n'⟩, -, X', ⟨Lc, hQ, l1, y1, z1⟩, st⟩ := X.virtualBackUp C.hx (x := x) (y := z) ho (mvT hZ w1) (mvT hZ w7) (mvT hZ w2) hz (mvT hZ w5) (mvT hZ w6) (backOf (W := w) (Q := fun v h L => Qz v h ∧ Fr n0 L) (M []) hZ w4 w3 hf hl) qa qc (g := mkF m pc Ls (asL.reverse ++ .ref a :: rest)) rfl (hls.trans C.hml.symm) (Steps.refl _) (argsL := asL) (rest := rest) (lenOf hlen hps) rfl hw' (hb C.hby hd) (fun _ _ => ⟨rfl, eT, hc, hs⟩)
    dsimp only [Pt.U, Pt.locs, Pt.cells, Pt.slots] at X' l1 y1 z1 st hQ
    subst l1 y1 z1
    obtain ⟨s₂, o, h1, h2⟩ := H v T'.heap hQ.1 T' _ vm0 X' (B : vm0 = s.vm) rfl (N.app hQ.2)
    exact ⟨s₂, o, st.trans h1, h2⟩
  · obtain ⟨v, vm₁, ⟨T', L', k', n'⟩, -, X', hS', hgr, ⟨Lc, hQ, l1, y1, z1⟩, st⟩ := X.virtualBackUpS C.hx (x := x) (y := z) ho (mvT hZ w1) (mvT hZ w7) (mvT hZ w2) hz (mvT hZ w5) (mvT hZ w6) (backOfS (W := w) (Q := fun v h L => Qz v h ∧ Fr n0 L) (M []) hZ w4 w3 hf hl) qa qc (g := mkF m pc Ls (asL.reverse ++ .ref a :: rest)) rfl (hls.trans C.hml.symm) (Steps.refl _) (argsL := asL) (rest := rest) (lenOf hlen hps) rfl hw' (hb C.hby hd) (fun _ _ => ⟨rfl, eT, hc, hs⟩)
    dsimp only [Pt.U, Pt.locs, Pt.cells, Pt.slots] at X' hS' hgr l1 y1 z1 st hQ
    subst l1 y1 z1
    obtain ⟨k0, hS, hk0⟩ := (B : ∃ k0, s.Since vm0 k0 ∧ k0 ≤ h.size)
    obtain ⟨s₂, o, h1, h2⟩ := H v T'.heap hQ.1 T' _ T'.vm X' ⟨_, foldS hS (by rw [eT]; exact hk0) hS' hgr, Nat.le_refl _⟩ rfl (N.app hQ.2)
    exact ⟨s₂, o, st.trans h1, h2⟩
theorem Wk.ldcS (C : Cx Z p s m meth c y bytes maxL ret) {index : Nat} {text : String} (w : (Cond.stringLink y.cls index text).before a0 Z = true) (wS : ∀ d ∈ Bundle.stringAtoms, d.before a0 Z = true) {N : Nat} (hn : 4 * text.toList.length ≤ N) (hbig : N ≤ 536870912) {pc : Nat} {Ls : Array Slot} {st : List Value} (hd : decode bytes pc = .ok (.ldc index, 2)) (hc : k + 2 ≤ R.cells) (hl : n + (N + 4) ≤ R.slots)
    (H : ∀ h' a, Ext h h' → Wk true p l e R s m args below meth c n0 Q h' (k + 2) (n + (N + 4)) (mkF m (pc + 2) Ls (.ref a :: st))) : Wk true p l e R s m args below meth c n0 Q h k n (mkF m pc Ls st) := by
  intro T L vm0 X B eT N'
  have hZ := C.wZ B
  have ho := C.wo B
  obtain ⟨k0, hS, hk0⟩ := (B : ∃ k0, s.Since vm0 k0 ∧ k0 ≤ h.size)
  obtain ⟨a, T', h', k1, X', e', E, hS', hk1, -, -, st⟩ := Jvm.RoadKit.ldcS X C.hx hZ ho w wS eT hS hk0 (g := mkF m pc Ls st) rfl (hb C.hby hd) hn hbig hc hl
  obtain ⟨s₂, o, h1, h2⟩ := H h' a E T' L T'.vm X' ⟨k1, hS', hk1⟩ e' N'
  exact ⟨s₂, o, st _ h1, h2⟩
end Rules
theorem ext_trans {h h' h'' : Heap} (E : Ext h h') (E' : Ext h' h'') : Ext h h'' := ⟨Nat.le_trans E.1 E'.1, fun a c q => E'.2 a c (E.2 a c q)⟩
theorem ext_refl (h : Heap) : Ext h h := ⟨Nat.le_refl _, fun _ _ q => q⟩
end Jvm.Own
namespace Jvm.Own
open Jvm Jvm.ClassFile Sem Op Lib Jvm.Free Jvm.Stand Jvm.LawKit Jvm.RoadKit
/-! statics that hold objects, told apart by a field -/
theorem stat_exa {args : Array Value} {s : State} {C n d K : String} (wi : (Cond.initialized C).before args s = true) (wl : (Cond.laysStatic C n d).before args s = true) (hx : (Cond.exactly (Term.static C n d) K).value args s none s [] = some true) :
    ∃ a, (Term.static C n d).eval args s none [] s = some (.ref a) ∧ Sta s s.heap C n d (.ref a) ∧ Exa s s.heap a K := by
  obtain ⟨a, ev⟩ := exa_v hx
  exact ⟨a, ev, Sta.start ev (Or.inr ⟨wi, wl⟩), Exa.start ev hx⟩
theorem fld_int {args : Array Value} {s : State} {t : Term} {a : Addr} {O f d : String} {i : Int32} (ev : t.eval args s none [] s = some (.ref a)) (hq : (Cond.eq (Term.field t O f d) (Term.int i)).value args s none s [] = some true) : Fld s s.heap a O f d (.int i) := by
  refine Fld.start ?_
  obtain ⟨x, y, h1, h2, k1, k2⟩ := cmp_v (Or.inl hq)
  cases (show some (Value.int i) = some y from h2)
  obtain ⟨z, rfl⟩ := k2
  have q := gotT (show (Cond.eq (Term.field t O f d) (Term.int i)).value args s none s [] = some (decide (z = i)) by simp [Cond.value, h1, h2]) hq
  subst q
  rw [fld_at ev] at h1; exact h1
theorem fld_uniq {Z : State} {h : Heap} {a : Addr} {O f d : String} {v w : Value} (F : Fld Z h a O f d v) (G : Fld Z h a O f d w) : v = w := by
  obtain ⟨c1, cf, k, i, fd, h1, h2, -, -, -, -, h7⟩ := F
  obtain ⟨c2, cf', k', i', fd', g1, g2, -, -, -, -, g7⟩ := G
  cases h1.symm.trans g1
  cases h2.symm.trans g2
  exact Option.some.inj (h7.symm.trans g7)
theorem ne_fld {Z : State} {h : Heap} {a b : Addr} {O f d : String} {v w : Value} (F : Fld Z h a O f d v) (G : Fld Z h b O f d w) (q : v ≠ w) : a ≠ b := fun e => by
  subst e; exact q (fld_uniq F G)
theorem mod_range (p k : Int32) (d : Int) (hd : k.toInt = d) (h0 : 0 < d) : 0 ≤ ((p &&& 2147483647) % k).toInt ∧ ((p &&& 2147483647) % k).toInt < d := by
  have h1 := (c_andS p 2147483647).2.2 (by decide)
  have h2 := (c_irem (p &&& 2147483647) k d hd).1 h1
  rw [h2]
  exact ⟨Int.emod_nonneg _ (by omega), Int.emod_lt_of_pos _ h0⟩
theorem mod6 (p : Int32) : (p &&& 2147483647) % 6 = 0 ∨ (p &&& 2147483647) % 6 = 1 ∨ (p &&& 2147483647) % 6 = 2 ∨ (p &&& 2147483647) % 6 = 3 ∨ (p &&& 2147483647) % 6 = 4 ∨ (p &&& 2147483647) % 6 = 5 := by
  have h := mod_range p 6 6 (by decide) (by decide)
  generalize (p &&& 2147483647) % 6 = r at h ⊢
  have q : r.toInt = 0 ∨ r.toInt = 1 ∨ r.toInt = 2 ∨ r.toInt = 3 ∨ r.toInt = 4 ∨ r.toInt = 5 := by omega
  rcases q with q | q | q | q | q | q
  · exact Or.inl (Int32.toInt_inj.mp q)
  · exact Or.inr (Or.inl (Int32.toInt_inj.mp q))
  · exact Or.inr (Or.inr (Or.inl (Int32.toInt_inj.mp q)))
  · exact Or.inr (Or.inr (Or.inr (Or.inl (Int32.toInt_inj.mp q))))
  · exact Or.inr (Or.inr (Or.inr (Or.inr (Or.inl (Int32.toInt_inj.mp q)))))
  · exact Or.inr (Or.inr (Or.inr (Or.inr (Or.inr (Int32.toInt_inj.mp q)))))
theorem mod3 (p : Int32) : (p &&& 2147483647) % 3 = 0 ∨ (p &&& 2147483647) % 3 = 1 ∨ (p &&& 2147483647) % 3 = 2 := by
  have h := mod_range p 3 3 (by decide) (by decide)
  generalize (p &&& 2147483647) % 3 = r at h ⊢
  have q : r.toInt = 0 ∨ r.toInt = 1 ∨ r.toInt = 2 := by omega
  rcases q with q | q | q
  · exact Or.inl (Int32.toInt_inj.mp q)
  · exact Or.inr (Or.inl (Int32.toInt_inj.mp q))
  · exact Or.inr (Or.inr (Int32.toInt_inj.mp q))
end Jvm.Own
namespace Jvm.Own
open Jvm Jvm.ClassFile Sem Op Lib Jvm.Free Jvm.Stand Jvm.LawKit Jvm.RoadKit
/-! an array by what it holds at each place -/
def up {α : Type} (f : Nat → α) (i : Nat) (v : α) : Nat → α := fun k => if k = i then v else f k
theorem up_eq {α : Type} {f : Nat → α} {i k : Nat} {v : α} (q : k = i) : up f i v k = v := by simp [up, q]
theorem up_ne {α : Type} {f : Nat → α} {i k : Nat} {v : α} (q : k ≠ i) : up f i v k = f k := by simp [up, q]
def Fa (Z : State) (h : Heap) (a : Addr) (ty : FieldType) (n : Nat) (f : Nat → Value) : Prop :=
  ∃ c : Cell, Arr Z h a c ty ∧ c.slots.size = n ∧ n < 2 ^ 31 ∧ ∀ i, i < n → c.slots[i]? = some (f i)
/-- .. of objects of the class K -/
def FaO (Z : State) (h : Heap) (a : Addr) (K : String) (n : Nat) (f : Nat → Value) : Prop :=
  ∃ c : Cell, Arr Z h a c (.object K) ∧ Ovr Z c.cls K ∧ c.slots.size = n ∧ n < 2 ^ 31 ∧ ∀ i, i < n → c.slots[i]? = some (f i)
/-- .. of arrays, whose class is named K -/
def FaA (Z : State) (h : Heap) (a : Addr) (ty : FieldType) (K : String) (n : Nat) (f : Nat → Value) : Prop :=
  ∃ c : Cell, Arr Z h a c (.array ty) ∧ OvrA Z c.cls ty K ∧ c.slots.size = n ∧ n < 2 ^ 31 ∧ ∀ i, i < n → c.slots[i]? = some (f i)
section Facts
variable {Z : State} {h h' : Heap} {a b : Addr} {ty : FieldType} {K : String} {n : Nat} {f g : Nat → Value} {sl : Nat} {v : Value} {ws : List Addr}
theorem inb {c : Cell} {j : Int32} (S : c.slots.size = n) (h0 : ¬ j < 0) (hi : j.toNatClampNeg < n) : ¬ (j < 0 ∨ c.slots.size ≤ j.toNatClampNeg) := by
  rintro (q | q)
  · exact h0 q
  · omega
theorem set_at {c : Cell} (S : c.slots.size = n) (H : ∀ i, i < n → c.slots[i]? = some (f i)) (hs : sl < n) : ∀ i, i < n → (c.setSlot sl v).slots[i]? = some (up f sl v i) := fun i hi => by
  by_cases q : i = sl
  · subst q; rw [up_eq rfl]; simp [Cell.setSlot, S, hi]
  · rw [up_ne q, ← H i hi]; exact Array.getElem?_setIfInBounds_ne (Ne.symm q)
theorem new_at {cA : ClassId} {z : Int32} : ∀ i, i < z.toNatClampNeg → (newA cA ty z).slots[i]? = some (defaultValue ty) := fun i hi => by simp [newA, hi]
theorem clamp_lt (z : Int32) : z.toNatClampNeg < 2 ^ 31 := by
  have := Int32.toInt_lt z; simp only [Int32.toNatClampNeg]; omega
theorem Fa.lt (F : Fa Z h a ty n f) : a < h.size := by obtain ⟨c, A, -⟩ := F; exact A.lt
theorem Fa.ext (F : Fa Z h a ty n f) (E : Ext h h') : Fa Z h' a ty n f := by obtain ⟨c, A, r⟩ := F; exact ⟨c, A.ext E, r⟩
theorem Fa.other (F : Fa Z h b ty n f) (W : Wr h h' a sl v) (q : b ≠ a) : Fa Z h' b ty n f := by obtain ⟨c, A, r⟩ := F; exact ⟨c, A.other W q, r⟩
theorem Fa.keep (F : Fa Z h a ty n f) (K : Keep h h' ws) (q : a ∉ ws) : Fa Z h' a ty n f := by obtain ⟨c, A, r⟩ := F; exact ⟨c, ⟨K.2.1 a c A.1 q, A.2⟩, r⟩
theorem Fa.set (F : Fa Z h a ty n f) (W : Wr h h' a sl v) (hs : sl < n) : Fa Z h' a ty n (up f sl v) := by
  obtain ⟨c, A, S, N, H⟩ := F; exact ⟨_, A.same W, (sz_set _ _ _).trans S, N, set_at S H hs⟩
theorem Fa.new {cA : ClassId} {z : Int32} (A : Arr Z h a (newA cA ty z) ty) : Fa Z h a ty z.toNatClampNeg (fun _ => defaultValue ty) := ⟨_, A, sz_new _ _ _, clamp_lt z, new_at⟩
theorem Fa.congr (F : Fa Z h a ty n f) (q : ∀ i, i < n → f i = g i) : Fa Z h a ty n g := by obtain ⟨c, A, S, N, H⟩ := F; exact ⟨c, A, S, N, fun i hi => (H i hi).trans (congrArg some (q i hi))⟩
theorem FaO.lt (F : FaO Z h a K n f) : a < h.size := by obtain ⟨c, A, -⟩ := F; exact A.lt
theorem FaO.ext (F : FaO Z h a K n f) (E : Ext h h') : FaO Z h' a K n f := by obtain ⟨c, A, r⟩ := F; exact ⟨c, A.ext E, r⟩
theorem FaO.other (F : FaO Z h b K n f) (W : Wr h h' a sl v) (q : b ≠ a) : FaO Z h' b K n f := by obtain ⟨c, A, r⟩ := F; exact ⟨c, A.other W q, r⟩
theorem FaO.set (F : FaO Z h a K n f) (W : Wr h h' a sl v) (hs : sl < n) : FaO Z h' a K n (up f sl v) := by
  obtain ⟨c, A, O, S, N, H⟩ := F; exact ⟨_, A.same W, O, (sz_set _ _ _).trans S, N, set_at S H hs⟩
theorem FaO.new {cA : ClassId} {z : Int32} (A : Arr Z h a (newA cA (.object K) z) (.object K)) (O : Ovr Z cA K) : FaO Z h a K z.toNatClampNeg (fun _ => .null) := ⟨_, A, O, sz_new _ _ _, clamp_lt z, new_at⟩
theorem FaO.sto (F : FaO Z h a K n f) {y : Addr} (E : Exa Z h y K) : Sto Z h a (.ref y) := by obtain ⟨c, A, O, -⟩ := F; exact Sto.of A O (Ins.self E)
theorem FaA.lt (F : FaA Z h a ty K n f) : a < h.size := by obtain ⟨c, A, -⟩ := F; exact A.lt
theorem FaA.ext (F : FaA Z h a ty K n f) (E : Ext h h') : FaA Z h' a ty K n f := by obtain ⟨c, A, r⟩ := F; exact ⟨c, A.ext E, r⟩
theorem FaA.other (F : FaA Z h b ty K n f) (W : Wr h h' a sl v) (q : b ≠ a) : FaA Z h' b ty K n f := by obtain ⟨c, A, r⟩ := F; exact ⟨c, A.other W q, r⟩
theorem FaA.keep (F : FaA Z h a ty K n f) (Kp : Keep h h' ws) (q : a ∉ ws) : FaA Z h' a ty K n f := by obtain ⟨c, A, r⟩ := F; exact ⟨c, ⟨Kp.2.1 a c A.1 q, A.2⟩, r⟩
theorem FaA.set (F : FaA Z h a ty K n f) (W : Wr h h' a sl v) (hs : sl < n) : FaA Z h' a ty K n (up f sl v) := by
  obtain ⟨c, A, O, S, N, H⟩ := F; exact ⟨_, A.same W, O, (sz_set _ _ _).trans S, N, set_at S H hs⟩
theorem FaA.new {cA : ClassId} {z : Int32} (A : Arr Z h a (newA cA (.array ty) z) (.array ty)) (O : OvrA Z cA ty K) : FaA Z h a ty K z.toNatClampNeg (fun _ => .null) := ⟨_, A, O, sz_new _ _ _, clamp_lt z, new_at⟩
end Facts
section Rules
variable {W : Bool} {Z : State} {p : Program} {l : Launch} {e : Env} {R : Room} {s : State} {m : MethodId} {args : Array Value} {below : List Frame} {meth : Method} {c : Code} {y : MethodName} {bytes : ByteArray} {maxL : Nat} {ret : Option FieldType} {n0 : Nat} {Q : Option Value → Heap → Prop} {h : Heap} {k n : Nat} {a0 : Array Value}
variable {a : Addr} {ty : FieldType} {K : String} {N : Nat} {f : Nat → Value} {j : Int32} {v : Value} {pc : Nat} {Ls : Array Slot} {st : List Value}
theorem Wk.fLen (C : Cx Z p s m meth c y bytes maxL ret) (F : Fa Z h a ty N f) {z : Int32} (hz : N.toInt32 = z) (hd : decode bytes pc = .ok (.arraylength, 1))
    (H : Wk W p l e R s m args below meth c n0 Q h k n (mkF m (pc + 1) Ls (.int z :: st))) : Wk W p l e R s m args below meth c n0 Q h k n (mkF m pc Ls (.ref a :: st)) := by
  obtain ⟨cl, A, S, -⟩ := F; exact Wk.len C A hd (by rw [S, hz]; exact H)
theorem Wk.fLenA (C : Cx Z p s m meth c y bytes maxL ret) (F : FaA Z h a ty K N f) {z : Int32} (hz : N.toInt32 = z) (hd : decode bytes pc = .ok (.arraylength, 1))
    (H : Wk W p l e R s m args below meth c n0 Q h k n (mkF m (pc + 1) Ls (.int z :: st))) : Wk W p l e R s m args below meth c n0 Q h k n (mkF m pc Ls (.ref a :: st)) := by
  obtain ⟨cl, A, -, S, -⟩ := F; exact Wk.len C A hd (by rw [S, hz]; exact H)
theorem Wk.fLdI (C : Cx Z p s m meth c y bytes maxL ret) (F : Fa Z h a .int N f) {i : Nat} (hj : j.toNatClampNeg = i) (h0 : ¬ j < 0) (hi : i < N) (hv : f i = v) (hd : decode bytes pc = .ok (.iaload, 1))
    (H : Wk W p l e R s m args below meth c n0 Q h k n (mkF m (pc + 1) Ls (v :: st))) : Wk W p l e R s m args below meth c n0 Q h k n (mkF m pc Ls (.int j :: .ref a :: st)) := by
  subst hj
  obtain ⟨cl, A, S, -, Hs⟩ := F; exact Wk.ldI C A (inb S h0 hi) (hv ▸ Hs _ hi) hd H
theorem Wk.fLdJ (C : Cx Z p s m meth c y bytes maxL ret) (F : Fa Z h a .long N f) {i : Nat} (hj : j.toNatClampNeg = i) (h0 : ¬ j < 0) (hi : i < N) (hv : f i = v) (hd : decode bytes pc = .ok (.laload, 1))
    (H : Wk W p l e R s m args below meth c n0 Q h k n (mkF m (pc + 1) Ls (v :: st))) : Wk W p l e R s m args below meth c n0 Q h k n (mkF m pc Ls (.int j :: .ref a :: st)) := by
  subst hj
  obtain ⟨cl, A, S, -, Hs⟩ := F; exact Wk.ldJ C A (inb S h0 hi) (hv ▸ Hs _ hi) hd H
theorem Wk.fLdD (C : Cx Z p s m meth c y bytes maxL ret) (F : Fa Z h a .double N f) {i : Nat} (hj : j.toNatClampNeg = i) (h0 : ¬ j < 0) (hi : i < N) (hv : f i = v) (hd : decode bytes pc = .ok (.daload, 1))
    (H : Wk W p l e R s m args below meth c n0 Q h k n (mkF m (pc + 1) Ls (v :: st))) : Wk W p l e R s m args below meth c n0 Q h k n (mkF m pc Ls (.int j :: .ref a :: st)) := by
  subst hj
  obtain ⟨cl, A, S, -, Hs⟩ := F; exact Wk.ldD C A (inb S h0 hi) (hv ▸ Hs _ hi) hd H
theorem Wk.fLdZ (C : Cx Z p s m meth c y bytes maxL ret) (F : Fa Z h a .boolean N f) {i : Nat} (hj : j.toNatClampNeg = i) (h0 : ¬ j < 0) (hi : i < N) (hv : f i = v) (hd : decode bytes pc = .ok (.baload, 1))
    (H : Wk W p l e R s m args below meth c n0 Q h k n (mkF m (pc + 1) Ls (v :: st))) : Wk W p l e R s m args below meth c n0 Q h k n (mkF m pc Ls (.int j :: .ref a :: st)) := by
  subst hj
  obtain ⟨cl, A, S, -, Hs⟩ := F; exact Wk.ldZ C A (inb S h0 hi) (hv ▸ Hs _ hi) hd H
theorem Wk.fLdC (C : Cx Z p s m meth c y bytes maxL ret) (F : Fa Z h a .char N f) {i : Nat} (hj : j.toNatClampNeg = i) (h0 : ¬ j < 0) (hi : i < N) (hv : f i = v) (hd : decode bytes pc = .ok (.caload, 1))
    (H : Wk W p l e R s m args below meth c n0 Q h k n (mkF m (pc + 1) Ls (v :: st))) : Wk W p l e R s m args below meth c n0 Q h k n (mkF m pc Ls (.int j :: .ref a :: st)) := by
  subst hj
  obtain ⟨cl, A, S, -, Hs⟩ := F; exact Wk.ldC C A (inb S h0 hi) (hv ▸ Hs _ hi) hd H
theorem Wk.fLdB (C : Cx Z p s m meth c y bytes maxL ret) (F : Fa Z h a .byte N f) {i : Nat} (hj : j.toNatClampNeg = i) (h0 : ¬ j < 0) (hi : i < N) (hv : f i = v) (hd : decode bytes pc = .ok (.baload, 1))
    (H : Wk W p l e R s m args below meth c n0 Q h k n (mkF m (pc + 1) Ls (v :: st))) : Wk W p l e R s m args below meth c n0 Q h k n (mkF m pc Ls (.int j :: .ref a :: st)) := by
  subst hj
  obtain ⟨cl, A, S, -, Hs⟩ := F; exact Wk.ldB C A (inb S h0 hi) (hv ▸ Hs _ hi) hd H
theorem Wk.fLdO (C : Cx Z p s m meth c y bytes maxL ret) (F : FaO Z h a K N f) {i : Nat} (hj : j.toNatClampNeg = i) (h0 : ¬ j < 0) (hi : i < N) (hv : f i = v) (hd : decode bytes pc = .ok (.aaload, 1))
    (H : Wk W p l e R s m args below meth c n0 Q h k n (mkF m (pc + 1) Ls (v :: st))) : Wk W p l e R s m args below meth c n0 Q h k n (mkF m pc Ls (.int j :: .ref a :: st)) := by
  subst hj
  obtain ⟨cl, A, -, S, -, Hs⟩ := F; exact Wk.ldR C A rfl (inb S h0 hi) (hv ▸ Hs _ hi) hd H
theorem Wk.fLdA (C : Cx Z p s m meth c y bytes maxL ret) (F : FaA Z h a ty K N f) {i : Nat} (hj : j.toNatClampNeg = i) (h0 : ¬ j < 0) (hi : i < N) (hv : f i = v) (hd : decode bytes pc = .ok (.aaload, 1))
    (H : Wk W p l e R s m args below meth c n0 Q h k n (mkF m (pc + 1) Ls (v :: st))) : Wk W p l e R s m args below meth c n0 Q h k n (mkF m pc Ls (.int j :: .ref a :: st)) := by
  subst hj
  obtain ⟨cl, A, -, S, -, Hs⟩ := F; exact Wk.ldR C A rfl (inb S h0 hi) (hv ▸ Hs _ hi) hd H
theorem Wk.fStI (C : Cx Z p s m meth c y bytes maxL ret) (F : Fa Z h a .int N f) {x : Int32} {i : Nat} (hj : j.toNatClampNeg = i) (h0 : ¬ j < 0) (hi : i < N) (ge : n0 ≤ a) (hd : decode bytes pc = .ok (.iastore, 1))
    (H : ∀ h', Wr h h' a i (.int x) → Fa Z h' a .int N (up f i (.int x)) → Wk W p l e R s m args below meth c n0 Q h' k n (mkF m (pc + 1) Ls st)) : Wk W p l e R s m args below meth c n0 Q h k n (mkF m pc Ls (.int x :: .int j :: .ref a :: st)) := by
  subst hj
  obtain ⟨cl, A, S, r⟩ := id F; exact Wk.stI C A (inb S h0 hi) ge hd fun h' Wh => H h' Wh (F.set Wh hi)
theorem Wk.fStJ (C : Cx Z p s m meth c y bytes maxL ret) (F : Fa Z h a .long N f) {x : Int64} {i : Nat} (hj : j.toNatClampNeg = i) (h0 : ¬ j < 0) (hi : i < N) (ge : n0 ≤ a) (hd : decode bytes pc = .ok (.lastore, 1))
    (H : ∀ h', Wr h h' a i (.long x) → Fa Z h' a .long N (up f i (.long x)) → Wk W p l e R s m args below meth c n0 Q h' k n (mkF m (pc + 1) Ls st)) : Wk W p l e R s m args below meth c n0 Q h k n (mkF m pc Ls (.long x :: .int j :: .ref a :: st)) := by
  subst hj
  obtain ⟨cl, A, S, r⟩ := id F; exact Wk.stJ C A (inb S h0 hi) ge hd fun h' Wh => H h' Wh (F.set Wh hi)
theorem Wk.fStD (C : Cx Z p s m meth c y bytes maxL ret) (F : Fa Z h a .double N f) {x : UInt64} {i : Nat} (hj : j.toNatClampNeg = i) (h0 : ¬ j < 0) (hi : i < N) (ge : n0 ≤ a) (hd : decode bytes pc = .ok (.dastore, 1))
    (H : ∀ h', Wr h h' a i (.double x) → Fa Z h' a .double N (up f i (.double x)) → Wk W p l e R s m args below meth c n0 Q h' k n (mkF m (pc + 1) Ls st)) : Wk W p l e R s m args below meth c n0 Q h k n (mkF m pc Ls (.double x :: .int j :: .ref a :: st)) := by
  subst hj
  obtain ⟨cl, A, S, r⟩ := id F; exact Wk.stD C A (inb S h0 hi) ge hd fun h' Wh => H h' Wh (F.set Wh hi)
theorem Wk.fStZ (C : Cx Z p s m meth c y bytes maxL ret) (F : Fa Z h a .boolean N f) {x x' : Int32} (hx : nar .boolean x = x') {i : Nat} (hj : j.toNatClampNeg = i) (h0 : ¬ j < 0) (hi : i < N) (ge : n0 ≤ a) (hd : decode bytes pc = .ok (.bastore, 1))
    (H : ∀ h', Wr h h' a i (.int x') → Fa Z h' a .boolean N (up f i (.int x')) → Wk W p l e R s m args below meth c n0 Q h' k n (mkF m (pc + 1) Ls st)) : Wk W p l e R s m args below meth c n0 Q h k n (mkF m pc Ls (.int x :: .int j :: .ref a :: st)) := by
  subst hx
  subst hj
  obtain ⟨cl, A, S, r⟩ := id F; exact Wk.stZb C A (inb S h0 hi) ge hd fun h' Wh => H h' Wh (F.set Wh hi)
theorem Wk.fStB (C : Cx Z p s m meth c y bytes maxL ret) (F : Fa Z h a .byte N f) {x x' : Int32} (hx : nar .byte x = x') {i : Nat} (hj : j.toNatClampNeg = i) (h0 : ¬ j < 0) (hi : i < N) (ge : n0 ≤ a) (hd : decode bytes pc = .ok (.bastore, 1))
    (H : ∀ h', Wr h h' a i (.int x') → Fa Z h' a .byte N (up f i (.int x')) → Wk W p l e R s m args below meth c n0 Q h' k n (mkF m (pc + 1) Ls st)) : Wk W p l e R s m args below meth c n0 Q h k n (mkF m pc Ls (.int x :: .int j :: .ref a :: st)) := by
  subst hx
  subst hj
  obtain ⟨cl, A, S, r⟩ := id F; exact Wk.stB C A (inb S h0 hi) ge hd fun h' Wh => H h' Wh (F.set Wh hi)
theorem Wk.fStC (C : Cx Z p s m meth c y bytes maxL ret) (F : Fa Z h a .char N f) {x x' : Int32} (hx : nar .char x = x') {i : Nat} (hj : j.toNatClampNeg = i) (h0 : ¬ j < 0) (hi : i < N) (ge : n0 ≤ a) (hd : decode bytes pc = .ok (.castore, 1))
    (H : ∀ h', Wr h h' a i (.int x') → Fa Z h' a .char N (up f i (.int x')) → Wk W p l e R s m args below meth c n0 Q h' k n (mkF m (pc + 1) Ls st)) : Wk W p l e R s m args below meth c n0 Q h k n (mkF m pc Ls (.int x :: .int j :: .ref a :: st)) := by
  subst hx
  subst hj
  obtain ⟨cl, A, S, r⟩ := id F; exact Wk.stC C A (inb S h0 hi) ge hd fun h' Wh => H h' Wh (F.set Wh hi)
theorem Wk.fStO (C : Cx Z p s m meth c y bytes maxL ret) (F : FaO Z h a K N f) {i : Nat} (hj : j.toNatClampNeg = i) (h0 : ¬ j < 0) (hi : i < N) (So : Sto Z h a v) (ge : n0 ≤ a) (hd : decode bytes pc = .ok (.aastore, 1))
    (H : ∀ h', Wr h h' a i v → FaO Z h' a K N (up f i v) → Wk W p l e R s m args below meth c n0 Q h' k n (mkF m (pc + 1) Ls st)) : Wk W p l e R s m args below meth c n0 Q h k n (mkF m pc Ls (v :: .int j :: .ref a :: st)) := by
  subst hj
  obtain ⟨cl, A, O, S, r⟩ := id F; exact Wk.stR C A (inb S h0 hi) rfl So ge hd fun h' Wh => H h' Wh (F.set Wh hi)
theorem Wk.fStA (C : Cx Z p s m meth c y bytes maxL ret) (F : FaA Z h a ty K N f) {i : Nat} (hj : j.toNatClampNeg = i) (h0 : ¬ j < 0) (hi : i < N) (So : Sto Z h a v) (ge : n0 ≤ a) (hd : decode bytes pc = .ok (.aastore, 1))
    (H : ∀ h', Wr h h' a i v → FaA Z h' a ty K N (up f i v) → Wk W p l e R s m args below meth c n0 Q h' k n (mkF m (pc + 1) Ls st)) : Wk W p l e R s m args below meth c n0 Q h k n (mkF m pc Ls (v :: .int j :: .ref a :: st)) := by
  subst hj
  obtain ⟨cl, A, O, S, r⟩ := id F; exact Wk.stR C A (inb S h0 hi) rfl So ge hd fun h' Wh => H h' Wh (F.set Wh hi)
theorem Wk.fNewP (C : Cx Z p s m meth c y bytes maxL ret) {aty : ArrayType} (w : (Cond.arrayClass (newarray.typeOf aty)).before a0 Z = true) {z : Int32} {dv : Value} {ad : String} (hty : newarray.typeOf aty = ty) (hdv : defaultValue ty = dv) (hN : z.toNatClampNeg = N) (had : "[" ++ (newarray.typeOf aty).toString = ad) (hz : ¬ z < 0) {cap : Nat} (hcap : N ≤ cap) (hbig : cap * 8 ≤ 536870912) (hd : decode bytes pc = .ok (.newarray aty, 2)) (hc : k + 1 ≤ R.cells) (hl : n + cap ≤ R.slots)
    (H : ∀ h' a, a = h.size → Ext h h' → Exa Z h' a ad → Fa Z h' a ty N (fun _ => dv) → Wk W p l e R s m args below meth c n0 Q h' (k + 1) (n + cap) (mkF m (pc + 2) Ls (.ref a :: st))) :
    Wk W p l e R s m args below meth c n0 Q h k n (mkF m pc Ls (.int z :: st)) := by
  intro T L vm0 X B eT Nn
  subst hty hdv hN
  obtain ⟨T', h', cA, X', e', E, A, Ex, st⟩ := Jvm.RoadKit.newPE X C.hx (C.wZ B) w eT (g := mkF m pc Ls (.int z :: st)) rfl (hb C.hby hd) rfl hz hcap hbig hc hl had
  obtain ⟨s₂, o, h1, h2⟩ := H h' _ rfl E Ex (Fa.new A) T' L vm0 X' (B.mono E.1) e' Nn
  exact ⟨s₂, o, st _ h1, h2⟩
theorem Wk.fNewA (C : Cx Z p s m meth c y bytes maxL ret) {index : Nat} {z : Int32} {ad : String} (hK : (FieldType.array ty).toString = K) (w1 : (Cond.classLink y.cls index K).before a0 Z = true) (w2 : (Cond.arrayOver (.array ty)).before a0 Z = true) (hN : z.toNatClampNeg = N) (had : "[" ++ K = ad) (hz : ¬ z < 0) {cap : Nat} (hcap : N ≤ cap) (hbig : cap * 8 ≤ 536870912) (hd : decode bytes pc = .ok (.anewarray index, 3)) (hc : k + 1 ≤ R.cells) (hl : n + cap ≤ R.slots)
    (H : ∀ h' a, a = h.size → Ext h h' → Exa Z h' a ad → FaA Z h' a ty K N (fun _ => .null) → Wk W p l e R s m args below meth c n0 Q h' (k + 1) (n + cap) (mkF m (pc + 3) Ls (.ref a :: st))) :
    Wk W p l e R s m args below meth c n0 Q h k n (mkF m pc Ls (.int z :: st)) := by
  intro T L vm0 X B eT Nn
  subst hN
  obtain ⟨T', h', cA, X', e', E, A, Ex, O, st⟩ := Jvm.RoadKit.newRA X C.hx (C.wZ B) (C.wo B) hK w1 w2 eT (g := mkF m pc Ls (.int z :: st)) rfl (hb C.hby hd) rfl hz hcap hbig hc hl had
  obtain ⟨s₂, o, h1, h2⟩ := H h' _ rfl E Ex (FaA.new A O) T' L vm0 X' (B.mono E.1) e' Nn
  exact ⟨s₂, o, st _ h1, h2⟩
theorem Wk.fNewO (C : Cx Z p s m meth c y bytes maxL ret) {index : Nat} {z : Int32} (w1 : (Cond.classLink y.cls index K).before a0 Z = true) (w2 : (Cond.arrayOver (.object K)).before a0 Z = true) (hN : z.toNatClampNeg = N) (hz : ¬ z < 0) {cap : Nat} (hcap : N ≤ cap) (hbig : cap * 8 ≤ 536870912) (hd : decode bytes pc = .ok (.anewarray index, 3)) (hc : k + 1 ≤ R.cells) (hl : n + cap ≤ R.slots)
    (H : ∀ h' a, a = h.size → Ext h h' → FaO Z h' a K N (fun _ => .null) → Wk W p l e R s m args below meth c n0 Q h' (k + 1) (n + cap) (mkF m (pc + 3) Ls (.ref a :: st))) :
    Wk W p l e R s m args below meth c n0 Q h k n (mkF m pc Ls (.int z :: st)) := by
  subst hN
  exact Wk.newR C w1 w2 hz hcap hbig hd hc hl fun h' a cA g E A O => H h' a g E (FaO.new A O)
theorem FaA.sto {f : Nat → Value} (F : FaA Z h a ty K N f) {b : Addr} (E : Exa Z h b K) : Sto Z h a (.ref b) := by obtain ⟨c, A, O, -⟩ := F; exact Sto.ofVA A rfl O (Ins.self E)
end Rules
end Jvm.Own
namespace Jvm.Own
theorem nm0 {a : Nat} : a ∉ ([] : List Nat) := by simp
theorem nmS {a b : Nat} {ws : List Nat} (h : a ≠ b) (t : a ∉ ws) : a ∉ b :: ws := by simp [h, t]
theorem nv0 {P : Nat → Prop} : ∀ x ∈ ([] : List Nat), P x := fun _ q => nomatch q
theorem nvS {P : Nat → Prop} {b : Nat} {ws : List Nat} (h : P b) (t : ∀ x ∈ ws, P x) : ∀ x ∈ b :: ws, P x := fun x q => (List.mem_cons.mp q).elim (fun e => e ▸ h) (t x)
end Jvm.Own
namespace Jvm.Own
open Jvm Jvm.ClassFile Sem Op Lib Jvm.Free Jvm.Stand Jvm.LawKit Jvm.RoadKit
theorem dupX2 {tb : Tables} [Ours tb] {e : Env} {below : List Frame} {T target : State} {m : MethodId} {c : Code} {g : JFrame} (h : At T m c below) (hx : tb.exec = Jvm.exec) (hg : g.method = m) {x y z : Value} {rest : List Value} (hd : decode c.code g.pc = .ok (.dup_x2, 1)) (hs : g.stack = x :: y :: z :: rest) (hc : x.category = 1) (hc2 : y.category = 1) (hc3 : z.category = 1)
    (hr : Steps tb e below (T.setTop { g with pc := g.pc + 1, stack := x :: y :: z :: x :: rest }) target) : Steps tb e below (T.setTop g) target := by
  subst hg
  jvm_step h [h.top, hx, hd, hs, hc, hc2, hc3, dup_x2.wp_sem]
  exact hr
end Jvm.Own
namespace Jvm.Own
open Jvm Jvm.ClassFile Sem Op Lib Jvm.Free Jvm.Stand Jvm.LawKit Jvm.RoadKit
theorem fld_known {Z : State} {h : Heap} {a : Addr} {C n d : String} {v : Value} (F : Fld Z h a C n d v) : ∃ cell : Cell, h[a]? = some cell ∧ cell.vm ≠ .unknown := by
  obtain ⟨cell, _, _, _, _, h1, -, -, h4, -⟩ := F; exact ⟨cell, h1, h4⟩
end Jvm.Own
namespace Jvm.Own
open Jvm Jvm.ClassFile Sem Op Lib Jvm.Free Jvm.Stand Jvm.LawKit Jvm.RoadKit
/-! a private method by invokevirtual; ldc_w of an int -/
theorem sel_priv {Z : State} {a0 : Array Value} {y : MethodName} {sz : Nat} (wi : (Cond.instantiable y.cls sz).before a0 Z = true) (wp : (Cond.privateMethod y).before a0 Z = true) (w2 : (Cond.instanceMethod y).before a0 Z = true) (hy : y.cls ≠ "java/lang/invoke/MethodHandle" ∧ y.cls ≠ "java/lang/invoke/VarHandle") : (Cond.selects y.cls y y).before a0 Z = true := by
  obtain ⟨c, k, h1, h2, -, h4, -⟩ := Cond.instantiable_spec wi
  exact selects_self_of_private h1 h2 (Bool.or_eq_false_iff.mp h4).1 (Cond.privateMethod_at wp) w2 hy
section Rules
variable {W : Bool} {Z : State} {p : Program} {l : Launch} {e : Env} {R : Room} {s : State} {m : MethodId} {args : Array Value} {below : List Frame} {meth : Method} {c : Code} {y : MethodName} {bytes : ByteArray} {maxL : Nat} {ret : Option FieldType} {n0 : Nat} {Q : Option Value → Heap → Prop} {h : Heap} {k n : Nat} {g g' : JFrame} {a0 : Array Value}
theorem Wk.ldcWI (C : Cx Z p s m meth c y bytes maxL ret) {index : Nat} {v : Int32} (w : (Cond.constant y.cls index v).before a0 Z = true) {pc : Nat} {Ls : Array Slot} {st : List Value} (hd : decode bytes pc = .ok (.ldc_w index, 3))
    (H : Wk W p l e R s m args below meth c n0 Q h k n (mkF m (pc + 3) Ls (.int v :: st))) : Wk W p l e R s m args below meth c n0 Q h k n (mkF m pc Ls st) :=
  Wk.stZ C (fun X hZ ho eT => ⟨_, X, eT, fun t q => X.ldcWI C.hx ho (mvT hZ w) rfl (hb C.hby hd) q⟩) H
theorem Wk.callP (C : Cx Z p s m meth c y bytes maxL ret) {z : MethodName} {K : String} {index sz : Nat} {bz : ByteArray} {mz : Nat} {rz : Option FieldType} {rm : Room} {a : Addr} {asL : List Value} {Qz : Option Value → Heap → Prop}
    (w1 : (Cond.methodLink y.cls index z).before a0 Z = true) (w2 : (Cond.instanceMethod z).before a0 Z = true) (wp : (Cond.privateMethod z).before a0 Z = true) (wi : (Cond.instantiable z.cls sz).before a0 Z = true) (w3 : (Cond.initialized z.cls).before a0 Z = true) (w4 : (Cond.code z bz mz rz).before a0 Z = true)
    (hz : z.cls ≠ "java/lang/invoke/MethodHandle" ∧ z.cls ≠ "java/lang/invoke/VarHandle") (E : Exa Z h a K) (M : Met false l Z n0 z bz mz rz rm (.ref a :: asL).toArray h Qz) {w : Nat} (hf : rm.frames + 1 ≤ R.frames) (hl : w + (mz + 11) + rm.locals ≤ R.locals)
    {ps : List FieldType} {r : Option FieldType} (hlen : parseMethodDescriptor z.desc = some ⟨ps, r⟩) (hps : asL.length = ps.length) {pc : Nat} {Ls : Array Slot} {st rest : List Value} (hls : Ls.size = maxL) (hst : st = asL.reverse ++ .ref a :: rest) (hw : (rest.map fun v => v.category).sum ≤ w)
    (hc : k + rm.cells ≤ R.cells) (hs : n + rm.slots ≤ R.slots) (hd : decode bytes pc = .ok (.invokevirtual index, 3))
    (H : ∀ v h', Qz v h' → Wk false p l e R s m args below meth c n0 Q h' (k + rm.cells) (n + rm.slots) (mkF m (pc + 3) Ls (v.toList ++ rest))) : Wk false p l e R s m args below meth c n0 Q h k n (mkF m pc Ls st) := by
  intro T L vm0 X B eT N
  subst hst
  have hZ := C.wZ B
  have ho := C.wo B
  have hw' : 2 * (mkF m pc Ls (asL.reverse ++ .ref a :: rest)).monitorRoom + (rest.map fun v => v.category).sum ≤ w := by show 2 * 0 + _ ≤ _; omega
  obtain ⟨cq, qa, qc⟩ := Exa.cell E
  obtain ⟨v, vm₁, ⟨T', L', k', n'⟩, -, X', ⟨Lc, hQ, l1, y1, z1⟩, st⟩ := X.privateBack C.hx (y := z) ho (mvT hZ w1) (mvT hZ w2) (mvT hZ (sel_priv wi wp w2 hz)) (Cond.privateMethod_at (mvP hZ wp (args := #[]))) (mvT hZ w4) hz (backOf (W := w) (Q := fun v h L => Qz v h ∧ Fr n0 L) (M []) hZ w4 w3 hf hl) (g := mkF m pc Ls (asL.reverse ++ .ref a :: rest)) rfl (hls.trans C.hml.symm) (Steps.refl _) (a := a) (eT ▸ qa) qc (argsL := asL) (rest := rest) (lenOf hlen hps) rfl hw' (hb C.hby hd) (fun _ _ => ⟨rfl, eT, hc, hs⟩)
  dsimp only [Pt.U, Pt.locs, Pt.cells, Pt.slots] at X' l1 y1 z1 st hQ
  subst l1 y1 z1
  obtain ⟨s₂, o, h1, h2⟩ := H v T'.heap hQ.1 T' _ vm0 X' (B : vm0 = s.vm) rfl (N.app hQ.2)
  exact ⟨s₂, o, st.trans h1, h2⟩
end Rules
end Jvm.Own
namespace Jvm.Own
open Jvm Jvm.ClassFile Sem Op Lib Jvm.Free Jvm.Stand Jvm.LawKit Jvm.RoadKit
/-! numbers: an int or a long that is a small natural number; the leading bit -/
theorem n32 {i : Nat} (h : i < 2147483648) : (Int32.ofNat i).toInt = i := Int32.toInt_ofNat_of_lt h
theorem n64 {i : Nat} (h : i < 9223372036854775808) : (Int64.ofNat i).toInt = i := Int64.toInt_ofNat_of_lt h
theorem e32 {x : Int32} {i : Nat} (h : i < 2147483648) (e : x.toInt = i) : x = Int32.ofNat i := Int32.toInt_inj.mp (e.trans (n32 h).symm)
theorem e64 {x : Int64} {i : Nat} (h : i < 9223372036854775808) (e : x.toInt = i) : x = Int64.ofNat i := Int64.toInt_inj.mp (e.trans (n64 h).symm)
theorem nn32 {i : Nat} (h : i < 2147483648) : ¬ Int32.ofNat i < 0 := by rw [XT.negI32, n32 h]; omega
theorem cl32 {i : Nat} (h : i < 2147483648) : (Int32.ofNat i).toNatClampNeg = i := by simp only [Int32.toNatClampNeg]; rw [n32 h]; omega
theorem lt32 {i j : Nat} (hi : i < 2147483648) (hj : j < 2147483648) : Int32.ofNat i < Int32.ofNat j ↔ i < j := by rw [Int32.lt_iff_toInt_lt, n32 hi, n32 hj]; omega
theorem lt64 {i j : Nat} (hi : i < 9223372036854775808) (hj : j < 9223372036854775808) : Int64.ofNat i < Int64.ofNat j ↔ i < j := by rw [Int64.lt_iff_toInt_lt, n64 hi, n64 hj]; omega
theorem eq64 {i j : Nat} (hi : i < 9223372036854775808) (hj : j < 9223372036854775808) : Int64.ofNat i = Int64.ofNat j ↔ i = j := ⟨fun q => by have := congrArg Int64.toInt q; rw [n64 hi, n64 hj] at this; omega, fun q => by rw [q]⟩
theorem add64 {i j : Nat} (h : i + j < 9223372036854775808) : Int64.ofNat i + Int64.ofNat j = Int64.ofNat (i + j) := by
  apply e64 h
  have := c_ladd (Int64.ofNat i) (Int64.ofNat j); have := Int64.toInt_lt (Int64.ofNat i + Int64.ofNat j); have := Int64.le_toInt (Int64.ofNat i + Int64.ofNat j)
  rw [n64 (by omega), n64 (by omega)] at *; omega
theorem add32 {i j : Nat} (h : i + j < 2147483648) : Int32.ofNat i + Int32.ofNat j = Int32.ofNat (i + j) := by
  apply e32 h
  have := c_iadd (Int32.ofNat i) (Int32.ofNat j); have := Int32.toInt_lt (Int32.ofNat i + Int32.ofNat j); have := Int32.le_toInt (Int32.ofNat i + Int32.ofNat j)
  rw [n32 (by omega), n32 (by omega)] at *; omega
theorem sub32 {i j : Nat} (h : j ≤ i) (hi : i < 2147483648) : Int32.ofNat i - Int32.ofNat j = Int32.ofNat (i - j) := by
  apply e32 (by omega)
  have := c_isub (Int32.ofNat i) (Int32.ofNat j); have := Int32.toInt_lt (Int32.ofNat i - Int32.ofNat j); have := Int32.le_toInt (Int32.ofNat i - Int32.ofNat j)
  rw [n32 (by omega), n32 (by omega)] at *; omega
theorem dbl32 {i : Nat} (h : 2 * i < 2147483648) : (2 : Int32) * Int32.ofNat i = Int32.ofNat (2 * i) := by
  apply e32 h
  have c := c_imul 2 (Int32.ofNat i); have := Int32.toInt_lt (2 * Int32.ofNat i); have := Int32.le_toInt (2 * Int32.ofNat i)
  rw [n32 (by omega), show (2 : Int32).toInt = 2 from rfl] at c; omega
theorem shr32 {i : Nat} (h : i < 2147483648) (q : Int32) (k : Nat) (hk : q.toBitVec.toNat % 32 = k) (h0 : 0 < k) : ((Int32.ofNat i).toUInt32 >>> (q &&& 31).toUInt32).toInt32 = Int32.ofNat (i / 2 ^ k) := by
  apply e32 (Nat.lt_of_le_of_lt (Nat.div_le_self _ _) h)
  rw [c_iushr _ q k hk h0, n32 h, Int.emod_eq_of_lt (by omega) (by omega), Int.natCast_ediv]
theorem shr64 {i : Nat} (h : i < 9223372036854775808) (q : Int32) (k : Nat) (hk : q.toBitVec.toNat % 64 = k) (h0 : 0 < k) : ((Int64.ofNat i).toUInt64 >>> (q &&& 0x3f).toInt64.toUInt64).toInt64 = Int64.ofNat (i / 2 ^ k) := by
  apply e64 (Nat.lt_of_le_of_lt (Nat.div_le_self _ _) h)
  rw [c_lushr _ q k hk h0, n64 h, Int.emod_eq_of_lt (by omega) (by omega), Int.natCast_ediv]
theorem log_div {i k : Nat} (h : 2 ^ k ≤ i) : (i / 2 ^ k).log2 + k = i.log2 := by
  have p : 0 < 2 ^ k := Nat.two_pow_pos k
  have q0 : i / 2 ^ k ≠ 0 := by have := (Nat.le_div_iff_mul_le p).mpr (show 1 * 2 ^ k ≤ i by omega); omega
  have a := Nat.log2_self_le q0
  have b := Nat.lt_log2_self (n := i / 2 ^ k)
  refine ((Nat.log2_eq_iff (by omega)).mpr ⟨?_, ?_⟩).symm
  · rw [Nat.pow_add]; exact (Nat.le_div_iff_mul_le p).mp a
  · rw [show (i / 2 ^ k).log2 + k + 1 = ((i / 2 ^ k).log2 + 1) + k by omega, Nat.pow_add]; exact (Nat.div_lt_iff_lt_mul p).mp b
theorem log_le {i k : Nat} (h : i < 2 ^ (k + 1)) : i.log2 ≤ k := by
  by_cases q : i = 0
  · subst q; simp
  · have := (Nat.log2_lt q).mpr h; omega
theorem le_log {i k : Nat} (h : 2 ^ k ≤ i) : k ≤ i.log2 := (Nat.le_log2 (by have := Nat.two_pow_pos k; omega)).mpr h
/-- what Long.numberOfLeadingZeros answers -/
def nl (v : Nat) : Nat := if v = 0 then 64 else 63 - v.log2
/-- row and bucket in one number -/
def Ky (v : Nat) : Nat := 128 * (v.log2 - 7) + v / 2 ^ (v.log2 - 7)
theorem top_log {v : Nat} (h : 128 ≤ v) : 128 ≤ v / 2 ^ (v.log2 - 7) ∧ v / 2 ^ (v.log2 - 7) < 256 := by
  have l : 7 ≤ v.log2 := le_log (by omega)
  have a := Nat.log2_self_le (n := v) (by omega)
  have b := Nat.lt_log2_self (n := v)
  have p : 0 < 2 ^ (v.log2 - 7) := Nat.two_pow_pos _
  constructor
  · rw [Nat.le_div_iff_mul_le p, show (128 : Nat) = 2 ^ 7 by rfl, ← Nat.pow_add, show 7 + (v.log2 - 7) = v.log2 by omega]; exact a
  · rw [Nat.div_lt_iff_lt_mul p, show (256 : Nat) = 2 ^ 8 by rfl, ← Nat.pow_add, show 8 + (v.log2 - 7) = v.log2 + 1 by omega]; exact b
theorem Ky_small {v : Nat} (h : v < 128) : Ky v = v := by
  have l : v.log2 ≤ 6 := log_le (by omega)
  simp [Ky, show v.log2 - 7 = 0 by omega]
theorem Ky_row {v : Nat} : Ky v / 128 = v.log2 - 6 := by
  by_cases h : v < 128
  · have l : v.log2 ≤ 6 := log_le (by omega)
    rw [Ky_small h]; omega
  · have l : 7 ≤ v.log2 := le_log (by omega)
    have t := top_log (v := v) (by omega)
    unfold Ky; omega
theorem Ky_bkt {v : Nat} : Ky v % 128 = (v / 2 ^ (v.log2 - 7)) % 128 := by unfold Ky; omega
theorem Ky_lt {v : Nat} (h : v < 9223372036854775808) : Ky v / 128 < 57 := by
  have l : v.log2 ≤ 62 := log_le (by omega)
  rw [Ky_row]; omega
end Jvm.Own
namespace Jvm.Own
open Jvm Jvm.ClassFile Sem Op Lib Jvm.Free Jvm.Stand Jvm.LawKit Jvm.RoadKit
theorem dec32 {n j : Nat} {q : Int32} (hq : q.toInt = -(j : Int)) (h : j ≤ n) (hn : n < 2147483648) : Int32.ofNat n + q = Int32.ofNat (n - j) := by
  apply e32 (by omega)
  have c := c_iadd (Int32.ofNat n) q; have := Int32.toInt_lt (Int32.ofNat n + q); have := Int32.le_toInt (Int32.ofNat n + q)
  rw [n32 hn, hq] at c; omega
theorem ge32 {i j : Nat} (hi : i < 2147483648) (hj : j < 2147483648) (h : ¬ Int32.ofNat i < Int32.ofNat j) : j ≤ i := by rw [lt32 hi hj] at h; omega
theorem ls32 {i j : Nat} (hi : i < 2147483648) (hj : j < 2147483648) (h : Int32.ofNat i < Int32.ofNat j) : i < j := (lt32 hi hj).mp h
theorem nz_end {i n : Nat} (h0 : 0 < i) (h : i < 4) (hn : i.log2 ≤ n) (hn2 : n < 2147483648) : Int32.ofNat n - ((Int32.ofNat i).toUInt32 >>> ((1 : Int32) &&& 31).toUInt32).toInt32 = Int32.ofNat (n - i.log2) := by
  have e : i.log2 = i / 2 ^ 1 := by
    have : i = 1 ∨ i = 2 ∨ i = 3 := by omega
    rcases this with rfl | rfl | rfl <;> decide
  rw [shr32 (by omega) 1 1 (by decide) (by decide), ← e, sub32 hn hn2]
theorem l2i_hi {v : Nat} (h : v < 9223372036854775808) : (((Int64.ofNat v).toUInt64 >>> ((32 : Int32) &&& 0x3f).toInt64.toUInt64).toInt64).toInt32 = Int32.ofNat (v / 2 ^ 32) := by
  rw [shr64 h 32 32 (by decide) (by decide)]
  have hb : v / 2 ^ 32 < 2147483648 := by omega
  apply e32 hb
  have c := c_l2i (Int64.ofNat (v / 2 ^ 32)); rw [n64 (by omega)] at c
  have := Int32.toInt_lt (Int64.ofNat (v / 2 ^ 32)).toInt32; have := Int32.le_toInt (Int64.ofNat (v / 2 ^ 32)).toInt32
  omega
theorem l2i_sm {v : Nat} (h : v < 2147483648) : (Int64.ofNat v).toInt32 = Int32.ofNat v := by
  apply e32 h
  have c := c_l2i (Int64.ofNat v); rw [n64 (by omega)] at c
  have := Int32.toInt_lt (Int64.ofNat v).toInt32; have := Int32.le_toInt (Int64.ofNat v).toInt32
  omega
theorem l2i_ng {v : Nat} (h : v < 4294967296) (h' : ¬ v < 2147483648) : (Int64.ofNat v).toInt32 < 0 := by
  rw [XT.negI32]
  have c := c_l2i (Int64.ofNat v); rw [n64 (by omega)] at c
  have := Int32.toInt_lt (Int64.ofNat v).toInt32; have := Int32.le_toInt (Int64.ofNat v).toInt32
  omega
theorem is0 {i : Nat} (h : i < 2147483648) (q : Int32.ofNat i = 0) : i = 0 := by
  have := congrArg Int32.toInt q; rw [n32 h] at this; have e : (0 : Int32).toInt = 0 := rfl; omega
theorem not0 {i : Nat} (q : ¬ Int32.ofNat i = 0) : 0 < i := by
  apply Nat.pos_of_ne_zero; intro e; subst e; exact q rfl
theorem pos32 {i : Nat} (h : i < 2147483648) (q : 0 < i) : (0 : Int32) < Int32.ofNat i := (lt32 (i := 0) (by omega) h).mpr q
theorem nl_hi {v : Nat} (h : v < 9223372036854775808) (q : 0 < v / 2 ^ 32) : Int32.ofNat (31 - (v / 2 ^ 32).log2) = Int32.ofNat (nl v) := by
  have := log_div (i := v) (k := 32) (by omega)
  rw [nl, if_neg (by omega)]; congr 1; omega
theorem nl_lo {v : Nat} (h : v < 2147483648) (q : 0 < v) : (32 : Int32) + Int32.ofNat (31 - v.log2) = Int32.ofNat (nl v) := by
  have : v.log2 ≤ 30 := log_le (by omega)
  rw [show (32 : Int32) = Int32.ofNat 32 from rfl, add32 (by omega), nl, if_neg (by omega)]; congr 1; omega
theorem nl_mid {v : Nat} (h : v < 4294967296) (h' : ¬ v < 2147483648) : (32 : Int32) + (0 : Int32) = Int32.ofNat (nl v) := by
  have : v.log2 ≤ 31 := log_le (by omega)
  have : 31 ≤ v.log2 := le_log (by omega)
  rw [nl, if_neg (by omega), show v.log2 = 31 by omega]; rfl
/-- row and bucket, as add reckons them -/
theorem row_of {v : Nat} (h : v < 9223372036854775808) : (if (0 : Int32) < (((63 : Int32) - Int32.ofNat (nl v)) - (7 : Int32)) + (1 : Int32) then (((63 : Int32) - Int32.ofNat (nl v)) - (7 : Int32)) + (1 : Int32) else (0 : Int32)) = Int32.ofNat (Ky v / 128) := by
  have l : v.log2 ≤ 62 := log_le (by omega)
  have hn : nl v < 65 := by unfold nl; split <;> omega
  have hn2 : (nl v : Int) = if v = 0 then 64 else 63 - (v.log2 : Int) := by unfold nl; split <;> omega
  have a := c_isub 63 (Int32.ofNat (nl v)); rw [n32 (by omega), show (63 : Int32).toInt = 63 from rfl] at a
  have b := c_isub (63 - Int32.ofNat (nl v)) 7; rw [show (7 : Int32).toInt = 7 from rfl] at b
  have d := c_iadd (63 - Int32.ofNat (nl v) - 7) 1; rw [show (1 : Int32).toInt = 1 from rfl] at d
  have := Int32.toInt_lt (63 - Int32.ofNat (nl v)); have := Int32.le_toInt (63 - Int32.ofNat (nl v))
  have := Int32.toInt_lt (63 - Int32.ofNat (nl v) - 7); have := Int32.le_toInt (63 - Int32.ofNat (nl v) - 7)
  generalize 63 - Int32.ofNat (nl v) - 7 + 1 = t at *
  have := Int32.toInt_lt t; have := Int32.le_toInt t
  have hr := Ky_row (v := v)
  have z : (0 : Int32).toInt = 0 := rfl
  have h0 : v = 0 → v.log2 = 0 := fun q => by subst q; simp
  split
  · rename_i q; rw [Int32.lt_iff_toInt_lt, z] at q
    apply e32 (by omega); rw [hr]
    split at hn2
    · omega
    · omega
  · rename_i q; rw [Int32.lt_iff_toInt_lt, z] at q
    apply e32 (by omega); rw [hr, z]
    split at hn2
    · rename_i q0; rw [h0 q0]; rfl
    · omega
theorem bkt_of {v : Nat} (h : v < 9223372036854775808) : ((((Int64.ofNat v).toUInt64 >>> ((if (0 : Int32) < (Int32.ofNat (Ky v / 128)) - (1 : Int32) then (Int32.ofNat (Ky v / 128)) - (1 : Int32) else (0 : Int32)) &&& 0x3f).toInt64.toUInt64).toInt64).toInt32) &&& (127 : Int32) = Int32.ofNat (Ky v % 128) := by
  have hk := Ky_lt h
  have hr := Ky_row (v := v)
  have hsh : (if (0 : Int32) < (Int32.ofNat (Ky v / 128)) - (1 : Int32) then (Int32.ofNat (Ky v / 128)) - (1 : Int32) else (0 : Int32)) = Int32.ofNat (v.log2 - 7) := by
    have a := c_isub (Int32.ofNat (Ky v / 128)) 1; rw [n32 (by omega), show (1 : Int32).toInt = 1 from rfl] at a
    generalize Int32.ofNat (Ky v / 128) - 1 = t at *
    have := Int32.toInt_lt t; have := Int32.le_toInt t
    have z : (0 : Int32).toInt = 0 := rfl
    split
    · rename_i q; rw [Int32.lt_iff_toInt_lt, z] at q
      apply e32 (by omega); omega
    · rename_i q; rw [Int32.lt_iff_toInt_lt, z] at q
      apply e32 (by omega); rw [z]; omega
  rw [hsh]
  have lb : v.log2 ≤ 62 := log_le (by omega)
  have key : ((Int64.ofNat v).toUInt64 >>> ((Int32.ofNat (v.log2 - 7)) &&& 0x3f).toInt64.toUInt64).toInt64 = Int64.ofNat (v / 2 ^ (v.log2 - 7)) := by
    by_cases q : v.log2 - 7 = 0
    · rw [q, show ((Int32.ofNat 0) &&& 0x3f).toInt64.toUInt64 = (0 : UInt64) from by decide, show ((Int64.ofNat v).toUInt64 >>> (0 : UInt64)) = (Int64.ofNat v).toUInt64 from by simp]; simp
    · have hb : ∀ k : Fin 64, (Int32.ofNat k.val).toBitVec.toNat % 64 = k.val := by decide
      exact shr64 h _ _ (hb ⟨v.log2 - 7, by omega⟩) (by omega)
  rw [key]
  have hm := c_mask (Int64.ofNat (v / 2 ^ (v.log2 - 7))).toInt32 127 7 (by decide) (by decide)
  have c := c_l2i (Int64.ofNat (v / 2 ^ (v.log2 - 7)))
  have hq : v / 2 ^ (v.log2 - 7) < 9223372036854775808 := Nat.lt_of_le_of_lt (Nat.div_le_self _ _) h
  rw [n64 hq] at c
  apply e32 (by omega)
  rw [hm, Ky_bkt]
  generalize v / 2 ^ (v.log2 - 7) = t at *
  have : ((2 ^ 7 : Nat) : Int) = 128 := rfl
  omega
end Jvm.Own
namespace Jvm.Own
open Jvm Jvm.ClassFile Sem Op Lib Jvm.Free Jvm.Stand Jvm.LawKit Jvm.RoadKit
/-! the Histogram in the heap: its cells lie in ws; rows κ; rowCounts g; the rows' places f -/
abbrev HC : String := "com/example/headroom/headroom/Histogram"
def Sep (sz n0 : Nat) (ws : List Addr) (o ro rc : Addr) (κ : Nat → Value) : Prop :=
  o ≠ ro ∧ o ≠ rc ∧ ro ≠ rc ∧ (∀ r b, r < 57 → κ r = .ref b → b ≠ o ∧ b ≠ ro ∧ b ≠ rc ∧ b ∈ ws) ∧ (∀ r r' b, r < 57 → r' < 57 → κ r = .ref b → κ r' = .ref b → r = r') ∧ o ∈ ws ∧ ro ∈ ws ∧ rc ∈ ws ∧ ∀ a ∈ ws, n0 ≤ a ∧ a < sz
def LF (f : Nat → Nat) : Nat → Value := fun i => .long (Int64.ofNat (f i))
def HI (Z : State) (h : Heap) (n0 : Nat) (ws : List Addr) (o ro rc : Addr) (κ : Nat → Value) (cnt : Nat) (g : Nat → Nat) (f : Nat → Nat → Nat) : Prop :=
  Exa Z h o HC ∧ Fld Z h o HC "rows" "[[J" (.ref ro) ∧ Fld Z h o HC "rowCounts" "[J" (.ref rc) ∧ Fld Z h o HC "count" "J" (.long (Int64.ofNat cnt)) ∧ FaA Z h ro .long "[J" 57 κ ∧ Fa Z h rc .long 57 (LF g) ∧
  (∀ r, r < 57 → (κ r = .null ∧ g r = 0 ∧ ∀ i, i < 256 → f r i = 0) ∨ ∃ b, κ r = .ref b ∧ Fa Z h b .long 256 (LF (f r))) ∧ Sep h.size n0 ws o ro rc κ
section H
variable {Z : State} {h h' : Heap} {n0 : Nat} {ws vs : List Addr} {o ro rc b : Addr} {κ : Nat → Value} {cnt cnt' r : Nat} {g g' fr : Nat → Nat} {f f' : Nat → Nat → Nat}
theorem HI.at (H : HI Z h n0 ws o ro rc κ cnt g f) (hr : r < 57) (hb : κ r = .ref b) : Fa Z h b .long 256 (LF (f r)) := by
  obtain ⟨-, -, -, -, -, -, R, -⟩ := H
  rcases R r hr with ⟨q, -⟩ | ⟨b', q, F⟩
  · rw [hb] at q; cases q
  · rw [hb] at q; cases q; exact F
theorem HI.sep (H : HI Z h n0 ws o ro rc κ cnt g f) : Sep h.size n0 ws o ro rc κ := H.2.2.2.2.2.2.2
theorem HI.keep (H : HI Z h n0 ws o ro rc κ cnt g f) (K : Keep h h' vs) (D : ∀ a ∈ ws, a ∉ vs) : HI Z h' n0 ws o ro rc κ cnt g f := by
  obtain ⟨E, F1, F2, F3, A, B, R, S⟩ := H
  obtain ⟨s1, s2, s3, s4, s5, s6, s7, s8, s9⟩ := S
  refine ⟨E.keep K, F1.keep K (D _ s6), F2.keep K (D _ s6), F3.keep K (D _ s6), A.keep K (D _ s7), B.keep K (D _ s8), fun r hr => (R r hr).imp id fun ⟨b, q, F⟩ => ⟨b, q, F.keep K (D _ (s4 r b hr q).2.2.2)⟩, s1, s2, s3, s4, s5, s6, s7, s8, fun a ha => ⟨(s9 a ha).1, Nat.lt_of_lt_of_le (s9 a ha).2 K.1⟩⟩
theorem HI.congr (H : HI Z h n0 ws o ro rc κ cnt g f) (qg : ∀ r, r < 57 → g r = g' r) (qf : ∀ r, r < 57 → ∀ i, i < 256 → f r i = f' r i) : HI Z h n0 ws o ro rc κ cnt g' f' := by
  obtain ⟨E, F1, F2, F3, A, B, R, S⟩ := H
  refine ⟨E, F1, F2, F3, A, B.congr fun i hi => by simp only [LF, qg i hi], fun r hr => ?_, S⟩
  rcases R r hr with ⟨q, q1, q2⟩ | ⟨b, q, F⟩
  · exact Or.inl ⟨q, (qg r hr).symm.trans q1, fun i hi => (qf r hr i hi).symm.trans (q2 i hi)⟩
  · exact Or.inr ⟨b, q, F.congr fun i hi => by simp only [LF, qf r hr i hi]⟩
theorem HI.put (H : HI Z h n0 ws o ro rc κ cnt g f) (hr : r < 57) (hb : κ r = .ref b) (K : Keep h h' vs) (D : ∀ a ∈ vs, a = o ∨ a = rc ∨ a = b) (E : Exa Z h' o HC) (F1 : Fld Z h' o HC "rows" "[[J" (.ref ro)) (F2 : Fld Z h' o HC "rowCounts" "[J" (.ref rc)) (F3 : Fld Z h' o HC "count" "J" (.long (Int64.ofNat cnt')))
    (B : Fa Z h' rc .long 57 (LF g')) (hg : ∀ r', r' ≠ r → g' r' = g r') (G : Fa Z h' b .long 256 (LF fr)) : HI Z h' n0 ws o ro rc κ cnt' g' (up f r fr) := by
  obtain ⟨-, -, -, -, A, -, R, S⟩ := H
  obtain ⟨s1, s2, s3, s4, s5, s6, s7, s8, s9⟩ := S
  have nb := s4 r b hr hb
  refine ⟨E, F1, F2, F3, A.keep K (fun q => ?_), B, fun r' hr' => ?_, s1, s2, s3, s4, s5, s6, s7, s8, fun a ha => ⟨(s9 a ha).1, Nat.lt_of_lt_of_le (s9 a ha).2 K.1⟩⟩
  · rcases D _ q with q | q | q
    · exact s1 q.symm
    · exact s3 q
    · exact nb.2.1 q.symm
  · by_cases q : r' = r
    · subst q; exact Or.inr ⟨b, hb, by rw [up_eq rfl]; exact G⟩
    · rcases R r' hr' with ⟨p1, p2, p3⟩ | ⟨b', p1, F⟩
      · exact Or.inl ⟨p1, (hg r' q).trans p2, fun i hi => by rw [up_ne q]; exact p3 i hi⟩
      · refine Or.inr ⟨b', p1, ?_⟩
        rw [up_ne q]; refine F.keep K fun q' => ?_
        have nb' := s4 r' b' hr' p1
        rcases D _ q' with q' | q' | q'
        · exact nb'.1 q'
        · exact nb'.2.2.1 q'
        · subst q'; exact q (s5 r' r b' hr' hr p1 hb)
theorem HI.born (H : HI Z h n0 ws o ro rc κ cnt g f) (hr : r < 57) (hn : κ r = .null) (K : Keep h h' [ro]) (hz : n0 ≤ h.size) (hb : h.size ≤ b) (A : FaA Z h' ro .long "[J" 57 (up κ r (.ref b))) (G : Fa Z h' b .long 256 (fun _ => .long (0 : Int64))) : HI Z h' n0 (b :: ws) o ro rc (up κ r (.ref b)) cnt g f := by
  obtain ⟨E, F1, F2, F3, -, B, R, S⟩ := H
  obtain ⟨s1, s2, s3, s4, s5, s6, s7, s8, s9⟩ := S
  have nb : ∀ a ∈ ws, b ≠ a := fun a ha q => Nat.not_lt.mpr hb (q ▸ (s9 a ha).2)
  have ms : ∀ x, x ≠ ro → x ∉ [ro] := fun x hx q => hx (List.mem_singleton.mp q)
  refine ⟨E.keep K, F1.keep K (ms _ s1), F2.keep K (ms _ s1), F3.keep K (ms _ s1), A, B.keep K (ms _ (Ne.symm s3)), fun r' hr' => ?_, s1, s2, s3, fun r' b' hr' hq => ?_, fun r1 r2 b' h1 h2 q1 q2 => ?_, List.mem_cons_of_mem _ s6, List.mem_cons_of_mem _ s7, List.mem_cons_of_mem _ s8, fun a ha => ?_⟩
  · by_cases q : r' = r
    · subst q
      rcases R r' hr with ⟨-, p2, p3⟩ | ⟨b', p1, F⟩
      · exact Or.inr ⟨b, up_eq rfl, G.congr fun i hi => by simp only [LF, p3 i hi]; rfl⟩
      · rw [hn] at p1; cases p1
    · rw [up_ne q]
      exact (R r' hr').imp id fun ⟨b', p1, F⟩ => ⟨b', p1, F.keep K (ms _ (s4 r' b' hr' p1).2.1)⟩
  · by_cases q : r' = r
    · rw [up_eq q] at hq; cases hq; exact ⟨nb _ s6, nb _ s7, nb _ s8, List.mem_cons_self⟩
    · rw [up_ne q] at hq; have := s4 r' b' hr' hq; exact ⟨this.1, this.2.1, this.2.2.1, List.mem_cons_of_mem _ this.2.2.2⟩
  · by_cases p1 : r1 = r
    · by_cases p2 : r2 = r
      · exact p1.trans p2.symm
      · rw [up_eq p1] at q1; cases q1; rw [up_ne p2] at q2; exact absurd rfl (nb _ (s4 r2 b h2 q2).2.2.2)
    · by_cases p2 : r2 = r
      · rw [up_eq p2] at q2; cases q2; rw [up_ne p1] at q1; exact absurd rfl (nb _ (s4 r1 b h1 q1).2.2.2)
      · rw [up_ne p1] at q1; rw [up_ne p2] at q2; exact s5 r1 r2 b' h1 h2 q1 q2
  · rcases List.mem_cons.mp ha with rfl | ha
    · exact ⟨Nat.le_trans hz hb, G.lt⟩
    · exact ⟨(s9 a ha).1, Nat.lt_of_lt_of_le (s9 a ha).2 K.1⟩
/-- what add does to the rows -/
def ad (f : Nat → Nat → Nat) (v : Nat) : Nat → Nat → Nat := up f (Ky v / 128) (up (up (f (Ky v / 128)) (2 * (Ky v % 128)) (f (Ky v / 128) (2 * (Ky v % 128)) + 1)) (2 * (Ky v % 128) + 1) (max (f (Ky v / 128) (2 * (Ky v % 128) + 1)) v))
def cR : List Nat → Nat → Nat
  | [] => fun _ => 0
  | v :: xs => up (cR xs) (Ky v / 128) (cR xs (Ky v / 128) + 1)
def cF : List Nat → Nat → Nat → Nat
  | [] => fun _ _ => 0
  | v :: xs => ad (cF xs) v
def Grow (h0 : Heap) (ws ws' : List Addr) : Prop := ∀ a ∈ ws', a ∈ ws ∨ h0.size ≤ a
end H
end Jvm.Own
namespace Jvm.Own
open Jvm Jvm.ClassFile Sem Op Lib Jvm.Free Jvm.Stand Jvm.LawKit Jvm.RoadKit
/-! the Histogram of a list of values -/
theorem cR_cons (v : Nat) (xs : List Nat) (r : Nat) : cR (v :: xs) r = cR xs r + if Ky v / 128 = r then 1 else 0 := by
  show up (cR xs) (Ky v / 128) (cR xs (Ky v / 128) + 1) r = _
  by_cases q : r = Ky v / 128
  · subst q; simp [up]
  · rw [up_ne q, if_neg (Ne.symm q)]; rfl
theorem cF_ev (v : Nat) (xs : List Nat) (r b : Nat) : cF (v :: xs) r (2 * b) = cF xs r (2 * b) + if Ky v / 128 = r ∧ Ky v % 128 = b then 1 else 0 := by
  show ad (cF xs) v r (2 * b) = _
  unfold ad
  by_cases q : r = Ky v / 128
  · subst q; rw [up_eq rfl, up_ne (by omega)]
    by_cases p : b = Ky v % 128
    · subst p; rw [up_eq rfl]; simp
    · rw [up_ne (by omega), if_neg (fun e => p e.2.symm)]; rfl
  · rw [up_ne q, if_neg (fun e => q e.1.symm)]; rfl
theorem cF_od (v : Nat) (xs : List Nat) (r b : Nat) : cF (v :: xs) r (2 * b + 1) = if Ky v / 128 = r ∧ Ky v % 128 = b then max (cF xs r (2 * b + 1)) v else cF xs r (2 * b + 1) := by
  show ad (cF xs) v r (2 * b + 1) = _
  unfold ad
  by_cases q : r = Ky v / 128
  · subst q; rw [up_eq rfl]
    by_cases p : b = Ky v % 128
    · subst p; rw [up_eq rfl]; simp
    · rw [up_ne (by omega), up_ne (by omega), if_neg (fun e => p e.2.symm)]
  · rw [up_ne q, if_neg (fun e => q e.1.symm)]
theorem cR_le : ∀ (xs : List Nat) (r : Nat), cR xs r ≤ xs.length
  | [], _ => Nat.le_refl _
  | v :: xs, r => by
    have := cR_le xs r; rw [cR_cons, List.length_cons]; split <;> omega
theorem cF_le : ∀ (xs : List Nat) (r b : Nat), cF xs r (2 * b) ≤ xs.length
  | [], _, _ => Nat.le_refl _
  | v :: xs, r, b => by
    have := cF_le xs r b; rw [cF_ev, List.length_cons]; split <;> omega
theorem cF_lt : ∀ (xs : List Nat) (r b : Nat), (∀ v ∈ xs, v < 9223372036854775808) → cF xs r (2 * b + 1) < 9223372036854775808
  | [], _, _, _ => Nat.lt_of_lt_of_le Nat.zero_lt_one (by decide)
  | v :: xs, r, b, h => by
    have := cF_lt xs r b (fun v hv => h v (List.mem_cons_of_mem _ hv)); have := h v List.mem_cons_self; rw [cF_od]; split <;> omega
theorem LF_up (g : Nat → Nat) (r x : Nat) (i : Nat) : up (LF g) r (.long (Int64.ofNat x)) i = LF (up g r x) i := by
  simp only [up, LF]; split <;> rfl
theorem row_lt {g : Nat → Nat} {a d x v : Nat} (hx : max (g d) v = v) : ∀ i, i < 256 → up (up (LF g) a (.long (Int64.ofNat x))) d (.long (Int64.ofNat v)) i = LF (up (up g a x) d (max (g d) v)) i := by
  intro i _; rw [hx]; simp only [up, LF]; (repeat' split) <;> rfl
theorem row_ge {g : Nat → Nat} {a d x v : Nat} (hx : max (g d) v = g d) (ne : d ≠ a) : ∀ i, i < 256 → up (LF g) a (.long (Int64.ofNat x)) i = LF (up (up g a x) d (max (g d) v)) i := by
  intro i _; rw [hx]; simp only [up, LF]
  by_cases q : i = d
  · subst q; rw [if_neg ne, if_pos rfl]
  · rw [if_neg q]; split <;> rfl
def HL (Z : State) (h : Heap) (n0 : Nat) (ws : List Addr) (o : Addr) (xs : List Nat) : Prop :=
  (∃ ro rc κ, HI Z h n0 ws o ro rc κ xs.length (cR xs) (cF xs)) ∧ ∀ v ∈ xs, v < 9223372036854775808
def Dj (vs ws : List Addr) : Prop := ∀ a ∈ vs, a ∉ ws
section H
variable {Z : State} {h h' : Heap} {n0 : Nat} {ws ws' vs : List Addr} {o ro rc b : Addr} {κ : Nat → Value} {xs : List Nat}
theorem Dj.symm (D : Dj vs ws) : Dj ws vs := fun a h1 h2 => D a h2 h1
theorem HL.keep (H : HL Z h n0 ws o xs) (K : Keep h h' vs) (D : Dj ws vs) : HL Z h' n0 ws o xs := by
  obtain ⟨⟨ro, rc, κ, H⟩, B⟩ := H; exact ⟨⟨ro, rc, κ, H.keep K D⟩, B⟩
theorem HL.ext (H : HL Z h n0 ws o xs) (E : Ext h h') : HL Z h' n0 ws o xs := H.keep ((Keep.refl h []).ext E) (fun a _ q => nomatch q)
theorem HL.small (H : HL Z h n0 ws o xs) : ∀ a ∈ ws, a < h.size := by
  obtain ⟨⟨ro, rc, κ, H⟩, B⟩ := H; exact fun a ha => (H.sep.2.2.2.2.2.2.2.2 a ha).2
theorem HL.exa (H : HL Z h n0 ws o xs) : Exa Z h o HC := by
  obtain ⟨⟨ro, rc, κ, H⟩, B⟩ := H; exact H.1
/-- cells that were there, and cells made since -/
theorem Dj.new (H : HL Z h n0 ws o xs) (G : ∀ a ∈ vs, h.size ≤ a) : Dj ws vs := fun a h1 h2 => Nat.not_lt.mpr (G a h2) (H.small a h1)
theorem Dj.grow (D : Dj ws vs) (H : HL Z h n0 vs o xs) (G : Grow h ws ws') : Dj ws' vs := fun a h1 h2 => (G a h1).elim (fun q => D a q h2) fun q => Nat.not_lt.mpr q (H.small a h2)
theorem HI.start (E : Exa Z h o HC) (F1 : Fld Z h o HC "rows" "[[J" (.ref ro)) (F2 : Fld Z h o HC "rowCounts" "[J" (.ref rc)) (F3 : Fld Z h o HC "count" "J" (.long (0 : Int64))) (A : FaA Z h ro .long "[J" 57 (fun _ => .null)) (B : Fa Z h rc .long 57 (fun _ => .long (0 : Int64)))
    (n1 : o ≠ ro) (n2 : o ≠ rc) (n3 : ro ≠ rc) (g1 : n0 ≤ o) (g2 : n0 ≤ ro) (g3 : n0 ≤ rc) : HL Z h n0 [o, ro, rc] o [] := by
  refine ⟨⟨ro, rc, fun _ => .null, E, F1, F2, F3, A, B, fun r hr => Or.inl ⟨rfl, rfl, fun _ _ => rfl⟩, n1, n2, n3, fun r b _ q => Value.noConfusion q, fun _ _ _ _ _ q => Value.noConfusion q, by simp, by simp, by simp, fun a ha => ?_⟩, fun v hv => nomatch hv⟩
  rcases List.mem_cons.mp ha with rfl | ha
  · exact ⟨g1, E.lt⟩
  · rcases List.mem_cons.mp ha with rfl | ha
    · exact ⟨g2, A.lt⟩
    · cases List.mem_singleton.mp ha; exact ⟨g3, B.lt⟩
end H
end Jvm.Own
namespace Jvm.Own
/-! valueAt: the search of the row, then of the bucket -/
def sG (g : Nat → Nat) : Nat → Nat → Nat
  | 0, _ => 0
  | n + 1, r => g r + sG g n (r + 1)
def fB (p : Nat → Nat) (k : Nat) : Nat → Nat → Nat → Nat
  | 0, b, _ => b
  | n + 1, b, s => if s + p (2 * b) < k then fB p k n (b + 1) (s + p (2 * b)) else b
def fR (g : Nat → Nat) (k : Nat) : Nat → Nat → Nat → Nat × Nat
  | 0, r, s => (r, s)
  | n + 1, r, s => if s + g r < k then fR g k n (r + 1) (s + g r) else (r, s)
def Vb (f : Nat → Nat → Nat) (k : Nat) (q : Nat × Nat) : Nat := f q.1 (2 * fB (f q.1) k 128 0 q.2 + 1)
def Va (xs : List Nat) (k : Nat) : Nat := Vb (cF xs) k (fR (cR xs) k 57 0 0)
theorem fB_in {p : Nat → Nat} {k n b s : Nat} (q : s + p (2 * b) < k) : fB p k (n + 1) b s = fB p k n (b + 1) (s + p (2 * b)) := by rw [fB, if_pos q]
theorem fB_out {p : Nat → Nat} {k n b s : Nat} (q : ¬ s + p (2 * b) < k) : fB p k (n + 1) b s = b := by rw [fB, if_neg q]
theorem fR_in {g : Nat → Nat} {k n r s : Nat} (q : s + g r < k) : fR g k (n + 1) r s = fR g k n (r + 1) (s + g r) := by rw [fR, if_pos q]
theorem fR_out {g : Nat → Nat} {k n r s : Nat} (q : ¬ s + g r < k) : fR g k (n + 1) r s = (r, s) := by rw [fR, if_neg q]
theorem sG_congr {g g' : Nat → Nat} : ∀ (n r : Nat), (∀ i, g i = g' i) → sG g n r = sG g' n r
  | 0, _, _ => rfl
  | n + 1, r, h => by rw [sG, sG, h, sG_congr n (r + 1) h]
theorem sG_one {g : Nat → Nat} {a : Nat} : ∀ (n r : Nat), sG (fun i => g i + if a = i then 1 else 0) n r = sG g n r + if r ≤ a ∧ a < r + n then 1 else 0
  | 0, r => by simp [sG]
  | n + 1, r => by
    rw [sG, sG, sG_one n (r + 1)]
    (repeat' split) <;> omega
theorem sG_zero : ∀ (n r : Nat), sG (fun _ => 0) n r = 0
  | 0, _ => rfl
  | n + 1, r => by rw [sG, sG_zero n (r + 1)]
theorem sum_rows : ∀ xs : List Nat, (∀ v ∈ xs, v < 9223372036854775808) → sG (cR xs) 57 0 = xs.length
  | [], _ => sG_zero 57 0
  | v :: xs, h => by
    rw [sG_congr 57 0 (cR_cons v xs), sG_one, sum_rows xs (fun v hv => h v (List.mem_cons_of_mem _ hv)), List.length_cons]
    have := Ky_lt (h v List.mem_cons_self)
    split <;> omega
theorem sum_row : ∀ (xs : List Nat) (r : Nat), sG (fun b => cF xs r (2 * b)) 128 0 = cR xs r
  | [], _ => sG_zero 128 0
  | v :: xs, r => by
    rw [sG_congr 128 0 (cF_ev v xs r), cR_cons, ← sum_row xs r]
    by_cases q : Ky v / 128 = r
    · have := sG_one (g := fun b => cF xs r (2 * b)) (a := Ky v % 128) 128 0
      simp only [q, true_and, if_true] at this ⊢
      rw [this, if_pos (by omega)]
    · simp only [q, false_and, if_false, Nat.add_zero]
end Jvm.Own
namespace Jvm.Own
open Jvm Jvm.ClassFile Sem Op Lib Jvm.Free Jvm.Stand Jvm.LawKit Jvm.RoadKit
/-! addAll -/
def mg {α : Type} (r : Nat) (p q : Nat → α) : Nat → α := fun i => if i < r then p i else q i
theorem mg_lt {α : Type} {r i : Nat} {p q : Nat → α} (h : i < r) : mg r p q i = p i := if_pos h
theorem mg_ge {α : Type} {r i : Nat} {p q : Nat → α} (h : ¬ i < r) : mg r p q i = q i := if_neg h
theorem up_up {α : Type} (F : Nat → α) (r : Nat) (a b : α) : up (up F r a) r b = up F r b := by funext i; simp only [up]; split <;> rfl
theorem cR_app : ∀ (ys xs : List Nat) (r : Nat), cR (ys ++ xs) r = cR xs r + cR ys r
  | [], xs, r => rfl
  | v :: ys, xs, r => by rw [List.cons_append, cR_cons, cR_cons, cR_app ys xs r]; omega
theorem cF_app_ev : ∀ (ys xs : List Nat) (r b : Nat), cF (ys ++ xs) r (2 * b) = cF xs r (2 * b) + cF ys r (2 * b)
  | [], xs, r, b => rfl
  | v :: ys, xs, r, b => by rw [List.cons_append, cF_ev, cF_ev, cF_app_ev ys xs r b]; omega
theorem cF_app_od : ∀ (ys xs : List Nat) (r b : Nat), cF (ys ++ xs) r (2 * b + 1) = max (cF xs r (2 * b + 1)) (cF ys r (2 * b + 1))
  | [], xs, r, b => (Nat.max_eq_left (Nat.zero_le _)).symm
  | v :: ys, xs, r, b => by rw [List.cons_append, cF_od, cF_od, cF_app_od ys xs r b]; split <;> omega
theorem cF_none : ∀ (ys : List Nat) (r b : Nat), cR ys r = 0 → cF ys r (2 * b) = 0 ∧ cF ys r (2 * b + 1) = 0
  | [], _, _, _ => ⟨rfl, rfl⟩
  | v :: ys, r, b, h => by
    rw [cR_cons] at h
    have q : ¬ Ky v / 128 = r := fun e => by rw [if_pos e] at h; omega
    have := cF_none ys r b (by omega)
    rw [cF_ev, cF_od, if_neg (fun e => q e.1), if_neg (fun e => q e.1)]; omega
theorem cF_skip {ys xs : List Nat} {r : Nat} (h : cR ys r = 0) (i : Nat) : cF (ys ++ xs) r i = cF xs r i := by
  have e : i = 2 * (i / 2) ∨ i = 2 * (i / 2) + 1 := by omega
  have := cF_none ys r (i / 2) h
  rcases e with e | e <;> rw [e]
  · rw [cF_app_ev]; omega
  · rw [cF_app_od]; omega
theorem mix_step {p x y : Nat → Nat} {j : Nat} (h1 : p (2 * j) = x (2 * j) + y (2 * j)) (h2 : p (2 * j + 1) = max (x (2 * j + 1)) (y (2 * j + 1))) : ∀ i, i < 256 → up (up (LF (mg (2 * j) p x)) (2 * j) (.long (Int64.ofNat (x (2 * j) + y (2 * j))))) (2 * j + 1) (.long (Int64.ofNat (max (x (2 * j + 1)) (y (2 * j + 1))))) i = LF (mg (2 * (j + 1)) p x) i := by
  intro i _
  by_cases q : i = 2 * j + 1
  · rw [up_eq q, q]; simp only [LF]; rw [mg_lt (by omega), h2]
  · by_cases q' : i = 2 * j
    · rw [up_ne q, up_eq q', q']; simp only [LF]; rw [mg_lt (by omega), h1]
    · rw [up_ne q, up_ne q']; simp only [LF, mg]
      by_cases q2 : i < 2 * j
      · rw [if_pos q2, if_pos (by omega)]
      · rw [if_neg q2, if_neg (by omega)]
section H
variable {Z : State} {h h' : Heap} {n0 : Nat} {ws ws' vs : List Addr} {o ro rc a b : Addr} {κ : Nat → Value} {cnt cnt' r : Nat} {g : Nat → Nat} {f : Nat → Nat → Nat} {xs : List Nat}
theorem dj_ne (D : Dj vs ws) (h1 : a ∈ vs) (h2 : b ∈ ws) : a ≠ b := fun q => D a h1 (q ▸ h2)
theorem Dj.growI (D : Dj ws vs) (H : Sep h.size n0 vs o ro rc κ) (G : Grow h ws ws') : Dj ws' vs := fun a h1 h2 => (G a h1).elim (fun q => D a q h2) fun q => Nat.not_lt.mpr q (H.2.2.2.2.2.2.2.2 a h2).2
theorem Dj.one (D : Dj ws vs) (q : a ∈ ws) : ∀ x ∈ vs, x ∉ [a] := fun x hx hm => D a q (List.mem_singleton.mp hm ▸ hx)
theorem Grow.trans {h0 : Heap} {us : List Addr} (G : Grow h0 us ws) (G' : Grow h ws ws') (q : h0.size ≤ h.size) : Grow h0 us ws' := fun a ha => (G' a ha).elim (G a) fun z => Or.inr (Nat.le_trans q z)
theorem HI.recount (H : HI Z h n0 ws o ro rc κ cnt g f) (K : Keep h h' [o]) (E : Exa Z h' o HC) (F1 : Fld Z h' o HC "rows" "[[J" (.ref ro)) (F2 : Fld Z h' o HC "rowCounts" "[J" (.ref rc)) (F3 : Fld Z h' o HC "count" "J" (.long (Int64.ofNat cnt'))) : HI Z h' n0 ws o ro rc κ cnt' g f := by
  obtain ⟨-, -, -, -, A, B, R, S⟩ := H
  obtain ⟨s1, s2, s3, s4, s5, s6, s7, s8, s9⟩ := S
  have ms : ∀ x, x ≠ o → x ∉ [o] := fun x hx q => hx (List.mem_singleton.mp q)
  exact ⟨E, F1, F2, F3, A.keep K (ms _ (Ne.symm s1)), B.keep K (ms _ (Ne.symm s2)), fun r hr => (R r hr).imp id fun ⟨b, q, F⟩ => ⟨b, q, F.keep K (ms _ (s4 r b hr q).1)⟩, s1, s2, s3, s4, s5, s6, s7, s8, fun a ha => ⟨(s9 a ha).1, Nat.lt_of_lt_of_le (s9 a ha).2 K.1⟩⟩
theorem skip_row {ys xs : List Nat} {r : Nat} (h : cR ys r = 0) : (∀ i, mg r (cR (ys ++ xs)) (cR xs) i = mg (r + 1) (cR (ys ++ xs)) (cR xs) i) ∧ ∀ q i, mg r (cF (ys ++ xs)) (cF xs) q i = mg (r + 1) (cF (ys ++ xs)) (cF xs) q i := by
  constructor
  · intro i
    by_cases q : i < r
    · rw [mg_lt q, mg_lt (by omega)]
    · by_cases q' : i = r
      · rw [mg_ge q, mg_lt (by omega), q', cR_app, h]; rfl
      · rw [mg_ge q, mg_ge (by omega)]
  · intro k i
    by_cases q : k < r
    · rw [mg_lt q, mg_lt (by omega)]
    · by_cases q' : k = r
      · rw [mg_ge q, mg_lt (by omega), q', cF_skip h]
      · rw [mg_ge q, mg_ge (by omega)]
theorem done_row {ys xs : List Nat} {r : Nat} {M : Nat → Nat} (hM : ∀ i, i < 256 → M i = cF (ys ++ xs) r i) : (∀ i, up (mg r (cR (ys ++ xs)) (cR xs)) r (cR xs r + cR ys r) i = mg (r + 1) (cR (ys ++ xs)) (cR xs) i) ∧ ∀ q i, i < 256 → up (mg r (cF (ys ++ xs)) (cF xs)) r M q i = mg (r + 1) (cF (ys ++ xs)) (cF xs) q i := by
  constructor
  · intro i
    by_cases q' : i = r
    · rw [up_eq q', mg_lt (by omega), q', cR_app]
    · rw [up_ne q']
      by_cases q : i < r
      · rw [mg_lt q, mg_lt (by omega)]
      · rw [mg_ge q, mg_ge (by omega)]
  · intro k i hi
    by_cases q' : k = r
    · rw [up_eq q', mg_lt (by omega), q', hM i hi]
    · rw [up_ne q']
      by_cases q : k < r
      · rw [mg_lt q, mg_lt (by omega)]
      · rw [mg_ge q, mg_ge (by omega)]
theorem start_row {α : Type} {A B : Nat → Nat → α} {r : Nat} : up (mg r A B) r (mg 0 (A r) (B r)) = mg r A B := by
  funext i
  by_cases q : i = r
  · rw [up_eq q, q, mg_ge (by omega)]; funext j; exact mg_ge (by omega)
  · rw [up_ne q]
end H
end Jvm.Own
namespace Jvm.Own
open Jvm Jvm.ClassFile Sem Op Lib Jvm.Free Jvm.Stand Jvm.LawKit Jvm.RoadKit
/-- a local that holds no half of a long or double -/
def One1 (x : Slot) : Prop := x = .unset ∨ ∃ v : Value, x = .val v ∧ v.category = 1
theorem own_store (l : Array Slot) (i : Nat) (v : Value) : storeLocals l i v = (l[i]?).bind (fun x => match x with
    | .second => (setAt l (i - 1) .unset).bind fun l => storeSelf l i v
    | .val old => if old.category = 2 then (setAt l (i + 1) .unset).bind fun l => storeSelf l i v else storeSelf l i v
    | .unset => storeSelf l i v) := rfl
theorem st_one {l l' : Array Slot} {i : Nat} {v : Value} {x : Slot} (h : l[i]? = some x) (o : One1 x) (q : storeSelf l i v = some l') : storeLocals l i v = some l' := by
  rw [own_store, h]
  rcases o with rfl | ⟨u, rfl, hu⟩
  · exact q
  · show (if u.category = 2 then (setAt l (i + 1) .unset).bind fun l => storeSelf l i v else storeSelf l i v) = some l'
    rw [if_neg (by rw [hu]; decide)]; exact q
end Jvm.Own
namespace Jvm.Own
open Jvm Jvm.ClassFile Sem Op Lib Jvm.Free Jvm.Stand Jvm.LawKit Jvm.RoadKit
theorem Dj.cons3 {Z : State} {h : Heap} {n0 : Nat} {ws : List Addr} {o x ro rc : Addr} {xs : List Nat} (D : Dj ws [x]) (H : HL Z h n0 ws o xs) (g1 : h.size ≤ ro) (g2 : h.size ≤ rc) : Dj ws [x, ro, rc] := fun a h1 h2 => by
  rcases List.mem_cons.mp h2 with q | h2
  · exact D a h1 (List.mem_singleton.mpr q)
  · rcases List.mem_cons.mp h2 with q | h2
    · exact Nat.not_lt.mpr g1 (q ▸ H.small a h1)
    · exact Nat.not_lt.mpr g2 (List.mem_singleton.mp h2 ▸ H.small a h1)
end Jvm.Own
namespace Jvm.Own
/-! the plain law: which value valueAt finds -/
def pre (g : Nat → Nat) : Nat → Nat
  | 0 => 0
  | n + 1 => pre g n + g n
def cL : List Nat → Nat → Nat
  | [], _ => 0
  | v :: xs, K => cL xs K + if Ky v < K then 1 else 0
def cE : List Nat → Nat → Nat
  | [], _ => 0
  | v :: xs, K => cE xs K + if Ky v = K then 1 else 0
def Mx : List Nat → Nat → Nat
  | [], _ => 0
  | v :: xs, K => if Ky v = K then max (Mx xs K) v else Mx xs K
theorem pre_congr {g g' : Nat → Nat} (h : ∀ i, g i = g' i) : ∀ m, pre g m = pre g' m
  | 0 => rfl
  | m + 1 => by rw [pre, pre, pre_congr h m, h]
theorem pre_one {g : Nat → Nat} {a : Nat} : ∀ m, pre (fun i => g i + if a = i then 1 else 0) m = pre g m + if a < m then 1 else 0
  | 0 => by simp [pre]
  | m + 1 => by
    rw [pre, pre, pre_one m]
    (repeat' split) <;> omega
theorem pre_zero : ∀ m, pre (fun _ => 0) m = 0
  | 0 => rfl
  | m + 1 => by rw [pre, pre_zero m]
theorem pre_cL : ∀ (xs : List Nat) (r b : Nat), b ≤ 128 → pre (cR xs) r + pre (fun i => cF xs r (2 * i)) b = cL xs (128 * r + b)
  | [], r, b, _ => by
    rw [pre_congr (g := cR []) (g' := fun _ => 0) (fun _ => rfl), pre_congr (g := fun i => cF [] r (2 * i)) (g' := fun _ => 0) (fun _ => rfl), pre_zero, pre_zero]; rfl
  | v :: xs, r, b, hb => by
    have ih := pre_cL xs r b hb
    rw [pre_congr (cR_cons v xs), pre_one, pre_congr (cF_ev v xs r), cL]
    by_cases q : Ky v / 128 = r
    · have := pre_one (g := fun b => cF xs r (2 * b)) (a := Ky v % 128) b
      simp only [q, true_and] at this ⊢
      rw [this]
      (repeat' split) <;> omega
    · simp only [q, false_and, if_false, Nat.add_zero]
      (repeat' split) <;> omega
theorem cF_cE : ∀ (xs : List Nat) (r b : Nat), b < 128 → cF xs r (2 * b) = cE xs (128 * r + b) ∧ cF xs r (2 * b + 1) = Mx xs (128 * r + b)
  | [], _, _, _ => ⟨rfl, rfl⟩
  | v :: xs, r, b, hb => by
    have ih := cF_cE xs r b hb
    have e : (Ky v / 128 = r ∧ Ky v % 128 = b) ↔ Ky v = 128 * r + b := by omega
    rw [cF_ev, cF_od, cE, Mx, ih.1, ih.2]
    simp only [e, and_self]
theorem fR_spec {g : Nat → Nat} {k : Nat} : ∀ n r, pre g r < k → k ≤ pre g r + sG g n r → ∃ r', fR g k n r (pre g r) = (r', pre g r') ∧ r' < r + n ∧ pre g r' < k ∧ k ≤ pre g r' + g r'
  | 0, r, h1, h2 => by rw [sG] at h2; omega
  | n + 1, r, h1, h2 => by
    rw [sG] at h2
    by_cases q : pre g r + g r < k
    · obtain ⟨r', e, a, b, d⟩ := fR_spec n (r + 1) (show pre g r + g r < k from q) (show k ≤ pre g r + g r + sG g n (r + 1) by omega)
      exact ⟨r', (fR_in q).trans e, by omega, b, d⟩
    · exact ⟨r, fR_out q, by omega, h1, by omega⟩
theorem fB_spec {p : Nat → Nat} {k s0 : Nat} : ∀ n b, s0 + pre (fun i => p (2 * i)) b < k → k ≤ s0 + pre (fun i => p (2 * i)) b + sG (fun i => p (2 * i)) n b → ∃ b', fB p k n b (s0 + pre (fun i => p (2 * i)) b) = b' ∧ b' < b + n ∧ s0 + pre (fun i => p (2 * i)) b' < k ∧ k ≤ s0 + pre (fun i => p (2 * i)) b' + p (2 * b')
  | 0, b, h1, h2 => by rw [sG] at h2; omega
  | n + 1, b, h1, h2 => by
    rw [sG] at h2
    by_cases q : s0 + pre (fun i => p (2 * i)) b + p (2 * b) < k
    · obtain ⟨b', e, a, b1, d⟩ := fB_spec (s0 := s0) n (b + 1) (show s0 + (pre (fun i => p (2 * i)) b + p (2 * b)) < k by omega) (show k ≤ s0 + (pre (fun i => p (2 * i)) b + p (2 * b)) + sG (fun i => p (2 * i)) n (b + 1) by omega)
      exact ⟨b', (fB_in q).trans ((congrArg (fB p k n (b + 1)) (Nat.add_assoc _ _ _)).trans e), by omega, b1, d⟩
    · exact ⟨b, fB_out q, by omega, h1, by omega⟩
theorem Va_spec {xs : List Nat} {k : Nat} (hx : ∀ v ∈ xs, v < 9223372036854775808) (h1 : 1 ≤ k) (h2 : k ≤ xs.length) : ∃ K, cL xs K < k ∧ k ≤ cL xs K + cE xs K ∧ Va xs k = Mx xs K := by
  obtain ⟨r, e, a, b, d⟩ := fR_spec (g := cR xs) (k := k) 57 0 (show 0 < k by omega) (show k ≤ 0 + sG (cR xs) 57 0 by rw [sum_rows xs hx]; omega)
  obtain ⟨j, e2, a2, b2, d2⟩ := fB_spec (p := cF xs r) (k := k) (s0 := pre (cR xs) r) 128 0 (show pre (cR xs) r + 0 < k by omega) (show k ≤ pre (cR xs) r + 0 + sG (fun i => cF xs r (2 * i)) 128 0 by rw [sum_row]; omega)
  have c := cF_cE xs r j (by omega)
  have p := pre_cL xs r j (by omega)
  refine ⟨128 * r + j, by omega, by omega, ?_⟩
  show Vb (cF xs) k (fR (cR xs) k 57 0 (pre (cR xs) 0)) = _
  rw [e]
  show cF xs r (2 * fB (cF xs r) k 128 0 (pre (cR xs) r) + 1) = _
  rw [show fB (cF xs r) k 128 0 (pre (cR xs) r) = j from e2, c.2]
theorem Ky_mono {x y : Nat} (h : x ≤ y) : Ky x ≤ Ky y := by
  by_cases hy : y < 128
  · rw [Ky_small hy, Ky_small (by omega)]; exact h
  · by_cases hx : x < 128
    · rw [Ky_small hx]; have := Ky_row (v := y); have : 7 ≤ y.log2 := le_log (by omega); omega
    · have lx : 7 ≤ x.log2 := le_log (by omega)
      have l : x.log2 ≤ y.log2 := (Nat.le_log2 (by omega)).mpr (Nat.le_trans (Nat.log2_self_le (by omega)) h)
      have tx := top_log (v := x) (by omega); have ty := top_log (v := y) (by omega)
      by_cases q : x.log2 = y.log2
      · unfold Ky; rw [q]; exact Nat.add_le_add_left (Nat.div_le_div_right h) _
      · unfold Ky; omega
theorem Ky_lt_lt {x y : Nat} (h : Ky x < Ky y) : x < y := by
  by_cases q : x < y
  · exact q
  · have := Ky_mono (x := y) (y := x) (by omega); omega
theorem Va_one {y : Nat} (hy : y < 9223372036854775808) : Va [y] 1 = y := by
  obtain ⟨K, a, b, e⟩ := Va_spec (xs := [y]) (k := 1) (by simp [hy]) (by omega) (by simp)
  simp only [cL, cE, Mx] at a b e
  rw [e]
  (repeat' split at *) <;> omega
theorem Va_two {y z : Nat} (hy : y < 9223372036854775808) (hz : z < 9223372036854775808) : Va [z, y] 2 = max y z := by
  obtain ⟨K, a, b, e⟩ := Va_spec (xs := [z, y]) (k := 2) (by simp [hy, hz]) (by omega) (by simp)
  simp only [cL, cE, Mx] at a b e
  have m1 := Ky_lt_lt (x := y) (y := z); have m2 := Ky_lt_lt (x := z) (y := y)
  rw [e]
  (repeat' split at *) <;> omega
theorem nn64 (x : Int64) : ∃ n : Nat, n < 9223372036854775808 ∧ x &&& (9223372036854775807 : Int64) = Int64.ofNat n := by
  have c := Jvm.RoadKit.c_maskL x 9223372036854775807 63 (by decide) (by decide)
  have e : ((2 ^ 63 : Nat) : Int) = 9223372036854775808 := rfl
  rw [e] at c
  exact ⟨(x.toInt % 9223372036854775808).toNat, by omega, e64 (by omega) (by omega)⟩
end Jvm.Own
namespace Jvm.Own
open Jvm Jvm.RoadKit
/-! for s348-m1: mag, sameBucket, and the rank of three values -/
theorem nn_of {z : Int64} (h : 0 ≤ z.toInt) : ∃ n : Nat, n < 9223372036854775808 ∧ z = Int64.ofNat n := by
  have := Int64.toInt_lt z
  exact ⟨z.toInt.toNat, by omega, e64 (by omega) (by omega)⟩
theorem nn_and {n : Nat} (h : n < 9223372036854775808) (m : Int64) : ∃ n' : Nat, n' < 9223372036854775808 ∧ Int64.ofNat n &&& m = Int64.ofNat n' := nn_of ((c_andSL (Int64.ofNat n) m).2.1 (by rw [n64 h]; omega))
theorem nn_xor {a b : Nat} (ha : a < 9223372036854775808) (hb : b < 9223372036854775808) (m : Int64) : ∃ n' : Nat, n' < 9223372036854775808 ∧ Int64.ofNat a ^^^ (Int64.ofNat b &&& m) = Int64.ofNat n' :=
  nn_of ((c_xorSL (Int64.ofNat a) (Int64.ofNat b &&& m)).2.2.2 (by rw [n64 ha]; omega) ((c_andSL (Int64.ofNat b) m).2.1 (by rw [n64 hb]; omega)))
theorem shrv {v s : Nat} (h : v < 9223372036854775808) (hs : s < 64) : ((Int64.ofNat v).toUInt64 >>> ((Int32.ofNat s) &&& 0x3f).toInt64.toUInt64).toInt64 = Int64.ofNat (v / 2 ^ s) := by
  by_cases q : s = 0
  · rw [q, show ((Int32.ofNat 0) &&& 0x3f).toInt64.toUInt64 = (0 : UInt64) from by decide, show ((Int64.ofNat v).toUInt64 >>> (0 : UInt64)) = (Int64.ofNat v).toUInt64 from by simp]; simp
  · have hb : ∀ k : Fin 64, (Int32.ofNat k.val).toBitVec.toNat % 64 = k.val := by decide
    exact shr64 h _ _ (hb ⟨s, hs⟩) (by omega)
theorem sh_of {n : Nat} (h : n < 64) : (if (0 : Int32) < (Int32.ofNat n) - (7 : Int32) then (Int32.ofNat n) - (7 : Int32) else (0 : Int32)) = Int32.ofNat (n - 7) := by
  have a := c_isub (Int32.ofNat n) 7; rw [n32 (by omega), show (7 : Int32).toInt = 7 from rfl] at a
  generalize Int32.ofNat n - 7 = t at *
  have := Int32.toInt_lt t; have := Int32.le_toInt t
  have z : (0 : Int32).toInt = 0 := rfl
  split
  · rename_i q; rw [Int32.lt_iff_toInt_lt, z] at q
    apply e32 (by omega); omega
  · rename_i q; rw [Int32.lt_iff_toInt_lt, z] at q
    apply e32 (by omega); rw [z]; omega
theorem is0L {i : Nat} (h : i < 9223372036854775808) (q : Int64.ofNat i = 0) : i = 0 := (eq64 (j := 0) h (by omega)).mp q
theorem not0L {i : Nat} (q : ¬ Int64.ofNat i = 0) : 0 < i := by
  apply Nat.pos_of_ne_zero; intro e; subst e; exact q rfl
theorem log_small {i : Nat} (h : i / 2 ^ 1 = 0) : i.log2 = 0 := by have := log_le (i := i) (k := 0) (by omega); omega
theorem log_two {i : Nat} (h : 0 < i / 2 ^ 1) (h4 : i < 4) : i.log2 = 1 := by
  have := log_le (i := i) (k := 1) (by omega); have := le_log (i := i) (k := 1) (by omega); omega
theorem key_eq1 {x y : Nat} (hxy : x ≤ y) : x / 2 ^ (y.log2 - 7) = y / 2 ^ (y.log2 - 7) ↔ Ky x = Ky y := by
  by_cases hy : y < 256
  · have l : y.log2 ≤ 7 := log_le (by omega)
    have lx : x.log2 ≤ 7 := log_le (by omega)
    rw [show y.log2 - 7 = 0 by omega]; unfold Ky; rw [show y.log2 - 7 = 0 by omega, show x.log2 - 7 = 0 by omega]; omega
  · have l : 8 ≤ y.log2 := le_log (by omega)
    have ty := top_log (v := y) (by omega)
    constructor
    · intro e
      have p : 0 < 2 ^ (y.log2 - 7) := Nat.two_pow_pos _
      have h1 : 128 ≤ x / 2 ^ (y.log2 - 7) := by omega
      have h2 := (Nat.le_div_iff_mul_le p).mp h1
      rw [show (128 : Nat) = 2 ^ 7 by rfl, ← Nat.pow_add, show 7 + (y.log2 - 7) = y.log2 by omega] at h2
      have h3 : y.log2 ≤ x.log2 := le_log h2
      have h4 : x.log2 ≤ y.log2 := log_le (Nat.lt_of_le_of_lt hxy Nat.lt_log2_self)
      unfold Ky; rw [show x.log2 = y.log2 by omega, e]
    · intro e
      have r := Ky_row (v := x); have r' := Ky_row (v := y)
      rw [e] at r
      have q : x.log2 = y.log2 := by omega
      unfold Ky at e; rw [q] at e; omega
theorem key_eq {x y : Nat} : x / 2 ^ ((max x y).log2 - 7) = y / 2 ^ ((max x y).log2 - 7) ↔ Ky x = Ky y := by
  by_cases h : x ≤ y
  · rw [Nat.max_eq_right h]; exact key_eq1 h
  · rw [Nat.max_eq_left (by omega)]
    have := key_eq1 (x := y) (y := x) (by omega)
    constructor
    · intro e; exact (this.mp e.symm).symm
    · intro e; exact (this.mpr e.symm).symm
theorem cL_mono {K K' : Nat} (h : K < K') : ∀ xs : List Nat, cL xs K + cE xs K ≤ cL xs K'
  | [] => Nat.le_refl _
  | v :: xs => by
    have := cL_mono h xs
    simp only [cL, cE]
    (repeat' split) <;> omega
theorem Va_at {xs : List Nat} {k K : Nat} (hx : ∀ v ∈ xs, v < 9223372036854775808) (h1 : 1 ≤ k) (h2 : k ≤ xs.length) (a : cL xs K < k) (b : k ≤ cL xs K + cE xs K) : Va xs k = Mx xs K := by
  obtain ⟨K', a', b', e⟩ := Va_spec hx h1 h2
  by_cases q : K < K'
  · have := cL_mono q xs; omega
  · by_cases q' : K' < K
    · have := cL_mono q' xs; omega
    · rw [e, show K' = K by omega]
/-- the law's own 'ref' -/
def r1 (a v : Nat) : Nat := if Ky a = Ky v then max v a else v
def r2 (r b v : Nat) : Nat := if Ky b = Ky v then max r b else r
theorem Mx_ref {a b c v : Nat} (hv : v = a ∨ v = b ∨ v = c) : Mx [c, b, a] (Ky v) = r2 (r2 (r1 a v) b v) c v := by
  simp only [Mx, r1, r2]
  rcases hv with rfl | rfl | rfl
  · simp only [if_true]
    (repeat' split) <;> omega
  · simp only [if_true]
    (repeat' split) <;> omega
  · simp only [if_true]
    (repeat' split) <;> omega
theorem lows {a b c v : Nat} (K : Nat) : cL [c, b, a] K = (if Ky a < K then 1 else 0) + (if Ky b < K then 1 else 0) + (if Ky c < K then 1 else 0) ∧ cE [c, b, a] K = (if Ky a = K then 1 else 0) + (if Ky b = K then 1 else 0) + (if Ky c = K then 1 else 0) := by
  simp only [cL, cE, Nat.zero_add, and_self]
theorem Va_three {a b c v k : Nat} (ha : a < 9223372036854775808) (hb : b < 9223372036854775808) (hc : c < 9223372036854775808)
    (h : (k = 1 ∧ v = min a (min b c)) ∨ (k = 2 ∧ v = max (min a b) (min (max a b) c)) ∨ (k = 3 ∧ v = max a (max b c))) : Va [c, b, a] k = r2 (r2 (r1 a v) b v) c v := by
  have hv : v = a ∨ v = b ∨ v = c := by omega
  rw [← Mx_ref hv]
  have l := lows (a := a) (b := b) (c := c) (v := v) (Ky v)
  have la : a ≤ v → Ky a ≤ Ky v := Ky_mono
  have lb : b ≤ v → Ky b ≤ Ky v := Ky_mono
  have lc : c ≤ v → Ky c ≤ Ky v := Ky_mono
  have ga : v ≤ a → Ky v ≤ Ky a := Ky_mono
  have gb : v ≤ b → Ky v ≤ Ky b := Ky_mono
  have gc : v ≤ c → Ky v ≤ Ky c := Ky_mono
  have hx : ∀ u ∈ [c, b, a], u < 9223372036854775808 := by
    intro u hu; simp only [List.mem_cons, List.not_mem_nil, or_false] at hu; rcases hu with rfl | rfl | rfl <;> assumption
  have hk : 1 ≤ k ∧ k ≤ 3 := by omega
  have key : cL [c, b, a] (Ky v) < k ∧ k ≤ cL [c, b, a] (Ky v) + cE [c, b, a] (Ky v) := by
    rw [l.1, l.2]
    clear l hx
    generalize Ky v = V at *
    rcases Nat.lt_trichotomy (Ky a) V with p | p | p <;> rcases Nat.lt_trichotomy (Ky b) V with q | q | q <;> rcases Nat.lt_trichotomy (Ky c) V with r | r | r <;>
      (simp only [p, q, r, if_true, if_false, Nat.lt_irrefl, Nat.ne_of_lt, Nat.ne_of_gt, Nat.not_lt.mpr, Nat.le_of_lt]; omega)
  exact Va_at hx hk.1 (by simp only [List.length_cons, List.length_nil]; omega) key.1 key.2
end Jvm.Own
namespace Jvm.Pilot.@@N@@
open Jvm Jvm.ClassFile Sem Op Lib Jvm.Free Jvm.Stand Jvm.LawKit Jvm.RoadKit Bundle Jvm.Own Jvm.Pilot.@@N@@.Jvm.D
theorem pn_0 : plainName "java/lang/Integer" = true := by first | (simp [plainName, overriddenIn]; done) | decide +kernel
theorem pn_1 : plainName "java/lang/Long" = true := by first | (simp [plainName, overriddenIn]; done) | decide +kernel
theorem pn_2 : plainName "com/example/headroom/headroom/HistogramValueAtPinLaw" = true := by first | (simp [plainName, overriddenIn]; done) | decide +kernel
theorem pn_3 : plainName "com/example/headroom/headroom/Histogram" = true := by first | (simp [plainName, overriddenIn]; done) | decide +kernel
theorem pd_0 : parseMethodDescriptor "(I)I" = some ⟨[.int], some .int⟩ := by decide +kernel
theorem pd_1 : parseMethodDescriptor "(JJ)J" = some ⟨[.long, .long], some .long⟩ := by decide +kernel
theorem pd_2 : parseMethodDescriptor "(J)I" = some ⟨[.long], some .int⟩ := by decide +kernel
theorem pd_3 : parseMethodDescriptor "(II)I" = some ⟨[.int, .int], some .int⟩ := by decide +kernel
theorem pd_4 : parseMethodDescriptor "(I)[J" = some ⟨[.int], some (.array .long)⟩ := by decide +kernel
theorem pd_5 : parseMethodDescriptor "()V" = some ⟨[], none⟩ := by decide +kernel
theorem pd_6 : parseMethodDescriptor "(J)V" = some ⟨[.long], none⟩ := by decide +kernel
theorem pd_7 : parseMethodDescriptor "(JJ)Z" = some ⟨[.long, .long], some .boolean⟩ := by decide +kernel
theorem pd_8 : parseMethodDescriptor "()J" = some ⟨[], some .long⟩ := by decide +kernel
theorem pd_9 : parseMethodDescriptor "(J)J" = some ⟨[.long], some .long⟩ := by decide +kernel
theorem rank3 (x : Int32) : (((x &&& (2147483647 : Int32)) % (3 : Int32)) + (1 : Int32)) = (1 : Int32) ∨ (((x &&& (2147483647 : Int32)) % (3 : Int32)) + (1 : Int32)) = (2 : Int32) ∨ (((x &&& (2147483647 : Int32)) % (3 : Int32)) + (1 : Int32)) = (3 : Int32) := by
  have m := c_mask x 2147483647 31 (by decide) (by decide)
  have e : ((2 ^ 31 : Nat) : Int) = 2147483648 := rfl
  rw [e] at m
  have q := (c_irem (x &&& 2147483647) 3 3 rfl).1 (by omega)
  have : ((x &&& (2147483647 : Int32)) % (3 : Int32)).toInt = 0 ∨ ((x &&& (2147483647 : Int32)) % (3 : Int32)).toInt = 1 ∨ ((x &&& (2147483647 : Int32)) % (3 : Int32)).toInt = 2 := by omega
  rcases this with h | h | h
  · left; rw [show (x &&& (2147483647 : Int32)) % (3 : Int32) = 0 from Int32.toInt_inj.mp h]; rfl
  · right; left; rw [show (x &&& (2147483647 : Int32)) % (3 : Int32) = 1 from Int32.toInt_inj.mp h]; rfl
  · right; right; rw [show (x &&& (2147483647 : Int32)) % (3 : Int32) = 2 from Int32.toInt_inj.mp h]; rfl
theorem d5_0 : decode jdk_33_method_47_code 0 = .ok (.iload_n 0, 1) := by decide +kernel
theorem d5_1 : decode jdk_33_method_47_code 1 = .ok (.ifCond .gt 14, 3) := by decide +kernel
theorem d5_4 : decode jdk_33_method_47_code 4 = .ok (.iload_n 0, 1) := by decide +kernel
theorem d5_5 : decode jdk_33_method_47_code 5 = .ok (.ifCond .ne 8, 3) := by decide +kernel
theorem d5_8 : decode jdk_33_method_47_code 8 = .ok (.bipush 32, 2) := by decide +kernel
theorem d5_10 : decode jdk_33_method_47_code 10 = .ok (.goto 4, 3) := by decide +kernel
theorem d5_13 : decode jdk_33_method_47_code 13 = .ok (.iconst 0, 1) := by decide +kernel
theorem d5_14 : decode jdk_33_method_47_code 14 = .ok (.ireturn, 1) := by decide +kernel
theorem d5_15 : decode jdk_33_method_47_code 15 = .ok (.bipush 31, 2) := by decide +kernel
theorem d5_17 : decode jdk_33_method_47_code 17 = .ok (.istore_n 1, 1) := by decide +kernel
theorem d5_18 : decode jdk_33_method_47_code 18 = .ok (.iload_n 0, 1) := by decide +kernel
theorem d5_19 : decode jdk_33_method_47_code 19 = .ok (.ldc_w 264, 3) := by decide +kernel
theorem d5_22 : decode jdk_33_method_47_code 22 = .ok (.if_icmp .lt 11, 3) := by decide +kernel
theorem d5_25 : decode jdk_33_method_47_code 25 = .ok (.iinc 1 (-16), 3) := by decide +kernel
theorem d5_28 : decode jdk_33_method_47_code 28 = .ok (.iload_n 0, 1) := by decide +kernel
theorem d5_29 : decode jdk_33_method_47_code 29 = .ok (.bipush 16, 2) := by decide +kernel
theorem d5_31 : decode jdk_33_method_47_code 31 = .ok (.iushr, 1) := by decide +kernel
theorem d5_32 : decode jdk_33_method_47_code 32 = .ok (.istore_n 0, 1) := by decide +kernel
theorem d5_33 : decode jdk_33_method_47_code 33 = .ok (.iload_n 0, 1) := by decide +kernel
theorem d5_34 : decode jdk_33_method_47_code 34 = .ok (.sipush 256, 3) := by decide +kernel
theorem d5_37 : decode jdk_33_method_47_code 37 = .ok (.if_icmp .lt 11, 3) := by decide +kernel
theorem d5_40 : decode jdk_33_method_47_code 40 = .ok (.iinc 1 (-8), 3) := by decide +kernel
theorem d5_43 : decode jdk_33_method_47_code 43 = .ok (.iload_n 0, 1) := by decide +kernel
theorem d5_44 : decode jdk_33_method_47_code 44 = .ok (.bipush 8, 2) := by decide +kernel
theorem d5_46 : decode jdk_33_method_47_code 46 = .ok (.iushr, 1) := by decide +kernel
theorem d5_47 : decode jdk_33_method_47_code 47 = .ok (.istore_n 0, 1) := by decide +kernel
theorem d5_48 : decode jdk_33_method_47_code 48 = .ok (.iload_n 0, 1) := by decide +kernel
theorem d5_49 : decode jdk_33_method_47_code 49 = .ok (.bipush 16, 2) := by decide +kernel
theorem d5_51 : decode jdk_33_method_47_code 51 = .ok (.if_icmp .lt 10, 3) := by decide +kernel
theorem d5_54 : decode jdk_33_method_47_code 54 = .ok (.iinc 1 (-4), 3) := by decide +kernel
theorem d5_57 : decode jdk_33_method_47_code 57 = .ok (.iload_n 0, 1) := by decide +kernel
theorem d5_58 : decode jdk_33_method_47_code 58 = .ok (.iconst 4, 1) := by decide +kernel
theorem d5_59 : decode jdk_33_method_47_code 59 = .ok (.iushr, 1) := by decide +kernel
theorem d5_60 : decode jdk_33_method_47_code 60 = .ok (.istore_n 0, 1) := by decide +kernel
theorem d5_61 : decode jdk_33_method_47_code 61 = .ok (.iload_n 0, 1) := by decide +kernel
theorem d5_62 : decode jdk_33_method_47_code 62 = .ok (.iconst 4, 1) := by decide +kernel
theorem d5_63 : decode jdk_33_method_47_code 63 = .ok (.if_icmp .lt 10, 3) := by decide +kernel
theorem d5_66 : decode jdk_33_method_47_code 66 = .ok (.iinc 1 (-2), 3) := by decide +kernel
theorem d5_69 : decode jdk_33_method_47_code 69 = .ok (.iload_n 0, 1) := by decide +kernel
theorem d5_70 : decode jdk_33_method_47_code 70 = .ok (.iconst 2, 1) := by decide +kernel
theorem d5_71 : decode jdk_33_method_47_code 71 = .ok (.iushr, 1) := by decide +kernel
theorem d5_72 : decode jdk_33_method_47_code 72 = .ok (.istore_n 0, 1) := by decide +kernel
theorem d5_73 : decode jdk_33_method_47_code 73 = .ok (.iload_n 1, 1) := by decide +kernel
theorem d5_74 : decode jdk_33_method_47_code 74 = .ok (.iload_n 0, 1) := by decide +kernel
theorem d5_75 : decode jdk_33_method_47_code 75 = .ok (.iconst 1, 1) := by decide +kernel
theorem d5_76 : decode jdk_33_method_47_code 76 = .ok (.iushr, 1) := by decide +kernel
theorem d5_77 : decode jdk_33_method_47_code 77 = .ok (.isub, 1) := by decide +kernel
theorem d5_78 : decode jdk_33_method_47_code 78 = .ok (.ireturn, 1) := by decide +kernel
set_option maxRecDepth 65536 in
set_option maxHeartbeats 40000000 in
theorem own_nlz32 (l : Launch) (Z : State) (a0 : Array Value) (hw : ∀ d ∈ tables_1, d.before a0 Z = true) (n0 : Nat) (h0 : Heap) (x : Nat) (hx0 : 0 < x) (hx1 : x < 2147483648) :
    Met false l Z n0 (⟨"java/lang/Integer", "numberOfLeadingZeros", "(I)I"⟩ : MethodName) jdk_33_method_47_code 2 (some .int) ({ frames := 0, cells := 0, slots := 0, locals := 0 } : Room) #[(.int (Int32.ofNat x))] h0 (fun v h => v = some (.int (Int32.ofNat (31 - x.log2))) ∧ h0 = h) := by
  refine Met.of (plainFor_of_name pn_0) #[.val (.int (Int32.ofNat x)), .unset] (fun m => by first | (simp [entryFrame, mkF, argsToLocals, Value.category]; done) | rfl) ?_
  intro p e s m below meth c C
  have k73 : ∀ i n : Nat, 0 < i → i < 4 → i.log2 ≤ n → n < 2147483648 → n - i.log2 = 31 - x.log2 → Wk false p l e ({ frames := 0, cells := 0, slots := 0, locals := 0 } : Room) s m #[(.int (Int32.ofNat x))] below meth c n0 (fun v h => v = some (.int (Int32.ofNat (31 - x.log2))) ∧ h0 = h) h0 0 0 (mkF m 73 #[.val (.int (Int32.ofNat i)), .val (.int (Int32.ofNat n))] []) := by
    intro i n hp h1 hn hn2 hr
    refine Wk.st (g' := (mkF m 74 #[.val (.int (Int32.ofNat i)), .val (.int (Int32.ofNat n))] [(.int (Int32.ofNat n))])) (fun X t q => XS.iloadN X.here C.hx rfl (hb C.hby d5_73) rfl q) ?_
    refine Wk.st (g' := (mkF m 75 #[.val (.int (Int32.ofNat i)), .val (.int (Int32.ofNat n))] [(.int (Int32.ofNat i)), (.int (Int32.ofNat n))])) (fun X t q => XS.iloadN X.here C.hx rfl (hb C.hby d5_74) rfl q) ?_
    refine Wk.st (g' := (mkF m 76 #[.val (.int (Int32.ofNat i)), .val (.int (Int32.ofNat n))] [(.int (1 : Int32)), (.int (Int32.ofNat i)), (.int (Int32.ofNat n))])) (fun X t q => XS.iconst X.here C.hx rfl (hb C.hby d5_75) q) ?_
    refine Wk.st (g' := (mkF m 77 #[.val (.int (Int32.ofNat i)), .val (.int (Int32.ofNat n))] [(.int (((Int32.ofNat i).toUInt32 >>> ((1 : Int32) &&& 31).toUInt32).toInt32)), (.int (Int32.ofNat n))])) (fun X t q => XS.iushr X.here C.hx rfl (hb C.hby d5_76) rfl q) ?_
    refine Wk.st (g' := (mkF m 78 #[.val (.int (Int32.ofNat i)), .val (.int (Int32.ofNat n))] [(.int ((Int32.ofNat n) - (((Int32.ofNat i).toUInt32 >>> ((1 : Int32) &&& 31).toUInt32).toInt32)))])) (fun X t q => XS.isub X.here C.hx rfl (hb C.hby d5_77) rfl q) ?_
    exact Wk.retV C (t := .int) rfl rfl (Or.inl ⟨rfl, by simp, _, rfl⟩) d5_78 (by decide) (by decide) ⟨congrArg (fun z => some (Value.int z)) ((nz_end hp h1 hn hn2).trans (congrArg Int32.ofNat hr)), rfl⟩
  have k61 : ∀ i n : Nat, 0 < i → i < 16 → i.log2 ≤ n → n < 2147483648 → n - i.log2 = 31 - x.log2 → Wk false p l e ({ frames := 0, cells := 0, slots := 0, locals := 0 } : Room) s m #[(.int (Int32.ofNat x))] below meth c n0 (fun v h => v = some (.int (Int32.ofNat (31 - x.log2))) ∧ h0 = h) h0 0 0 (mkF m 61 #[.val (.int (Int32.ofNat i)), .val (.int (Int32.ofNat n))] []) := by
    intro i n hp h1 hn hn2 hr
    refine Wk.st (g' := (mkF m 62 #[.val (.int (Int32.ofNat i)), .val (.int (Int32.ofNat n))] [(.int (Int32.ofNat i))])) (fun X t q => XS.iloadN X.here C.hx rfl (hb C.hby d5_61) rfl q) ?_
    refine Wk.st (g' := (mkF m 63 #[.val (.int (Int32.ofNat i)), .val (.int (Int32.ofNat n))] [(.int (4 : Int32)), (.int (Int32.ofNat i))])) (fun X t q => XS.iconst X.here C.hx rfl (hb C.hby d5_62) q) ?_
    by_cases hb1 : (Int32.ofNat i) < (4 : Int32)
    · skip
      refine Wk.st (g' := (mkF m 73 #[.val (.int (Int32.ofNat i)), .val (.int (Int32.ofNat n))] [])) (fun X t q => XS.icmpYes X.here C.hx rfl (pc0 := 63) (pc' := 73) rfl (hb C.hby d5_63) rfl (XT.ii_lt_t hb1) (by decide) (by decide) q) ?_
      exact k73 i n hp (ls32 (j := 4) (by omega) (by omega) hb1) hn hn2 hr
    · skip
      refine Wk.st (g' := (mkF m 66 #[.val (.int (Int32.ofNat i)), .val (.int (Int32.ofNat n))] [])) (fun X t q => XS.icmpNo X.here C.hx rfl (hb C.hby d5_63) rfl (XT.ii_lt_f hb1) q) ?_
      refine Wk.st (g' := (mkF m 69 #[.val (.int (Int32.ofNat i)), .val (.int ((Int32.ofNat n) + (-2 : Int32)))] [])) (fun X t q => XS.iinc X.here C.hx rfl (hb C.hby d5_66) rfl (l' := #[.val (.int (Int32.ofNat i)), .val (.int ((Int32.ofNat n) + (-2 : Int32)))]) rfl q) ?_
      refine Wk.st (g' := (mkF m 70 #[.val (.int (Int32.ofNat i)), .val (.int ((Int32.ofNat n) + (-2 : Int32)))] [(.int (Int32.ofNat i))])) (fun X t q => XS.iloadN X.here C.hx rfl (hb C.hby d5_69) rfl q) ?_
      refine Wk.st (g' := (mkF m 71 #[.val (.int (Int32.ofNat i)), .val (.int ((Int32.ofNat n) + (-2 : Int32)))] [(.int (2 : Int32)), (.int (Int32.ofNat i))])) (fun X t q => XS.iconst X.here C.hx rfl (hb C.hby d5_70) q) ?_
      refine Wk.st (g' := (mkF m 72 #[.val (.int (Int32.ofNat i)), .val (.int ((Int32.ofNat n) + (-2 : Int32)))] [(.int (((Int32.ofNat i).toUInt32 >>> ((2 : Int32) &&& 31).toUInt32).toInt32))])) (fun X t q => XS.iushr X.here C.hx rfl (hb C.hby d5_71) rfl q) ?_
      refine Wk.st (g' := (mkF m 73 #[.val (.int (((Int32.ofNat i).toUInt32 >>> ((2 : Int32) &&& 31).toUInt32).toInt32)), .val (.int ((Int32.ofNat n) + (-2 : Int32)))] [])) (fun X t q => XS.istoreN X.here C.hx rfl (hb C.hby d5_72) rfl (l' := #[.val (.int (((Int32.ofNat i).toUInt32 >>> ((2 : Int32) &&& 31).toUInt32).toInt32)), .val (.int ((Int32.ofNat n) + (-2 : Int32)))]) rfl q) ?_
      have hg := ge32 (j := 4) (by omega) (by omega) hb1
      have e1 := log_div (i := i) (k := 2) (by omega)
      rw [show (((Int32.ofNat i).toUInt32 >>> ((2 : Int32) &&& 31).toUInt32).toInt32) = (Int32.ofNat (i / 2 ^ 2)) from shr32 (by omega) 2 2 (by decide) (by decide)]
      show Wk _ p l e _ s m _ below meth c n0 _ h0 0 0 (mkF m 73 #[.val (.int (Int32.ofNat (i / 2 ^ 2))), .val (.int ((Int32.ofNat n) + (-2 : Int32)))] [])
      rw [show ((Int32.ofNat n) + (-2 : Int32)) = (Int32.ofNat (n - 2)) from dec32 (j := 2) rfl (by omega) hn2]
      show Wk _ p l e _ s m _ below meth c n0 _ h0 0 0 (mkF m 73 #[.val (.int (Int32.ofNat (i / 2 ^ 2))), .val (.int (Int32.ofNat (n - 2)))] [])
      exact k73 (i / 2 ^ 2) (n - 2) (by omega) (by omega) (by omega) (by omega) (by omega)
  have k48 : ∀ i n : Nat, 0 < i → i < 256 → i.log2 ≤ n → n < 2147483648 → n - i.log2 = 31 - x.log2 → Wk false p l e ({ frames := 0, cells := 0, slots := 0, locals := 0 } : Room) s m #[(.int (Int32.ofNat x))] below meth c n0 (fun v h => v = some (.int (Int32.ofNat (31 - x.log2))) ∧ h0 = h) h0 0 0 (mkF m 48 #[.val (.int (Int32.ofNat i)), .val (.int (Int32.ofNat n))] []) := by
    intro i n hp h1 hn hn2 hr
    refine Wk.st (g' := (mkF m 49 #[.val (.int (Int32.ofNat i)), .val (.int (Int32.ofNat n))] [(.int (Int32.ofNat i))])) (fun X t q => XS.iloadN X.here C.hx rfl (hb C.hby d5_48) rfl q) ?_
    refine Wk.st (g' := (mkF m 51 #[.val (.int (Int32.ofNat i)), .val (.int (Int32.ofNat n))] [(.int (16 : Int32)), (.int (Int32.ofNat i))])) (fun X t q => XS.bipush X.here C.hx rfl (hb C.hby d5_49) q) ?_
    by_cases hb2 : (Int32.ofNat i) < (16 : Int32)
    · skip
      refine Wk.st (g' := (mkF m 61 #[.val (.int (Int32.ofNat i)), .val (.int (Int32.ofNat n))] [])) (fun X t q => XS.icmpYes X.here C.hx rfl (pc0 := 51) (pc' := 61) rfl (hb C.hby d5_51) rfl (XT.ii_lt_t hb2) (by decide) (by decide) q) ?_
      exact k61 i n hp (ls32 (j := 16) (by omega) (by omega) hb2) hn hn2 hr
    · skip
      refine Wk.st (g' := (mkF m 54 #[.val (.int (Int32.ofNat i)), .val (.int (Int32.ofNat n))] [])) (fun X t q => XS.icmpNo X.here C.hx rfl (hb C.hby d5_51) rfl (XT.ii_lt_f hb2) q) ?_
      refine Wk.st (g' := (mkF m 57 #[.val (.int (Int32.ofNat i)), .val (.int ((Int32.ofNat n) + (-4 : Int32)))] [])) (fun X t q => XS.iinc X.here C.hx rfl (hb C.hby d5_54) rfl (l' := #[.val (.int (Int32.ofNat i)), .val (.int ((Int32.ofNat n) + (-4 : Int32)))]) rfl q) ?_
      refine Wk.st (g' := (mkF m 58 #[.val (.int (Int32.ofNat i)), .val (.int ((Int32.ofNat n) + (-4 : Int32)))] [(.int (Int32.ofNat i))])) (fun X t q => XS.iloadN X.here C.hx rfl (hb C.hby d5_57) rfl q) ?_
      refine Wk.st (g' := (mkF m 59 #[.val (.int (Int32.ofNat i)), .val (.int ((Int32.ofNat n) + (-4 : Int32)))] [(.int (4 : Int32)), (.int (Int32.ofNat i))])) (fun X t q => XS.iconst X.here C.hx rfl (hb C.hby d5_58) q) ?_
      refine Wk.st (g' := (mkF m 60 #[.val (.int (Int32.ofNat i)), .val (.int ((Int32.ofNat n) + (-4 : Int32)))] [(.int (((Int32.ofNat i).toUInt32 >>> ((4 : Int32) &&& 31).toUInt32).toInt32))])) (fun X t q => XS.iushr X.here C.hx rfl (hb C.hby d5_59) rfl q) ?_
      refine Wk.st (g' := (mkF m 61 #[.val (.int (((Int32.ofNat i).toUInt32 >>> ((4 : Int32) &&& 31).toUInt32).toInt32)), .val (.int ((Int32.ofNat n) + (-4 : Int32)))] [])) (fun X t q => XS.istoreN X.here C.hx rfl (hb C.hby d5_60) rfl (l' := #[.val (.int (((Int32.ofNat i).toUInt32 >>> ((4 : Int32) &&& 31).toUInt32).toInt32)), .val (.int ((Int32.ofNat n) + (-4 : Int32)))]) rfl q) ?_
      have hg := ge32 (j := 16) (by omega) (by omega) hb2
      have e1 := log_div (i := i) (k := 4) (by omega)
      rw [show (((Int32.ofNat i).toUInt32 >>> ((4 : Int32) &&& 31).toUInt32).toInt32) = (Int32.ofNat (i / 2 ^ 4)) from shr32 (by omega) 4 4 (by decide) (by decide)]
      show Wk _ p l e _ s m _ below meth c n0 _ h0 0 0 (mkF m 61 #[.val (.int (Int32.ofNat (i / 2 ^ 4))), .val (.int ((Int32.ofNat n) + (-4 : Int32)))] [])
      rw [show ((Int32.ofNat n) + (-4 : Int32)) = (Int32.ofNat (n - 4)) from dec32 (j := 4) rfl (by omega) hn2]
      show Wk _ p l e _ s m _ below meth c n0 _ h0 0 0 (mkF m 61 #[.val (.int (Int32.ofNat (i / 2 ^ 4))), .val (.int (Int32.ofNat (n - 4)))] [])
      exact k61 (i / 2 ^ 4) (n - 4) (by omega) (by omega) (by omega) (by omega) (by omega)
  have k33 : ∀ i n : Nat, 0 < i → i < 65536 → i.log2 ≤ n → n < 2147483648 → n - i.log2 = 31 - x.log2 → Wk false p l e ({ frames := 0, cells := 0, slots := 0, locals := 0 } : Room) s m #[(.int (Int32.ofNat x))] below meth c n0 (fun v h => v = some (.int (Int32.ofNat (31 - x.log2))) ∧ h0 = h) h0 0 0 (mkF m 33 #[.val (.int (Int32.ofNat i)), .val (.int (Int32.ofNat n))] []) := by
    intro i n hp h1 hn hn2 hr
    refine Wk.st (g' := (mkF m 34 #[.val (.int (Int32.ofNat i)), .val (.int (Int32.ofNat n))] [(.int (Int32.ofNat i))])) (fun X t q => XS.iloadN X.here C.hx rfl (hb C.hby d5_33) rfl q) ?_
    refine Wk.st (g' := (mkF m 37 #[.val (.int (Int32.ofNat i)), .val (.int (Int32.ofNat n))] [(.int (256 : Int32)), (.int (Int32.ofNat i))])) (fun X t q => XS.sipush X.here C.hx rfl (hb C.hby d5_34) q) ?_
    by_cases hb3 : (Int32.ofNat i) < (256 : Int32)
    · skip
      refine Wk.st (g' := (mkF m 48 #[.val (.int (Int32.ofNat i)), .val (.int (Int32.ofNat n))] [])) (fun X t q => XS.icmpYes X.here C.hx rfl (pc0 := 37) (pc' := 48) rfl (hb C.hby d5_37) rfl (XT.ii_lt_t hb3) (by decide) (by decide) q) ?_
      exact k48 i n hp (ls32 (j := 256) (by omega) (by omega) hb3) hn hn2 hr
    · skip
      refine Wk.st (g' := (mkF m 40 #[.val (.int (Int32.ofNat i)), .val (.int (Int32.ofNat n))] [])) (fun X t q => XS.icmpNo X.here C.hx rfl (hb C.hby d5_37) rfl (XT.ii_lt_f hb3) q) ?_
      refine Wk.st (g' := (mkF m 43 #[.val (.int (Int32.ofNat i)), .val (.int ((Int32.ofNat n) + (-8 : Int32)))] [])) (fun X t q => XS.iinc X.here C.hx rfl (hb C.hby d5_40) rfl (l' := #[.val (.int (Int32.ofNat i)), .val (.int ((Int32.ofNat n) + (-8 : Int32)))]) rfl q) ?_
      refine Wk.st (g' := (mkF m 44 #[.val (.int (Int32.ofNat i)), .val (.int ((Int32.ofNat n) + (-8 : Int32)))] [(.int (Int32.ofNat i))])) (fun X t q => XS.iloadN X.here C.hx rfl (hb C.hby d5_43) rfl q) ?_
      refine Wk.st (g' := (mkF m 46 #[.val (.int (Int32.ofNat i)), .val (.int ((Int32.ofNat n) + (-8 : Int32)))] [(.int (8 : Int32)), (.int (Int32.ofNat i))])) (fun X t q => XS.bipush X.here C.hx rfl (hb C.hby d5_44) q) ?_
      refine Wk.st (g' := (mkF m 47 #[.val (.int (Int32.ofNat i)), .val (.int ((Int32.ofNat n) + (-8 : Int32)))] [(.int (((Int32.ofNat i).toUInt32 >>> ((8 : Int32) &&& 31).toUInt32).toInt32))])) (fun X t q => XS.iushr X.here C.hx rfl (hb C.hby d5_46) rfl q) ?_
      refine Wk.st (g' := (mkF m 48 #[.val (.int (((Int32.ofNat i).toUInt32 >>> ((8 : Int32) &&& 31).toUInt32).toInt32)), .val (.int ((Int32.ofNat n) + (-8 : Int32)))] [])) (fun X t q => XS.istoreN X.here C.hx rfl (hb C.hby d5_47) rfl (l' := #[.val (.int (((Int32.ofNat i).toUInt32 >>> ((8 : Int32) &&& 31).toUInt32).toInt32)), .val (.int ((Int32.ofNat n) + (-8 : Int32)))]) rfl q) ?_
      have hg := ge32 (j := 256) (by omega) (by omega) hb3
      have e1 := log_div (i := i) (k := 8) (by omega)
      rw [show (((Int32.ofNat i).toUInt32 >>> ((8 : Int32) &&& 31).toUInt32).toInt32) = (Int32.ofNat (i / 2 ^ 8)) from shr32 (by omega) 8 8 (by decide) (by decide)]
      show Wk _ p l e _ s m _ below meth c n0 _ h0 0 0 (mkF m 48 #[.val (.int (Int32.ofNat (i / 2 ^ 8))), .val (.int ((Int32.ofNat n) + (-8 : Int32)))] [])
      rw [show ((Int32.ofNat n) + (-8 : Int32)) = (Int32.ofNat (n - 8)) from dec32 (j := 8) rfl (by omega) hn2]
      show Wk _ p l e _ s m _ below meth c n0 _ h0 0 0 (mkF m 48 #[.val (.int (Int32.ofNat (i / 2 ^ 8))), .val (.int (Int32.ofNat (n - 8)))] [])
      exact k48 (i / 2 ^ 8) (n - 8) (by omega) (by omega) (by omega) (by omega) (by omega)
  have k18 : ∀ i n : Nat, 0 < i → i < 2147483648 → i.log2 ≤ n → n < 2147483648 → n - i.log2 = 31 - x.log2 → Wk false p l e ({ frames := 0, cells := 0, slots := 0, locals := 0 } : Room) s m #[(.int (Int32.ofNat x))] below meth c n0 (fun v h => v = some (.int (Int32.ofNat (31 - x.log2))) ∧ h0 = h) h0 0 0 (mkF m 18 #[.val (.int (Int32.ofNat i)), .val (.int (Int32.ofNat n))] []) := by
    intro i n hp h1 hn hn2 hr
    refine Wk.st (g' := (mkF m 19 #[.val (.int (Int32.ofNat i)), .val (.int (Int32.ofNat n))] [(.int (Int32.ofNat i))])) (fun X t q => XS.iloadN X.here C.hx rfl (hb C.hby d5_18) rfl q) ?_
    refine Wk.ldcWI C (hw _ (List.mem_of_getElem? (i := 31) rfl)) d5_19 ?_
    show Wk _ p l e _ s m _ below meth c n0 _ h0 0 0 (mkF m 22 #[.val (.int (Int32.ofNat i)), .val (.int (Int32.ofNat n))] [(.int (65536 : Int32)), (.int (Int32.ofNat i))])
    by_cases hb4 : (Int32.ofNat i) < (65536 : Int32)
    · skip
      refine Wk.st (g' := (mkF m 33 #[.val (.int (Int32.ofNat i)), .val (.int (Int32.ofNat n))] [])) (fun X t q => XS.icmpYes X.here C.hx rfl (pc0 := 22) (pc' := 33) rfl (hb C.hby d5_22) rfl (XT.ii_lt_t hb4) (by decide) (by decide) q) ?_
      exact k33 i n hp (ls32 (j := 65536) (by omega) (by omega) hb4) hn hn2 hr
    · skip
      refine Wk.st (g' := (mkF m 25 #[.val (.int (Int32.ofNat i)), .val (.int (Int32.ofNat n))] [])) (fun X t q => XS.icmpNo X.here C.hx rfl (hb C.hby d5_22) rfl (XT.ii_lt_f hb4) q) ?_
      refine Wk.st (g' := (mkF m 28 #[.val (.int (Int32.ofNat i)), .val (.int ((Int32.ofNat n) + (-16 : Int32)))] [])) (fun X t q => XS.iinc X.here C.hx rfl (hb C.hby d5_25) rfl (l' := #[.val (.int (Int32.ofNat i)), .val (.int ((Int32.ofNat n) + (-16 : Int32)))]) rfl q) ?_
      refine Wk.st (g' := (mkF m 29 #[.val (.int (Int32.ofNat i)), .val (.int ((Int32.ofNat n) + (-16 : Int32)))] [(.int (Int32.ofNat i))])) (fun X t q => XS.iloadN X.here C.hx rfl (hb C.hby d5_28) rfl q) ?_
      refine Wk.st (g' := (mkF m 31 #[.val (.int (Int32.ofNat i)), .val (.int ((Int32.ofNat n) + (-16 : Int32)))] [(.int (16 : Int32)), (.int (Int32.ofNat i))])) (fun X t q => XS.bipush X.here C.hx rfl (hb C.hby d5_29) q) ?_
      refine Wk.st (g' := (mkF m 32 #[.val (.int (Int32.ofNat i)), .val (.int ((Int32.ofNat n) + (-16 : Int32)))] [(.int (((Int32.ofNat i).toUInt32 >>> ((16 : Int32) &&& 31).toUInt32).toInt32))])) (fun X t q => XS.iushr X.here C.hx rfl (hb C.hby d5_31) rfl q) ?_
      refine Wk.st (g' := (mkF m 33 #[.val (.int (((Int32.ofNat i).toUInt32 >>> ((16 : Int32) &&& 31).toUInt32).toInt32)), .val (.int ((Int32.ofNat n) + (-16 : Int32)))] [])) (fun X t q => XS.istoreN X.here C.hx rfl (hb C.hby d5_32) rfl (l' := #[.val (.int (((Int32.ofNat i).toUInt32 >>> ((16 : Int32) &&& 31).toUInt32).toInt32)), .val (.int ((Int32.ofNat n) + (-16 : Int32)))]) rfl q) ?_
      have hg := ge32 (j := 65536) (by omega) (by omega) hb4
      have e1 := log_div (i := i) (k := 16) (by omega)
      rw [show (((Int32.ofNat i).toUInt32 >>> ((16 : Int32) &&& 31).toUInt32).toInt32) = (Int32.ofNat (i / 2 ^ 16)) from shr32 (by omega) 16 16 (by decide) (by decide)]
      show Wk _ p l e _ s m _ below meth c n0 _ h0 0 0 (mkF m 33 #[.val (.int (Int32.ofNat (i / 2 ^ 16))), .val (.int ((Int32.ofNat n) + (-16 : Int32)))] [])
      rw [show ((Int32.ofNat n) + (-16 : Int32)) = (Int32.ofNat (n - 16)) from dec32 (j := 16) rfl (by omega) hn2]
      show Wk _ p l e _ s m _ below meth c n0 _ h0 0 0 (mkF m 33 #[.val (.int (Int32.ofNat (i / 2 ^ 16))), .val (.int (Int32.ofNat (n - 16)))] [])
      exact k33 (i / 2 ^ 16) (n - 16) (by omega) (by omega) (by omega) (by omega) (by omega)
  refine Wk.st (g' := (mkF m 1 #[.val (.int (Int32.ofNat x)), .unset] [(.int (Int32.ofNat x))])) (fun X t q => XS.iloadN X.here C.hx rfl (hb C.hby d5_0) rfl q) ?_
  refine Wk.st (g' := (mkF m 15 #[.val (.int (Int32.ofNat x)), .unset] [])) (fun X t q => XS.ifYes X.here C.hx rfl (pc0 := 1) (pc' := 15) rfl (hb C.hby d5_1) rfl (XT.i0_gt_t (pos32 hx1 hx0)) (by decide) (by decide) q) ?_
  refine Wk.st (g' := (mkF m 17 #[.val (.int (Int32.ofNat x)), .unset] [(.int (31 : Int32))])) (fun X t q => XS.bipush X.here C.hx rfl (hb C.hby d5_15) q) ?_
  refine Wk.st (g' := (mkF m 18 #[.val (.int (Int32.ofNat x)), .val (.int (31 : Int32))] [])) (fun X t q => XS.istoreN X.here C.hx rfl (hb C.hby d5_17) rfl (l' := #[.val (.int (Int32.ofNat x)), .val (.int (31 : Int32))]) rfl q) ?_
  exact k18 x 31 hx0 hx1 (log_le (by omega)) (by omega) rfl
set_option maxRecDepth 65536 in
set_option maxHeartbeats 40000000 in
theorem own_nlz32z (l : Launch) (Z : State) (a0 : Array Value) (hw : ∀ d ∈ tables_1, d.before a0 Z = true) (n0 : Nat) (h0 : Heap)  :
    Met false l Z n0 (⟨"java/lang/Integer", "numberOfLeadingZeros", "(I)I"⟩ : MethodName) jdk_33_method_47_code 2 (some .int) ({ frames := 0, cells := 0, slots := 0, locals := 0 } : Room) #[(.int (0 : Int32))] h0 (fun v h => v = some (.int (32 : Int32)) ∧ h0 = h) := by
  refine Met.of (plainFor_of_name pn_0) #[.val (.int (0 : Int32)), .unset] (fun m => by first | (simp [entryFrame, mkF, argsToLocals, Value.category]; done) | rfl) ?_
  intro p e s m below meth c C
  refine Wk.st (g' := (mkF m 1 #[.val (.int (0 : Int32)), .unset] [(.int (0 : Int32))])) (fun X t q => XS.iloadN X.here C.hx rfl (hb C.hby d5_0) rfl q) ?_
  refine Wk.st (g' := (mkF m 4 #[.val (.int (0 : Int32)), .unset] [])) (fun X t q => XS.ifNo X.here C.hx rfl (hb C.hby d5_1) rfl (XT.i0_gt_f (by decide)) q) ?_
  refine Wk.st (g' := (mkF m 5 #[.val (.int (0 : Int32)), .unset] [(.int (0 : Int32))])) (fun X t q => XS.iloadN X.here C.hx rfl (hb C.hby d5_4) rfl q) ?_
  refine Wk.st (g' := (mkF m 8 #[.val (.int (0 : Int32)), .unset] [])) (fun X t q => XS.ifNo X.here C.hx rfl (hb C.hby d5_5) rfl (XT.i0_ne_f (by decide)) q) ?_
  refine Wk.st (g' := (mkF m 10 #[.val (.int (0 : Int32)), .unset] [(.int (32 : Int32))])) (fun X t q => XS.bipush X.here C.hx rfl (hb C.hby d5_8) q) ?_
  refine Wk.st (g' := (mkF m 14 #[.val (.int (0 : Int32)), .unset] [(.int (32 : Int32))])) (fun X t q => XS.goto X.here C.hx rfl (pc0 := 10) (pc' := 14) rfl (hb C.hby d5_10) (by decide) (by decide) q) ?_
  exact Wk.retV C (t := .int) rfl rfl (Or.inl ⟨rfl, by simp, _, rfl⟩) d5_14 (by decide) (by decide) ⟨rfl, rfl⟩
set_option maxRecDepth 65536 in
set_option maxHeartbeats 40000000 in
theorem own_nlz32n (l : Launch) (Z : State) (a0 : Array Value) (hw : ∀ d ∈ tables_1, d.before a0 Z = true) (n0 : Nat) (h0 : Heap) (x : Int32) (hx : x < 0) :
    Met false l Z n0 (⟨"java/lang/Integer", "numberOfLeadingZeros", "(I)I"⟩ : MethodName) jdk_33_method_47_code 2 (some .int) ({ frames := 0, cells := 0, slots := 0, locals := 0 } : Room) #[(.int x)] h0 (fun v h => v = some (.int (0 : Int32)) ∧ h0 = h) := by
  refine Met.of (plainFor_of_name pn_0) #[.val (.int x), .unset] (fun m => by first | (simp [entryFrame, mkF, argsToLocals, Value.category]; done) | rfl) ?_
  intro p e s m below meth c C
  refine Wk.st (g' := (mkF m 1 #[.val (.int x), .unset] [(.int x)])) (fun X t q => XS.iloadN X.here C.hx rfl (hb C.hby d5_0) rfl q) ?_
  refine Wk.st (g' := (mkF m 4 #[.val (.int x), .unset] [])) (fun X t q => XS.ifNo X.here C.hx rfl (hb C.hby d5_1) rfl (XT.i0_gt_f (fun q => Int32.lt_irrefl (Int32.lt_trans hx q))) q) ?_
  refine Wk.st (g' := (mkF m 5 #[.val (.int x), .unset] [(.int x)])) (fun X t q => XS.iloadN X.here C.hx rfl (hb C.hby d5_4) rfl q) ?_
  refine Wk.st (g' := (mkF m 13 #[.val (.int x), .unset] [])) (fun X t q => XS.ifYes X.here C.hx rfl (pc0 := 5) (pc' := 13) rfl (hb C.hby d5_5) rfl (XT.i0_ne_t (fun q => Int32.lt_irrefl (show (0 : Int32) < 0 from q ▸ hx))) (by decide) (by decide) q) ?_
  refine Wk.st (g' := (mkF m 14 #[.val (.int x), .unset] [(.int (0 : Int32))])) (fun X t q => XS.iconst X.here C.hx rfl (hb C.hby d5_13) q) ?_
  exact Wk.retV C (t := .int) rfl rfl (Or.inl ⟨rfl, by simp, _, rfl⟩) d5_14 (by decide) (by decide) ⟨rfl, rfl⟩
theorem d4_0 : decode jdk_35_method_48_code 0 = .ok (.lload_n 0, 1) := by decide +kernel
theorem d4_1 : decode jdk_35_method_48_code 1 = .ok (.bipush 32, 2) := by decide +kernel
theorem d4_3 : decode jdk_35_method_48_code 3 = .ok (.lushr, 1) := by decide +kernel
theorem d4_4 : decode jdk_35_method_48_code 4 = .ok (.l2i, 1) := by decide +kernel
theorem d4_5 : decode jdk_35_method_48_code 5 = .ok (.istore_n 2, 1) := by decide +kernel
theorem d4_6 : decode jdk_35_method_48_code 6 = .ok (.iload_n 2, 1) := by decide +kernel
theorem d4_7 : decode jdk_35_method_48_code 7 = .ok (.ifCond .ne 14, 3) := by decide +kernel
theorem d4_10 : decode jdk_35_method_48_code 10 = .ok (.bipush 32, 2) := by decide +kernel
theorem d4_12 : decode jdk_35_method_48_code 12 = .ok (.lload_n 0, 1) := by decide +kernel
theorem d4_13 : decode jdk_35_method_48_code 13 = .ok (.l2i, 1) := by decide +kernel
theorem d4_14 : decode jdk_35_method_48_code 14 = .ok (.invokestatic 308, 3) := by decide +kernel
theorem d4_17 : decode jdk_35_method_48_code 17 = .ok (.iadd, 1) := by decide +kernel
theorem d4_18 : decode jdk_35_method_48_code 18 = .ok (.goto 7, 3) := by decide +kernel
theorem d4_21 : decode jdk_35_method_48_code 21 = .ok (.iload_n 2, 1) := by decide +kernel
theorem d4_22 : decode jdk_35_method_48_code 22 = .ok (.invokestatic 308, 3) := by decide +kernel
theorem d4_25 : decode jdk_35_method_48_code 25 = .ok (.ireturn, 1) := by decide +kernel
set_option maxRecDepth 65536 in
set_option maxHeartbeats 40000000 in
theorem own_nlz64 (l : Launch) (Z : State) (a0 : Array Value) (hw : ∀ d ∈ tables_1, d.before a0 Z = true) (n0 : Nat) (h0 : Heap) (v : Nat) (hv : v < 9223372036854775808) :
    Met false l Z n0 (⟨"java/lang/Long", "numberOfLeadingZeros", "(J)I"⟩ : MethodName) jdk_35_method_48_code 3 (some .int) ({ frames := 1, cells := 0, slots := 0, locals := 14 } : Room) #[(.long (Int64.ofNat v))] h0 (fun r h => r = some (.int (Int32.ofNat (nl v))) ∧ h0 = h) := by
  refine Met.of (plainFor_of_name pn_1) #[.val (.long (Int64.ofNat v)), .second, .unset] (fun m => by first | (simp [entryFrame, mkF, argsToLocals, Value.category]; done) | rfl) ?_
  intro p e s m below meth c C
  refine Wk.st (g' := (mkF m 1 #[.val (.long (Int64.ofNat v)), .second, .unset] [(.long (Int64.ofNat v))])) (fun X t q => XS.lloadN X.here C.hx rfl (hb C.hby d4_0) rfl q) ?_
  refine Wk.st (g' := (mkF m 3 #[.val (.long (Int64.ofNat v)), .second, .unset] [(.int (32 : Int32)), (.long (Int64.ofNat v))])) (fun X t q => XS.bipush X.here C.hx rfl (hb C.hby d4_1) q) ?_
  refine Wk.st (g' := (mkF m 4 #[.val (.long (Int64.ofNat v)), .second, .unset] [(.long (((Int64.ofNat v).toUInt64 >>> ((32 : Int32) &&& 0x3f).toInt64.toUInt64).toInt64))])) (fun X t q => XS.lushr X.here C.hx rfl (hb C.hby d4_3) rfl q) ?_
  refine Wk.st (g' := (mkF m 5 #[.val (.long (Int64.ofNat v)), .second, .unset] [(.int ((((Int64.ofNat v).toUInt64 >>> ((32 : Int32) &&& 0x3f).toInt64.toUInt64).toInt64).toInt32))])) (fun X t q => XS.l2i X.here C.hx rfl (hb C.hby d4_4) rfl q) ?_
  refine Wk.st (g' := (mkF m 6 #[.val (.long (Int64.ofNat v)), .second, .val (.int ((((Int64.ofNat v).toUInt64 >>> ((32 : Int32) &&& 0x3f).toInt64.toUInt64).toInt64).toInt32))] [])) (fun X t q => XS.istoreN X.here C.hx rfl (hb C.hby d4_5) rfl (l' := #[.val (.long (Int64.ofNat v)), .second, .val (.int ((((Int64.ofNat v).toUInt64 >>> ((32 : Int32) &&& 0x3f).toInt64.toUInt64).toInt64).toInt32))]) rfl q) ?_
  rw [show ((((Int64.ofNat v).toUInt64 >>> ((32 : Int32) &&& 0x3f).toInt64.toUInt64).toInt64).toInt32) = (Int32.ofNat (v / 2 ^ 32)) from l2i_hi hv]
  show Wk _ p l e _ s m _ below meth c n0 _ h0 0 0 (mkF m 6 #[.val (.long (Int64.ofNat v)), .second, .val (.int (Int32.ofNat (v / 2 ^ 32)))] [])
  refine Wk.st (g' := (mkF m 7 #[.val (.long (Int64.ofNat v)), .second, .val (.int (Int32.ofNat (v / 2 ^ 32)))] [(.int (Int32.ofNat (v / 2 ^ 32)))])) (fun X t q => XS.iloadN X.here C.hx rfl (hb C.hby d4_6) rfl q) ?_
  by_cases hb1 : (Int32.ofNat (v / 2 ^ 32)) = (0 : Int32)
  · skip
    refine Wk.st (g' := (mkF m 10 #[.val (.long (Int64.ofNat v)), .second, .val (.int (Int32.ofNat (v / 2 ^ 32)))] [])) (fun X t q => XS.ifNo X.here C.hx rfl (hb C.hby d4_7) rfl (XT.i0_ne_f hb1) q) ?_
    refine Wk.st (g' := (mkF m 12 #[.val (.long (Int64.ofNat v)), .second, .val (.int (Int32.ofNat (v / 2 ^ 32)))] [(.int (32 : Int32))])) (fun X t q => XS.bipush X.here C.hx rfl (hb C.hby d4_10) q) ?_
    refine Wk.st (g' := (mkF m 13 #[.val (.long (Int64.ofNat v)), .second, .val (.int (Int32.ofNat (v / 2 ^ 32)))] [(.long (Int64.ofNat v)), (.int (32 : Int32))])) (fun X t q => XS.lloadN X.here C.hx rfl (hb C.hby d4_12) rfl q) ?_
    refine Wk.st (g' := (mkF m 14 #[.val (.long (Int64.ofNat v)), .second, .val (.int (Int32.ofNat (v / 2 ^ 32)))] [(.int ((Int64.ofNat v).toInt32)), (.int (32 : Int32))])) (fun X t q => XS.l2i X.here C.hx rfl (hb C.hby d4_13) rfl q) ?_
    have hz := is0 (by omega) hb1
    by_cases hv2 : v < 2147483648
    · skip
      by_cases hq : 0 < v
      · skip
        rw [show ((Int64.ofNat v).toInt32) = (Int32.ofNat v) from l2i_sm hv2]
        show Wk _ p l e _ s m _ below meth c n0 _ h0 0 0 (mkF m 14 #[.val (.long (Int64.ofNat v)), .second, .val (.int (Int32.ofNat (v / 2 ^ 32)))] [(.int (Int32.ofNat v)), (.int (32 : Int32))])
        refine Wk.callS C (z := (⟨"java/lang/Integer", "numberOfLeadingZeros", "(I)I"⟩ : MethodName)) (hw _ (List.mem_of_getElem? (i := 27) rfl)) (hw _ (List.mem_of_getElem? (i := 28) rfl)) (hw _ (List.mem_of_getElem? (i := 29) rfl)) (hw _ (List.mem_of_getElem? (i := 30) rfl)) (by decide) (own_nlz32 l Z a0 hw n0 h0 v hq hv2) (w := 1) (by decide) (by decide) pd_0 rfl (rest := [(.int (32 : Int32))]) rfl rfl (Nat.le_of_eq rfl) (by decide) (by decide) d4_14 ?_
        rintro _ _ ⟨rfl, rfl⟩
        show Wk _ p l e _ s m _ below meth c n0 _ h0 0 0 (mkF m 17 #[.val (.long (Int64.ofNat v)), .second, .val (.int (Int32.ofNat (v / 2 ^ 32)))] [(.int (Int32.ofNat (31 - v.log2))), (.int (32 : Int32))])
        refine Wk.st (g' := (mkF m 18 #[.val (.long (Int64.ofNat v)), .second, .val (.int (Int32.ofNat (v / 2 ^ 32)))] [(.int ((32 : Int32) + (Int32.ofNat (31 - v.log2))))])) (fun X t q => XS.iadd X.here C.hx rfl (hb C.hby d4_17) rfl q) ?_
        refine Wk.st (g' := (mkF m 25 #[.val (.long (Int64.ofNat v)), .second, .val (.int (Int32.ofNat (v / 2 ^ 32)))] [(.int ((32 : Int32) + (Int32.ofNat (31 - v.log2))))])) (fun X t q => XS.goto X.here C.hx rfl (pc0 := 18) (pc' := 25) rfl (hb C.hby d4_18) (by decide) (by decide) q) ?_
        exact Wk.retV C (t := .int) rfl rfl (Or.inl ⟨rfl, by simp, _, rfl⟩) d4_25 (by decide) (by decide) ⟨congrArg (fun z => some (Value.int z)) (nl_lo hv2 hq), rfl⟩
      · skip
        obtain rfl : v = 0 := by omega
        rw [show ((Int64.ofNat 0).toInt32) = (0 : Int32) from l2i_sm (by omega)]
        show Wk _ p l e _ s m _ below meth c n0 _ h0 0 0 (mkF m 14 #[.val (.long (Int64.ofNat 0)), .second, .val (.int (Int32.ofNat (0 / 2 ^ 32)))] [(.int (0 : Int32)), (.int (32 : Int32))])
        refine Wk.callS C (z := (⟨"java/lang/Integer", "numberOfLeadingZeros", "(I)I"⟩ : MethodName)) (hw _ (List.mem_of_getElem? (i := 27) rfl)) (hw _ (List.mem_of_getElem? (i := 28) rfl)) (hw _ (List.mem_of_getElem? (i := 29) rfl)) (hw _ (List.mem_of_getElem? (i := 30) rfl)) (by decide) (own_nlz32z l Z a0 hw n0 h0) (w := 1) (by decide) (by decide) pd_0 rfl (rest := [(.int (32 : Int32))]) rfl rfl (Nat.le_of_eq rfl) (by decide) (by decide) d4_14 ?_
        rintro _ _ ⟨rfl, rfl⟩
        show Wk _ p l e _ s m _ below meth c n0 _ h0 0 0 (mkF m 17 #[.val (.long (Int64.ofNat 0)), .second, .val (.int (Int32.ofNat (0 / 2 ^ 32)))] [(.int (32 : Int32)), (.int (32 : Int32))])
        refine Wk.st (g' := (mkF m 18 #[.val (.long (Int64.ofNat 0)), .second, .val (.int (Int32.ofNat (0 / 2 ^ 32)))] [(.int (64 : Int32))])) (fun X t q => XS.iadd X.here C.hx rfl (hb C.hby d4_17) rfl q) ?_
        refine Wk.st (g' := (mkF m 25 #[.val (.long (Int64.ofNat 0)), .second, .val (.int (Int32.ofNat (0 / 2 ^ 32)))] [(.int (64 : Int32))])) (fun X t q => XS.goto X.here C.hx rfl (pc0 := 18) (pc' := 25) rfl (hb C.hby d4_18) (by decide) (by decide) q) ?_
        exact Wk.retV C (t := .int) rfl rfl (Or.inl ⟨rfl, by simp, _, rfl⟩) d4_25 (by decide) (by decide) ⟨congrArg (fun z => some (Value.int z)) (rfl), rfl⟩
    · skip
      refine Wk.callS C (z := (⟨"java/lang/Integer", "numberOfLeadingZeros", "(I)I"⟩ : MethodName)) (hw _ (List.mem_of_getElem? (i := 27) rfl)) (hw _ (List.mem_of_getElem? (i := 28) rfl)) (hw _ (List.mem_of_getElem? (i := 29) rfl)) (hw _ (List.mem_of_getElem? (i := 30) rfl)) (by decide) (own_nlz32n l Z a0 hw n0 h0 _ (l2i_ng (by omega) hv2)) (w := 1) (by decide) (by decide) pd_0 rfl (rest := [(.int (32 : Int32))]) rfl rfl (Nat.le_of_eq rfl) (by decide) (by decide) d4_14 ?_
      rintro _ _ ⟨rfl, rfl⟩
      show Wk _ p l e _ s m _ below meth c n0 _ h0 0 0 (mkF m 17 #[.val (.long (Int64.ofNat v)), .second, .val (.int (Int32.ofNat (v / 2 ^ 32)))] [(.int (0 : Int32)), (.int (32 : Int32))])
      refine Wk.st (g' := (mkF m 18 #[.val (.long (Int64.ofNat v)), .second, .val (.int (Int32.ofNat (v / 2 ^ 32)))] [(.int (32 : Int32))])) (fun X t q => XS.iadd X.here C.hx rfl (hb C.hby d4_17) rfl q) ?_
      refine Wk.st (g' := (mkF m 25 #[.val (.long (Int64.ofNat v)), .second, .val (.int (Int32.ofNat (v / 2 ^ 32)))] [(.int (32 : Int32))])) (fun X t q => XS.goto X.here C.hx rfl (pc0 := 18) (pc' := 25) rfl (hb C.hby d4_18) (by decide) (by decide) q) ?_
      exact Wk.retV C (t := .int) rfl rfl (Or.inl ⟨rfl, by simp, _, rfl⟩) d4_25 (by decide) (by decide) ⟨congrArg (fun z => some (Value.int z)) (nl_mid (by omega) hv2), rfl⟩
  · skip
    refine Wk.st (g' := (mkF m 21 #[.val (.long (Int64.ofNat v)), .second, .val (.int (Int32.ofNat (v / 2 ^ 32)))] [])) (fun X t q => XS.ifYes X.here C.hx rfl (pc0 := 7) (pc' := 21) rfl (hb C.hby d4_7) rfl (XT.i0_ne_t hb1) (by decide) (by decide) q) ?_
    have hq := not0 hb1
    refine Wk.st (g' := (mkF m 22 #[.val (.long (Int64.ofNat v)), .second, .val (.int (Int32.ofNat (v / 2 ^ 32)))] [(.int (Int32.ofNat (v / 2 ^ 32)))])) (fun X t q => XS.iloadN X.here C.hx rfl (hb C.hby d4_21) rfl q) ?_
    refine Wk.callS C (z := (⟨"java/lang/Integer", "numberOfLeadingZeros", "(I)I"⟩ : MethodName)) (hw _ (List.mem_of_getElem? (i := 27) rfl)) (hw _ (List.mem_of_getElem? (i := 28) rfl)) (hw _ (List.mem_of_getElem? (i := 29) rfl)) (hw _ (List.mem_of_getElem? (i := 30) rfl)) (by decide) (own_nlz32 l Z a0 hw n0 h0 (v / 2 ^ 32) hq (by omega)) (w := 0) (by decide) (by decide) pd_0 rfl (rest := []) rfl rfl (Nat.le_of_eq rfl) (by decide) (by decide) d4_22 ?_
    rintro _ _ ⟨rfl, rfl⟩
    show Wk _ p l e _ s m _ below meth c n0 _ h0 0 0 (mkF m 25 #[.val (.long (Int64.ofNat v)), .second, .val (.int (Int32.ofNat (v / 2 ^ 32)))] [(.int (Int32.ofNat (31 - (v / 2 ^ 32).log2)))])
    exact Wk.retV C (t := .int) rfl rfl (Or.inl ⟨rfl, by simp, _, rfl⟩) d4_25 (by decide) (by decide) ⟨congrArg (fun z => some (Value.int z)) (nl_hi hv hq), rfl⟩
theorem d6_0 : decode jdk_29_method_65_code 0 = .ok (.iload_n 0, 1) := by decide +kernel
theorem d6_1 : decode jdk_29_method_65_code 1 = .ok (.iload_n 1, 1) := by decide +kernel
theorem d6_2 : decode jdk_29_method_65_code 2 = .ok (.if_icmp .lt 7, 3) := by decide +kernel
theorem d6_5 : decode jdk_29_method_65_code 5 = .ok (.iload_n 0, 1) := by decide +kernel
theorem d6_6 : decode jdk_29_method_65_code 6 = .ok (.goto 4, 3) := by decide +kernel
theorem d6_9 : decode jdk_29_method_65_code 9 = .ok (.iload_n 1, 1) := by decide +kernel
theorem d6_10 : decode jdk_29_method_65_code 10 = .ok (.ireturn, 1) := by decide +kernel
set_option maxRecDepth 65536 in
set_option maxHeartbeats 40000000 in
theorem own_maxI (l : Launch) (Z : State) (a0 : Array Value) (hw : ∀ d ∈ tables_1, d.before a0 Z = true) (n0 : Nat) (h0 : Heap) (a b : Int32) :
    Met false l Z n0 (⟨"java/lang/Math", "max", "(II)I"⟩ : MethodName) jdk_29_method_65_code 2 (some .int) ({ frames := 0, cells := 0, slots := 0, locals := 0 } : Room) #[(.int a), (.int b)] h0 (fun v h => v = some (.int (if a < b then b else a)) ∧ h0 = h) := by
  refine Met.of (by decide +kernel) #[.val (.int a), .val (.int b)] (fun m => by first | (simp [entryFrame, mkF, argsToLocals, Value.category]; done) | rfl) ?_
  intro p e s m below meth c C
  refine Wk.st (g' := (mkF m 1 #[.val (.int a), .val (.int b)] [(.int a)])) (fun X t q => XS.iloadN X.here C.hx rfl (hb C.hby d6_0) rfl q) ?_
  refine Wk.st (g' := (mkF m 2 #[.val (.int a), .val (.int b)] [(.int b), (.int a)])) (fun X t q => XS.iloadN X.here C.hx rfl (hb C.hby d6_1) rfl q) ?_
  by_cases hb1 : a < b
  · skip
    refine Wk.st (g' := (mkF m 9 #[.val (.int a), .val (.int b)] [])) (fun X t q => XS.icmpYes X.here C.hx rfl (pc0 := 2) (pc' := 9) rfl (hb C.hby d6_2) rfl (XT.ii_lt_t hb1) (by decide) (by decide) q) ?_
    refine Wk.st (g' := (mkF m 10 #[.val (.int a), .val (.int b)] [(.int b)])) (fun X t q => XS.iloadN X.here C.hx rfl (hb C.hby d6_9) rfl q) ?_
    exact Wk.retV C (t := .int) rfl rfl (Or.inl ⟨rfl, by simp, _, rfl⟩) d6_10 (by decide) (by decide) ⟨congrArg (fun z => some (Value.int z)) (((if_pos hb1).symm)), rfl⟩
  · skip
    refine Wk.st (g' := (mkF m 5 #[.val (.int a), .val (.int b)] [])) (fun X t q => XS.icmpNo X.here C.hx rfl (hb C.hby d6_2) rfl (XT.ii_lt_f hb1) q) ?_
    refine Wk.st (g' := (mkF m 6 #[.val (.int a), .val (.int b)] [(.int a)])) (fun X t q => XS.iloadN X.here C.hx rfl (hb C.hby d6_5) rfl q) ?_
    refine Wk.st (g' := (mkF m 10 #[.val (.int a), .val (.int b)] [(.int a)])) (fun X t q => XS.goto X.here C.hx rfl (pc0 := 6) (pc' := 10) rfl (hb C.hby d6_6) (by decide) (by decide) q) ?_
    exact Wk.retV C (t := .int) rfl rfl (Or.inl ⟨rfl, by simp, _, rfl⟩) d6_10 (by decide) (by decide) ⟨congrArg (fun z => some (Value.int z)) (((if_neg hb1).symm)), rfl⟩
theorem d9_0 : decode jdk_29_method_66_code 0 = .ok (.lload_n 0, 1) := by decide +kernel
theorem d9_1 : decode jdk_29_method_66_code 1 = .ok (.lload_n 2, 1) := by decide +kernel
theorem d9_2 : decode jdk_29_method_66_code 2 = .ok (.lcmp, 1) := by decide +kernel
theorem d9_3 : decode jdk_29_method_66_code 3 = .ok (.ifCond .lt 7, 3) := by decide +kernel
theorem d9_6 : decode jdk_29_method_66_code 6 = .ok (.lload_n 0, 1) := by decide +kernel
theorem d9_7 : decode jdk_29_method_66_code 7 = .ok (.goto 4, 3) := by decide +kernel
theorem d9_10 : decode jdk_29_method_66_code 10 = .ok (.lload_n 2, 1) := by decide +kernel
theorem d9_11 : decode jdk_29_method_66_code 11 = .ok (.lreturn, 1) := by decide +kernel
set_option maxRecDepth 65536 in
set_option maxHeartbeats 40000000 in
theorem own_maxJ (l : Launch) (Z : State) (a0 : Array Value) (hw : ∀ d ∈ tables_1, d.before a0 Z = true) (n0 : Nat) (h0 : Heap) (a b : Nat) (ha : a < 9223372036854775808) (hB : b < 9223372036854775808) :
    Met false l Z n0 (⟨"java/lang/Math", "max", "(JJ)J"⟩ : MethodName) jdk_29_method_66_code 4 (some .long) ({ frames := 0, cells := 0, slots := 0, locals := 0 } : Room) #[(.long (Int64.ofNat a)), (.long (Int64.ofNat b))] h0 (fun v h => v = some (.long (Int64.ofNat (max a b))) ∧ h0 = h) := by
  refine Met.of (by decide +kernel) #[.val (.long (Int64.ofNat a)), .second, .val (.long (Int64.ofNat b)), .second] (fun m => by first | (simp [entryFrame, mkF, argsToLocals, Value.category]; done) | rfl) ?_
  intro p e s m below meth c C
  refine Wk.st (g' := (mkF m 1 #[.val (.long (Int64.ofNat a)), .second, .val (.long (Int64.ofNat b)), .second] [(.long (Int64.ofNat a))])) (fun X t q => XS.lloadN X.here C.hx rfl (hb C.hby d9_0) rfl q) ?_
  refine Wk.st (g' := (mkF m 2 #[.val (.long (Int64.ofNat a)), .second, .val (.long (Int64.ofNat b)), .second] [(.long (Int64.ofNat b)), (.long (Int64.ofNat a))])) (fun X t q => XS.lloadN X.here C.hx rfl (hb C.hby d9_1) rfl q) ?_
  refine Wk.st (g' := (mkF m 3 #[.val (.long (Int64.ofNat a)), .second, .val (.long (Int64.ofNat b)), .second] [(.int (XT.cmpL (Int64.ofNat a) (Int64.ofNat b)))])) (fun X t q => XT.lcmp X.here C.hx rfl (hb C.hby d9_2) rfl q) ?_
  by_cases hb1 : (Int64.ofNat a) < (Int64.ofNat b)
  · skip
    refine Wk.st (g' := (mkF m 10 #[.val (.long (Int64.ofNat a)), .second, .val (.long (Int64.ofNat b)), .second] [])) (fun X t q => XS.ifYes X.here C.hx rfl (pc0 := 3) (pc' := 10) rfl (hb C.hby d9_3) rfl (XT.ll_lt_t hb1) (by decide) (by decide) q) ?_
    refine Wk.st (g' := (mkF m 11 #[.val (.long (Int64.ofNat a)), .second, .val (.long (Int64.ofNat b)), .second] [(.long (Int64.ofNat b))])) (fun X t q => XS.lloadN X.here C.hx rfl (hb C.hby d9_10) rfl q) ?_
    exact Wk.retV C (t := .long) rfl rfl (Or.inr (Or.inl ⟨rfl, rfl, _, rfl⟩)) d9_11 (by decide) (by decide) ⟨congrArg (fun z => some (Value.long z)) ((congrArg Int64.ofNat (show b = max a b by have := (lt64 ha hB).mp hb1; omega))), rfl⟩
  · skip
    refine Wk.st (g' := (mkF m 6 #[.val (.long (Int64.ofNat a)), .second, .val (.long (Int64.ofNat b)), .second] [])) (fun X t q => XS.ifNo X.here C.hx rfl (hb C.hby d9_3) rfl (XT.ll_lt_f hb1) q) ?_
    refine Wk.st (g' := (mkF m 7 #[.val (.long (Int64.ofNat a)), .second, .val (.long (Int64.ofNat b)), .second] [(.long (Int64.ofNat a))])) (fun X t q => XS.lloadN X.here C.hx rfl (hb C.hby d9_6) rfl q) ?_
    refine Wk.st (g' := (mkF m 11 #[.val (.long (Int64.ofNat a)), .second, .val (.long (Int64.ofNat b)), .second] [(.long (Int64.ofNat a))])) (fun X t q => XS.goto X.here C.hx rfl (pc0 := 7) (pc' := 11) rfl (hb C.hby d9_7) (by decide) (by decide) q) ?_
    exact Wk.retV C (t := .long) rfl rfl (Or.inr (Or.inl ⟨rfl, rfl, _, rfl⟩)) d9_11 (by decide) (by decide) ⟨congrArg (fun z => some (Value.long z)) ((congrArg Int64.ofNat (show a = max a b by have := mt (lt64 ha hB).mpr hb1; omega))), rfl⟩
theorem d8_0 : decode jdk_29_method_70_code 0 = .ok (.lload_n 0, 1) := by decide +kernel
theorem d8_1 : decode jdk_29_method_70_code 1 = .ok (.lload_n 2, 1) := by decide +kernel
theorem d8_2 : decode jdk_29_method_70_code 2 = .ok (.lcmp, 1) := by decide +kernel
theorem d8_3 : decode jdk_29_method_70_code 3 = .ok (.ifCond .gt 7, 3) := by decide +kernel
theorem d8_6 : decode jdk_29_method_70_code 6 = .ok (.lload_n 0, 1) := by decide +kernel
theorem d8_7 : decode jdk_29_method_70_code 7 = .ok (.goto 4, 3) := by decide +kernel
theorem d8_10 : decode jdk_29_method_70_code 10 = .ok (.lload_n 2, 1) := by decide +kernel
theorem d8_11 : decode jdk_29_method_70_code 11 = .ok (.lreturn, 1) := by decide +kernel
set_option maxRecDepth 65536 in
set_option maxHeartbeats 40000000 in
theorem own_minJ (l : Launch) (Z : State) (a0 : Array Value) (hw : ∀ d ∈ tables_1, d.before a0 Z = true) (n0 : Nat) (h0 : Heap) (a b : Nat) (ha : a < 9223372036854775808) (hB : b < 9223372036854775808) :
    Met false l Z n0 (⟨"java/lang/Math", "min", "(JJ)J"⟩ : MethodName) jdk_29_method_70_code 4 (some .long) ({ frames := 0, cells := 0, slots := 0, locals := 0 } : Room) #[(.long (Int64.ofNat a)), (.long (Int64.ofNat b))] h0 (fun v h => v = some (.long (Int64.ofNat (min a b))) ∧ h0 = h) := by
  refine Met.of (by decide +kernel) #[.val (.long (Int64.ofNat a)), .second, .val (.long (Int64.ofNat b)), .second] (fun m => by first | (simp [entryFrame, mkF, argsToLocals, Value.category]; done) | rfl) ?_
  intro p e s m below meth c C
  refine Wk.st (g' := (mkF m 1 #[.val (.long (Int64.ofNat a)), .second, .val (.long (Int64.ofNat b)), .second] [(.long (Int64.ofNat a))])) (fun X t q => XS.lloadN X.here C.hx rfl (hb C.hby d8_0) rfl q) ?_
  refine Wk.st (g' := (mkF m 2 #[.val (.long (Int64.ofNat a)), .second, .val (.long (Int64.ofNat b)), .second] [(.long (Int64.ofNat b)), (.long (Int64.ofNat a))])) (fun X t q => XS.lloadN X.here C.hx rfl (hb C.hby d8_1) rfl q) ?_
  refine Wk.st (g' := (mkF m 3 #[.val (.long (Int64.ofNat a)), .second, .val (.long (Int64.ofNat b)), .second] [(.int (XT.cmpL (Int64.ofNat a) (Int64.ofNat b)))])) (fun X t q => XT.lcmp X.here C.hx rfl (hb C.hby d8_2) rfl q) ?_
  by_cases hb1 : (Int64.ofNat b) < (Int64.ofNat a)
  · skip
    refine Wk.st (g' := (mkF m 10 #[.val (.long (Int64.ofNat a)), .second, .val (.long (Int64.ofNat b)), .second] [])) (fun X t q => XS.ifYes X.here C.hx rfl (pc0 := 3) (pc' := 10) rfl (hb C.hby d8_3) rfl (XT.ll_gt_t hb1) (by decide) (by decide) q) ?_
    refine Wk.st (g' := (mkF m 11 #[.val (.long (Int64.ofNat a)), .second, .val (.long (Int64.ofNat b)), .second] [(.long (Int64.ofNat b))])) (fun X t q => XS.lloadN X.here C.hx rfl (hb C.hby d8_10) rfl q) ?_
    exact Wk.retV C (t := .long) rfl rfl (Or.inr (Or.inl ⟨rfl, rfl, _, rfl⟩)) d8_11 (by decide) (by decide) ⟨congrArg (fun z => some (Value.long z)) ((congrArg Int64.ofNat (show b = min a b by have := (lt64 hB ha).mp hb1; omega))), rfl⟩
  · skip
    refine Wk.st (g' := (mkF m 6 #[.val (.long (Int64.ofNat a)), .second, .val (.long (Int64.ofNat b)), .second] [])) (fun X t q => XS.ifNo X.here C.hx rfl (hb C.hby d8_3) rfl (XT.ll_gt_f hb1) q) ?_
    refine Wk.st (g' := (mkF m 7 #[.val (.long (Int64.ofNat a)), .second, .val (.long (Int64.ofNat b)), .second] [(.long (Int64.ofNat a))])) (fun X t q => XS.lloadN X.here C.hx rfl (hb C.hby d8_6) rfl q) ?_
    refine Wk.st (g' := (mkF m 11 #[.val (.long (Int64.ofNat a)), .second, .val (.long (Int64.ofNat b)), .second] [(.long (Int64.ofNat a))])) (fun X t q => XS.goto X.here C.hx rfl (pc0 := 7) (pc' := 11) rfl (hb C.hby d8_7) (by decide) (by decide) q) ?_
    exact Wk.retV C (t := .long) rfl rfl (Or.inr (Or.inl ⟨rfl, rfl, _, rfl⟩)) d8_11 (by decide) (by decide) ⟨congrArg (fun z => some (Value.long z)) ((congrArg Int64.ofNat (show a = min a b by have := mt (lt64 hB ha).mpr hb1; omega))), rfl⟩
theorem d11_0 : decode method_2_code 0 = .ok (.iconst 0, 1) := by decide +kernel
theorem d11_1 : decode method_2_code 1 = .ok (.istore_n 2, 1) := by decide +kernel
theorem d11_2 : decode method_2_code 2 = .ok (.lload_n 0, 1) := by decide +kernel
theorem d11_3 : decode method_2_code 3 = .ok (.bipush 32, 2) := by decide +kernel
theorem d11_5 : decode method_2_code 5 = .ok (.lushr, 1) := by decide +kernel
theorem d11_6 : decode method_2_code 6 = .ok (.lconst 0, 1) := by decide +kernel
theorem d11_7 : decode method_2_code 7 = .ok (.lcmp, 1) := by decide +kernel
theorem d11_8 : decode method_2_code 8 = .ok (.ifCond .eq 11, 3) := by decide +kernel
theorem d11_11 : decode method_2_code 11 = .ok (.lload_n 0, 1) := by decide +kernel
theorem d11_12 : decode method_2_code 12 = .ok (.bipush 32, 2) := by decide +kernel
theorem d11_14 : decode method_2_code 14 = .ok (.lushr, 1) := by decide +kernel
theorem d11_15 : decode method_2_code 15 = .ok (.lstore_n 0, 1) := by decide +kernel
theorem d11_16 : decode method_2_code 16 = .ok (.iinc 2 32, 3) := by decide +kernel
theorem d11_19 : decode method_2_code 19 = .ok (.lload_n 0, 1) := by decide +kernel
theorem d11_20 : decode method_2_code 20 = .ok (.bipush 16, 2) := by decide +kernel
theorem d11_22 : decode method_2_code 22 = .ok (.lushr, 1) := by decide +kernel
theorem d11_23 : decode method_2_code 23 = .ok (.lconst 0, 1) := by decide +kernel
theorem d11_24 : decode method_2_code 24 = .ok (.lcmp, 1) := by decide +kernel
theorem d11_25 : decode method_2_code 25 = .ok (.ifCond .eq 11, 3) := by decide +kernel
theorem d11_28 : decode method_2_code 28 = .ok (.lload_n 0, 1) := by decide +kernel
theorem d11_29 : decode method_2_code 29 = .ok (.bipush 16, 2) := by decide +kernel
theorem d11_31 : decode method_2_code 31 = .ok (.lushr, 1) := by decide +kernel
theorem d11_32 : decode method_2_code 32 = .ok (.lstore_n 0, 1) := by decide +kernel
theorem d11_33 : decode method_2_code 33 = .ok (.iinc 2 16, 3) := by decide +kernel
theorem d11_36 : decode method_2_code 36 = .ok (.lload_n 0, 1) := by decide +kernel
theorem d11_37 : decode method_2_code 37 = .ok (.bipush 8, 2) := by decide +kernel
theorem d11_39 : decode method_2_code 39 = .ok (.lushr, 1) := by decide +kernel
theorem d11_40 : decode method_2_code 40 = .ok (.lconst 0, 1) := by decide +kernel
theorem d11_41 : decode method_2_code 41 = .ok (.lcmp, 1) := by decide +kernel
theorem d11_42 : decode method_2_code 42 = .ok (.ifCond .eq 11, 3) := by decide +kernel
theorem d11_45 : decode method_2_code 45 = .ok (.lload_n 0, 1) := by decide +kernel
theorem d11_46 : decode method_2_code 46 = .ok (.bipush 8, 2) := by decide +kernel
theorem d11_48 : decode method_2_code 48 = .ok (.lushr, 1) := by decide +kernel
theorem d11_49 : decode method_2_code 49 = .ok (.lstore_n 0, 1) := by decide +kernel
theorem d11_50 : decode method_2_code 50 = .ok (.iinc 2 8, 3) := by decide +kernel
theorem d11_53 : decode method_2_code 53 = .ok (.lload_n 0, 1) := by decide +kernel
theorem d11_54 : decode method_2_code 54 = .ok (.iconst 4, 1) := by decide +kernel
theorem d11_55 : decode method_2_code 55 = .ok (.lushr, 1) := by decide +kernel
theorem d11_56 : decode method_2_code 56 = .ok (.lconst 0, 1) := by decide +kernel
theorem d11_57 : decode method_2_code 57 = .ok (.lcmp, 1) := by decide +kernel
theorem d11_58 : decode method_2_code 58 = .ok (.ifCond .eq 10, 3) := by decide +kernel
theorem d11_61 : decode method_2_code 61 = .ok (.lload_n 0, 1) := by decide +kernel
theorem d11_62 : decode method_2_code 62 = .ok (.iconst 4, 1) := by decide +kernel
theorem d11_63 : decode method_2_code 63 = .ok (.lushr, 1) := by decide +kernel
theorem d11_64 : decode method_2_code 64 = .ok (.lstore_n 0, 1) := by decide +kernel
theorem d11_65 : decode method_2_code 65 = .ok (.iinc 2 4, 3) := by decide +kernel
theorem d11_68 : decode method_2_code 68 = .ok (.lload_n 0, 1) := by decide +kernel
theorem d11_69 : decode method_2_code 69 = .ok (.iconst 2, 1) := by decide +kernel
theorem d11_70 : decode method_2_code 70 = .ok (.lushr, 1) := by decide +kernel
theorem d11_71 : decode method_2_code 71 = .ok (.lconst 0, 1) := by decide +kernel
theorem d11_72 : decode method_2_code 72 = .ok (.lcmp, 1) := by decide +kernel
theorem d11_73 : decode method_2_code 73 = .ok (.ifCond .eq 10, 3) := by decide +kernel
theorem d11_76 : decode method_2_code 76 = .ok (.lload_n 0, 1) := by decide +kernel
theorem d11_77 : decode method_2_code 77 = .ok (.iconst 2, 1) := by decide +kernel
theorem d11_78 : decode method_2_code 78 = .ok (.lushr, 1) := by decide +kernel
theorem d11_79 : decode method_2_code 79 = .ok (.lstore_n 0, 1) := by decide +kernel
theorem d11_80 : decode method_2_code 80 = .ok (.iinc 2 2, 3) := by decide +kernel
theorem d11_83 : decode method_2_code 83 = .ok (.lload_n 0, 1) := by decide +kernel
theorem d11_84 : decode method_2_code 84 = .ok (.iconst 1, 1) := by decide +kernel
theorem d11_85 : decode method_2_code 85 = .ok (.lushr, 1) := by decide +kernel
theorem d11_86 : decode method_2_code 86 = .ok (.lconst 0, 1) := by decide +kernel
theorem d11_87 : decode method_2_code 87 = .ok (.lcmp, 1) := by decide +kernel
theorem d11_88 : decode method_2_code 88 = .ok (.ifCond .eq 6, 3) := by decide +kernel
theorem d11_91 : decode method_2_code 91 = .ok (.iinc 2 1, 3) := by decide +kernel
theorem d11_94 : decode method_2_code 94 = .ok (.iload_n 2, 1) := by decide +kernel
theorem d11_95 : decode method_2_code 95 = .ok (.ireturn, 1) := by decide +kernel
set_option maxRecDepth 65536 in
set_option maxHeartbeats 40000000 in
theorem own_mag (l : Launch) (Z : State) (a0 : Array Value) (hw : ∀ d ∈ tables_1, d.before a0 Z = true) (n0 : Nat) (h0 : Heap) (x : Nat) (hx : x < 9223372036854775808) :
    Met false l Z n0 (⟨"com/example/headroom/headroom/HistogramValueAtPinLaw", "mag", "(J)I"⟩ : MethodName) method_2_code 3 (some .int) ({ frames := 0, cells := 0, slots := 0, locals := 0 } : Room) #[(.long (Int64.ofNat x))] h0 (fun v h => v = some (.int (Int32.ofNat x.log2)) ∧ h0 = h) := by
  refine Met.of (plainFor_of_name pn_2) #[.val (.long (Int64.ofNat x)), .second, .unset] (fun m => by first | (simp [entryFrame, mkF, argsToLocals, Value.category]; done) | rfl) ?_
  intro p e s m below meth c C
  refine Wk.st (g' := (mkF m 1 #[.val (.long (Int64.ofNat x)), .second, .unset] [(.int (0 : Int32))])) (fun X t q => XS.iconst X.here C.hx rfl (hb C.hby d11_0) q) ?_
  refine Wk.st (g' := (mkF m 2 #[.val (.long (Int64.ofNat x)), .second, .val (.int (0 : Int32))] [])) (fun X t q => XS.istoreN X.here C.hx rfl (hb C.hby d11_1) rfl (l' := #[.val (.long (Int64.ofNat x)), .second, .val (.int (0 : Int32))]) rfl q) ?_
  have k83 : ∀ i n : Nat, i < 4 → n < 1000 - i.log2 → n + i.log2 = x.log2 → Wk false p l e ({ frames := 0, cells := 0, slots := 0, locals := 0 } : Room) s m #[(.long (Int64.ofNat x))] below meth c n0 (fun v h => v = some (.int (Int32.ofNat x.log2)) ∧ h0 = h) h0 0 0 (mkF m 83 #[.val (.long (Int64.ofNat i)), .second, .val (.int (Int32.ofNat n))] []) := by
    intro i n h1 hn2 hr
    refine Wk.st (g' := (mkF m 84 #[.val (.long (Int64.ofNat i)), .second, .val (.int (Int32.ofNat n))] [(.long (Int64.ofNat i))])) (fun X t q => XS.lloadN X.here C.hx rfl (hb C.hby d11_83) rfl q) ?_
    refine Wk.st (g' := (mkF m 85 #[.val (.long (Int64.ofNat i)), .second, .val (.int (Int32.ofNat n))] [(.int (1 : Int32)), (.long (Int64.ofNat i))])) (fun X t q => XS.iconst X.here C.hx rfl (hb C.hby d11_84) q) ?_
    refine Wk.st (g' := (mkF m 86 #[.val (.long (Int64.ofNat i)), .second, .val (.int (Int32.ofNat n))] [(.long (((Int64.ofNat i).toUInt64 >>> ((1 : Int32) &&& 0x3f).toInt64.toUInt64).toInt64))])) (fun X t q => XS.lushr X.here C.hx rfl (hb C.hby d11_85) rfl q) ?_
    rw [show (((Int64.ofNat i).toUInt64 >>> ((1 : Int32) &&& 0x3f).toInt64.toUInt64).toInt64) = (Int64.ofNat (i / 2 ^ 1)) from shr64 (by omega) 1 1 (by decide) (by decide)]
    show Wk _ p l e _ s m _ below meth c n0 _ h0 0 0 (mkF m 86 #[.val (.long (Int64.ofNat i)), .second, .val (.int (Int32.ofNat n))] [(.long (Int64.ofNat (i / 2 ^ 1)))])
    refine Wk.st (g' := (mkF m 87 #[.val (.long (Int64.ofNat i)), .second, .val (.int (Int32.ofNat n))] [(.long (0 : Int64)), (.long (Int64.ofNat (i / 2 ^ 1)))])) (fun X t q => XS.lconst X.here C.hx rfl (hb C.hby d11_86) q) ?_
    refine Wk.st (g' := (mkF m 88 #[.val (.long (Int64.ofNat i)), .second, .val (.int (Int32.ofNat n))] [(.int (XT.cmpL (Int64.ofNat (i / 2 ^ 1)) (0 : Int64)))])) (fun X t q => XT.lcmp X.here C.hx rfl (hb C.hby d11_87) rfl q) ?_
    by_cases hb1 : (Int64.ofNat (i / 2 ^ 1)) = (0 : Int64)
    · skip
      refine Wk.st (g' := (mkF m 94 #[.val (.long (Int64.ofNat i)), .second, .val (.int (Int32.ofNat n))] [])) (fun X t q => XS.ifYes X.here C.hx rfl (pc0 := 88) (pc' := 94) rfl (hb C.hby d11_88) rfl (XT.ll_eq_t hb1) (by decide) (by decide) q) ?_
      refine Wk.st (g' := (mkF m 95 #[.val (.long (Int64.ofNat i)), .second, .val (.int (Int32.ofNat n))] [(.int (Int32.ofNat n))])) (fun X t q => XS.iloadN X.here C.hx rfl (hb C.hby d11_94) rfl q) ?_
      exact Wk.retV C (t := .int) rfl rfl (Or.inl ⟨rfl, by simp, _, rfl⟩) d11_95 (by decide) (by decide) ⟨congrArg (fun z => some (Value.int (Int32.ofNat z))) (by have := log_small (is0L (by omega) hb1); omega), rfl⟩
    · skip
      refine Wk.st (g' := (mkF m 91 #[.val (.long (Int64.ofNat i)), .second, .val (.int (Int32.ofNat n))] [])) (fun X t q => XS.ifNo X.here C.hx rfl (hb C.hby d11_88) rfl (XT.ll_eq_f hb1) q) ?_
      refine Wk.st (g' := (mkF m 94 #[.val (.long (Int64.ofNat i)), .second, .val (.int ((Int32.ofNat n) + (1 : Int32)))] [])) (fun X t q => XS.iinc X.here C.hx rfl (hb C.hby d11_91) rfl (l' := #[.val (.long (Int64.ofNat i)), .second, .val (.int ((Int32.ofNat n) + (1 : Int32)))]) rfl q) ?_
      refine Wk.st (g' := (mkF m 95 #[.val (.long (Int64.ofNat i)), .second, .val (.int ((Int32.ofNat n) + (1 : Int32)))] [(.int ((Int32.ofNat n) + (1 : Int32)))])) (fun X t q => XS.iloadN X.here C.hx rfl (hb C.hby d11_94) rfl q) ?_
      exact Wk.retV C (t := .int) rfl rfl (Or.inl ⟨rfl, by simp, _, rfl⟩) d11_95 (by decide) (by decide) ⟨congrArg (fun z => some (Value.int z)) ((add32 (j := 1) (by omega)).trans (congrArg Int32.ofNat (by have := log_two (not0L hb1) h1; omega))), rfl⟩
  have k68 : ∀ i n : Nat, i < 16 → n < 1000 - i.log2 → n + i.log2 = x.log2 → Wk false p l e ({ frames := 0, cells := 0, slots := 0, locals := 0 } : Room) s m #[(.long (Int64.ofNat x))] below meth c n0 (fun v h => v = some (.int (Int32.ofNat x.log2)) ∧ h0 = h) h0 0 0 (mkF m 68 #[.val (.long (Int64.ofNat i)), .second, .val (.int (Int32.ofNat n))] []) := by
    intro i n h1 hn2 hr
    refine Wk.st (g' := (mkF m 69 #[.val (.long (Int64.ofNat i)), .second, .val (.int (Int32.ofNat n))] [(.long (Int64.ofNat i))])) (fun X t q => XS.lloadN X.here C.hx rfl (hb C.hby d11_68) rfl q) ?_
    refine Wk.st (g' := (mkF m 70 #[.val (.long (Int64.ofNat i)), .second, .val (.int (Int32.ofNat n))] [(.int (2 : Int32)), (.long (Int64.ofNat i))])) (fun X t q => XS.iconst X.here C.hx rfl (hb C.hby d11_69) q) ?_
    refine Wk.st (g' := (mkF m 71 #[.val (.long (Int64.ofNat i)), .second, .val (.int (Int32.ofNat n))] [(.long (((Int64.ofNat i).toUInt64 >>> ((2 : Int32) &&& 0x3f).toInt64.toUInt64).toInt64))])) (fun X t q => XS.lushr X.here C.hx rfl (hb C.hby d11_70) rfl q) ?_
    rw [show (((Int64.ofNat i).toUInt64 >>> ((2 : Int32) &&& 0x3f).toInt64.toUInt64).toInt64) = (Int64.ofNat (i / 2 ^ 2)) from shr64 (by omega) 2 2 (by decide) (by decide)]
    show Wk _ p l e _ s m _ below meth c n0 _ h0 0 0 (mkF m 71 #[.val (.long (Int64.ofNat i)), .second, .val (.int (Int32.ofNat n))] [(.long (Int64.ofNat (i / 2 ^ 2)))])
    refine Wk.st (g' := (mkF m 72 #[.val (.long (Int64.ofNat i)), .second, .val (.int (Int32.ofNat n))] [(.long (0 : Int64)), (.long (Int64.ofNat (i / 2 ^ 2)))])) (fun X t q => XS.lconst X.here C.hx rfl (hb C.hby d11_71) q) ?_
    refine Wk.st (g' := (mkF m 73 #[.val (.long (Int64.ofNat i)), .second, .val (.int (Int32.ofNat n))] [(.int (XT.cmpL (Int64.ofNat (i / 2 ^ 2)) (0 : Int64)))])) (fun X t q => XT.lcmp X.here C.hx rfl (hb C.hby d11_72) rfl q) ?_
    by_cases hb2 : (Int64.ofNat (i / 2 ^ 2)) = (0 : Int64)
    · skip
      refine Wk.st (g' := (mkF m 83 #[.val (.long (Int64.ofNat i)), .second, .val (.int (Int32.ofNat n))] [])) (fun X t q => XS.ifYes X.here C.hx rfl (pc0 := 73) (pc' := 83) rfl (hb C.hby d11_73) rfl (XT.ll_eq_t hb2) (by decide) (by decide) q) ?_
      have hg := is0L (by omega) hb2
      exact k83 i n (by omega) hn2 hr
    · skip
      refine Wk.st (g' := (mkF m 76 #[.val (.long (Int64.ofNat i)), .second, .val (.int (Int32.ofNat n))] [])) (fun X t q => XS.ifNo X.here C.hx rfl (hb C.hby d11_73) rfl (XT.ll_eq_f hb2) q) ?_
      refine Wk.st (g' := (mkF m 77 #[.val (.long (Int64.ofNat i)), .second, .val (.int (Int32.ofNat n))] [(.long (Int64.ofNat i))])) (fun X t q => XS.lloadN X.here C.hx rfl (hb C.hby d11_76) rfl q) ?_
      refine Wk.st (g' := (mkF m 78 #[.val (.long (Int64.ofNat i)), .second, .val (.int (Int32.ofNat n))] [(.int (2 : Int32)), (.long (Int64.ofNat i))])) (fun X t q => XS.iconst X.here C.hx rfl (hb C.hby d11_77) q) ?_
      refine Wk.st (g' := (mkF m 79 #[.val (.long (Int64.ofNat i)), .second, .val (.int (Int32.ofNat n))] [(.long (((Int64.ofNat i).toUInt64 >>> ((2 : Int32) &&& 0x3f).toInt64.toUInt64).toInt64))])) (fun X t q => XS.lushr X.here C.hx rfl (hb C.hby d11_78) rfl q) ?_
      rw [show (((Int64.ofNat i).toUInt64 >>> ((2 : Int32) &&& 0x3f).toInt64.toUInt64).toInt64) = (Int64.ofNat (i / 2 ^ 2)) from shr64 (by omega) 2 2 (by decide) (by decide)]
      show Wk _ p l e _ s m _ below meth c n0 _ h0 0 0 (mkF m 79 #[.val (.long (Int64.ofNat i)), .second, .val (.int (Int32.ofNat n))] [(.long (Int64.ofNat (i / 2 ^ 2)))])
      refine Wk.st (g' := (mkF m 80 #[.val (.long (Int64.ofNat (i / 2 ^ 2))), .second, .val (.int (Int32.ofNat n))] [])) (fun X t q => XS.lstoreN X.here C.hx rfl (hb C.hby d11_79) rfl (l' := #[.val (.long (Int64.ofNat (i / 2 ^ 2))), .second, .val (.int (Int32.ofNat n))]) rfl q) ?_
      refine Wk.st (g' := (mkF m 83 #[.val (.long (Int64.ofNat (i / 2 ^ 2))), .second, .val (.int ((Int32.ofNat n) + (2 : Int32)))] [])) (fun X t q => XS.iinc X.here C.hx rfl (hb C.hby d11_80) rfl (l' := #[.val (.long (Int64.ofNat (i / 2 ^ 2))), .second, .val (.int ((Int32.ofNat n) + (2 : Int32)))]) rfl q) ?_
      have hg := not0L hb2
      have e1 := log_div (i := i) (k := 2) (by omega)
      rw [show ((Int32.ofNat n) + (2 : Int32)) = (Int32.ofNat (n + 2)) from add32 (j := 2) (by omega)]
      show Wk _ p l e _ s m _ below meth c n0 _ h0 0 0 (mkF m 83 #[.val (.long (Int64.ofNat (i / 2 ^ 2))), .second, .val (.int (Int32.ofNat (n + 2)))] [])
      exact k83 (i / 2 ^ 2) (n + 2) (by omega) (by omega) (by omega)
  have k53 : ∀ i n : Nat, i < 256 → n < 1000 - i.log2 → n + i.log2 = x.log2 → Wk false p l e ({ frames := 0, cells := 0, slots := 0, locals := 0 } : Room) s m #[(.long (Int64.ofNat x))] below meth c n0 (fun v h => v = some (.int (Int32.ofNat x.log2)) ∧ h0 = h) h0 0 0 (mkF m 53 #[.val (.long (Int64.ofNat i)), .second, .val (.int (Int32.ofNat n))] []) := by
    intro i n h1 hn2 hr
    refine Wk.st (g' := (mkF m 54 #[.val (.long (Int64.ofNat i)), .second, .val (.int (Int32.ofNat n))] [(.long (Int64.ofNat i))])) (fun X t q => XS.lloadN X.here C.hx rfl (hb C.hby d11_53) rfl q) ?_
    refine Wk.st (g' := (mkF m 55 #[.val (.long (Int64.ofNat i)), .second, .val (.int (Int32.ofNat n))] [(.int (4 : Int32)), (.long (Int64.ofNat i))])) (fun X t q => XS.iconst X.here C.hx rfl (hb C.hby d11_54) q) ?_
    refine Wk.st (g' := (mkF m 56 #[.val (.long (Int64.ofNat i)), .second, .val (.int (Int32.ofNat n))] [(.long (((Int64.ofNat i).toUInt64 >>> ((4 : Int32) &&& 0x3f).toInt64.toUInt64).toInt64))])) (fun X t q => XS.lushr X.here C.hx rfl (hb C.hby d11_55) rfl q) ?_
    rw [show (((Int64.ofNat i).toUInt64 >>> ((4 : Int32) &&& 0x3f).toInt64.toUInt64).toInt64) = (Int64.ofNat (i / 2 ^ 4)) from shr64 (by omega) 4 4 (by decide) (by decide)]
    show Wk _ p l e _ s m _ below meth c n0 _ h0 0 0 (mkF m 56 #[.val (.long (Int64.ofNat i)), .second, .val (.int (Int32.ofNat n))] [(.long (Int64.ofNat (i / 2 ^ 4)))])
    refine Wk.st (g' := (mkF m 57 #[.val (.long (Int64.ofNat i)), .second, .val (.int (Int32.ofNat n))] [(.long (0 : Int64)), (.long (Int64.ofNat (i / 2 ^ 4)))])) (fun X t q => XS.lconst X.here C.hx rfl (hb C.hby d11_56) q) ?_
    refine Wk.st (g' := (mkF m 58 #[.val (.long (Int64.ofNat i)), .second, .val (.int (Int32.ofNat n))] [(.int (XT.cmpL (Int64.ofNat (i / 2 ^ 4)) (0 : Int64)))])) (fun X t q => XT.lcmp X.here C.hx rfl (hb C.hby d11_57) rfl q) ?_
    by_cases hb3 : (Int64.ofNat (i / 2 ^ 4)) = (0 : Int64)
    · skip
      refine Wk.st (g' := (mkF m 68 #[.val (.long (Int64.ofNat i)), .second, .val (.int (Int32.ofNat n))] [])) (fun X t q => XS.ifYes X.here C.hx rfl (pc0 := 58) (pc' := 68) rfl (hb C.hby d11_58) rfl (XT.ll_eq_t hb3) (by decide) (by decide) q) ?_
      have hg := is0L (by omega) hb3
      exact k68 i n (by omega) hn2 hr
    · skip
      refine Wk.st (g' := (mkF m 61 #[.val (.long (Int64.ofNat i)), .second, .val (.int (Int32.ofNat n))] [])) (fun X t q => XS.ifNo X.here C.hx rfl (hb C.hby d11_58) rfl (XT.ll_eq_f hb3) q) ?_
      refine Wk.st (g' := (mkF m 62 #[.val (.long (Int64.ofNat i)), .second, .val (.int (Int32.ofNat n))] [(.long (Int64.ofNat i))])) (fun X t q => XS.lloadN X.here C.hx rfl (hb C.hby d11_61) rfl q) ?_
      refine Wk.st (g' := (mkF m 63 #[.val (.long (Int64.ofNat i)), .second, .val (.int (Int32.ofNat n))] [(.int (4 : Int32)), (.long (Int64.ofNat i))])) (fun X t q => XS.iconst X.here C.hx rfl (hb C.hby d11_62) q) ?_
      refine Wk.st (g' := (mkF m 64 #[.val (.long (Int64.ofNat i)), .second, .val (.int (Int32.ofNat n))] [(.long (((Int64.ofNat i).toUInt64 >>> ((4 : Int32) &&& 0x3f).toInt64.toUInt64).toInt64))])) (fun X t q => XS.lushr X.here C.hx rfl (hb C.hby d11_63) rfl q) ?_
      rw [show (((Int64.ofNat i).toUInt64 >>> ((4 : Int32) &&& 0x3f).toInt64.toUInt64).toInt64) = (Int64.ofNat (i / 2 ^ 4)) from shr64 (by omega) 4 4 (by decide) (by decide)]
      show Wk _ p l e _ s m _ below meth c n0 _ h0 0 0 (mkF m 64 #[.val (.long (Int64.ofNat i)), .second, .val (.int (Int32.ofNat n))] [(.long (Int64.ofNat (i / 2 ^ 4)))])
      refine Wk.st (g' := (mkF m 65 #[.val (.long (Int64.ofNat (i / 2 ^ 4))), .second, .val (.int (Int32.ofNat n))] [])) (fun X t q => XS.lstoreN X.here C.hx rfl (hb C.hby d11_64) rfl (l' := #[.val (.long (Int64.ofNat (i / 2 ^ 4))), .second, .val (.int (Int32.ofNat n))]) rfl q) ?_
      refine Wk.st (g' := (mkF m 68 #[.val (.long (Int64.ofNat (i / 2 ^ 4))), .second, .val (.int ((Int32.ofNat n) + (4 : Int32)))] [])) (fun X t q => XS.iinc X.here C.hx rfl (hb C.hby d11_65) rfl (l' := #[.val (.long (Int64.ofNat (i / 2 ^ 4))), .second, .val (.int ((Int32.ofNat n) + (4 : Int32)))]) rfl q) ?_
      have hg := not0L hb3
      have e1 := log_div (i := i) (k := 4) (by omega)
      rw [show ((Int32.ofNat n) + (4 : Int32)) = (Int32.ofNat (n + 4)) from add32 (j := 4) (by omega)]
      show Wk _ p l e _ s m _ below meth c n0 _ h0 0 0 (mkF m 68 #[.val (.long (Int64.ofNat (i / 2 ^ 4))), .second, .val (.int (Int32.ofNat (n + 4)))] [])
      exact k68 (i / 2 ^ 4) (n + 4) (by omega) (by omega) (by omega)
  have k36 : ∀ i n : Nat, i < 65536 → n < 1000 - i.log2 → n + i.log2 = x.log2 → Wk false p l e ({ frames := 0, cells := 0, slots := 0, locals := 0 } : Room) s m #[(.long (Int64.ofNat x))] below meth c n0 (fun v h => v = some (.int (Int32.ofNat x.log2)) ∧ h0 = h) h0 0 0 (mkF m 36 #[.val (.long (Int64.ofNat i)), .second, .val (.int (Int32.ofNat n))] []) := by
    intro i n h1 hn2 hr
    refine Wk.st (g' := (mkF m 37 #[.val (.long (Int64.ofNat i)), .second, .val (.int (Int32.ofNat n))] [(.long (Int64.ofNat i))])) (fun X t q => XS.lloadN X.here C.hx rfl (hb C.hby d11_36) rfl q) ?_
    refine Wk.st (g' := (mkF m 39 #[.val (.long (Int64.ofNat i)), .second, .val (.int (Int32.ofNat n))] [(.int (8 : Int32)), (.long (Int64.ofNat i))])) (fun X t q => XS.bipush X.here C.hx rfl (hb C.hby d11_37) q) ?_
    refine Wk.st (g' := (mkF m 40 #[.val (.long (Int64.ofNat i)), .second, .val (.int (Int32.ofNat n))] [(.long (((Int64.ofNat i).toUInt64 >>> ((8 : Int32) &&& 0x3f).toInt64.toUInt64).toInt64))])) (fun X t q => XS.lushr X.here C.hx rfl (hb C.hby d11_39) rfl q) ?_
    rw [show (((Int64.ofNat i).toUInt64 >>> ((8 : Int32) &&& 0x3f).toInt64.toUInt64).toInt64) = (Int64.ofNat (i / 2 ^ 8)) from shr64 (by omega) 8 8 (by decide) (by decide)]
    show Wk _ p l e _ s m _ below meth c n0 _ h0 0 0 (mkF m 40 #[.val (.long (Int64.ofNat i)), .second, .val (.int (Int32.ofNat n))] [(.long (Int64.ofNat (i / 2 ^ 8)))])
    refine Wk.st (g' := (mkF m 41 #[.val (.long (Int64.ofNat i)), .second, .val (.int (Int32.ofNat n))] [(.long (0 : Int64)), (.long (Int64.ofNat (i / 2 ^ 8)))])) (fun X t q => XS.lconst X.here C.hx rfl (hb C.hby d11_40) q) ?_
    refine Wk.st (g' := (mkF m 42 #[.val (.long (Int64.ofNat i)), .second, .val (.int (Int32.ofNat n))] [(.int (XT.cmpL (Int64.ofNat (i / 2 ^ 8)) (0 : Int64)))])) (fun X t q => XT.lcmp X.here C.hx rfl (hb C.hby d11_41) rfl q) ?_
    by_cases hb4 : (Int64.ofNat (i / 2 ^ 8)) = (0 : Int64)
    · skip
      refine Wk.st (g' := (mkF m 53 #[.val (.long (Int64.ofNat i)), .second, .val (.int (Int32.ofNat n))] [])) (fun X t q => XS.ifYes X.here C.hx rfl (pc0 := 42) (pc' := 53) rfl (hb C.hby d11_42) rfl (XT.ll_eq_t hb4) (by decide) (by decide) q) ?_
      have hg := is0L (by omega) hb4
      exact k53 i n (by omega) hn2 hr
    · skip
      refine Wk.st (g' := (mkF m 45 #[.val (.long (Int64.ofNat i)), .second, .val (.int (Int32.ofNat n))] [])) (fun X t q => XS.ifNo X.here C.hx rfl (hb C.hby d11_42) rfl (XT.ll_eq_f hb4) q) ?_
      refine Wk.st (g' := (mkF m 46 #[.val (.long (Int64.ofNat i)), .second, .val (.int (Int32.ofNat n))] [(.long (Int64.ofNat i))])) (fun X t q => XS.lloadN X.here C.hx rfl (hb C.hby d11_45) rfl q) ?_
      refine Wk.st (g' := (mkF m 48 #[.val (.long (Int64.ofNat i)), .second, .val (.int (Int32.ofNat n))] [(.int (8 : Int32)), (.long (Int64.ofNat i))])) (fun X t q => XS.bipush X.here C.hx rfl (hb C.hby d11_46) q) ?_
      refine Wk.st (g' := (mkF m 49 #[.val (.long (Int64.ofNat i)), .second, .val (.int (Int32.ofNat n))] [(.long (((Int64.ofNat i).toUInt64 >>> ((8 : Int32) &&& 0x3f).toInt64.toUInt64).toInt64))])) (fun X t q => XS.lushr X.here C.hx rfl (hb C.hby d11_48) rfl q) ?_
      rw [show (((Int64.ofNat i).toUInt64 >>> ((8 : Int32) &&& 0x3f).toInt64.toUInt64).toInt64) = (Int64.ofNat (i / 2 ^ 8)) from shr64 (by omega) 8 8 (by decide) (by decide)]
      show Wk _ p l e _ s m _ below meth c n0 _ h0 0 0 (mkF m 49 #[.val (.long (Int64.ofNat i)), .second, .val (.int (Int32.ofNat n))] [(.long (Int64.ofNat (i / 2 ^ 8)))])
      refine Wk.st (g' := (mkF m 50 #[.val (.long (Int64.ofNat (i / 2 ^ 8))), .second, .val (.int (Int32.ofNat n))] [])) (fun X t q => XS.lstoreN X.here C.hx rfl (hb C.hby d11_49) rfl (l' := #[.val (.long (Int64.ofNat (i / 2 ^ 8))), .second, .val (.int (Int32.ofNat n))]) rfl q) ?_
      refine Wk.st (g' := (mkF m 53 #[.val (.long (Int64.ofNat (i / 2 ^ 8))), .second, .val (.int ((Int32.ofNat n) + (8 : Int32)))] [])) (fun X t q => XS.iinc X.here C.hx rfl (hb C.hby d11_50) rfl (l' := #[.val (.long (Int64.ofNat (i / 2 ^ 8))), .second, .val (.int ((Int32.ofNat n) + (8 : Int32)))]) rfl q) ?_
      have hg := not0L hb4
      have e1 := log_div (i := i) (k := 8) (by omega)
      rw [show ((Int32.ofNat n) + (8 : Int32)) = (Int32.ofNat (n + 8)) from add32 (j := 8) (by omega)]
      show Wk _ p l e _ s m _ below meth c n0 _ h0 0 0 (mkF m 53 #[.val (.long (Int64.ofNat (i / 2 ^ 8))), .second, .val (.int (Int32.ofNat (n + 8)))] [])
      exact k53 (i / 2 ^ 8) (n + 8) (by omega) (by omega) (by omega)
  have k19 : ∀ i n : Nat, i < 4294967296 → n < 1000 - i.log2 → n + i.log2 = x.log2 → Wk false p l e ({ frames := 0, cells := 0, slots := 0, locals := 0 } : Room) s m #[(.long (Int64.ofNat x))] below meth c n0 (fun v h => v = some (.int (Int32.ofNat x.log2)) ∧ h0 = h) h0 0 0 (mkF m 19 #[.val (.long (Int64.ofNat i)), .second, .val (.int (Int32.ofNat n))] []) := by
    intro i n h1 hn2 hr
    refine Wk.st (g' := (mkF m 20 #[.val (.long (Int64.ofNat i)), .second, .val (.int (Int32.ofNat n))] [(.long (Int64.ofNat i))])) (fun X t q => XS.lloadN X.here C.hx rfl (hb C.hby d11_19) rfl q) ?_
    refine Wk.st (g' := (mkF m 22 #[.val (.long (Int64.ofNat i)), .second, .val (.int (Int32.ofNat n))] [(.int (16 : Int32)), (.long (Int64.ofNat i))])) (fun X t q => XS.bipush X.here C.hx rfl (hb C.hby d11_20) q) ?_
    refine Wk.st (g' := (mkF m 23 #[.val (.long (Int64.ofNat i)), .second, .val (.int (Int32.ofNat n))] [(.long (((Int64.ofNat i).toUInt64 >>> ((16 : Int32) &&& 0x3f).toInt64.toUInt64).toInt64))])) (fun X t q => XS.lushr X.here C.hx rfl (hb C.hby d11_22) rfl q) ?_
    rw [show (((Int64.ofNat i).toUInt64 >>> ((16 : Int32) &&& 0x3f).toInt64.toUInt64).toInt64) = (Int64.ofNat (i / 2 ^ 16)) from shr64 (by omega) 16 16 (by decide) (by decide)]
    show Wk _ p l e _ s m _ below meth c n0 _ h0 0 0 (mkF m 23 #[.val (.long (Int64.ofNat i)), .second, .val (.int (Int32.ofNat n))] [(.long (Int64.ofNat (i / 2 ^ 16)))])
    refine Wk.st (g' := (mkF m 24 #[.val (.long (Int64.ofNat i)), .second, .val (.int (Int32.ofNat n))] [(.long (0 : Int64)), (.long (Int64.ofNat (i / 2 ^ 16)))])) (fun X t q => XS.lconst X.here C.hx rfl (hb C.hby d11_23) q) ?_
    refine Wk.st (g' := (mkF m 25 #[.val (.long (Int64.ofNat i)), .second, .val (.int (Int32.ofNat n))] [(.int (XT.cmpL (Int64.ofNat (i / 2 ^ 16)) (0 : Int64)))])) (fun X t q => XT.lcmp X.here C.hx rfl (hb C.hby d11_24) rfl q) ?_
    by_cases hb5 : (Int64.ofNat (i / 2 ^ 16)) = (0 : Int64)
    · skip
      refine Wk.st (g' := (mkF m 36 #[.val (.long (Int64.ofNat i)), .second, .val (.int (Int32.ofNat n))] [])) (fun X t q => XS.ifYes X.here C.hx rfl (pc0 := 25) (pc' := 36) rfl (hb C.hby d11_25) rfl (XT.ll_eq_t hb5) (by decide) (by decide) q) ?_
      have hg := is0L (by omega) hb5
      exact k36 i n (by omega) hn2 hr
    · skip
      refine Wk.st (g' := (mkF m 28 #[.val (.long (Int64.ofNat i)), .second, .val (.int (Int32.ofNat n))] [])) (fun X t q => XS.ifNo X.here C.hx rfl (hb C.hby d11_25) rfl (XT.ll_eq_f hb5) q) ?_
      refine Wk.st (g' := (mkF m 29 #[.val (.long (Int64.ofNat i)), .second, .val (.int (Int32.ofNat n))] [(.long (Int64.ofNat i))])) (fun X t q => XS.lloadN X.here C.hx rfl (hb C.hby d11_28) rfl q) ?_
      refine Wk.st (g' := (mkF m 31 #[.val (.long (Int64.ofNat i)), .second, .val (.int (Int32.ofNat n))] [(.int (16 : Int32)), (.long (Int64.ofNat i))])) (fun X t q => XS.bipush X.here C.hx rfl (hb C.hby d11_29) q) ?_
      refine Wk.st (g' := (mkF m 32 #[.val (.long (Int64.ofNat i)), .second, .val (.int (Int32.ofNat n))] [(.long (((Int64.ofNat i).toUInt64 >>> ((16 : Int32) &&& 0x3f).toInt64.toUInt64).toInt64))])) (fun X t q => XS.lushr X.here C.hx rfl (hb C.hby d11_31) rfl q) ?_
      rw [show (((Int64.ofNat i).toUInt64 >>> ((16 : Int32) &&& 0x3f).toInt64.toUInt64).toInt64) = (Int64.ofNat (i / 2 ^ 16)) from shr64 (by omega) 16 16 (by decide) (by decide)]
      show Wk _ p l e _ s m _ below meth c n0 _ h0 0 0 (mkF m 32 #[.val (.long (Int64.ofNat i)), .second, .val (.int (Int32.ofNat n))] [(.long (Int64.ofNat (i / 2 ^ 16)))])
      refine Wk.st (g' := (mkF m 33 #[.val (.long (Int64.ofNat (i / 2 ^ 16))), .second, .val (.int (Int32.ofNat n))] [])) (fun X t q => XS.lstoreN X.here C.hx rfl (hb C.hby d11_32) rfl (l' := #[.val (.long (Int64.ofNat (i / 2 ^ 16))), .second, .val (.int (Int32.ofNat n))]) rfl q) ?_
      refine Wk.st (g' := (mkF m 36 #[.val (.long (Int64.ofNat (i / 2 ^ 16))), .second, .val (.int ((Int32.ofNat n) + (16 : Int32)))] [])) (fun X t q => XS.iinc X.here C.hx rfl (hb C.hby d11_33) rfl (l' := #[.val (.long (Int64.ofNat (i / 2 ^ 16))), .second, .val (.int ((Int32.ofNat n) + (16 : Int32)))]) rfl q) ?_
      have hg := not0L hb5
      have e1 := log_div (i := i) (k := 16) (by omega)
      rw [show ((Int32.ofNat n) + (16 : Int32)) = (Int32.ofNat (n + 16)) from add32 (j := 16) (by omega)]
      show Wk _ p l e _ s m _ below meth c n0 _ h0 0 0 (mkF m 36 #[.val (.long (Int64.ofNat (i / 2 ^ 16))), .second, .val (.int (Int32.ofNat (n + 16)))] [])
      exact k36 (i / 2 ^ 16) (n + 16) (by omega) (by omega) (by omega)
  have k2 : ∀ i n : Nat, i < 9223372036854775808 → n < 1000 - i.log2 → n + i.log2 = x.log2 → Wk false p l e ({ frames := 0, cells := 0, slots := 0, locals := 0 } : Room) s m #[(.long (Int64.ofNat x))] below meth c n0 (fun v h => v = some (.int (Int32.ofNat x.log2)) ∧ h0 = h) h0 0 0 (mkF m 2 #[.val (.long (Int64.ofNat i)), .second, .val (.int (Int32.ofNat n))] []) := by
    intro i n h1 hn2 hr
    refine Wk.st (g' := (mkF m 3 #[.val (.long (Int64.ofNat i)), .second, .val (.int (Int32.ofNat n))] [(.long (Int64.ofNat i))])) (fun X t q => XS.lloadN X.here C.hx rfl (hb C.hby d11_2) rfl q) ?_
    refine Wk.st (g' := (mkF m 5 #[.val (.long (Int64.ofNat i)), .second, .val (.int (Int32.ofNat n))] [(.int (32 : Int32)), (.long (Int64.ofNat i))])) (fun X t q => XS.bipush X.here C.hx rfl (hb C.hby d11_3) q) ?_
    refine Wk.st (g' := (mkF m 6 #[.val (.long (Int64.ofNat i)), .second, .val (.int (Int32.ofNat n))] [(.long (((Int64.ofNat i).toUInt64 >>> ((32 : Int32) &&& 0x3f).toInt64.toUInt64).toInt64))])) (fun X t q => XS.lushr X.here C.hx rfl (hb C.hby d11_5) rfl q) ?_
    rw [show (((Int64.ofNat i).toUInt64 >>> ((32 : Int32) &&& 0x3f).toInt64.toUInt64).toInt64) = (Int64.ofNat (i / 2 ^ 32)) from shr64 (by omega) 32 32 (by decide) (by decide)]
    show Wk _ p l e _ s m _ below meth c n0 _ h0 0 0 (mkF m 6 #[.val (.long (Int64.ofNat i)), .second, .val (.int (Int32.ofNat n))] [(.long (Int64.ofNat (i / 2 ^ 32)))])
    refine Wk.st (g' := (mkF m 7 #[.val (.long (Int64.ofNat i)), .second, .val (.int (Int32.ofNat n))] [(.long (0 : Int64)), (.long (Int64.ofNat (i / 2 ^ 32)))])) (fun X t q => XS.lconst X.here C.hx rfl (hb C.hby d11_6) q) ?_
    refine Wk.st (g' := (mkF m 8 #[.val (.long (Int64.ofNat i)), .second, .val (.int (Int32.ofNat n))] [(.int (XT.cmpL (Int64.ofNat (i / 2 ^ 32)) (0 : Int64)))])) (fun X t q => XT.lcmp X.here C.hx rfl (hb C.hby d11_7) rfl q) ?_
    by_cases hb6 : (Int64.ofNat (i / 2 ^ 32)) = (0 : Int64)
    · skip
      refine Wk.st (g' := (mkF m 19 #[.val (.long (Int64.ofNat i)), .second, .val (.int (Int32.ofNat n))] [])) (fun X t q => XS.ifYes X.here C.hx rfl (pc0 := 8) (pc' := 19) rfl (hb C.hby d11_8) rfl (XT.ll_eq_t hb6) (by decide) (by decide) q) ?_
      have hg := is0L (by omega) hb6
      exact k19 i n (by omega) hn2 hr
    · skip
      refine Wk.st (g' := (mkF m 11 #[.val (.long (Int64.ofNat i)), .second, .val (.int (Int32.ofNat n))] [])) (fun X t q => XS.ifNo X.here C.hx rfl (hb C.hby d11_8) rfl (XT.ll_eq_f hb6) q) ?_
      refine Wk.st (g' := (mkF m 12 #[.val (.long (Int64.ofNat i)), .second, .val (.int (Int32.ofNat n))] [(.long (Int64.ofNat i))])) (fun X t q => XS.lloadN X.here C.hx rfl (hb C.hby d11_11) rfl q) ?_
      refine Wk.st (g' := (mkF m 14 #[.val (.long (Int64.ofNat i)), .second, .val (.int (Int32.ofNat n))] [(.int (32 : Int32)), (.long (Int64.ofNat i))])) (fun X t q => XS.bipush X.here C.hx rfl (hb C.hby d11_12) q) ?_
      refine Wk.st (g' := (mkF m 15 #[.val (.long (Int64.ofNat i)), .second, .val (.int (Int32.ofNat n))] [(.long (((Int64.ofNat i).toUInt64 >>> ((32 : Int32) &&& 0x3f).toInt64.toUInt64).toInt64))])) (fun X t q => XS.lushr X.here C.hx rfl (hb C.hby d11_14) rfl q) ?_
      rw [show (((Int64.ofNat i).toUInt64 >>> ((32 : Int32) &&& 0x3f).toInt64.toUInt64).toInt64) = (Int64.ofNat (i / 2 ^ 32)) from shr64 (by omega) 32 32 (by decide) (by decide)]
      show Wk _ p l e _ s m _ below meth c n0 _ h0 0 0 (mkF m 15 #[.val (.long (Int64.ofNat i)), .second, .val (.int (Int32.ofNat n))] [(.long (Int64.ofNat (i / 2 ^ 32)))])
      refine Wk.st (g' := (mkF m 16 #[.val (.long (Int64.ofNat (i / 2 ^ 32))), .second, .val (.int (Int32.ofNat n))] [])) (fun X t q => XS.lstoreN X.here C.hx rfl (hb C.hby d11_15) rfl (l' := #[.val (.long (Int64.ofNat (i / 2 ^ 32))), .second, .val (.int (Int32.ofNat n))]) rfl q) ?_
      refine Wk.st (g' := (mkF m 19 #[.val (.long (Int64.ofNat (i / 2 ^ 32))), .second, .val (.int ((Int32.ofNat n) + (32 : Int32)))] [])) (fun X t q => XS.iinc X.here C.hx rfl (hb C.hby d11_16) rfl (l' := #[.val (.long (Int64.ofNat (i / 2 ^ 32))), .second, .val (.int ((Int32.ofNat n) + (32 : Int32)))]) rfl q) ?_
      have hg := not0L hb6
      have e1 := log_div (i := i) (k := 32) (by omega)
      rw [show ((Int32.ofNat n) + (32 : Int32)) = (Int32.ofNat (n + 32)) from add32 (j := 32) (by omega)]
      show Wk _ p l e _ s m _ below meth c n0 _ h0 0 0 (mkF m 19 #[.val (.long (Int64.ofNat (i / 2 ^ 32))), .second, .val (.int (Int32.ofNat (n + 32)))] [])
      exact k19 (i / 2 ^ 32) (n + 32) (by omega) (by omega) (by omega)
  have hx62 : x.log2 ≤ 62 := log_le (by omega)
  exact k2 x 0 hx (by omega) (by omega)
theorem d10_0 : decode method_3_code 0 = .ok (.lload_n 0, 1) := by decide +kernel
theorem d10_1 : decode method_3_code 1 = .ok (.lload_n 2, 1) := by decide +kernel
theorem d10_2 : decode method_3_code 2 = .ok (.invokestatic 7, 3) := by decide +kernel
theorem d10_5 : decode method_3_code 5 = .ok (.lstore 4, 2) := by decide +kernel
theorem d10_7 : decode method_3_code 7 = .ok (.iconst 0, 1) := by decide +kernel
theorem d10_8 : decode method_3_code 8 = .ok (.lload 4, 2) := by decide +kernel
theorem d10_10 : decode method_3_code 10 = .ok (.invokestatic 13, 3) := by decide +kernel
theorem d10_13 : decode method_3_code 13 = .ok (.bipush 7, 2) := by decide +kernel
theorem d10_15 : decode method_3_code 15 = .ok (.isub, 1) := by decide +kernel
theorem d10_16 : decode method_3_code 16 = .ok (.invokestatic 19, 3) := by decide +kernel
theorem d10_19 : decode method_3_code 19 = .ok (.istore 6, 2) := by decide +kernel
theorem d10_21 : decode method_3_code 21 = .ok (.lload_n 0, 1) := by decide +kernel
theorem d10_22 : decode method_3_code 22 = .ok (.iload 6, 2) := by decide +kernel
theorem d10_24 : decode method_3_code 24 = .ok (.lushr, 1) := by decide +kernel
theorem d10_25 : decode method_3_code 25 = .ok (.lload_n 2, 1) := by decide +kernel
theorem d10_26 : decode method_3_code 26 = .ok (.iload 6, 2) := by decide +kernel
theorem d10_28 : decode method_3_code 28 = .ok (.lushr, 1) := by decide +kernel
theorem d10_29 : decode method_3_code 29 = .ok (.lcmp, 1) := by decide +kernel
theorem d10_30 : decode method_3_code 30 = .ok (.ifCond .ne 7, 3) := by decide +kernel
theorem d10_33 : decode method_3_code 33 = .ok (.iconst 1, 1) := by decide +kernel
theorem d10_34 : decode method_3_code 34 = .ok (.goto 4, 3) := by decide +kernel
theorem d10_37 : decode method_3_code 37 = .ok (.iconst 0, 1) := by decide +kernel
theorem d10_38 : decode method_3_code 38 = .ok (.ireturn, 1) := by decide +kernel
set_option maxRecDepth 65536 in
set_option maxHeartbeats 40000000 in
theorem own_same (l : Launch) (Z : State) (a0 : Array Value) (hw : ∀ d ∈ tables_1, d.before a0 Z = true) (n0 : Nat) (h0 : Heap) (x y : Nat) (hx : x < 9223372036854775808) (hy : y < 9223372036854775808) :
    Met false l Z n0 (⟨"com/example/headroom/headroom/HistogramValueAtPinLaw", "sameBucket", "(JJ)Z"⟩ : MethodName) method_3_code 7 (some .boolean) ({ frames := 1, cells := 0, slots := 0, locals := 15 } : Room) #[(.long (Int64.ofNat x)), (.long (Int64.ofNat y))] h0 (fun v h => v = some (.int (if Ky x = Ky y then (1 : Int32) else (0 : Int32))) ∧ h0 = h) := by
  refine Met.of (plainFor_of_name pn_2) #[.val (.long (Int64.ofNat x)), .second, .val (.long (Int64.ofNat y)), .second, .unset, .unset, .unset] (fun m => by first | (simp [entryFrame, mkF, argsToLocals, Value.category]; done) | rfl) ?_
  intro p e s m below meth c C
  refine Wk.st (g' := (mkF m 1 #[.val (.long (Int64.ofNat x)), .second, .val (.long (Int64.ofNat y)), .second, .unset, .unset, .unset] [(.long (Int64.ofNat x))])) (fun X t q => XS.lloadN X.here C.hx rfl (hb C.hby d10_0) rfl q) ?_
  refine Wk.st (g' := (mkF m 2 #[.val (.long (Int64.ofNat x)), .second, .val (.long (Int64.ofNat y)), .second, .unset, .unset, .unset] [(.long (Int64.ofNat y)), (.long (Int64.ofNat x))])) (fun X t q => XS.lloadN X.here C.hx rfl (hb C.hby d10_1) rfl q) ?_
  refine Wk.callS C (z := (⟨"java/lang/Math", "max", "(JJ)J"⟩ : MethodName)) (hw _ (List.mem_of_getElem? (i := 47) rfl)) (hw _ (List.mem_of_getElem? (i := 48) rfl)) (hw _ (List.mem_of_getElem? (i := 34) rfl)) (hw _ (List.mem_of_getElem? (i := 49) rfl)) (by decide) (own_maxJ l Z a0 hw n0 h0 x y hx hy) (w := 0) (by decide) (by decide) pd_1 rfl (rest := []) rfl rfl (Nat.le_of_eq rfl) (by decide) (by decide) d10_2 ?_
  rintro _ _ ⟨rfl, rfl⟩
  show Wk _ p l e _ s m _ below meth c n0 _ h0 0 0 (mkF m 5 #[.val (.long (Int64.ofNat x)), .second, .val (.long (Int64.ofNat y)), .second, .unset, .unset, .unset] [(.long (Int64.ofNat (max x y)))])
  refine Wk.st (g' := (mkF m 7 #[.val (.long (Int64.ofNat x)), .second, .val (.long (Int64.ofNat y)), .second, .val (.long (Int64.ofNat (max x y))), .second, .unset] [])) (fun X t q => XS.lstore X.here C.hx rfl (hb C.hby d10_5) rfl (l' := #[.val (.long (Int64.ofNat x)), .second, .val (.long (Int64.ofNat y)), .second, .val (.long (Int64.ofNat (max x y))), .second, .unset]) rfl q) ?_
  refine Wk.st (g' := (mkF m 8 #[.val (.long (Int64.ofNat x)), .second, .val (.long (Int64.ofNat y)), .second, .val (.long (Int64.ofNat (max x y))), .second, .unset] [(.int (0 : Int32))])) (fun X t q => XS.iconst X.here C.hx rfl (hb C.hby d10_7) q) ?_
  refine Wk.st (g' := (mkF m 10 #[.val (.long (Int64.ofNat x)), .second, .val (.long (Int64.ofNat y)), .second, .val (.long (Int64.ofNat (max x y))), .second, .unset] [(.long (Int64.ofNat (max x y))), (.int (0 : Int32))])) (fun X t q => XS.lload X.here C.hx rfl (hb C.hby d10_8) rfl q) ?_
  have hm62 : (max x y).log2 ≤ 62 := log_le (by omega)
  refine Wk.callS C (z := (⟨"com/example/headroom/headroom/HistogramValueAtPinLaw", "mag", "(J)I"⟩ : MethodName)) (hw _ (List.mem_of_getElem? (i := 54) rfl)) (hw _ (List.mem_of_getElem? (i := 55) rfl)) (hw _ (List.mem_of_getElem? (i := 52) rfl)) (hw _ (List.mem_of_getElem? (i := 56) rfl)) (by decide) (own_mag l Z a0 hw n0 h0 (max x y) (by omega)) (w := 1) (by decide) (by decide) pd_2 rfl (rest := [(.int (0 : Int32))]) rfl rfl (Nat.le_of_eq rfl) (by decide) (by decide) d10_10 ?_
  rintro _ _ ⟨rfl, rfl⟩
  show Wk _ p l e _ s m _ below meth c n0 _ h0 0 0 (mkF m 13 #[.val (.long (Int64.ofNat x)), .second, .val (.long (Int64.ofNat y)), .second, .val (.long (Int64.ofNat (max x y))), .second, .unset] [(.int (Int32.ofNat (max x y).log2)), (.int (0 : Int32))])
  refine Wk.st (g' := (mkF m 15 #[.val (.long (Int64.ofNat x)), .second, .val (.long (Int64.ofNat y)), .second, .val (.long (Int64.ofNat (max x y))), .second, .unset] [(.int (7 : Int32)), (.int (Int32.ofNat (max x y).log2)), (.int (0 : Int32))])) (fun X t q => XS.bipush X.here C.hx rfl (hb C.hby d10_13) q) ?_
  refine Wk.st (g' := (mkF m 16 #[.val (.long (Int64.ofNat x)), .second, .val (.long (Int64.ofNat y)), .second, .val (.long (Int64.ofNat (max x y))), .second, .unset] [(.int ((Int32.ofNat (max x y).log2) - (7 : Int32))), (.int (0 : Int32))])) (fun X t q => XS.isub X.here C.hx rfl (hb C.hby d10_15) rfl q) ?_
  refine Wk.callS C (z := (⟨"java/lang/Math", "max", "(II)I"⟩ : MethodName)) (hw _ (List.mem_of_getElem? (i := 57) rfl)) (hw _ (List.mem_of_getElem? (i := 33) rfl)) (hw _ (List.mem_of_getElem? (i := 34) rfl)) (hw _ (List.mem_of_getElem? (i := 35) rfl)) (by decide) (own_maxI l Z a0 hw n0 h0 (0 : Int32) ((Int32.ofNat (max x y).log2) - (7 : Int32))) (w := 0) (by decide) (by decide) pd_3 rfl (rest := []) rfl rfl (Nat.le_of_eq rfl) (by decide) (by decide) d10_16 ?_
  rintro _ _ ⟨rfl, rfl⟩
  show Wk _ p l e _ s m _ below meth c n0 _ h0 0 0 (mkF m 19 #[.val (.long (Int64.ofNat x)), .second, .val (.long (Int64.ofNat y)), .second, .val (.long (Int64.ofNat (max x y))), .second, .unset] [(.int (if (0 : Int32) < ((Int32.ofNat (max x y).log2) - (7 : Int32)) then ((Int32.ofNat (max x y).log2) - (7 : Int32)) else (0 : Int32)))])
  refine Wk.st (g' := (mkF m 21 #[.val (.long (Int64.ofNat x)), .second, .val (.long (Int64.ofNat y)), .second, .val (.long (Int64.ofNat (max x y))), .second, .val (.int (if (0 : Int32) < ((Int32.ofNat (max x y).log2) - (7 : Int32)) then ((Int32.ofNat (max x y).log2) - (7 : Int32)) else (0 : Int32)))] [])) (fun X t q => XS.istore X.here C.hx rfl (hb C.hby d10_19) rfl (l' := #[.val (.long (Int64.ofNat x)), .second, .val (.long (Int64.ofNat y)), .second, .val (.long (Int64.ofNat (max x y))), .second, .val (.int (if (0 : Int32) < ((Int32.ofNat (max x y).log2) - (7 : Int32)) then ((Int32.ofNat (max x y).log2) - (7 : Int32)) else (0 : Int32)))]) rfl q) ?_
  rw [show (if (0 : Int32) < ((Int32.ofNat (max x y).log2) - (7 : Int32)) then ((Int32.ofNat (max x y).log2) - (7 : Int32)) else (0 : Int32)) = (Int32.ofNat ((max x y).log2 - 7)) from sh_of (by omega)]
  show Wk _ p l e _ s m _ below meth c n0 _ h0 0 0 (mkF m 21 #[.val (.long (Int64.ofNat x)), .second, .val (.long (Int64.ofNat y)), .second, .val (.long (Int64.ofNat (max x y))), .second, .val (.int (Int32.ofNat ((max x y).log2 - 7)))] [])
  refine Wk.st (g' := (mkF m 22 #[.val (.long (Int64.ofNat x)), .second, .val (.long (Int64.ofNat y)), .second, .val (.long (Int64.ofNat (max x y))), .second, .val (.int (Int32.ofNat ((max x y).log2 - 7)))] [(.long (Int64.ofNat x))])) (fun X t q => XS.lloadN X.here C.hx rfl (hb C.hby d10_21) rfl q) ?_
  refine Wk.st (g' := (mkF m 24 #[.val (.long (Int64.ofNat x)), .second, .val (.long (Int64.ofNat y)), .second, .val (.long (Int64.ofNat (max x y))), .second, .val (.int (Int32.ofNat ((max x y).log2 - 7)))] [(.int (Int32.ofNat ((max x y).log2 - 7))), (.long (Int64.ofNat x))])) (fun X t q => XS.iload X.here C.hx rfl (hb C.hby d10_22) rfl q) ?_
  refine Wk.st (g' := (mkF m 25 #[.val (.long (Int64.ofNat x)), .second, .val (.long (Int64.ofNat y)), .second, .val (.long (Int64.ofNat (max x y))), .second, .val (.int (Int32.ofNat ((max x y).log2 - 7)))] [(.long (((Int64.ofNat x).toUInt64 >>> ((Int32.ofNat ((max x y).log2 - 7)) &&& 0x3f).toInt64.toUInt64).toInt64))])) (fun X t q => XS.lushr X.here C.hx rfl (hb C.hby d10_24) rfl q) ?_
  rw [show (((Int64.ofNat x).toUInt64 >>> ((Int32.ofNat ((max x y).log2 - 7)) &&& 0x3f).toInt64.toUInt64).toInt64) = (Int64.ofNat (x / 2 ^ ((max x y).log2 - 7))) from shrv hx (by omega)]
  show Wk _ p l e _ s m _ below meth c n0 _ h0 0 0 (mkF m 25 #[.val (.long (Int64.ofNat x)), .second, .val (.long (Int64.ofNat y)), .second, .val (.long (Int64.ofNat (max x y))), .second, .val (.int (Int32.ofNat ((max x y).log2 - 7)))] [(.long (Int64.ofNat (x / 2 ^ ((max x y).log2 - 7))))])
  refine Wk.st (g' := (mkF m 26 #[.val (.long (Int64.ofNat x)), .second, .val (.long (Int64.ofNat y)), .second, .val (.long (Int64.ofNat (max x y))), .second, .val (.int (Int32.ofNat ((max x y).log2 - 7)))] [(.long (Int64.ofNat y)), (.long (Int64.ofNat (x / 2 ^ ((max x y).log2 - 7))))])) (fun X t q => XS.lloadN X.here C.hx rfl (hb C.hby d10_25) rfl q) ?_
  refine Wk.st (g' := (mkF m 28 #[.val (.long (Int64.ofNat x)), .second, .val (.long (Int64.ofNat y)), .second, .val (.long (Int64.ofNat (max x y))), .second, .val (.int (Int32.ofNat ((max x y).log2 - 7)))] [(.int (Int32.ofNat ((max x y).log2 - 7))), (.long (Int64.ofNat y)), (.long (Int64.ofNat (x / 2 ^ ((max x y).log2 - 7))))])) (fun X t q => XS.iload X.here C.hx rfl (hb C.hby d10_26) rfl q) ?_
  refine Wk.st (g' := (mkF m 29 #[.val (.long (Int64.ofNat x)), .second, .val (.long (Int64.ofNat y)), .second, .val (.long (Int64.ofNat (max x y))), .second, .val (.int (Int32.ofNat ((max x y).log2 - 7)))] [(.long (((Int64.ofNat y).toUInt64 >>> ((Int32.ofNat ((max x y).log2 - 7)) &&& 0x3f).toInt64.toUInt64).toInt64)), (.long (Int64.ofNat (x / 2 ^ ((max x y).log2 - 7))))])) (fun X t q => XS.lushr X.here C.hx rfl (hb C.hby d10_28) rfl q) ?_
  rw [show (((Int64.ofNat y).toUInt64 >>> ((Int32.ofNat ((max x y).log2 - 7)) &&& 0x3f).toInt64.toUInt64).toInt64) = (Int64.ofNat (y / 2 ^ ((max x y).log2 - 7))) from shrv hy (by omega)]
  show Wk _ p l e _ s m _ below meth c n0 _ h0 0 0 (mkF m 29 #[.val (.long (Int64.ofNat x)), .second, .val (.long (Int64.ofNat y)), .second, .val (.long (Int64.ofNat (max x y))), .second, .val (.int (Int32.ofNat ((max x y).log2 - 7)))] [(.long (Int64.ofNat (y / 2 ^ ((max x y).log2 - 7)))), (.long (Int64.ofNat (x / 2 ^ ((max x y).log2 - 7))))])
  refine Wk.st (g' := (mkF m 30 #[.val (.long (Int64.ofNat x)), .second, .val (.long (Int64.ofNat y)), .second, .val (.long (Int64.ofNat (max x y))), .second, .val (.int (Int32.ofNat ((max x y).log2 - 7)))] [(.int (XT.cmpL (Int64.ofNat (x / 2 ^ ((max x y).log2 - 7))) (Int64.ofNat (y / 2 ^ ((max x y).log2 - 7)))))])) (fun X t q => XT.lcmp X.here C.hx rfl (hb C.hby d10_29) rfl q) ?_
  by_cases hb1 : (Int64.ofNat (x / 2 ^ ((max x y).log2 - 7))) = (Int64.ofNat (y / 2 ^ ((max x y).log2 - 7)))
  · skip
    refine Wk.st (g' := (mkF m 33 #[.val (.long (Int64.ofNat x)), .second, .val (.long (Int64.ofNat y)), .second, .val (.long (Int64.ofNat (max x y))), .second, .val (.int (Int32.ofNat ((max x y).log2 - 7)))] [])) (fun X t q => XS.ifNo X.here C.hx rfl (hb C.hby d10_30) rfl (XT.ll_ne_f hb1) q) ?_
    refine Wk.st (g' := (mkF m 34 #[.val (.long (Int64.ofNat x)), .second, .val (.long (Int64.ofNat y)), .second, .val (.long (Int64.ofNat (max x y))), .second, .val (.int (Int32.ofNat ((max x y).log2 - 7)))] [(.int (1 : Int32))])) (fun X t q => XS.iconst X.here C.hx rfl (hb C.hby d10_33) q) ?_
    refine Wk.st (g' := (mkF m 38 #[.val (.long (Int64.ofNat x)), .second, .val (.long (Int64.ofNat y)), .second, .val (.long (Int64.ofNat (max x y))), .second, .val (.int (Int32.ofNat ((max x y).log2 - 7)))] [(.int (1 : Int32))])) (fun X t q => XS.goto X.here C.hx rfl (pc0 := 34) (pc' := 38) rfl (hb C.hby d10_34) (by decide) (by decide) q) ?_
    have l1 : x / 2 ^ ((max x y).log2 - 7) < 9223372036854775808 := Nat.lt_of_le_of_lt (Nat.div_le_self _ _) hx
    have l2 : y / 2 ^ ((max x y).log2 - 7) < 9223372036854775808 := Nat.lt_of_le_of_lt (Nat.div_le_self _ _) hy
    exact Wk.retV C (t := .boolean) rfl rfl (Or.inl ⟨rfl, by simp, _, rfl⟩) d10_38 (by decide) (by decide) ⟨congrArg (fun z => some (Value.int z)) (if_pos (key_eq.mp ((eq64 l1 l2).mp hb1))).symm, rfl⟩
  · skip
    refine Wk.st (g' := (mkF m 37 #[.val (.long (Int64.ofNat x)), .second, .val (.long (Int64.ofNat y)), .second, .val (.long (Int64.ofNat (max x y))), .second, .val (.int (Int32.ofNat ((max x y).log2 - 7)))] [])) (fun X t q => XS.ifYes X.here C.hx rfl (pc0 := 30) (pc' := 37) rfl (hb C.hby d10_30) rfl (XT.ll_ne_t hb1) (by decide) (by decide) q) ?_
    refine Wk.st (g' := (mkF m 38 #[.val (.long (Int64.ofNat x)), .second, .val (.long (Int64.ofNat y)), .second, .val (.long (Int64.ofNat (max x y))), .second, .val (.int (Int32.ofNat ((max x y).log2 - 7)))] [(.int (0 : Int32))])) (fun X t q => XS.iconst X.here C.hx rfl (hb C.hby d10_37) q) ?_
    have l1 : x / 2 ^ ((max x y).log2 - 7) < 9223372036854775808 := Nat.lt_of_le_of_lt (Nat.div_le_self _ _) hx
    have l2 : y / 2 ^ ((max x y).log2 - 7) < 9223372036854775808 := Nat.lt_of_le_of_lt (Nat.div_le_self _ _) hy
    exact Wk.retV C (t := .boolean) rfl rfl (Or.inl ⟨rfl, by simp, _, rfl⟩) d10_38 (by decide) (by decide) ⟨congrArg (fun z => some (Value.int z)) (if_neg (fun q => hb1 ((eq64 l1 l2).mpr (key_eq.mpr q)))).symm, rfl⟩
theorem d7_0 : decode prog_8_method_6_code 0 = .ok (.aload_n 0, 1) := by decide +kernel
theorem d7_1 : decode prog_8_method_6_code 1 = .ok (.getfield 13, 3) := by decide +kernel
theorem d7_4 : decode prog_8_method_6_code 4 = .ok (.iload_n 1, 1) := by decide +kernel
theorem d7_5 : decode prog_8_method_6_code 5 = .ok (.aaload, 1) := by decide +kernel
theorem d7_6 : decode prog_8_method_6_code 6 = .ok (.ifnonnull 14, 3) := by decide +kernel
theorem d7_9 : decode prog_8_method_6_code 9 = .ok (.aload_n 0, 1) := by decide +kernel
theorem d7_10 : decode prog_8_method_6_code 10 = .ok (.getfield 13, 3) := by decide +kernel
theorem d7_13 : decode prog_8_method_6_code 13 = .ok (.iload_n 1, 1) := by decide +kernel
theorem d7_14 : decode prog_8_method_6_code 14 = .ok (.sipush 256, 3) := by decide +kernel
theorem d7_17 : decode prog_8_method_6_code 17 = .ok (.newarray .long, 2) := by decide +kernel
theorem d7_19 : decode prog_8_method_6_code 19 = .ok (.aastore, 1) := by decide +kernel
theorem d7_20 : decode prog_8_method_6_code 20 = .ok (.aload_n 0, 1) := by decide +kernel
theorem d7_21 : decode prog_8_method_6_code 21 = .ok (.getfield 13, 3) := by decide +kernel
theorem d7_24 : decode prog_8_method_6_code 24 = .ok (.iload_n 1, 1) := by decide +kernel
theorem d7_25 : decode prog_8_method_6_code 25 = .ok (.aaload, 1) := by decide +kernel
theorem d7_26 : decode prog_8_method_6_code 26 = .ok (.areturn, 1) := by decide +kernel
set_option maxRecDepth 65536 in
set_option maxHeartbeats 40000000 in
theorem own_row (l : Launch) (Z : State) (a0 : Array Value) (hw : ∀ d ∈ tables_1, d.before a0 Z = true) (n0 : Nat) (h0 : Heap) (hsz : n0 ≤ h0.size) (ws : List Addr) (o ro rc : Addr) (κ : Nat → Value) (cnt : Nat) (g : Nat → Nat) (f : Nat → Nat → Nat) (HH : HI Z h0 n0 ws o ro rc κ cnt g f) (r : Nat) (hr : r < 57) :
    Met false l Z n0 (⟨"com/example/headroom/headroom/Histogram", "row", "(I)[J"⟩ : MethodName) prog_8_method_6_code 2 (some (.array .long)) ({ frames := 0, cells := 1, slots := 256, locals := 0 } : Room) #[(.ref o), (.int (Int32.ofNat r))] h0 (fun v h => ∃ (b : Addr) (κ' : Nat → Value) (ws' : List Addr), v = some (.ref b) ∧ HI Z h n0 ws' o ro rc κ' cnt g f ∧ κ' r = .ref b ∧ Keep h0 h ws ∧ Grow h0 ws ws') := by
  refine Met.of (plainFor_of_name pn_3) #[.val (.ref o), .val (.int (Int32.ofNat r))] (fun m => by first | (simp [entryFrame, mkF, argsToLocals, Value.category]; done) | rfl) ?_
  intro p e s m below meth c C
  have xE := HH.1
  have xR := HH.2.1
  have xC := HH.2.2.1
  have xN := HH.2.2.2.1
  have xA := HH.2.2.2.2.1
  have xG := HH.2.2.2.2.2.1
  have xS := HH.sep
  rcases HH.2.2.2.2.2.2.1 r hr with ⟨hn, -, -⟩ | ⟨b, hb0, -⟩
  · skip
    refine Wk.st (g' := (mkF m 1 #[.val (.ref o), .val (.int (Int32.ofNat r))] [(.ref o)])) (fun X t q => XS.aloadN X.here C.hx rfl (hb C.hby d7_0) rfl rfl q) ?_
    refine Wk.getF C (hw _ (List.mem_of_getElem? (i := 13) rfl)) Via.refl xR d7_1 ?_
    show Wk _ p l e _ s m _ below meth c n0 _ h0 0 0 (mkF m 4 #[.val (.ref o), .val (.int (Int32.ofNat r))] [(.ref ro)])
    refine Wk.st (g' := (mkF m 5 #[.val (.ref o), .val (.int (Int32.ofNat r))] [(.int (Int32.ofNat r)), (.ref ro)])) (fun X t q => XS.iloadN X.here C.hx rfl (hb C.hby d7_4) rfl q) ?_
    refine Wk.fLdA C xA (cl32 (by omega)) (nn32 (by omega)) (by omega) (v := .null) (hn) d7_5 ?_
    show Wk _ p l e _ s m _ below meth c n0 _ h0 0 0 (mkF m 6 #[.val (.ref o), .val (.int (Int32.ofNat r))] [.null])
    refine Wk.st (g' := (mkF m 9 #[.val (.ref o), .val (.int (Int32.ofNat r))] [])) (fun X t q => XS.ifnonnullNo X.here C.hx rfl (hb C.hby d7_6) rfl q) ?_
    refine Wk.st (g' := (mkF m 10 #[.val (.ref o), .val (.int (Int32.ofNat r))] [(.ref o)])) (fun X t q => XS.aloadN X.here C.hx rfl (hb C.hby d7_9) rfl rfl q) ?_
    refine Wk.getF C (hw _ (List.mem_of_getElem? (i := 13) rfl)) Via.refl xR d7_10 ?_
    show Wk _ p l e _ s m _ below meth c n0 _ h0 0 0 (mkF m 13 #[.val (.ref o), .val (.int (Int32.ofNat r))] [(.ref ro)])
    refine Wk.st (g' := (mkF m 14 #[.val (.ref o), .val (.int (Int32.ofNat r))] [(.int (Int32.ofNat r)), (.ref ro)])) (fun X t q => XS.iloadN X.here C.hx rfl (hb C.hby d7_13) rfl q) ?_
    refine Wk.st (g' := (mkF m 17 #[.val (.ref o), .val (.int (Int32.ofNat r))] [(.int (256 : Int32)), (.int (Int32.ofNat r)), (.ref ro)])) (fun X t q => XS.sipush X.here C.hx rfl (hb C.hby d7_14) q) ?_
    refine Wk.fNewP C (hw _ (List.mem_of_getElem? (i := 15) rfl)) (ty := .long) (dv := (.long (0 : Int64))) (N := 256) (ad := "[J") rfl rfl (by decide) (by decide) (by decide) (cap := 256) (by decide) (by decide) d7_17 (by decide) (by decide) ?_
    intro h1 b2 g3 E4 A5 F6
    have ne7 : o ≠ b2 := Nat.ne_of_lt (Nat.lt_of_lt_of_le xE.lt (Nat.le_of_eq g3.symm))
    have ne8 : ro ≠ b2 := Nat.ne_of_lt (Nat.lt_of_lt_of_le xA.lt (Nat.le_of_eq g3.symm))
    have ne9 : rc ≠ b2 := Nat.ne_of_lt (Nat.lt_of_lt_of_le xG.lt (Nat.le_of_eq g3.symm))
    have ge10 : n0 ≤ b2 := Nat.le_trans hsz (Nat.le_of_eq g3.symm)
    have gz11 : h0.size ≤ b2 := Nat.le_trans (Nat.le_refl h0.size) (Nat.le_of_eq g3.symm)
    have F12 : Exa Z h1 o "com/example/headroom/headroom/Histogram" := xE.ext E4
    have F13 : Fld Z h1 o "com/example/headroom/headroom/Histogram" "rows" "[[J" (.ref ro) := xR.ext E4
    have F14 : Fld Z h1 o "com/example/headroom/headroom/Histogram" "rowCounts" "[J" (.ref rc) := xC.ext E4
    have F15 : Fld Z h1 o "com/example/headroom/headroom/Histogram" "count" "J" (.long (Int64.ofNat cnt)) := xN.ext E4
    have F16 : FaA Z h1 ro .long "[J" 57 κ := xA.ext E4
    have F17 : Fa Z h1 rc .long 57 (LF g) := xG.ext E4
    have sz18 : n0 ≤ h1.size := Nat.le_trans hsz E4.1
    have sy19 : h0.size ≤ h1.size := Nat.le_trans (Nat.le_refl h0.size) E4.1
    have K20 := (Keep.refl h0 [ro]).ext E4
    show Wk _ p l e _ s m _ below meth c n0 _ h1 1 256 (mkF m 19 #[.val (.ref o), .val (.int (Int32.ofNat r))] [(.ref b2), (.int (Int32.ofNat r)), (.ref ro)])
    refine Wk.fStA C F16 (cl32 (by omega)) (nn32 (by omega)) (by omega) (F16.sto A5) (xS.2.2.2.2.2.2.2.2 _ xS.2.2.2.2.2.2.1).1 d7_19 ?_
    intro h21 W22 F23
    have F24 : Exa Z h21 o "com/example/headroom/headroom/Histogram" := F12.wr W22
    have F25 : Fld Z h21 o "com/example/headroom/headroom/Histogram" "rows" "[[J" (.ref ro) := F13.other W22 (Or.inl xS.1)
    have F26 : Fld Z h21 o "com/example/headroom/headroom/Histogram" "rowCounts" "[J" (.ref rc) := F14.other W22 (Or.inl xS.1)
    have F27 : Fld Z h21 o "com/example/headroom/headroom/Histogram" "count" "J" (.long (Int64.ofNat cnt)) := F15.other W22 (Or.inl xS.1)
    have F28 : Fa Z h21 rc .long 57 (LF g) := F17.other W22 (Ne.symm xS.2.2.1)
    have F29 : Exa Z h21 b2 "[J" := A5.wr W22
    have F30 : Fa Z h21 b2 .long 256 (fun _ => (.long (0 : Int64))) := F6.other W22 (Ne.symm ne8)
    have sz31 : n0 ≤ h21.size := Nat.le_trans sz18 (Nat.le_of_eq W22.size.symm)
    have sy32 : h0.size ≤ h21.size := Nat.le_trans sy19 (Nat.le_of_eq W22.size.symm)
    have K33 := K20.wr W22 (Or.inl (by simp))
    show Wk _ p l e _ s m _ below meth c n0 _ h21 1 256 (mkF m 20 #[.val (.ref o), .val (.int (Int32.ofNat r))] [])
    refine Wk.st (g' := (mkF m 21 #[.val (.ref o), .val (.int (Int32.ofNat r))] [(.ref o)])) (fun X t q => XS.aloadN X.here C.hx rfl (hb C.hby d7_20) rfl rfl q) ?_
    refine Wk.getF C (hw _ (List.mem_of_getElem? (i := 13) rfl)) Via.refl F25 d7_21 ?_
    show Wk _ p l e _ s m _ below meth c n0 _ h21 1 256 (mkF m 24 #[.val (.ref o), .val (.int (Int32.ofNat r))] [(.ref ro)])
    refine Wk.st (g' := (mkF m 25 #[.val (.ref o), .val (.int (Int32.ofNat r))] [(.int (Int32.ofNat r)), (.ref ro)])) (fun X t q => XS.iloadN X.here C.hx rfl (hb C.hby d7_24) rfl q) ?_
    refine Wk.fLdA C F23 (cl32 (by omega)) (nn32 (by omega)) (by omega) (v := (.ref b2)) (up_eq rfl) d7_25 ?_
    show Wk _ p l e _ s m _ below meth c n0 _ h21 1 256 (mkF m 26 #[.val (.ref o), .val (.int (Int32.ofNat r))] [(.ref b2)])
    exact Wk.retV C (t := (.array .long)) rfl rfl (Or.inr (Or.inr (Or.inr (Or.inr ⟨rfl, rfl, rfl⟩)))) d7_26 (by decide) (by decide) ⟨b2, _, _, rfl, HH.born hr hn K33 hsz gz11 F23 F30, up_eq rfl, (Keep.refl h0 ws).trans K33 (nvS (Or.inl HH.sep.2.2.2.2.2.2.1) nv0), fun a ha => (List.mem_cons.mp ha).elim (fun e => Or.inr (e ▸ gz11)) Or.inl⟩
  · skip
    refine Wk.st (g' := (mkF m 1 #[.val (.ref o), .val (.int (Int32.ofNat r))] [(.ref o)])) (fun X t q => XS.aloadN X.here C.hx rfl (hb C.hby d7_0) rfl rfl q) ?_
    refine Wk.getF C (hw _ (List.mem_of_getElem? (i := 13) rfl)) Via.refl xR d7_1 ?_
    show Wk _ p l e _ s m _ below meth c n0 _ h0 0 0 (mkF m 4 #[.val (.ref o), .val (.int (Int32.ofNat r))] [(.ref ro)])
    refine Wk.st (g' := (mkF m 5 #[.val (.ref o), .val (.int (Int32.ofNat r))] [(.int (Int32.ofNat r)), (.ref ro)])) (fun X t q => XS.iloadN X.here C.hx rfl (hb C.hby d7_4) rfl q) ?_
    refine Wk.fLdA C xA (cl32 (by omega)) (nn32 (by omega)) (by omega) (v := (.ref b)) (hb0) d7_5 ?_
    show Wk _ p l e _ s m _ below meth c n0 _ h0 0 0 (mkF m 6 #[.val (.ref o), .val (.int (Int32.ofNat r))] [(.ref b)])
    refine Wk.st (g' := (mkF m 20 #[.val (.ref o), .val (.int (Int32.ofNat r))] [])) (fun X t q => XS.ifnonnullYes X.here C.hx rfl (pc0 := 6) (pc' := 20) rfl (hb C.hby d7_6) rfl (by decide) (by decide) q) ?_
    refine Wk.st (g' := (mkF m 21 #[.val (.ref o), .val (.int (Int32.ofNat r))] [(.ref o)])) (fun X t q => XS.aloadN X.here C.hx rfl (hb C.hby d7_20) rfl rfl q) ?_
    refine Wk.getF C (hw _ (List.mem_of_getElem? (i := 13) rfl)) Via.refl xR d7_21 ?_
    show Wk _ p l e _ s m _ below meth c n0 _ h0 0 0 (mkF m 24 #[.val (.ref o), .val (.int (Int32.ofNat r))] [(.ref ro)])
    refine Wk.st (g' := (mkF m 25 #[.val (.ref o), .val (.int (Int32.ofNat r))] [(.int (Int32.ofNat r)), (.ref ro)])) (fun X t q => XS.iloadN X.here C.hx rfl (hb C.hby d7_24) rfl q) ?_
    refine Wk.fLdA C xA (cl32 (by omega)) (nn32 (by omega)) (by omega) (v := (.ref b)) (hb0) d7_25 ?_
    show Wk _ p l e _ s m _ below meth c n0 _ h0 0 0 (mkF m 26 #[.val (.ref o), .val (.int (Int32.ofNat r))] [(.ref b)])
    exact Wk.retV C (t := (.array .long)) rfl rfl (Or.inr (Or.inr (Or.inr (Or.inr ⟨rfl, rfl, rfl⟩)))) d7_26 (by decide) (by decide) ⟨b, κ, ws, rfl, HH, hb0, Keep.refl _ _, fun a ha => Or.inl ha⟩
theorem d3_0 : decode prog_8_method_2_code 0 = .ok (.bipush 63, 2) := by decide +kernel
theorem d3_2 : decode prog_8_method_2_code 2 = .ok (.lload_n 1, 1) := by decide +kernel
theorem d3_3 : decode prog_8_method_2_code 3 = .ok (.invokestatic 20, 3) := by decide +kernel
theorem d3_6 : decode prog_8_method_2_code 6 = .ok (.isub, 1) := by decide +kernel
theorem d3_7 : decode prog_8_method_2_code 7 = .ok (.istore_n 3, 1) := by decide +kernel
theorem d3_8 : decode prog_8_method_2_code 8 = .ok (.iconst 0, 1) := by decide +kernel
theorem d3_9 : decode prog_8_method_2_code 9 = .ok (.iload_n 3, 1) := by decide +kernel
theorem d3_10 : decode prog_8_method_2_code 10 = .ok (.bipush 7, 2) := by decide +kernel
theorem d3_12 : decode prog_8_method_2_code 12 = .ok (.isub, 1) := by decide +kernel
theorem d3_13 : decode prog_8_method_2_code 13 = .ok (.iconst 1, 1) := by decide +kernel
theorem d3_14 : decode prog_8_method_2_code 14 = .ok (.iadd, 1) := by decide +kernel
theorem d3_15 : decode prog_8_method_2_code 15 = .ok (.invokestatic 24, 3) := by decide +kernel
theorem d3_18 : decode prog_8_method_2_code 18 = .ok (.istore 4, 2) := by decide +kernel
theorem d3_20 : decode prog_8_method_2_code 20 = .ok (.lload_n 1, 1) := by decide +kernel
theorem d3_21 : decode prog_8_method_2_code 21 = .ok (.iconst 0, 1) := by decide +kernel
theorem d3_22 : decode prog_8_method_2_code 22 = .ok (.iload 4, 2) := by decide +kernel
theorem d3_24 : decode prog_8_method_2_code 24 = .ok (.iconst 1, 1) := by decide +kernel
theorem d3_25 : decode prog_8_method_2_code 25 = .ok (.isub, 1) := by decide +kernel
theorem d3_26 : decode prog_8_method_2_code 26 = .ok (.invokestatic 24, 3) := by decide +kernel
theorem d3_29 : decode prog_8_method_2_code 29 = .ok (.lushr, 1) := by decide +kernel
theorem d3_30 : decode prog_8_method_2_code 30 = .ok (.l2i, 1) := by decide +kernel
theorem d3_31 : decode prog_8_method_2_code 31 = .ok (.bipush 127, 2) := by decide +kernel
theorem d3_33 : decode prog_8_method_2_code 33 = .ok (.iand, 1) := by decide +kernel
theorem d3_34 : decode prog_8_method_2_code 34 = .ok (.istore 5, 2) := by decide +kernel
theorem d3_36 : decode prog_8_method_2_code 36 = .ok (.aload_n 0, 1) := by decide +kernel
theorem d3_37 : decode prog_8_method_2_code 37 = .ok (.iload 4, 2) := by decide +kernel
theorem d3_39 : decode prog_8_method_2_code 39 = .ok (.invokevirtual 30, 3) := by decide +kernel
theorem d3_42 : decode prog_8_method_2_code 42 = .ok (.astore 6, 2) := by decide +kernel
theorem d3_44 : decode prog_8_method_2_code 44 = .ok (.aload 6, 2) := by decide +kernel
theorem d3_46 : decode prog_8_method_2_code 46 = .ok (.iconst 2, 1) := by decide +kernel
theorem d3_47 : decode prog_8_method_2_code 47 = .ok (.iload 5, 2) := by decide +kernel
theorem d3_49 : decode prog_8_method_2_code 49 = .ok (.imul, 1) := by decide +kernel
theorem d3_50 : decode prog_8_method_2_code 50 = .ok (.dup2, 1) := by decide +kernel
theorem d3_51 : decode prog_8_method_2_code 51 = .ok (.laload, 1) := by decide +kernel
theorem d3_52 : decode prog_8_method_2_code 52 = .ok (.lconst 1, 1) := by decide +kernel
theorem d3_53 : decode prog_8_method_2_code 53 = .ok (.ladd, 1) := by decide +kernel
theorem d3_54 : decode prog_8_method_2_code 54 = .ok (.lastore, 1) := by decide +kernel
theorem d3_55 : decode prog_8_method_2_code 55 = .ok (.lload_n 1, 1) := by decide +kernel
theorem d3_56 : decode prog_8_method_2_code 56 = .ok (.aload 6, 2) := by decide +kernel
theorem d3_58 : decode prog_8_method_2_code 58 = .ok (.iconst 2, 1) := by decide +kernel
theorem d3_59 : decode prog_8_method_2_code 59 = .ok (.iload 5, 2) := by decide +kernel
theorem d3_61 : decode prog_8_method_2_code 61 = .ok (.imul, 1) := by decide +kernel
theorem d3_62 : decode prog_8_method_2_code 62 = .ok (.iconst 1, 1) := by decide +kernel
theorem d3_63 : decode prog_8_method_2_code 63 = .ok (.iadd, 1) := by decide +kernel
theorem d3_64 : decode prog_8_method_2_code 64 = .ok (.laload, 1) := by decide +kernel
theorem d3_65 : decode prog_8_method_2_code 65 = .ok (.lcmp, 1) := by decide +kernel
theorem d3_66 : decode prog_8_method_2_code 66 = .ok (.ifCond .le 13, 3) := by decide +kernel
theorem d3_69 : decode prog_8_method_2_code 69 = .ok (.aload 6, 2) := by decide +kernel
theorem d3_71 : decode prog_8_method_2_code 71 = .ok (.iconst 2, 1) := by decide +kernel
theorem d3_72 : decode prog_8_method_2_code 72 = .ok (.iload 5, 2) := by decide +kernel
theorem d3_74 : decode prog_8_method_2_code 74 = .ok (.imul, 1) := by decide +kernel
theorem d3_75 : decode prog_8_method_2_code 75 = .ok (.iconst 1, 1) := by decide +kernel
theorem d3_76 : decode prog_8_method_2_code 76 = .ok (.iadd, 1) := by decide +kernel
theorem d3_77 : decode prog_8_method_2_code 77 = .ok (.lload_n 1, 1) := by decide +kernel
theorem d3_78 : decode prog_8_method_2_code 78 = .ok (.lastore, 1) := by decide +kernel
theorem d3_79 : decode prog_8_method_2_code 79 = .ok (.aload_n 0, 1) := by decide +kernel
theorem d3_80 : decode prog_8_method_2_code 80 = .ok (.getfield 17, 3) := by decide +kernel
theorem d3_83 : decode prog_8_method_2_code 83 = .ok (.iload 4, 2) := by decide +kernel
theorem d3_85 : decode prog_8_method_2_code 85 = .ok (.dup2, 1) := by decide +kernel
theorem d3_86 : decode prog_8_method_2_code 86 = .ok (.laload, 1) := by decide +kernel
theorem d3_87 : decode prog_8_method_2_code 87 = .ok (.lconst 1, 1) := by decide +kernel
theorem d3_88 : decode prog_8_method_2_code 88 = .ok (.ladd, 1) := by decide +kernel
theorem d3_89 : decode prog_8_method_2_code 89 = .ok (.lastore, 1) := by decide +kernel
theorem d3_90 : decode prog_8_method_2_code 90 = .ok (.aload_n 0, 1) := by decide +kernel
theorem d3_91 : decode prog_8_method_2_code 91 = .ok (.dup, 1) := by decide +kernel
theorem d3_92 : decode prog_8_method_2_code 92 = .ok (.getfield 34, 3) := by decide +kernel
theorem d3_95 : decode prog_8_method_2_code 95 = .ok (.lconst 1, 1) := by decide +kernel
theorem d3_96 : decode prog_8_method_2_code 96 = .ok (.ladd, 1) := by decide +kernel
theorem d3_97 : decode prog_8_method_2_code 97 = .ok (.putfield 34, 3) := by decide +kernel
theorem d3_100 : decode prog_8_method_2_code 100 = .ok (.return_, 1) := by decide +kernel
set_option maxRecDepth 65536 in
set_option maxHeartbeats 40000000 in
theorem own_add (l : Launch) (Z : State) (a0 : Array Value) (hw : ∀ d ∈ tables_1, d.before a0 Z = true) (n0 : Nat) (h0 : Heap) (hsz : n0 ≤ h0.size) (ws : List Addr) (o : Addr) (xs : List Nat) (HH : HL Z h0 n0 ws o xs) (hl : xs.length < 1000) (v : Nat) (hv : v < 9223372036854775808) :
    Met false l Z n0 (⟨"com/example/headroom/headroom/Histogram", "add", "(J)V"⟩ : MethodName) prog_8_method_2_code 7 none ({ frames := 2, cells := 1, slots := 256, locals := 29 } : Room) #[(.ref o), (.long (Int64.ofNat v))] h0 (fun r h => ∃ ws' : List Addr, r = none ∧ HL Z h n0 ws' o (v :: xs) ∧ Keep h0 h ws ∧ Grow h0 ws ws') := by
  refine Met.of (plainFor_of_name pn_3) #[.val (.ref o), .val (.long (Int64.ofNat v)), .second, .unset, .unset, .unset, .unset] (fun m => by first | (simp [entryFrame, mkF, argsToLocals, Value.category]; done) | rfl) ?_
  intro p e s m below meth c C
  obtain ⟨⟨ro, rc, κ, HI0⟩, HB⟩ := HH
  have hk := Ky_lt hv
  refine Wk.st (g' := (mkF m 2 #[.val (.ref o), .val (.long (Int64.ofNat v)), .second, .unset, .unset, .unset, .unset] [(.int (63 : Int32))])) (fun X t q => XS.bipush X.here C.hx rfl (hb C.hby d3_0) q) ?_
  refine Wk.st (g' := (mkF m 3 #[.val (.ref o), .val (.long (Int64.ofNat v)), .second, .unset, .unset, .unset, .unset] [(.long (Int64.ofNat v)), (.int (63 : Int32))])) (fun X t q => XS.lloadN X.here C.hx rfl (hb C.hby d3_2) rfl q) ?_
  refine Wk.callS C (z := (⟨"java/lang/Long", "numberOfLeadingZeros", "(J)I"⟩ : MethodName)) (hw _ (List.mem_of_getElem? (i := 23) rfl)) (hw _ (List.mem_of_getElem? (i := 24) rfl)) (hw _ (List.mem_of_getElem? (i := 25) rfl)) (hw _ (List.mem_of_getElem? (i := 26) rfl)) (by decide) (own_nlz64 l Z a0 hw n0 h0 v hv) (w := 1) (by decide) (by decide) pd_2 rfl (rest := [(.int (63 : Int32))]) rfl rfl (Nat.le_of_eq rfl) (by decide) (by decide) d3_3 ?_
  rintro _ _ ⟨rfl, rfl⟩
  show Wk _ p l e _ s m _ below meth c n0 _ h0 0 0 (mkF m 6 #[.val (.ref o), .val (.long (Int64.ofNat v)), .second, .unset, .unset, .unset, .unset] [(.int (Int32.ofNat (nl v))), (.int (63 : Int32))])
  refine Wk.st (g' := (mkF m 7 #[.val (.ref o), .val (.long (Int64.ofNat v)), .second, .unset, .unset, .unset, .unset] [(.int ((63 : Int32) - (Int32.ofNat (nl v))))])) (fun X t q => XS.isub X.here C.hx rfl (hb C.hby d3_6) rfl q) ?_
  refine Wk.st (g' := (mkF m 8 #[.val (.ref o), .val (.long (Int64.ofNat v)), .second, .val (.int ((63 : Int32) - (Int32.ofNat (nl v)))), .unset, .unset, .unset] [])) (fun X t q => XS.istoreN X.here C.hx rfl (hb C.hby d3_7) rfl (l' := #[.val (.ref o), .val (.long (Int64.ofNat v)), .second, .val (.int ((63 : Int32) - (Int32.ofNat (nl v)))), .unset, .unset, .unset]) rfl q) ?_
  refine Wk.st (g' := (mkF m 9 #[.val (.ref o), .val (.long (Int64.ofNat v)), .second, .val (.int ((63 : Int32) - (Int32.ofNat (nl v)))), .unset, .unset, .unset] [(.int (0 : Int32))])) (fun X t q => XS.iconst X.here C.hx rfl (hb C.hby d3_8) q) ?_
  refine Wk.st (g' := (mkF m 10 #[.val (.ref o), .val (.long (Int64.ofNat v)), .second, .val (.int ((63 : Int32) - (Int32.ofNat (nl v)))), .unset, .unset, .unset] [(.int ((63 : Int32) - (Int32.ofNat (nl v)))), (.int (0 : Int32))])) (fun X t q => XS.iloadN X.here C.hx rfl (hb C.hby d3_9) rfl q) ?_
  refine Wk.st (g' := (mkF m 12 #[.val (.ref o), .val (.long (Int64.ofNat v)), .second, .val (.int ((63 : Int32) - (Int32.ofNat (nl v)))), .unset, .unset, .unset] [(.int (7 : Int32)), (.int ((63 : Int32) - (Int32.ofNat (nl v)))), (.int (0 : Int32))])) (fun X t q => XS.bipush X.here C.hx rfl (hb C.hby d3_10) q) ?_
  refine Wk.st (g' := (mkF m 13 #[.val (.ref o), .val (.long (Int64.ofNat v)), .second, .val (.int ((63 : Int32) - (Int32.ofNat (nl v)))), .unset, .unset, .unset] [(.int (((63 : Int32) - (Int32.ofNat (nl v))) - (7 : Int32))), (.int (0 : Int32))])) (fun X t q => XS.isub X.here C.hx rfl (hb C.hby d3_12) rfl q) ?_
  refine Wk.st (g' := (mkF m 14 #[.val (.ref o), .val (.long (Int64.ofNat v)), .second, .val (.int ((63 : Int32) - (Int32.ofNat (nl v)))), .unset, .unset, .unset] [(.int (1 : Int32)), (.int (((63 : Int32) - (Int32.ofNat (nl v))) - (7 : Int32))), (.int (0 : Int32))])) (fun X t q => XS.iconst X.here C.hx rfl (hb C.hby d3_13) q) ?_
  refine Wk.st (g' := (mkF m 15 #[.val (.ref o), .val (.long (Int64.ofNat v)), .second, .val (.int ((63 : Int32) - (Int32.ofNat (nl v)))), .unset, .unset, .unset] [(.int ((((63 : Int32) - (Int32.ofNat (nl v))) - (7 : Int32)) + (1 : Int32))), (.int (0 : Int32))])) (fun X t q => XS.iadd X.here C.hx rfl (hb C.hby d3_14) rfl q) ?_
  refine Wk.callS C (z := (⟨"java/lang/Math", "max", "(II)I"⟩ : MethodName)) (hw _ (List.mem_of_getElem? (i := 32) rfl)) (hw _ (List.mem_of_getElem? (i := 33) rfl)) (hw _ (List.mem_of_getElem? (i := 34) rfl)) (hw _ (List.mem_of_getElem? (i := 35) rfl)) (by decide) (own_maxI l Z a0 hw n0 h0 (0 : Int32) ((((63 : Int32) - (Int32.ofNat (nl v))) - (7 : Int32)) + (1 : Int32))) (w := 0) (by decide) (by decide) pd_3 rfl (rest := []) rfl rfl (Nat.le_of_eq rfl) (by decide) (by decide) d3_15 ?_
  rintro _ _ ⟨rfl, rfl⟩
  show Wk _ p l e _ s m _ below meth c n0 _ h0 0 0 (mkF m 18 #[.val (.ref o), .val (.long (Int64.ofNat v)), .second, .val (.int ((63 : Int32) - (Int32.ofNat (nl v)))), .unset, .unset, .unset] [(.int (if (0 : Int32) < ((((63 : Int32) - (Int32.ofNat (nl v))) - (7 : Int32)) + (1 : Int32)) then ((((63 : Int32) - (Int32.ofNat (nl v))) - (7 : Int32)) + (1 : Int32)) else (0 : Int32)))])
  refine Wk.st (g' := (mkF m 20 #[.val (.ref o), .val (.long (Int64.ofNat v)), .second, .val (.int ((63 : Int32) - (Int32.ofNat (nl v)))), .val (.int (if (0 : Int32) < ((((63 : Int32) - (Int32.ofNat (nl v))) - (7 : Int32)) + (1 : Int32)) then ((((63 : Int32) - (Int32.ofNat (nl v))) - (7 : Int32)) + (1 : Int32)) else (0 : Int32))), .unset, .unset] [])) (fun X t q => XS.istore X.here C.hx rfl (hb C.hby d3_18) rfl (l' := #[.val (.ref o), .val (.long (Int64.ofNat v)), .second, .val (.int ((63 : Int32) - (Int32.ofNat (nl v)))), .val (.int (if (0 : Int32) < ((((63 : Int32) - (Int32.ofNat (nl v))) - (7 : Int32)) + (1 : Int32)) then ((((63 : Int32) - (Int32.ofNat (nl v))) - (7 : Int32)) + (1 : Int32)) else (0 : Int32))), .unset, .unset]) rfl q) ?_
  rw [show (if (0 : Int32) < ((((63 : Int32) - (Int32.ofNat (nl v))) - (7 : Int32)) + (1 : Int32)) then ((((63 : Int32) - (Int32.ofNat (nl v))) - (7 : Int32)) + (1 : Int32)) else (0 : Int32)) = (Int32.ofNat (Ky v / 128)) from row_of hv]
  show Wk _ p l e _ s m _ below meth c n0 _ h0 0 0 (mkF m 20 #[.val (.ref o), .val (.long (Int64.ofNat v)), .second, .val (.int ((63 : Int32) - (Int32.ofNat (nl v)))), .val (.int (Int32.ofNat (Ky v / 128))), .unset, .unset] [])
  refine Wk.st (g' := (mkF m 21 #[.val (.ref o), .val (.long (Int64.ofNat v)), .second, .val (.int ((63 : Int32) - (Int32.ofNat (nl v)))), .val (.int (Int32.ofNat (Ky v / 128))), .unset, .unset] [(.long (Int64.ofNat v))])) (fun X t q => XS.lloadN X.here C.hx rfl (hb C.hby d3_20) rfl q) ?_
  refine Wk.st (g' := (mkF m 22 #[.val (.ref o), .val (.long (Int64.ofNat v)), .second, .val (.int ((63 : Int32) - (Int32.ofNat (nl v)))), .val (.int (Int32.ofNat (Ky v / 128))), .unset, .unset] [(.int (0 : Int32)), (.long (Int64.ofNat v))])) (fun X t q => XS.iconst X.here C.hx rfl (hb C.hby d3_21) q) ?_
  refine Wk.st (g' := (mkF m 24 #[.val (.ref o), .val (.long (Int64.ofNat v)), .second, .val (.int ((63 : Int32) - (Int32.ofNat (nl v)))), .val (.int (Int32.ofNat (Ky v / 128))), .unset, .unset] [(.int (Int32.ofNat (Ky v / 128))), (.int (0 : Int32)), (.long (Int64.ofNat v))])) (fun X t q => XS.iload X.here C.hx rfl (hb C.hby d3_22) rfl q) ?_
  refine Wk.st (g' := (mkF m 25 #[.val (.ref o), .val (.long (Int64.ofNat v)), .second, .val (.int ((63 : Int32) - (Int32.ofNat (nl v)))), .val (.int (Int32.ofNat (Ky v / 128))), .unset, .unset] [(.int (1 : Int32)), (.int (Int32.ofNat (Ky v / 128))), (.int (0 : Int32)), (.long (Int64.ofNat v))])) (fun X t q => XS.iconst X.here C.hx rfl (hb C.hby d3_24) q) ?_
  refine Wk.st (g' := (mkF m 26 #[.val (.ref o), .val (.long (Int64.ofNat v)), .second, .val (.int ((63 : Int32) - (Int32.ofNat (nl v)))), .val (.int (Int32.ofNat (Ky v / 128))), .unset, .unset] [(.int ((Int32.ofNat (Ky v / 128)) - (1 : Int32))), (.int (0 : Int32)), (.long (Int64.ofNat v))])) (fun X t q => XS.isub X.here C.hx rfl (hb C.hby d3_25) rfl q) ?_
  refine Wk.callS C (z := (⟨"java/lang/Math", "max", "(II)I"⟩ : MethodName)) (hw _ (List.mem_of_getElem? (i := 32) rfl)) (hw _ (List.mem_of_getElem? (i := 33) rfl)) (hw _ (List.mem_of_getElem? (i := 34) rfl)) (hw _ (List.mem_of_getElem? (i := 35) rfl)) (by decide) (own_maxI l Z a0 hw n0 h0 (0 : Int32) ((Int32.ofNat (Ky v / 128)) - (1 : Int32))) (w := 2) (by decide) (by decide) pd_3 rfl (rest := [(.long (Int64.ofNat v))]) rfl rfl (Nat.le_of_eq rfl) (by decide) (by decide) d3_26 ?_
  rintro _ _ ⟨rfl, rfl⟩
  show Wk _ p l e _ s m _ below meth c n0 _ h0 0 0 (mkF m 29 #[.val (.ref o), .val (.long (Int64.ofNat v)), .second, .val (.int ((63 : Int32) - (Int32.ofNat (nl v)))), .val (.int (Int32.ofNat (Ky v / 128))), .unset, .unset] [(.int (if (0 : Int32) < ((Int32.ofNat (Ky v / 128)) - (1 : Int32)) then ((Int32.ofNat (Ky v / 128)) - (1 : Int32)) else (0 : Int32))), (.long (Int64.ofNat v))])
  refine Wk.st (g' := (mkF m 30 #[.val (.ref o), .val (.long (Int64.ofNat v)), .second, .val (.int ((63 : Int32) - (Int32.ofNat (nl v)))), .val (.int (Int32.ofNat (Ky v / 128))), .unset, .unset] [(.long (((Int64.ofNat v).toUInt64 >>> ((if (0 : Int32) < ((Int32.ofNat (Ky v / 128)) - (1 : Int32)) then ((Int32.ofNat (Ky v / 128)) - (1 : Int32)) else (0 : Int32)) &&& 0x3f).toInt64.toUInt64).toInt64))])) (fun X t q => XS.lushr X.here C.hx rfl (hb C.hby d3_29) rfl q) ?_
  refine Wk.st (g' := (mkF m 31 #[.val (.ref o), .val (.long (Int64.ofNat v)), .second, .val (.int ((63 : Int32) - (Int32.ofNat (nl v)))), .val (.int (Int32.ofNat (Ky v / 128))), .unset, .unset] [(.int ((((Int64.ofNat v).toUInt64 >>> ((if (0 : Int32) < ((Int32.ofNat (Ky v / 128)) - (1 : Int32)) then ((Int32.ofNat (Ky v / 128)) - (1 : Int32)) else (0 : Int32)) &&& 0x3f).toInt64.toUInt64).toInt64).toInt32))])) (fun X t q => XS.l2i X.here C.hx rfl (hb C.hby d3_30) rfl q) ?_
  refine Wk.st (g' := (mkF m 33 #[.val (.ref o), .val (.long (Int64.ofNat v)), .second, .val (.int ((63 : Int32) - (Int32.ofNat (nl v)))), .val (.int (Int32.ofNat (Ky v / 128))), .unset, .unset] [(.int (127 : Int32)), (.int ((((Int64.ofNat v).toUInt64 >>> ((if (0 : Int32) < ((Int32.ofNat (Ky v / 128)) - (1 : Int32)) then ((Int32.ofNat (Ky v / 128)) - (1 : Int32)) else (0 : Int32)) &&& 0x3f).toInt64.toUInt64).toInt64).toInt32))])) (fun X t q => XS.bipush X.here C.hx rfl (hb C.hby d3_31) q) ?_
  refine Wk.st (g' := (mkF m 34 #[.val (.ref o), .val (.long (Int64.ofNat v)), .second, .val (.int ((63 : Int32) - (Int32.ofNat (nl v)))), .val (.int (Int32.ofNat (Ky v / 128))), .unset, .unset] [(.int (((((Int64.ofNat v).toUInt64 >>> ((if (0 : Int32) < ((Int32.ofNat (Ky v / 128)) - (1 : Int32)) then ((Int32.ofNat (Ky v / 128)) - (1 : Int32)) else (0 : Int32)) &&& 0x3f).toInt64.toUInt64).toInt64).toInt32) &&& (127 : Int32)))])) (fun X t q => XS.iand X.here C.hx rfl (hb C.hby d3_33) rfl q) ?_
  refine Wk.st (g' := (mkF m 36 #[.val (.ref o), .val (.long (Int64.ofNat v)), .second, .val (.int ((63 : Int32) - (Int32.ofNat (nl v)))), .val (.int (Int32.ofNat (Ky v / 128))), .val (.int (((((Int64.ofNat v).toUInt64 >>> ((if (0 : Int32) < ((Int32.ofNat (Ky v / 128)) - (1 : Int32)) then ((Int32.ofNat (Ky v / 128)) - (1 : Int32)) else (0 : Int32)) &&& 0x3f).toInt64.toUInt64).toInt64).toInt32) &&& (127 : Int32))), .unset] [])) (fun X t q => XS.istore X.here C.hx rfl (hb C.hby d3_34) rfl (l' := #[.val (.ref o), .val (.long (Int64.ofNat v)), .second, .val (.int ((63 : Int32) - (Int32.ofNat (nl v)))), .val (.int (Int32.ofNat (Ky v / 128))), .val (.int (((((Int64.ofNat v).toUInt64 >>> ((if (0 : Int32) < ((Int32.ofNat (Ky v / 128)) - (1 : Int32)) then ((Int32.ofNat (Ky v / 128)) - (1 : Int32)) else (0 : Int32)) &&& 0x3f).toInt64.toUInt64).toInt64).toInt32) &&& (127 : Int32))), .unset]) rfl q) ?_
  rw [show (((((Int64.ofNat v).toUInt64 >>> ((if (0 : Int32) < ((Int32.ofNat (Ky v / 128)) - (1 : Int32)) then ((Int32.ofNat (Ky v / 128)) - (1 : Int32)) else (0 : Int32)) &&& 0x3f).toInt64.toUInt64).toInt64).toInt32) &&& (127 : Int32)) = (Int32.ofNat (Ky v % 128)) from bkt_of hv]
  show Wk _ p l e _ s m _ below meth c n0 _ h0 0 0 (mkF m 36 #[.val (.ref o), .val (.long (Int64.ofNat v)), .second, .val (.int ((63 : Int32) - (Int32.ofNat (nl v)))), .val (.int (Int32.ofNat (Ky v / 128))), .val (.int (Int32.ofNat (Ky v % 128))), .unset] [])
  refine Wk.st (g' := (mkF m 37 #[.val (.ref o), .val (.long (Int64.ofNat v)), .second, .val (.int ((63 : Int32) - (Int32.ofNat (nl v)))), .val (.int (Int32.ofNat (Ky v / 128))), .val (.int (Int32.ofNat (Ky v % 128))), .unset] [(.ref o)])) (fun X t q => XS.aloadN X.here C.hx rfl (hb C.hby d3_36) rfl rfl q) ?_
  refine Wk.st (g' := (mkF m 39 #[.val (.ref o), .val (.long (Int64.ofNat v)), .second, .val (.int ((63 : Int32) - (Int32.ofNat (nl v)))), .val (.int (Int32.ofNat (Ky v / 128))), .val (.int (Int32.ofNat (Ky v % 128))), .unset] [(.int (Int32.ofNat (Ky v / 128))), (.ref o)])) (fun X t q => XS.iload X.here C.hx rfl (hb C.hby d3_37) rfl q) ?_
  refine Wk.callP C (z := (⟨"com/example/headroom/headroom/Histogram", "row", "(I)[J"⟩ : MethodName)) (K := "com/example/headroom/headroom/Histogram") (hw _ (List.mem_of_getElem? (i := 36) rfl)) (hw _ (List.mem_of_getElem? (i := 37) rfl)) (hw _ (List.mem_of_getElem? (i := 38) rfl)) (hw _ (List.mem_of_getElem? (i := 3) rfl)) (hw _ (List.mem_of_getElem? (i := 4) rfl)) (hw _ (List.mem_of_getElem? (i := 39) rfl)) (by decide) HI0.1 (own_row l Z a0 hw n0 h0 hsz ws o ro rc κ xs.length (cR xs) (cF xs) HI0 (Ky v / 128) hk) (w := 0) (by decide) (by decide) pd_4 rfl (rest := []) rfl rfl (Nat.le_of_eq rfl) (by decide) (by decide) d3_39 ?_
  rintro _ hR ⟨b, κR, wsR, rfl, HR, hbR, KR, GR⟩
  show Wk _ p l e _ s m _ below meth c n0 _ hR 1 256 (mkF m 42 #[.val (.ref o), .val (.long (Int64.ofNat v)), .second, .val (.int ((63 : Int32) - (Int32.ofNat (nl v)))), .val (.int (Int32.ofNat (Ky v / 128))), .val (.int (Int32.ofNat (Ky v % 128))), .unset] [(.ref b)])
  have xE := HR.1
  have xR := HR.2.1
  have xC := HR.2.2.1
  have xN := HR.2.2.2.1
  have xA := HR.2.2.2.2.1
  have xG := HR.2.2.2.2.2.1
  have xS := HR.sep
  have xB := HR.at hk hbR
  have xD := xS.2.2.2.1 _ _ hk hbR
  have le1 := cR_le xs (Ky v / 128)
  have le2 := cF_le xs (Ky v / 128) (Ky v % 128)
  have le3 := cF_lt xs (Ky v / 128) (Ky v % 128) HB
  refine Wk.st (g' := (mkF m 44 #[.val (.ref o), .val (.long (Int64.ofNat v)), .second, .val (.int ((63 : Int32) - (Int32.ofNat (nl v)))), .val (.int (Int32.ofNat (Ky v / 128))), .val (.int (Int32.ofNat (Ky v % 128))), .val (.ref b)] [])) (fun X t q => XS.astore X.here C.hx rfl (hb C.hby d3_42) rfl rfl (l' := #[.val (.ref o), .val (.long (Int64.ofNat v)), .second, .val (.int ((63 : Int32) - (Int32.ofNat (nl v)))), .val (.int (Int32.ofNat (Ky v / 128))), .val (.int (Int32.ofNat (Ky v % 128))), .val (.ref b)]) rfl q) ?_
  refine Wk.st (g' := (mkF m 46 #[.val (.ref o), .val (.long (Int64.ofNat v)), .second, .val (.int ((63 : Int32) - (Int32.ofNat (nl v)))), .val (.int (Int32.ofNat (Ky v / 128))), .val (.int (Int32.ofNat (Ky v % 128))), .val (.ref b)] [(.ref b)])) (fun X t q => XS.aload X.here C.hx rfl (hb C.hby d3_44) rfl rfl q) ?_
  refine Wk.st (g' := (mkF m 47 #[.val (.ref o), .val (.long (Int64.ofNat v)), .second, .val (.int ((63 : Int32) - (Int32.ofNat (nl v)))), .val (.int (Int32.ofNat (Ky v / 128))), .val (.int (Int32.ofNat (Ky v % 128))), .val (.ref b)] [(.int (2 : Int32)), (.ref b)])) (fun X t q => XS.iconst X.here C.hx rfl (hb C.hby d3_46) q) ?_
  refine Wk.st (g' := (mkF m 49 #[.val (.ref o), .val (.long (Int64.ofNat v)), .second, .val (.int ((63 : Int32) - (Int32.ofNat (nl v)))), .val (.int (Int32.ofNat (Ky v / 128))), .val (.int (Int32.ofNat (Ky v % 128))), .val (.ref b)] [(.int (Int32.ofNat (Ky v % 128))), (.int (2 : Int32)), (.ref b)])) (fun X t q => XS.iload X.here C.hx rfl (hb C.hby d3_47) rfl q) ?_
  refine Wk.st (g' := (mkF m 50 #[.val (.ref o), .val (.long (Int64.ofNat v)), .second, .val (.int ((63 : Int32) - (Int32.ofNat (nl v)))), .val (.int (Int32.ofNat (Ky v / 128))), .val (.int (Int32.ofNat (Ky v % 128))), .val (.ref b)] [(.int ((2 : Int32) * (Int32.ofNat (Ky v % 128)))), (.ref b)])) (fun X t q => XS.imul X.here C.hx rfl (hb C.hby d3_49) rfl q) ?_
  rw [show ((2 : Int32) * (Int32.ofNat (Ky v % 128))) = (Int32.ofNat (2 * (Ky v % 128))) from dbl32 (by omega)]
  show Wk _ p l e _ s m _ below meth c n0 _ hR 1 256 (mkF m 50 #[.val (.ref o), .val (.long (Int64.ofNat v)), .second, .val (.int ((63 : Int32) - (Int32.ofNat (nl v)))), .val (.int (Int32.ofNat (Ky v / 128))), .val (.int (Int32.ofNat (Ky v % 128))), .val (.ref b)] [(.int (Int32.ofNat (2 * (Ky v % 128)))), (.ref b)])
  refine Wk.st (g' := (mkF m 51 #[.val (.ref o), .val (.long (Int64.ofNat v)), .second, .val (.int ((63 : Int32) - (Int32.ofNat (nl v)))), .val (.int (Int32.ofNat (Ky v / 128))), .val (.int (Int32.ofNat (Ky v % 128))), .val (.ref b)] [(.int (Int32.ofNat (2 * (Ky v % 128)))), (.ref b), (.int (Int32.ofNat (2 * (Ky v % 128)))), (.ref b)])) (fun X t q => XT.dup2 X.here C.hx rfl (hb C.hby d3_50) rfl rfl rfl q) ?_
  refine Wk.fLdJ C xB (cl32 (by omega)) (nn32 (by omega)) (by omega) (v := (.long (Int64.ofNat ((cF xs) (Ky v / 128) (2 * (Ky v % 128)))))) (rfl) d3_51 ?_
  show Wk _ p l e _ s m _ below meth c n0 _ hR 1 256 (mkF m 52 #[.val (.ref o), .val (.long (Int64.ofNat v)), .second, .val (.int ((63 : Int32) - (Int32.ofNat (nl v)))), .val (.int (Int32.ofNat (Ky v / 128))), .val (.int (Int32.ofNat (Ky v % 128))), .val (.ref b)] [(.long (Int64.ofNat ((cF xs) (Ky v / 128) (2 * (Ky v % 128))))), (.int (Int32.ofNat (2 * (Ky v % 128)))), (.ref b)])
  refine Wk.st (g' := (mkF m 53 #[.val (.ref o), .val (.long (Int64.ofNat v)), .second, .val (.int ((63 : Int32) - (Int32.ofNat (nl v)))), .val (.int (Int32.ofNat (Ky v / 128))), .val (.int (Int32.ofNat (Ky v % 128))), .val (.ref b)] [(.long (1 : Int64)), (.long (Int64.ofNat ((cF xs) (Ky v / 128) (2 * (Ky v % 128))))), (.int (Int32.ofNat (2 * (Ky v % 128)))), (.ref b)])) (fun X t q => XS.lconst X.here C.hx rfl (hb C.hby d3_52) q) ?_
  refine Wk.st (g' := (mkF m 54 #[.val (.ref o), .val (.long (Int64.ofNat v)), .second, .val (.int ((63 : Int32) - (Int32.ofNat (nl v)))), .val (.int (Int32.ofNat (Ky v / 128))), .val (.int (Int32.ofNat (Ky v % 128))), .val (.ref b)] [(.long ((Int64.ofNat ((cF xs) (Ky v / 128) (2 * (Ky v % 128)))) + (1 : Int64))), (.int (Int32.ofNat (2 * (Ky v % 128)))), (.ref b)])) (fun X t q => XS.ladd X.here C.hx rfl (hb C.hby d3_53) rfl q) ?_
  rw [show ((Int64.ofNat ((cF xs) (Ky v / 128) (2 * (Ky v % 128)))) + (1 : Int64)) = (Int64.ofNat (cF xs (Ky v / 128) (2 * (Ky v % 128)) + 1)) from add64 (j := 1) (by omega)]
  show Wk _ p l e _ s m _ below meth c n0 _ hR 1 256 (mkF m 54 #[.val (.ref o), .val (.long (Int64.ofNat v)), .second, .val (.int ((63 : Int32) - (Int32.ofNat (nl v)))), .val (.int (Int32.ofNat (Ky v / 128))), .val (.int (Int32.ofNat (Ky v % 128))), .val (.ref b)] [(.long (Int64.ofNat (cF xs (Ky v / 128) (2 * (Ky v % 128)) + 1))), (.int (Int32.ofNat (2 * (Ky v % 128)))), (.ref b)])
  refine Wk.fStJ C xB (cl32 (by omega)) (nn32 (by omega)) (by omega) (xS.2.2.2.2.2.2.2.2 _ xD.2.2.2).1 d3_54 ?_
  intro h1 W2 F3
  have F4 : Exa Z h1 o "com/example/headroom/headroom/Histogram" := xE.wr W2
  have F5 : Fld Z h1 o "com/example/headroom/headroom/Histogram" "rows" "[[J" (.ref ro) := xR.other W2 (Or.inl (Ne.symm xD.1))
  have F6 : Fld Z h1 o "com/example/headroom/headroom/Histogram" "rowCounts" "[J" (.ref rc) := xC.other W2 (Or.inl (Ne.symm xD.1))
  have F7 : Fld Z h1 o "com/example/headroom/headroom/Histogram" "count" "J" (.long (Int64.ofNat xs.length)) := xN.other W2 (Or.inl (Ne.symm xD.1))
  have F8 : FaA Z h1 ro .long "[J" 57 κR := xA.other W2 (Ne.symm xD.2.1)
  have F9 : Fa Z h1 rc .long 57 (LF (cR xs)) := xG.other W2 (Ne.symm xD.2.2.1)
  have K10 := (Keep.refl hR [o, rc, b]).wr W2 (Or.inl (by simp))
  show Wk _ p l e _ s m _ below meth c n0 _ h1 1 256 (mkF m 55 #[.val (.ref o), .val (.long (Int64.ofNat v)), .second, .val (.int ((63 : Int32) - (Int32.ofNat (nl v)))), .val (.int (Int32.ofNat (Ky v / 128))), .val (.int (Int32.ofNat (Ky v % 128))), .val (.ref b)] [])
  refine Wk.st (g' := (mkF m 56 #[.val (.ref o), .val (.long (Int64.ofNat v)), .second, .val (.int ((63 : Int32) - (Int32.ofNat (nl v)))), .val (.int (Int32.ofNat (Ky v / 128))), .val (.int (Int32.ofNat (Ky v % 128))), .val (.ref b)] [(.long (Int64.ofNat v))])) (fun X t q => XS.lloadN X.here C.hx rfl (hb C.hby d3_55) rfl q) ?_
  refine Wk.st (g' := (mkF m 58 #[.val (.ref o), .val (.long (Int64.ofNat v)), .second, .val (.int ((63 : Int32) - (Int32.ofNat (nl v)))), .val (.int (Int32.ofNat (Ky v / 128))), .val (.int (Int32.ofNat (Ky v % 128))), .val (.ref b)] [(.ref b), (.long (Int64.ofNat v))])) (fun X t q => XS.aload X.here C.hx rfl (hb C.hby d3_56) rfl rfl q) ?_
  refine Wk.st (g' := (mkF m 59 #[.val (.ref o), .val (.long (Int64.ofNat v)), .second, .val (.int ((63 : Int32) - (Int32.ofNat (nl v)))), .val (.int (Int32.ofNat (Ky v / 128))), .val (.int (Int32.ofNat (Ky v % 128))), .val (.ref b)] [(.int (2 : Int32)), (.ref b), (.long (Int64.ofNat v))])) (fun X t q => XS.iconst X.here C.hx rfl (hb C.hby d3_58) q) ?_
  refine Wk.st (g' := (mkF m 61 #[.val (.ref o), .val (.long (Int64.ofNat v)), .second, .val (.int ((63 : Int32) - (Int32.ofNat (nl v)))), .val (.int (Int32.ofNat (Ky v / 128))), .val (.int (Int32.ofNat (Ky v % 128))), .val (.ref b)] [(.int (Int32.ofNat (Ky v % 128))), (.int (2 : Int32)), (.ref b), (.long (Int64.ofNat v))])) (fun X t q => XS.iload X.here C.hx rfl (hb C.hby d3_59) rfl q) ?_
  refine Wk.st (g' := (mkF m 62 #[.val (.ref o), .val (.long (Int64.ofNat v)), .second, .val (.int ((63 : Int32) - (Int32.ofNat (nl v)))), .val (.int (Int32.ofNat (Ky v / 128))), .val (.int (Int32.ofNat (Ky v % 128))), .val (.ref b)] [(.int ((2 : Int32) * (Int32.ofNat (Ky v % 128)))), (.ref b), (.long (Int64.ofNat v))])) (fun X t q => XS.imul X.here C.hx rfl (hb C.hby d3_61) rfl q) ?_
  rw [show ((2 : Int32) * (Int32.ofNat (Ky v % 128))) = (Int32.ofNat (2 * (Ky v % 128))) from dbl32 (by omega)]
  show Wk _ p l e _ s m _ below meth c n0 _ h1 1 256 (mkF m 62 #[.val (.ref o), .val (.long (Int64.ofNat v)), .second, .val (.int ((63 : Int32) - (Int32.ofNat (nl v)))), .val (.int (Int32.ofNat (Ky v / 128))), .val (.int (Int32.ofNat (Ky v % 128))), .val (.ref b)] [(.int (Int32.ofNat (2 * (Ky v % 128)))), (.ref b), (.long (Int64.ofNat v))])
  refine Wk.st (g' := (mkF m 63 #[.val (.ref o), .val (.long (Int64.ofNat v)), .second, .val (.int ((63 : Int32) - (Int32.ofNat (nl v)))), .val (.int (Int32.ofNat (Ky v / 128))), .val (.int (Int32.ofNat (Ky v % 128))), .val (.ref b)] [(.int (1 : Int32)), (.int (Int32.ofNat (2 * (Ky v % 128)))), (.ref b), (.long (Int64.ofNat v))])) (fun X t q => XS.iconst X.here C.hx rfl (hb C.hby d3_62) q) ?_
  refine Wk.st (g' := (mkF m 64 #[.val (.ref o), .val (.long (Int64.ofNat v)), .second, .val (.int ((63 : Int32) - (Int32.ofNat (nl v)))), .val (.int (Int32.ofNat (Ky v / 128))), .val (.int (Int32.ofNat (Ky v % 128))), .val (.ref b)] [(.int ((Int32.ofNat (2 * (Ky v % 128))) + (1 : Int32))), (.ref b), (.long (Int64.ofNat v))])) (fun X t q => XS.iadd X.here C.hx rfl (hb C.hby d3_63) rfl q) ?_
  rw [show ((Int32.ofNat (2 * (Ky v % 128))) + (1 : Int32)) = (Int32.ofNat ((2 * (Ky v % 128)) + 1)) from add32 (j := 1) (by omega)]
  show Wk _ p l e _ s m _ below meth c n0 _ h1 1 256 (mkF m 64 #[.val (.ref o), .val (.long (Int64.ofNat v)), .second, .val (.int ((63 : Int32) - (Int32.ofNat (nl v)))), .val (.int (Int32.ofNat (Ky v / 128))), .val (.int (Int32.ofNat (Ky v % 128))), .val (.ref b)] [(.int (Int32.ofNat ((2 * (Ky v % 128)) + 1))), (.ref b), (.long (Int64.ofNat v))])
  refine Wk.fLdJ C F3 (cl32 (by omega)) (nn32 (by omega)) (by omega) (v := (.long (Int64.ofNat ((cF xs) (Ky v / 128) ((2 * (Ky v % 128)) + 1))))) ((up_ne (by omega)).trans (rfl)) d3_64 ?_
  show Wk _ p l e _ s m _ below meth c n0 _ h1 1 256 (mkF m 65 #[.val (.ref o), .val (.long (Int64.ofNat v)), .second, .val (.int ((63 : Int32) - (Int32.ofNat (nl v)))), .val (.int (Int32.ofNat (Ky v / 128))), .val (.int (Int32.ofNat (Ky v % 128))), .val (.ref b)] [(.long (Int64.ofNat ((cF xs) (Ky v / 128) ((2 * (Ky v % 128)) + 1)))), (.long (Int64.ofNat v))])
  refine Wk.st (g' := (mkF m 66 #[.val (.ref o), .val (.long (Int64.ofNat v)), .second, .val (.int ((63 : Int32) - (Int32.ofNat (nl v)))), .val (.int (Int32.ofNat (Ky v / 128))), .val (.int (Int32.ofNat (Ky v % 128))), .val (.ref b)] [(.int (XT.cmpL (Int64.ofNat v) (Int64.ofNat ((cF xs) (Ky v / 128) ((2 * (Ky v % 128)) + 1)))))])) (fun X t q => XT.lcmp X.here C.hx rfl (hb C.hby d3_65) rfl q) ?_
  by_cases hb11 : (Int64.ofNat ((cF xs) (Ky v / 128) ((2 * (Ky v % 128)) + 1))) < (Int64.ofNat v)
  · skip
    refine Wk.st (g' := (mkF m 69 #[.val (.ref o), .val (.long (Int64.ofNat v)), .second, .val (.int ((63 : Int32) - (Int32.ofNat (nl v)))), .val (.int (Int32.ofNat (Ky v / 128))), .val (.int (Int32.ofNat (Ky v % 128))), .val (.ref b)] [])) (fun X t q => XS.ifNo X.here C.hx rfl (hb C.hby d3_66) rfl (XT.ll_le_f hb11) q) ?_
    refine Wk.st (g' := (mkF m 71 #[.val (.ref o), .val (.long (Int64.ofNat v)), .second, .val (.int ((63 : Int32) - (Int32.ofNat (nl v)))), .val (.int (Int32.ofNat (Ky v / 128))), .val (.int (Int32.ofNat (Ky v % 128))), .val (.ref b)] [(.ref b)])) (fun X t q => XS.aload X.here C.hx rfl (hb C.hby d3_69) rfl rfl q) ?_
    refine Wk.st (g' := (mkF m 72 #[.val (.ref o), .val (.long (Int64.ofNat v)), .second, .val (.int ((63 : Int32) - (Int32.ofNat (nl v)))), .val (.int (Int32.ofNat (Ky v / 128))), .val (.int (Int32.ofNat (Ky v % 128))), .val (.ref b)] [(.int (2 : Int32)), (.ref b)])) (fun X t q => XS.iconst X.here C.hx rfl (hb C.hby d3_71) q) ?_
    refine Wk.st (g' := (mkF m 74 #[.val (.ref o), .val (.long (Int64.ofNat v)), .second, .val (.int ((63 : Int32) - (Int32.ofNat (nl v)))), .val (.int (Int32.ofNat (Ky v / 128))), .val (.int (Int32.ofNat (Ky v % 128))), .val (.ref b)] [(.int (Int32.ofNat (Ky v % 128))), (.int (2 : Int32)), (.ref b)])) (fun X t q => XS.iload X.here C.hx rfl (hb C.hby d3_72) rfl q) ?_
    refine Wk.st (g' := (mkF m 75 #[.val (.ref o), .val (.long (Int64.ofNat v)), .second, .val (.int ((63 : Int32) - (Int32.ofNat (nl v)))), .val (.int (Int32.ofNat (Ky v / 128))), .val (.int (Int32.ofNat (Ky v % 128))), .val (.ref b)] [(.int ((2 : Int32) * (Int32.ofNat (Ky v % 128)))), (.ref b)])) (fun X t q => XS.imul X.here C.hx rfl (hb C.hby d3_74) rfl q) ?_
    rw [show ((2 : Int32) * (Int32.ofNat (Ky v % 128))) = (Int32.ofNat (2 * (Ky v % 128))) from dbl32 (by omega)]
    show Wk _ p l e _ s m _ below meth c n0 _ h1 1 256 (mkF m 75 #[.val (.ref o), .val (.long (Int64.ofNat v)), .second, .val (.int ((63 : Int32) - (Int32.ofNat (nl v)))), .val (.int (Int32.ofNat (Ky v / 128))), .val (.int (Int32.ofNat (Ky v % 128))), .val (.ref b)] [(.int (Int32.ofNat (2 * (Ky v % 128)))), (.ref b)])
    refine Wk.st (g' := (mkF m 76 #[.val (.ref o), .val (.long (Int64.ofNat v)), .second, .val (.int ((63 : Int32) - (Int32.ofNat (nl v)))), .val (.int (Int32.ofNat (Ky v / 128))), .val (.int (Int32.ofNat (Ky v % 128))), .val (.ref b)] [(.int (1 : Int32)), (.int (Int32.ofNat (2 * (Ky v % 128)))), (.ref b)])) (fun X t q => XS.iconst X.here C.hx rfl (hb C.hby d3_75) q) ?_
    refine Wk.st (g' := (mkF m 77 #[.val (.ref o), .val (.long (Int64.ofNat v)), .second, .val (.int ((63 : Int32) - (Int32.ofNat (nl v)))), .val (.int (Int32.ofNat (Ky v / 128))), .val (.int (Int32.ofNat (Ky v % 128))), .val (.ref b)] [(.int ((Int32.ofNat (2 * (Ky v % 128))) + (1 : Int32))), (.ref b)])) (fun X t q => XS.iadd X.here C.hx rfl (hb C.hby d3_76) rfl q) ?_
    rw [show ((Int32.ofNat (2 * (Ky v % 128))) + (1 : Int32)) = (Int32.ofNat ((2 * (Ky v % 128)) + 1)) from add32 (j := 1) (by omega)]
    show Wk _ p l e _ s m _ below meth c n0 _ h1 1 256 (mkF m 77 #[.val (.ref o), .val (.long (Int64.ofNat v)), .second, .val (.int ((63 : Int32) - (Int32.ofNat (nl v)))), .val (.int (Int32.ofNat (Ky v / 128))), .val (.int (Int32.ofNat (Ky v % 128))), .val (.ref b)] [(.int (Int32.ofNat ((2 * (Ky v % 128)) + 1))), (.ref b)])
    refine Wk.st (g' := (mkF m 78 #[.val (.ref o), .val (.long (Int64.ofNat v)), .second, .val (.int ((63 : Int32) - (Int32.ofNat (nl v)))), .val (.int (Int32.ofNat (Ky v / 128))), .val (.int (Int32.ofNat (Ky v % 128))), .val (.ref b)] [(.long (Int64.ofNat v)), (.int (Int32.ofNat ((2 * (Ky v % 128)) + 1))), (.ref b)])) (fun X t q => XS.lloadN X.here C.hx rfl (hb C.hby d3_77) rfl q) ?_
    refine Wk.fStJ C F3 (cl32 (by omega)) (nn32 (by omega)) (by omega) (xS.2.2.2.2.2.2.2.2 _ xD.2.2.2).1 d3_78 ?_
    intro h12 W13 F14
    have F15 : Exa Z h12 o "com/example/headroom/headroom/Histogram" := F4.wr W13
    have F16 : Fld Z h12 o "com/example/headroom/headroom/Histogram" "rows" "[[J" (.ref ro) := F5.other W13 (Or.inl (Ne.symm xD.1))
    have F17 : Fld Z h12 o "com/example/headroom/headroom/Histogram" "rowCounts" "[J" (.ref rc) := F6.other W13 (Or.inl (Ne.symm xD.1))
    have F18 : Fld Z h12 o "com/example/headroom/headroom/Histogram" "count" "J" (.long (Int64.ofNat xs.length)) := F7.other W13 (Or.inl (Ne.symm xD.1))
    have F19 : FaA Z h12 ro .long "[J" 57 κR := F8.other W13 (Ne.symm xD.2.1)
    have F20 : Fa Z h12 rc .long 57 (LF (cR xs)) := F9.other W13 (Ne.symm xD.2.2.1)
    have K21 := K10.wr W13 (Or.inl (by simp))
    show Wk _ p l e _ s m _ below meth c n0 _ h12 1 256 (mkF m 79 #[.val (.ref o), .val (.long (Int64.ofNat v)), .second, .val (.int ((63 : Int32) - (Int32.ofNat (nl v)))), .val (.int (Int32.ofNat (Ky v / 128))), .val (.int (Int32.ofNat (Ky v % 128))), .val (.ref b)] [])
    refine Wk.st (g' := (mkF m 80 #[.val (.ref o), .val (.long (Int64.ofNat v)), .second, .val (.int ((63 : Int32) - (Int32.ofNat (nl v)))), .val (.int (Int32.ofNat (Ky v / 128))), .val (.int (Int32.ofNat (Ky v % 128))), .val (.ref b)] [(.ref o)])) (fun X t q => XS.aloadN X.here C.hx rfl (hb C.hby d3_79) rfl rfl q) ?_
    refine Wk.getF C (hw _ (List.mem_of_getElem? (i := 16) rfl)) Via.refl F17 d3_80 ?_
    show Wk _ p l e _ s m _ below meth c n0 _ h12 1 256 (mkF m 83 #[.val (.ref o), .val (.long (Int64.ofNat v)), .second, .val (.int ((63 : Int32) - (Int32.ofNat (nl v)))), .val (.int (Int32.ofNat (Ky v / 128))), .val (.int (Int32.ofNat (Ky v % 128))), .val (.ref b)] [(.ref rc)])
    refine Wk.st (g' := (mkF m 85 #[.val (.ref o), .val (.long (Int64.ofNat v)), .second, .val (.int ((63 : Int32) - (Int32.ofNat (nl v)))), .val (.int (Int32.ofNat (Ky v / 128))), .val (.int (Int32.ofNat (Ky v % 128))), .val (.ref b)] [(.int (Int32.ofNat (Ky v / 128))), (.ref rc)])) (fun X t q => XS.iload X.here C.hx rfl (hb C.hby d3_83) rfl q) ?_
    refine Wk.st (g' := (mkF m 86 #[.val (.ref o), .val (.long (Int64.ofNat v)), .second, .val (.int ((63 : Int32) - (Int32.ofNat (nl v)))), .val (.int (Int32.ofNat (Ky v / 128))), .val (.int (Int32.ofNat (Ky v % 128))), .val (.ref b)] [(.int (Int32.ofNat (Ky v / 128))), (.ref rc), (.int (Int32.ofNat (Ky v / 128))), (.ref rc)])) (fun X t q => XT.dup2 X.here C.hx rfl (hb C.hby d3_85) rfl rfl rfl q) ?_
    refine Wk.fLdJ C F20 (cl32 (by omega)) (nn32 (by omega)) (by omega) (v := (.long (Int64.ofNat ((cR xs) (Ky v / 128))))) (rfl) d3_86 ?_
    show Wk _ p l e _ s m _ below meth c n0 _ h12 1 256 (mkF m 87 #[.val (.ref o), .val (.long (Int64.ofNat v)), .second, .val (.int ((63 : Int32) - (Int32.ofNat (nl v)))), .val (.int (Int32.ofNat (Ky v / 128))), .val (.int (Int32.ofNat (Ky v % 128))), .val (.ref b)] [(.long (Int64.ofNat ((cR xs) (Ky v / 128)))), (.int (Int32.ofNat (Ky v / 128))), (.ref rc)])
    refine Wk.st (g' := (mkF m 88 #[.val (.ref o), .val (.long (Int64.ofNat v)), .second, .val (.int ((63 : Int32) - (Int32.ofNat (nl v)))), .val (.int (Int32.ofNat (Ky v / 128))), .val (.int (Int32.ofNat (Ky v % 128))), .val (.ref b)] [(.long (1 : Int64)), (.long (Int64.ofNat ((cR xs) (Ky v / 128)))), (.int (Int32.ofNat (Ky v / 128))), (.ref rc)])) (fun X t q => XS.lconst X.here C.hx rfl (hb C.hby d3_87) q) ?_
    refine Wk.st (g' := (mkF m 89 #[.val (.ref o), .val (.long (Int64.ofNat v)), .second, .val (.int ((63 : Int32) - (Int32.ofNat (nl v)))), .val (.int (Int32.ofNat (Ky v / 128))), .val (.int (Int32.ofNat (Ky v % 128))), .val (.ref b)] [(.long ((Int64.ofNat ((cR xs) (Ky v / 128))) + (1 : Int64))), (.int (Int32.ofNat (Ky v / 128))), (.ref rc)])) (fun X t q => XS.ladd X.here C.hx rfl (hb C.hby d3_88) rfl q) ?_
    rw [show ((Int64.ofNat ((cR xs) (Ky v / 128))) + (1 : Int64)) = (Int64.ofNat (cR xs (Ky v / 128) + 1)) from add64 (j := 1) (by omega)]
    show Wk _ p l e _ s m _ below meth c n0 _ h12 1 256 (mkF m 89 #[.val (.ref o), .val (.long (Int64.ofNat v)), .second, .val (.int ((63 : Int32) - (Int32.ofNat (nl v)))), .val (.int (Int32.ofNat (Ky v / 128))), .val (.int (Int32.ofNat (Ky v % 128))), .val (.ref b)] [(.long (Int64.ofNat (cR xs (Ky v / 128) + 1))), (.int (Int32.ofNat (Ky v / 128))), (.ref rc)])
    refine Wk.fStJ C F20 (cl32 (by omega)) (nn32 (by omega)) (by omega) (xS.2.2.2.2.2.2.2.2 _ xS.2.2.2.2.2.2.2.1).1 d3_89 ?_
    intro h22 W23 F24
    have F25 : Exa Z h22 o "com/example/headroom/headroom/Histogram" := F15.wr W23
    have F26 : Fld Z h22 o "com/example/headroom/headroom/Histogram" "rows" "[[J" (.ref ro) := F16.other W23 (Or.inl xS.2.1)
    have F27 : Fld Z h22 o "com/example/headroom/headroom/Histogram" "rowCounts" "[J" (.ref rc) := F17.other W23 (Or.inl xS.2.1)
    have F28 : Fld Z h22 o "com/example/headroom/headroom/Histogram" "count" "J" (.long (Int64.ofNat xs.length)) := F18.other W23 (Or.inl xS.2.1)
    have F29 : FaA Z h22 ro .long "[J" 57 κR := F19.other W23 xS.2.2.1
    have F30 : Fa Z h22 b .long 256 (up (up (LF ((cF xs) (Ky v / 128))) (2 * (Ky v % 128)) (.long (Int64.ofNat (cF xs (Ky v / 128) (2 * (Ky v % 128)) + 1)))) ((2 * (Ky v % 128)) + 1) (.long (Int64.ofNat v))) := F14.other W23 xD.2.2.1
    have K31 := K21.wr W23 (Or.inl (by simp))
    show Wk _ p l e _ s m _ below meth c n0 _ h22 1 256 (mkF m 90 #[.val (.ref o), .val (.long (Int64.ofNat v)), .second, .val (.int ((63 : Int32) - (Int32.ofNat (nl v)))), .val (.int (Int32.ofNat (Ky v / 128))), .val (.int (Int32.ofNat (Ky v % 128))), .val (.ref b)] [])
    refine Wk.st (g' := (mkF m 91 #[.val (.ref o), .val (.long (Int64.ofNat v)), .second, .val (.int ((63 : Int32) - (Int32.ofNat (nl v)))), .val (.int (Int32.ofNat (Ky v / 128))), .val (.int (Int32.ofNat (Ky v % 128))), .val (.ref b)] [(.ref o)])) (fun X t q => XS.aloadN X.here C.hx rfl (hb C.hby d3_90) rfl rfl q) ?_
    refine Wk.st (g' := (mkF m 92 #[.val (.ref o), .val (.long (Int64.ofNat v)), .second, .val (.int ((63 : Int32) - (Int32.ofNat (nl v)))), .val (.int (Int32.ofNat (Ky v / 128))), .val (.int (Int32.ofNat (Ky v % 128))), .val (.ref b)] [(.ref o), (.ref o)])) (fun X t q => XS.dup X.here C.hx rfl (hb C.hby d3_91) rfl rfl q) ?_
    refine Wk.getF C (hw _ (List.mem_of_getElem? (i := 41) rfl)) Via.refl F28 d3_92 ?_
    show Wk _ p l e _ s m _ below meth c n0 _ h22 1 256 (mkF m 95 #[.val (.ref o), .val (.long (Int64.ofNat v)), .second, .val (.int ((63 : Int32) - (Int32.ofNat (nl v)))), .val (.int (Int32.ofNat (Ky v / 128))), .val (.int (Int32.ofNat (Ky v % 128))), .val (.ref b)] [(.long (Int64.ofNat xs.length)), (.ref o)])
    refine Wk.st (g' := (mkF m 96 #[.val (.ref o), .val (.long (Int64.ofNat v)), .second, .val (.int ((63 : Int32) - (Int32.ofNat (nl v)))), .val (.int (Int32.ofNat (Ky v / 128))), .val (.int (Int32.ofNat (Ky v % 128))), .val (.ref b)] [(.long (1 : Int64)), (.long (Int64.ofNat xs.length)), (.ref o)])) (fun X t q => XS.lconst X.here C.hx rfl (hb C.hby d3_95) q) ?_
    refine Wk.st (g' := (mkF m 97 #[.val (.ref o), .val (.long (Int64.ofNat v)), .second, .val (.int ((63 : Int32) - (Int32.ofNat (nl v)))), .val (.int (Int32.ofNat (Ky v / 128))), .val (.int (Int32.ofNat (Ky v % 128))), .val (.ref b)] [(.long ((Int64.ofNat xs.length) + (1 : Int64))), (.ref o)])) (fun X t q => XS.ladd X.here C.hx rfl (hb C.hby d3_96) rfl q) ?_
    rw [show ((Int64.ofNat xs.length) + (1 : Int64)) = (Int64.ofNat (xs.length + 1)) from add64 (j := 1) (by omega)]
    show Wk _ p l e _ s m _ below meth c n0 _ h22 1 256 (mkF m 97 #[.val (.ref o), .val (.long (Int64.ofNat v)), .second, .val (.int ((63 : Int32) - (Int32.ofNat (nl v)))), .val (.int (Int32.ofNat (Ky v / 128))), .val (.int (Int32.ofNat (Ky v % 128))), .val (.ref b)] [(.long (Int64.ofNat (xs.length + 1))), (.ref o)])
    refine Wk.putF C (hw _ (List.mem_of_getElem? (i := 41) rfl)) Via.refl F28 F25 (Or.inl (hw _ (List.mem_of_getElem? (i := 42) rfl))) (hw _ (List.mem_of_getElem? (i := 3) rfl)) (ty := .long) (by decide) (v' := (.long (Int64.ofNat (xs.length + 1)))) rfl rfl (xS.2.2.2.2.2.2.2.2 _ xS.2.2.2.2.2.1).1 d3_97 ?_
    intro h32 W33
    have F34 : Fld Z h32 o "com/example/headroom/headroom/Histogram" "count" "J" (.long (Int64.ofNat (xs.length + 1))) := F28.same W33
    have F35 : Exa Z h32 o "com/example/headroom/headroom/Histogram" := F25.wr W33
    have F36 : Fld Z h32 o "com/example/headroom/headroom/Histogram" "rows" "[[J" (.ref ro) := F26.other W33 (Or.inr (slot_ne (Or.inr (hw _ (List.mem_of_getElem? (i := 14) rfl))) (Or.inl (hw _ (List.mem_of_getElem? (i := 42) rfl))) (by decide) (t := (.array (.array .long))) (t' := .long) (by decide) (by decide)))
    have F37 : Fld Z h32 o "com/example/headroom/headroom/Histogram" "rowCounts" "[J" (.ref rc) := F27.other W33 (Or.inr (slot_ne (Or.inr (hw _ (List.mem_of_getElem? (i := 17) rfl))) (Or.inl (hw _ (List.mem_of_getElem? (i := 42) rfl))) (by decide) (t := (.array .long)) (t' := .long) (by decide) (by decide)))
    have F38 : FaA Z h32 ro .long "[J" 57 κR := F29.other W33 (Ne.symm xS.1)
    have F39 : Fa Z h32 b .long 256 (up (up (LF ((cF xs) (Ky v / 128))) (2 * (Ky v % 128)) (.long (Int64.ofNat (cF xs (Ky v / 128) (2 * (Ky v % 128)) + 1)))) ((2 * (Ky v % 128)) + 1) (.long (Int64.ofNat v))) := F30.other W33 xD.1
    have F40 : Fa Z h32 rc .long 57 (up (LF (cR xs)) (Ky v / 128) (.long (Int64.ofNat (cR xs (Ky v / 128) + 1)))) := F24.other W33 (Ne.symm xS.2.1)
    have K41 := K31.wr W33 (Or.inl (by simp))
    show Wk _ p l e _ s m _ below meth c n0 _ h32 1 256 (mkF m 100 #[.val (.ref o), .val (.long (Int64.ofNat v)), .second, .val (.int ((63 : Int32) - (Int32.ofNat (nl v)))), .val (.int (Int32.ofNat (Ky v / 128))), .val (.int (Int32.ofNat (Ky v % 128))), .val (.ref b)] [])
    have hm := (lt64 le3 hv).mp hb11
    have hx : max (cF xs (Ky v / 128) ((2 * (Ky v % 128)) + 1)) v = v := by omega
    exact Wk.retN0 C rfl d3_100 (by decide) (by decide) ⟨wsR, rfl, ⟨⟨ro, rc, κR, HR.put hk hbR K41 (fun a ha => by rcases List.mem_cons.mp ha with q | ha; exact Or.inl q; rcases List.mem_cons.mp ha with q | ha; exact Or.inr (Or.inl q); exact Or.inr (Or.inr (List.mem_singleton.mp ha))) F35 F36 F37 F34 (F40.congr (g := LF (cR (v :: xs))) (fun i hi => (LF_up _ _ _ i))) (fun r' hr' => up_ne hr') (F39.congr (g := LF (up (up (cF xs (Ky v / 128)) (2 * (Ky v % 128)) (cF xs (Ky v / 128) (2 * (Ky v % 128)) + 1)) ((2 * (Ky v % 128)) + 1) (max (cF xs (Ky v / 128) ((2 * (Ky v % 128)) + 1)) v))) (row_lt hx))⟩, fun u hu => (List.mem_cons.mp hu).elim (fun q => q ▸ hv) (HB u)⟩, KR.trans K41 (nvS (GR _ xS.2.2.2.2.2.1) (nvS (GR _ xS.2.2.2.2.2.2.2.1) (nvS (GR _ xD.2.2.2) nv0))), GR⟩
  · skip
    refine Wk.st (g' := (mkF m 79 #[.val (.ref o), .val (.long (Int64.ofNat v)), .second, .val (.int ((63 : Int32) - (Int32.ofNat (nl v)))), .val (.int (Int32.ofNat (Ky v / 128))), .val (.int (Int32.ofNat (Ky v % 128))), .val (.ref b)] [])) (fun X t q => XS.ifYes X.here C.hx rfl (pc0 := 66) (pc' := 79) rfl (hb C.hby d3_66) rfl (XT.ll_le_t hb11) (by decide) (by decide) q) ?_
    refine Wk.st (g' := (mkF m 80 #[.val (.ref o), .val (.long (Int64.ofNat v)), .second, .val (.int ((63 : Int32) - (Int32.ofNat (nl v)))), .val (.int (Int32.ofNat (Ky v / 128))), .val (.int (Int32.ofNat (Ky v % 128))), .val (.ref b)] [(.ref o)])) (fun X t q => XS.aloadN X.here C.hx rfl (hb C.hby d3_79) rfl rfl q) ?_
    refine Wk.getF C (hw _ (List.mem_of_getElem? (i := 16) rfl)) Via.refl F6 d3_80 ?_
    show Wk _ p l e _ s m _ below meth c n0 _ h1 1 256 (mkF m 83 #[.val (.ref o), .val (.long (Int64.ofNat v)), .second, .val (.int ((63 : Int32) - (Int32.ofNat (nl v)))), .val (.int (Int32.ofNat (Ky v / 128))), .val (.int (Int32.ofNat (Ky v % 128))), .val (.ref b)] [(.ref rc)])
    refine Wk.st (g' := (mkF m 85 #[.val (.ref o), .val (.long (Int64.ofNat v)), .second, .val (.int ((63 : Int32) - (Int32.ofNat (nl v)))), .val (.int (Int32.ofNat (Ky v / 128))), .val (.int (Int32.ofNat (Ky v % 128))), .val (.ref b)] [(.int (Int32.ofNat (Ky v / 128))), (.ref rc)])) (fun X t q => XS.iload X.here C.hx rfl (hb C.hby d3_83) rfl q) ?_
    refine Wk.st (g' := (mkF m 86 #[.val (.ref o), .val (.long (Int64.ofNat v)), .second, .val (.int ((63 : Int32) - (Int32.ofNat (nl v)))), .val (.int (Int32.ofNat (Ky v / 128))), .val (.int (Int32.ofNat (Ky v % 128))), .val (.ref b)] [(.int (Int32.ofNat (Ky v / 128))), (.ref rc), (.int (Int32.ofNat (Ky v / 128))), (.ref rc)])) (fun X t q => XT.dup2 X.here C.hx rfl (hb C.hby d3_85) rfl rfl rfl q) ?_
    refine Wk.fLdJ C F9 (cl32 (by omega)) (nn32 (by omega)) (by omega) (v := (.long (Int64.ofNat ((cR xs) (Ky v / 128))))) (rfl) d3_86 ?_
    show Wk _ p l e _ s m _ below meth c n0 _ h1 1 256 (mkF m 87 #[.val (.ref o), .val (.long (Int64.ofNat v)), .second, .val (.int ((63 : Int32) - (Int32.ofNat (nl v)))), .val (.int (Int32.ofNat (Ky v / 128))), .val (.int (Int32.ofNat (Ky v % 128))), .val (.ref b)] [(.long (Int64.ofNat ((cR xs) (Ky v / 128)))), (.int (Int32.ofNat (Ky v / 128))), (.ref rc)])
    refine Wk.st (g' := (mkF m 88 #[.val (.ref o), .val (.long (Int64.ofNat v)), .second, .val (.int ((63 : Int32) - (Int32.ofNat (nl v)))), .val (.int (Int32.ofNat (Ky v / 128))), .val (.int (Int32.ofNat (Ky v % 128))), .val (.ref b)] [(.long (1 : Int64)), (.long (Int64.ofNat ((cR xs) (Ky v / 128)))), (.int (Int32.ofNat (Ky v / 128))), (.ref rc)])) (fun X t q => XS.lconst X.here C.hx rfl (hb C.hby d3_87) q) ?_
    refine Wk.st (g' := (mkF m 89 #[.val (.ref o), .val (.long (Int64.ofNat v)), .second, .val (.int ((63 : Int32) - (Int32.ofNat (nl v)))), .val (.int (Int32.ofNat (Ky v / 128))), .val (.int (Int32.ofNat (Ky v % 128))), .val (.ref b)] [(.long ((Int64.ofNat ((cR xs) (Ky v / 128))) + (1 : Int64))), (.int (Int32.ofNat (Ky v / 128))), (.ref rc)])) (fun X t q => XS.ladd X.here C.hx rfl (hb C.hby d3_88) rfl q) ?_
    rw [show ((Int64.ofNat ((cR xs) (Ky v / 128))) + (1 : Int64)) = (Int64.ofNat (cR xs (Ky v / 128) + 1)) from add64 (j := 1) (by omega)]
    show Wk _ p l e _ s m _ below meth c n0 _ h1 1 256 (mkF m 89 #[.val (.ref o), .val (.long (Int64.ofNat v)), .second, .val (.int ((63 : Int32) - (Int32.ofNat (nl v)))), .val (.int (Int32.ofNat (Ky v / 128))), .val (.int (Int32.ofNat (Ky v % 128))), .val (.ref b)] [(.long (Int64.ofNat (cR xs (Ky v / 128) + 1))), (.int (Int32.ofNat (Ky v / 128))), (.ref rc)])
    refine Wk.fStJ C F9 (cl32 (by omega)) (nn32 (by omega)) (by omega) (xS.2.2.2.2.2.2.2.2 _ xS.2.2.2.2.2.2.2.1).1 d3_89 ?_
    intro h42 W43 F44
    have F45 : Exa Z h42 o "com/example/headroom/headroom/Histogram" := F4.wr W43
    have F46 : Fld Z h42 o "com/example/headroom/headroom/Histogram" "rows" "[[J" (.ref ro) := F5.other W43 (Or.inl xS.2.1)
    have F47 : Fld Z h42 o "com/example/headroom/headroom/Histogram" "rowCounts" "[J" (.ref rc) := F6.other W43 (Or.inl xS.2.1)
    have F48 : Fld Z h42 o "com/example/headroom/headroom/Histogram" "count" "J" (.long (Int64.ofNat xs.length)) := F7.other W43 (Or.inl xS.2.1)
    have F49 : FaA Z h42 ro .long "[J" 57 κR := F8.other W43 xS.2.2.1
    have F50 : Fa Z h42 b .long 256 (up (LF ((cF xs) (Ky v / 128))) (2 * (Ky v % 128)) (.long (Int64.ofNat (cF xs (Ky v / 128) (2 * (Ky v % 128)) + 1)))) := F3.other W43 xD.2.2.1
    have K51 := K10.wr W43 (Or.inl (by simp))
    show Wk _ p l e _ s m _ below meth c n0 _ h42 1 256 (mkF m 90 #[.val (.ref o), .val (.long (Int64.ofNat v)), .second, .val (.int ((63 : Int32) - (Int32.ofNat (nl v)))), .val (.int (Int32.ofNat (Ky v / 128))), .val (.int (Int32.ofNat (Ky v % 128))), .val (.ref b)] [])
    refine Wk.st (g' := (mkF m 91 #[.val (.ref o), .val (.long (Int64.ofNat v)), .second, .val (.int ((63 : Int32) - (Int32.ofNat (nl v)))), .val (.int (Int32.ofNat (Ky v / 128))), .val (.int (Int32.ofNat (Ky v % 128))), .val (.ref b)] [(.ref o)])) (fun X t q => XS.aloadN X.here C.hx rfl (hb C.hby d3_90) rfl rfl q) ?_
    refine Wk.st (g' := (mkF m 92 #[.val (.ref o), .val (.long (Int64.ofNat v)), .second, .val (.int ((63 : Int32) - (Int32.ofNat (nl v)))), .val (.int (Int32.ofNat (Ky v / 128))), .val (.int (Int32.ofNat (Ky v % 128))), .val (.ref b)] [(.ref o), (.ref o)])) (fun X t q => XS.dup X.here C.hx rfl (hb C.hby d3_91) rfl rfl q) ?_
    refine Wk.getF C (hw _ (List.mem_of_getElem? (i := 41) rfl)) Via.refl F48 d3_92 ?_
    show Wk _ p l e _ s m _ below meth c n0 _ h42 1 256 (mkF m 95 #[.val (.ref o), .val (.long (Int64.ofNat v)), .second, .val (.int ((63 : Int32) - (Int32.ofNat (nl v)))), .val (.int (Int32.ofNat (Ky v / 128))), .val (.int (Int32.ofNat (Ky v % 128))), .val (.ref b)] [(.long (Int64.ofNat xs.length)), (.ref o)])
    refine Wk.st (g' := (mkF m 96 #[.val (.ref o), .val (.long (Int64.ofNat v)), .second, .val (.int ((63 : Int32) - (Int32.ofNat (nl v)))), .val (.int (Int32.ofNat (Ky v / 128))), .val (.int (Int32.ofNat (Ky v % 128))), .val (.ref b)] [(.long (1 : Int64)), (.long (Int64.ofNat xs.length)), (.ref o)])) (fun X t q => XS.lconst X.here C.hx rfl (hb C.hby d3_95) q) ?_
    refine Wk.st (g' := (mkF m 97 #[.val (.ref o), .val (.long (Int64.ofNat v)), .second, .val (.int ((63 : Int32) - (Int32.ofNat (nl v)))), .val (.int (Int32.ofNat (Ky v / 128))), .val (.int (Int32.ofNat (Ky v % 128))), .val (.ref b)] [(.long ((Int64.ofNat xs.length) + (1 : Int64))), (.ref o)])) (fun X t q => XS.ladd X.here C.hx rfl (hb C.hby d3_96) rfl q) ?_
    rw [show ((Int64.ofNat xs.length) + (1 : Int64)) = (Int64.ofNat (xs.length + 1)) from add64 (j := 1) (by omega)]
    show Wk _ p l e _ s m _ below meth c n0 _ h42 1 256 (mkF m 97 #[.val (.ref o), .val (.long (Int64.ofNat v)), .second, .val (.int ((63 : Int32) - (Int32.ofNat (nl v)))), .val (.int (Int32.ofNat (Ky v / 128))), .val (.int (Int32.ofNat (Ky v % 128))), .val (.ref b)] [(.long (Int64.ofNat (xs.length + 1))), (.ref o)])
    refine Wk.putF C (hw _ (List.mem_of_getElem? (i := 41) rfl)) Via.refl F48 F45 (Or.inl (hw _ (List.mem_of_getElem? (i := 42) rfl))) (hw _ (List.mem_of_getElem? (i := 3) rfl)) (ty := .long) (by decide) (v' := (.long (Int64.ofNat (xs.length + 1)))) rfl rfl (xS.2.2.2.2.2.2.2.2 _ xS.2.2.2.2.2.1).1 d3_97 ?_
    intro h52 W53
    have F54 : Fld Z h52 o "com/example/headroom/headroom/Histogram" "count" "J" (.long (Int64.ofNat (xs.length + 1))) := F48.same W53
    have F55 : Exa Z h52 o "com/example/headroom/headroom/Histogram" := F45.wr W53
    have F56 : Fld Z h52 o "com/example/headroom/headroom/Histogram" "rows" "[[J" (.ref ro) := F46.other W53 (Or.inr (slot_ne (Or.inr (hw _ (List.mem_of_getElem? (i := 14) rfl))) (Or.inl (hw _ (List.mem_of_getElem? (i := 42) rfl))) (by decide) (t := (.array (.array .long))) (t' := .long) (by decide) (by decide)))
    have F57 : Fld Z h52 o "com/example/headroom/headroom/Histogram" "rowCounts" "[J" (.ref rc) := F47.other W53 (Or.inr (slot_ne (Or.inr (hw _ (List.mem_of_getElem? (i := 17) rfl))) (Or.inl (hw _ (List.mem_of_getElem? (i := 42) rfl))) (by decide) (t := (.array .long)) (t' := .long) (by decide) (by decide)))
    have F58 : FaA Z h52 ro .long "[J" 57 κR := F49.other W53 (Ne.symm xS.1)
    have F59 : Fa Z h52 b .long 256 (up (LF ((cF xs) (Ky v / 128))) (2 * (Ky v % 128)) (.long (Int64.ofNat (cF xs (Ky v / 128) (2 * (Ky v % 128)) + 1)))) := F50.other W53 xD.1
    have F60 : Fa Z h52 rc .long 57 (up (LF (cR xs)) (Ky v / 128) (.long (Int64.ofNat (cR xs (Ky v / 128) + 1)))) := F44.other W53 (Ne.symm xS.2.1)
    have K61 := K51.wr W53 (Or.inl (by simp))
    show Wk _ p l e _ s m _ below meth c n0 _ h52 1 256 (mkF m 100 #[.val (.ref o), .val (.long (Int64.ofNat v)), .second, .val (.int ((63 : Int32) - (Int32.ofNat (nl v)))), .val (.int (Int32.ofNat (Ky v / 128))), .val (.int (Int32.ofNat (Ky v % 128))), .val (.ref b)] [])
    have hm := mt (lt64 le3 hv).mpr hb11
    have hx : max (cF xs (Ky v / 128) ((2 * (Ky v % 128)) + 1)) v = cF xs (Ky v / 128) ((2 * (Ky v % 128)) + 1) := by omega
    exact Wk.retN0 C rfl d3_100 (by decide) (by decide) ⟨wsR, rfl, ⟨⟨ro, rc, κR, HR.put hk hbR K61 (fun a ha => by rcases List.mem_cons.mp ha with q | ha; exact Or.inl q; rcases List.mem_cons.mp ha with q | ha; exact Or.inr (Or.inl q); exact Or.inr (Or.inr (List.mem_singleton.mp ha))) F55 F56 F57 F54 (F60.congr (g := LF (cR (v :: xs))) (fun i hi => (LF_up _ _ _ i))) (fun r' hr' => up_ne hr') (F59.congr (g := LF (up (up (cF xs (Ky v / 128)) (2 * (Ky v % 128)) (cF xs (Ky v / 128) (2 * (Ky v % 128)) + 1)) ((2 * (Ky v % 128)) + 1) (max (cF xs (Ky v / 128) ((2 * (Ky v % 128)) + 1)) v))) (row_ge hx (by omega)))⟩, fun u hu => (List.mem_cons.mp hu).elim (fun q => q ▸ hv) (HB u)⟩, KR.trans K61 (nvS (GR _ xS.2.2.2.2.2.1) (nvS (GR _ xS.2.2.2.2.2.2.2.1) (nvS (GR _ xD.2.2.2) nv0))), GR⟩
theorem d12_0 : decode prog_8_method_4_code 0 = .ok (.aload_n 0, 1) := by decide +kernel
theorem d12_1 : decode prog_8_method_4_code 1 = .ok (.getfield 34, 3) := by decide +kernel
theorem d12_4 : decode prog_8_method_4_code 4 = .ok (.lreturn, 1) := by decide +kernel
set_option maxRecDepth 65536 in
set_option maxHeartbeats 40000000 in
theorem own_count (l : Launch) (Z : State) (a0 : Array Value) (hw : ∀ d ∈ tables_1, d.before a0 Z = true) (n0 : Nat) (h0 : Heap) (ws : List Addr) (o : Addr) (xs : List Nat) (HH : HL Z h0 n0 ws o xs) :
    Met false l Z n0 (⟨"com/example/headroom/headroom/Histogram", "count", "()J"⟩ : MethodName) prog_8_method_4_code 1 (some .long) ({ frames := 0, cells := 0, slots := 0, locals := 0 } : Room) #[(.ref o)] h0 (fun r h => r = some (.long (Int64.ofNat xs.length)) ∧ h0 = h) := by
  refine Met.of (plainFor_of_name pn_3) #[.val (.ref o)] (fun m => by first | (simp [entryFrame, mkF, argsToLocals, Value.category]; done) | rfl) ?_
  intro p e s m below meth c C
  obtain ⟨⟨ro, rc, κ, HI0⟩, HB⟩ := HH
  have xE := HI0.1
  have xR := HI0.2.1
  have xC := HI0.2.2.1
  have xN := HI0.2.2.2.1
  have xA := HI0.2.2.2.2.1
  have xG := HI0.2.2.2.2.2.1
  have xS := HI0.sep
  refine Wk.st (g' := (mkF m 1 #[.val (.ref o)] [(.ref o)])) (fun X t q => XS.aloadN X.here C.hx rfl (hb C.hby d12_0) rfl rfl q) ?_
  refine Wk.getF C (hw _ (List.mem_of_getElem? (i := 41) rfl)) Via.refl xN d12_1 ?_
  show Wk _ p l e _ s m _ below meth c n0 _ h0 0 0 (mkF m 4 #[.val (.ref o)] [(.long (Int64.ofNat xs.length))])
  exact Wk.retV C (t := .long) rfl rfl (Or.inr (Or.inl ⟨rfl, rfl, _, rfl⟩)) d12_4 (by decide) (by decide) ⟨rfl, rfl⟩
theorem d13_0 : decode prog_8_method_5_code 0 = .ok (.lconst 0, 1) := by decide +kernel
theorem d13_1 : decode prog_8_method_5_code 1 = .ok (.lstore_n 3, 1) := by decide +kernel
theorem d13_2 : decode prog_8_method_5_code 2 = .ok (.iconst 0, 1) := by decide +kernel
theorem d13_3 : decode prog_8_method_5_code 3 = .ok (.istore 5, 2) := by decide +kernel
theorem d13_5 : decode prog_8_method_5_code 5 = .ok (.lload_n 3, 1) := by decide +kernel
theorem d13_6 : decode prog_8_method_5_code 6 = .ok (.aload_n 0, 1) := by decide +kernel
theorem d13_7 : decode prog_8_method_5_code 7 = .ok (.getfield 17, 3) := by decide +kernel
theorem d13_10 : decode prog_8_method_5_code 10 = .ok (.iload 5, 2) := by decide +kernel
theorem d13_12 : decode prog_8_method_5_code 12 = .ok (.laload, 1) := by decide +kernel
theorem d13_13 : decode prog_8_method_5_code 13 = .ok (.ladd, 1) := by decide +kernel
theorem d13_14 : decode prog_8_method_5_code 14 = .ok (.lload_n 1, 1) := by decide +kernel
theorem d13_15 : decode prog_8_method_5_code 15 = .ok (.lcmp, 1) := by decide +kernel
theorem d13_16 : decode prog_8_method_5_code 16 = .ok (.ifCond .ge 19, 3) := by decide +kernel
theorem d13_19 : decode prog_8_method_5_code 19 = .ok (.lload_n 3, 1) := by decide +kernel
theorem d13_20 : decode prog_8_method_5_code 20 = .ok (.aload_n 0, 1) := by decide +kernel
theorem d13_21 : decode prog_8_method_5_code 21 = .ok (.getfield 17, 3) := by decide +kernel
theorem d13_24 : decode prog_8_method_5_code 24 = .ok (.iload 5, 2) := by decide +kernel
theorem d13_26 : decode prog_8_method_5_code 26 = .ok (.laload, 1) := by decide +kernel
theorem d13_27 : decode prog_8_method_5_code 27 = .ok (.ladd, 1) := by decide +kernel
theorem d13_28 : decode prog_8_method_5_code 28 = .ok (.lstore_n 3, 1) := by decide +kernel
theorem d13_29 : decode prog_8_method_5_code 29 = .ok (.iinc 5 1, 3) := by decide +kernel
theorem d13_32 : decode prog_8_method_5_code 32 = .ok (.goto (-27), 3) := by decide +kernel
theorem d13_35 : decode prog_8_method_5_code 35 = .ok (.aload_n 0, 1) := by decide +kernel
theorem d13_36 : decode prog_8_method_5_code 36 = .ok (.getfield 13, 3) := by decide +kernel
theorem d13_39 : decode prog_8_method_5_code 39 = .ok (.iload 5, 2) := by decide +kernel
theorem d13_41 : decode prog_8_method_5_code 41 = .ok (.aaload, 1) := by decide +kernel
theorem d13_42 : decode prog_8_method_5_code 42 = .ok (.astore 6, 2) := by decide +kernel
theorem d13_44 : decode prog_8_method_5_code 44 = .ok (.iconst 0, 1) := by decide +kernel
theorem d13_45 : decode prog_8_method_5_code 45 = .ok (.istore 7, 2) := by decide +kernel
theorem d13_47 : decode prog_8_method_5_code 47 = .ok (.lload_n 3, 1) := by decide +kernel
theorem d13_48 : decode prog_8_method_5_code 48 = .ok (.aload 6, 2) := by decide +kernel
theorem d13_50 : decode prog_8_method_5_code 50 = .ok (.iload 7, 2) := by decide +kernel
theorem d13_52 : decode prog_8_method_5_code 52 = .ok (.laload, 1) := by decide +kernel
theorem d13_53 : decode prog_8_method_5_code 53 = .ok (.ladd, 1) := by decide +kernel
theorem d13_54 : decode prog_8_method_5_code 54 = .ok (.lload_n 1, 1) := by decide +kernel
theorem d13_55 : decode prog_8_method_5_code 55 = .ok (.lcmp, 1) := by decide +kernel
theorem d13_56 : decode prog_8_method_5_code 56 = .ok (.ifCond .ge 17, 3) := by decide +kernel
theorem d13_59 : decode prog_8_method_5_code 59 = .ok (.lload_n 3, 1) := by decide +kernel
theorem d13_60 : decode prog_8_method_5_code 60 = .ok (.aload 6, 2) := by decide +kernel
theorem d13_62 : decode prog_8_method_5_code 62 = .ok (.iload 7, 2) := by decide +kernel
theorem d13_64 : decode prog_8_method_5_code 64 = .ok (.laload, 1) := by decide +kernel
theorem d13_65 : decode prog_8_method_5_code 65 = .ok (.ladd, 1) := by decide +kernel
theorem d13_66 : decode prog_8_method_5_code 66 = .ok (.lstore_n 3, 1) := by decide +kernel
theorem d13_67 : decode prog_8_method_5_code 67 = .ok (.iinc 7 2, 3) := by decide +kernel
theorem d13_70 : decode prog_8_method_5_code 70 = .ok (.goto (-23), 3) := by decide +kernel
theorem d13_73 : decode prog_8_method_5_code 73 = .ok (.aload 6, 2) := by decide +kernel
theorem d13_75 : decode prog_8_method_5_code 75 = .ok (.iload 7, 2) := by decide +kernel
theorem d13_77 : decode prog_8_method_5_code 77 = .ok (.iconst 1, 1) := by decide +kernel
theorem d13_78 : decode prog_8_method_5_code 78 = .ok (.iadd, 1) := by decide +kernel
theorem d13_79 : decode prog_8_method_5_code 79 = .ok (.laload, 1) := by decide +kernel
theorem d13_80 : decode prog_8_method_5_code 80 = .ok (.lreturn, 1) := by decide +kernel
set_option maxRecDepth 65536 in
set_option maxHeartbeats 40000000 in
theorem own_valueAt (l : Launch) (Z : State) (a0 : Array Value) (hw : ∀ d ∈ tables_1, d.before a0 Z = true) (n0 : Nat) (h0 : Heap) (ws : List Addr) (o : Addr) (xs : List Nat) (HH : HL Z h0 n0 ws o xs) (hl : xs.length < 1000) (k : Nat) (hk1 : 1 ≤ k) (hk2 : k ≤ xs.length) :
    Met false l Z n0 (⟨"com/example/headroom/headroom/Histogram", "valueAt", "(J)J"⟩ : MethodName) prog_8_method_5_code 8 (some .long) ({ frames := 0, cells := 0, slots := 0, locals := 0 } : Room) #[(.ref o), (.long (Int64.ofNat k))] h0 (fun r h => r = some (.long (Int64.ofNat (Va xs k))) ∧ h0 = h) := by
  refine Met.of (plainFor_of_name pn_3) #[.val (.ref o), .val (.long (Int64.ofNat k)), .second, .unset, .unset, .unset, .unset, .unset] (fun m => by first | (simp [entryFrame, mkF, argsToLocals, Value.category]; done) | rfl) ?_
  intro p e s m below meth c C
  obtain ⟨⟨ro, rc, κ, HI0⟩, HB⟩ := HH
  have xE := HI0.1
  have xR := HI0.2.1
  have xC := HI0.2.2.1
  have xN := HI0.2.2.2.1
  have xA := HI0.2.2.2.2.1
  have xG := HI0.2.2.2.2.2.1
  have xS := HI0.sep
  have k47 : ∀ (r : Nat) (b : Addr), r < 57 → κ r = .ref b → ∀ n i s0 : Nat, i + n = 128 → s0 < k → k ≤ s0 + sG (fun b => cF xs r (2 * b)) n i → s0 + sG (fun b => cF xs r (2 * b)) n i < 1000 → cF xs r (2 * fB (cF xs r) k n i s0 + 1) = Va xs k → Wk false p l e ({ frames := 0, cells := 0, slots := 0, locals := 0 } : Room) s m #[(.ref o), (.long (Int64.ofNat k))] below meth c n0 (fun r h => r = some (.long (Int64.ofNat (Va xs k))) ∧ h0 = h) h0 0 0 (mkF m 47 #[.val (.ref o), .val (.long (Int64.ofNat k)), .second, .val (.long (Int64.ofNat s0)), .second, .val (.int (Int32.ofNat r)), .val (.ref b), .val (.int (Int32.ofNat (2 * i)))] []) := by
    intro r b hr hb0 n
    induction n with
    | zero => intro i s0 g1 g2 g3 g4 g5; exfalso; simp only [sG] at g3; omega
    | succ n ih =>
      intro i s0 g1 g2 g3 g4 g5
      rw [sG] at g3 g4
      have xB := HI0.at hr hb0
      refine Wk.st (g' := (mkF m 48 #[.val (.ref o), .val (.long (Int64.ofNat k)), .second, .val (.long (Int64.ofNat s0)), .second, .val (.int (Int32.ofNat r)), .val (.ref b), .val (.int (Int32.ofNat (2 * i)))] [(.long (Int64.ofNat s0))])) (fun X t q => XS.lloadN X.here C.hx rfl (hb C.hby d13_47) rfl q) ?_
      refine Wk.st (g' := (mkF m 50 #[.val (.ref o), .val (.long (Int64.ofNat k)), .second, .val (.long (Int64.ofNat s0)), .second, .val (.int (Int32.ofNat r)), .val (.ref b), .val (.int (Int32.ofNat (2 * i)))] [(.ref b), (.long (Int64.ofNat s0))])) (fun X t q => XS.aload X.here C.hx rfl (hb C.hby d13_48) rfl rfl q) ?_
      refine Wk.st (g' := (mkF m 52 #[.val (.ref o), .val (.long (Int64.ofNat k)), .second, .val (.long (Int64.ofNat s0)), .second, .val (.int (Int32.ofNat r)), .val (.ref b), .val (.int (Int32.ofNat (2 * i)))] [(.int (Int32.ofNat (2 * i))), (.ref b), (.long (Int64.ofNat s0))])) (fun X t q => XS.iload X.here C.hx rfl (hb C.hby d13_50) rfl q) ?_
      refine Wk.fLdJ C xB (cl32 (by omega)) (nn32 (by omega)) (by omega) (v := (.long (Int64.ofNat (cF xs r (2 * i))))) (rfl) d13_52 ?_
      show Wk _ p l e _ s m _ below meth c n0 _ h0 0 0 (mkF m 53 #[.val (.ref o), .val (.long (Int64.ofNat k)), .second, .val (.long (Int64.ofNat s0)), .second, .val (.int (Int32.ofNat r)), .val (.ref b), .val (.int (Int32.ofNat (2 * i)))] [(.long (Int64.ofNat (cF xs r (2 * i)))), (.long (Int64.ofNat s0))])
      refine Wk.st (g' := (mkF m 54 #[.val (.ref o), .val (.long (Int64.ofNat k)), .second, .val (.long (Int64.ofNat s0)), .second, .val (.int (Int32.ofNat r)), .val (.ref b), .val (.int (Int32.ofNat (2 * i)))] [(.long ((Int64.ofNat s0) + (Int64.ofNat (cF xs r (2 * i)))))])) (fun X t q => XS.ladd X.here C.hx rfl (hb C.hby d13_53) rfl q) ?_
      rw [show ((Int64.ofNat s0) + (Int64.ofNat (cF xs r (2 * i)))) = (Int64.ofNat (s0 + cF xs r (2 * i))) from add64 (by omega)]
      show Wk _ p l e _ s m _ below meth c n0 _ h0 0 0 (mkF m 54 #[.val (.ref o), .val (.long (Int64.ofNat k)), .second, .val (.long (Int64.ofNat s0)), .second, .val (.int (Int32.ofNat r)), .val (.ref b), .val (.int (Int32.ofNat (2 * i)))] [(.long (Int64.ofNat (s0 + cF xs r (2 * i))))])
      refine Wk.st (g' := (mkF m 55 #[.val (.ref o), .val (.long (Int64.ofNat k)), .second, .val (.long (Int64.ofNat s0)), .second, .val (.int (Int32.ofNat r)), .val (.ref b), .val (.int (Int32.ofNat (2 * i)))] [(.long (Int64.ofNat k)), (.long (Int64.ofNat (s0 + cF xs r (2 * i))))])) (fun X t q => XS.lloadN X.here C.hx rfl (hb C.hby d13_54) rfl q) ?_
      refine Wk.st (g' := (mkF m 56 #[.val (.ref o), .val (.long (Int64.ofNat k)), .second, .val (.long (Int64.ofNat s0)), .second, .val (.int (Int32.ofNat r)), .val (.ref b), .val (.int (Int32.ofNat (2 * i)))] [(.int (XT.cmpL (Int64.ofNat (s0 + cF xs r (2 * i))) (Int64.ofNat k)))])) (fun X t q => XT.lcmp X.here C.hx rfl (hb C.hby d13_55) rfl q) ?_
      by_cases hb1 : (Int64.ofNat (s0 + cF xs r (2 * i))) < (Int64.ofNat k)
      · skip
        refine Wk.st (g' := (mkF m 59 #[.val (.ref o), .val (.long (Int64.ofNat k)), .second, .val (.long (Int64.ofNat s0)), .second, .val (.int (Int32.ofNat r)), .val (.ref b), .val (.int (Int32.ofNat (2 * i)))] [])) (fun X t q => XS.ifNo X.here C.hx rfl (hb C.hby d13_56) rfl (XT.ll_ge_f hb1) q) ?_
        refine Wk.st (g' := (mkF m 60 #[.val (.ref o), .val (.long (Int64.ofNat k)), .second, .val (.long (Int64.ofNat s0)), .second, .val (.int (Int32.ofNat r)), .val (.ref b), .val (.int (Int32.ofNat (2 * i)))] [(.long (Int64.ofNat s0))])) (fun X t q => XS.lloadN X.here C.hx rfl (hb C.hby d13_59) rfl q) ?_
        refine Wk.st (g' := (mkF m 62 #[.val (.ref o), .val (.long (Int64.ofNat k)), .second, .val (.long (Int64.ofNat s0)), .second, .val (.int (Int32.ofNat r)), .val (.ref b), .val (.int (Int32.ofNat (2 * i)))] [(.ref b), (.long (Int64.ofNat s0))])) (fun X t q => XS.aload X.here C.hx rfl (hb C.hby d13_60) rfl rfl q) ?_
        refine Wk.st (g' := (mkF m 64 #[.val (.ref o), .val (.long (Int64.ofNat k)), .second, .val (.long (Int64.ofNat s0)), .second, .val (.int (Int32.ofNat r)), .val (.ref b), .val (.int (Int32.ofNat (2 * i)))] [(.int (Int32.ofNat (2 * i))), (.ref b), (.long (Int64.ofNat s0))])) (fun X t q => XS.iload X.here C.hx rfl (hb C.hby d13_62) rfl q) ?_
        refine Wk.fLdJ C xB (cl32 (by omega)) (nn32 (by omega)) (by omega) (v := (.long (Int64.ofNat (cF xs r (2 * i))))) (rfl) d13_64 ?_
        show Wk _ p l e _ s m _ below meth c n0 _ h0 0 0 (mkF m 65 #[.val (.ref o), .val (.long (Int64.ofNat k)), .second, .val (.long (Int64.ofNat s0)), .second, .val (.int (Int32.ofNat r)), .val (.ref b), .val (.int (Int32.ofNat (2 * i)))] [(.long (Int64.ofNat (cF xs r (2 * i)))), (.long (Int64.ofNat s0))])
        refine Wk.st (g' := (mkF m 66 #[.val (.ref o), .val (.long (Int64.ofNat k)), .second, .val (.long (Int64.ofNat s0)), .second, .val (.int (Int32.ofNat r)), .val (.ref b), .val (.int (Int32.ofNat (2 * i)))] [(.long ((Int64.ofNat s0) + (Int64.ofNat (cF xs r (2 * i)))))])) (fun X t q => XS.ladd X.here C.hx rfl (hb C.hby d13_65) rfl q) ?_
        rw [show ((Int64.ofNat s0) + (Int64.ofNat (cF xs r (2 * i)))) = (Int64.ofNat (s0 + cF xs r (2 * i))) from add64 (by omega)]
        show Wk _ p l e _ s m _ below meth c n0 _ h0 0 0 (mkF m 66 #[.val (.ref o), .val (.long (Int64.ofNat k)), .second, .val (.long (Int64.ofNat s0)), .second, .val (.int (Int32.ofNat r)), .val (.ref b), .val (.int (Int32.ofNat (2 * i)))] [(.long (Int64.ofNat (s0 + cF xs r (2 * i))))])
        refine Wk.st (g' := (mkF m 67 #[.val (.ref o), .val (.long (Int64.ofNat k)), .second, .val (.long (Int64.ofNat (s0 + cF xs r (2 * i)))), .second, .val (.int (Int32.ofNat r)), .val (.ref b), .val (.int (Int32.ofNat (2 * i)))] [])) (fun X t q => XS.lstoreN X.here C.hx rfl (hb C.hby d13_66) rfl (l' := #[.val (.ref o), .val (.long (Int64.ofNat k)), .second, .val (.long (Int64.ofNat (s0 + cF xs r (2 * i)))), .second, .val (.int (Int32.ofNat r)), .val (.ref b), .val (.int (Int32.ofNat (2 * i)))]) rfl q) ?_
        refine Wk.st (g' := (mkF m 70 #[.val (.ref o), .val (.long (Int64.ofNat k)), .second, .val (.long (Int64.ofNat (s0 + cF xs r (2 * i)))), .second, .val (.int (Int32.ofNat r)), .val (.ref b), .val (.int ((Int32.ofNat (2 * i)) + (2 : Int32)))] [])) (fun X t q => XS.iinc X.here C.hx rfl (hb C.hby d13_67) rfl (l' := #[.val (.ref o), .val (.long (Int64.ofNat k)), .second, .val (.long (Int64.ofNat (s0 + cF xs r (2 * i)))), .second, .val (.int (Int32.ofNat r)), .val (.ref b), .val (.int ((Int32.ofNat (2 * i)) + (2 : Int32)))]) rfl q) ?_
        rw [show ((Int32.ofNat (2 * i)) + (2 : Int32)) = (Int32.ofNat (2 * (i + 1))) from add32 (j := 2) (by omega)]
        show Wk _ p l e _ s m _ below meth c n0 _ h0 0 0 (mkF m 70 #[.val (.ref o), .val (.long (Int64.ofNat k)), .second, .val (.long (Int64.ofNat (s0 + cF xs r (2 * i)))), .second, .val (.int (Int32.ofNat r)), .val (.ref b), .val (.int (Int32.ofNat (2 * (i + 1))))] [])
        refine Wk.st (g' := (mkF m 47 #[.val (.ref o), .val (.long (Int64.ofNat k)), .second, .val (.long (Int64.ofNat (s0 + cF xs r (2 * i)))), .second, .val (.int (Int32.ofNat r)), .val (.ref b), .val (.int (Int32.ofNat (2 * (i + 1))))] [])) (fun X t q => XS.goto X.here C.hx rfl (pc0 := 70) (pc' := 47) rfl (hb C.hby d13_70) (by decide) (by decide) q) ?_
        have gl := (lt64 (by omega) (by omega)).mp hb1
        exact ih (i + 1) (s0 + cF xs r (2 * i)) (by omega) gl (by omega) (by omega) (by rw [← g5, fB_in gl])
      · skip
        refine Wk.st (g' := (mkF m 73 #[.val (.ref o), .val (.long (Int64.ofNat k)), .second, .val (.long (Int64.ofNat s0)), .second, .val (.int (Int32.ofNat r)), .val (.ref b), .val (.int (Int32.ofNat (2 * i)))] [])) (fun X t q => XS.ifYes X.here C.hx rfl (pc0 := 56) (pc' := 73) rfl (hb C.hby d13_56) rfl (XT.ll_ge_t hb1) (by decide) (by decide) q) ?_
        refine Wk.st (g' := (mkF m 75 #[.val (.ref o), .val (.long (Int64.ofNat k)), .second, .val (.long (Int64.ofNat s0)), .second, .val (.int (Int32.ofNat r)), .val (.ref b), .val (.int (Int32.ofNat (2 * i)))] [(.ref b)])) (fun X t q => XS.aload X.here C.hx rfl (hb C.hby d13_73) rfl rfl q) ?_
        refine Wk.st (g' := (mkF m 77 #[.val (.ref o), .val (.long (Int64.ofNat k)), .second, .val (.long (Int64.ofNat s0)), .second, .val (.int (Int32.ofNat r)), .val (.ref b), .val (.int (Int32.ofNat (2 * i)))] [(.int (Int32.ofNat (2 * i))), (.ref b)])) (fun X t q => XS.iload X.here C.hx rfl (hb C.hby d13_75) rfl q) ?_
        refine Wk.st (g' := (mkF m 78 #[.val (.ref o), .val (.long (Int64.ofNat k)), .second, .val (.long (Int64.ofNat s0)), .second, .val (.int (Int32.ofNat r)), .val (.ref b), .val (.int (Int32.ofNat (2 * i)))] [(.int (1 : Int32)), (.int (Int32.ofNat (2 * i))), (.ref b)])) (fun X t q => XS.iconst X.here C.hx rfl (hb C.hby d13_77) q) ?_
        refine Wk.st (g' := (mkF m 79 #[.val (.ref o), .val (.long (Int64.ofNat k)), .second, .val (.long (Int64.ofNat s0)), .second, .val (.int (Int32.ofNat r)), .val (.ref b), .val (.int (Int32.ofNat (2 * i)))] [(.int ((Int32.ofNat (2 * i)) + (1 : Int32))), (.ref b)])) (fun X t q => XS.iadd X.here C.hx rfl (hb C.hby d13_78) rfl q) ?_
        rw [show ((Int32.ofNat (2 * i)) + (1 : Int32)) = (Int32.ofNat (2 * i + 1)) from add32 (j := 1) (by omega)]
        show Wk _ p l e _ s m _ below meth c n0 _ h0 0 0 (mkF m 79 #[.val (.ref o), .val (.long (Int64.ofNat k)), .second, .val (.long (Int64.ofNat s0)), .second, .val (.int (Int32.ofNat r)), .val (.ref b), .val (.int (Int32.ofNat (2 * i)))] [(.int (Int32.ofNat (2 * i + 1))), (.ref b)])
        refine Wk.fLdJ C xB (cl32 (by omega)) (nn32 (by omega)) (by omega) (v := (.long (Int64.ofNat (cF xs r (2 * i + 1))))) (rfl) d13_79 ?_
        show Wk _ p l e _ s m _ below meth c n0 _ h0 0 0 (mkF m 80 #[.val (.ref o), .val (.long (Int64.ofNat k)), .second, .val (.long (Int64.ofNat s0)), .second, .val (.int (Int32.ofNat r)), .val (.ref b), .val (.int (Int32.ofNat (2 * i)))] [(.long (Int64.ofNat (cF xs r (2 * i + 1))))])
        have gl := mt (lt64 (by omega) (by omega)).mpr hb1
        exact Wk.retV C (t := .long) rfl rfl (Or.inr (Or.inl ⟨rfl, rfl, _, rfl⟩)) d13_80 (by decide) (by decide) ⟨by rw [← g5, fB_out gl], rfl⟩
  have k5 : ∀ n r s0 : Nat, r + n = 57 → s0 < k → k ≤ s0 + sG (cR xs) n r → s0 + sG (cR xs) n r < 1000 → Vb (cF xs) k (fR (cR xs) k n r s0) = Va xs k → Wk false p l e ({ frames := 0, cells := 0, slots := 0, locals := 0 } : Room) s m #[(.ref o), (.long (Int64.ofNat k))] below meth c n0 (fun r h => r = some (.long (Int64.ofNat (Va xs k))) ∧ h0 = h) h0 0 0 (mkF m 5 #[.val (.ref o), .val (.long (Int64.ofNat k)), .second, .val (.long (Int64.ofNat s0)), .second, .val (.int (Int32.ofNat r)), .unset, .unset] []) := by
    intro n
    induction n with
    | zero => intro r s0 g1 g2 g3 g4 g5; exfalso; simp only [sG] at g3; omega
    | succ n ih =>
      intro r s0 g1 g2 g3 g4 g5
      rw [sG] at g3 g4
      refine Wk.st (g' := (mkF m 6 #[.val (.ref o), .val (.long (Int64.ofNat k)), .second, .val (.long (Int64.ofNat s0)), .second, .val (.int (Int32.ofNat r)), .unset, .unset] [(.long (Int64.ofNat s0))])) (fun X t q => XS.lloadN X.here C.hx rfl (hb C.hby d13_5) rfl q) ?_
      refine Wk.st (g' := (mkF m 7 #[.val (.ref o), .val (.long (Int64.ofNat k)), .second, .val (.long (Int64.ofNat s0)), .second, .val (.int (Int32.ofNat r)), .unset, .unset] [(.ref o), (.long (Int64.ofNat s0))])) (fun X t q => XS.aloadN X.here C.hx rfl (hb C.hby d13_6) rfl rfl q) ?_
      refine Wk.getF C (hw _ (List.mem_of_getElem? (i := 16) rfl)) Via.refl xC d13_7 ?_
      show Wk _ p l e _ s m _ below meth c n0 _ h0 0 0 (mkF m 10 #[.val (.ref o), .val (.long (Int64.ofNat k)), .second, .val (.long (Int64.ofNat s0)), .second, .val (.int (Int32.ofNat r)), .unset, .unset] [(.ref rc), (.long (Int64.ofNat s0))])
      refine Wk.st (g' := (mkF m 12 #[.val (.ref o), .val (.long (Int64.ofNat k)), .second, .val (.long (Int64.ofNat s0)), .second, .val (.int (Int32.ofNat r)), .unset, .unset] [(.int (Int32.ofNat r)), (.ref rc), (.long (Int64.ofNat s0))])) (fun X t q => XS.iload X.here C.hx rfl (hb C.hby d13_10) rfl q) ?_
      refine Wk.fLdJ C xG (cl32 (by omega)) (nn32 (by omega)) (by omega) (v := (.long (Int64.ofNat ((cR xs) r)))) (rfl) d13_12 ?_
      show Wk _ p l e _ s m _ below meth c n0 _ h0 0 0 (mkF m 13 #[.val (.ref o), .val (.long (Int64.ofNat k)), .second, .val (.long (Int64.ofNat s0)), .second, .val (.int (Int32.ofNat r)), .unset, .unset] [(.long (Int64.ofNat ((cR xs) r))), (.long (Int64.ofNat s0))])
      refine Wk.st (g' := (mkF m 14 #[.val (.ref o), .val (.long (Int64.ofNat k)), .second, .val (.long (Int64.ofNat s0)), .second, .val (.int (Int32.ofNat r)), .unset, .unset] [(.long ((Int64.ofNat s0) + (Int64.ofNat ((cR xs) r))))])) (fun X t q => XS.ladd X.here C.hx rfl (hb C.hby d13_13) rfl q) ?_
      rw [show ((Int64.ofNat s0) + (Int64.ofNat ((cR xs) r))) = (Int64.ofNat (s0 + cR xs r)) from add64 (by omega)]
      show Wk _ p l e _ s m _ below meth c n0 _ h0 0 0 (mkF m 14 #[.val (.ref o), .val (.long (Int64.ofNat k)), .second, .val (.long (Int64.ofNat s0)), .second, .val (.int (Int32.ofNat r)), .unset, .unset] [(.long (Int64.ofNat (s0 + cR xs r)))])
      refine Wk.st (g' := (mkF m 15 #[.val (.ref o), .val (.long (Int64.ofNat k)), .second, .val (.long (Int64.ofNat s0)), .second, .val (.int (Int32.ofNat r)), .unset, .unset] [(.long (Int64.ofNat k)), (.long (Int64.ofNat (s0 + cR xs r)))])) (fun X t q => XS.lloadN X.here C.hx rfl (hb C.hby d13_14) rfl q) ?_
      refine Wk.st (g' := (mkF m 16 #[.val (.ref o), .val (.long (Int64.ofNat k)), .second, .val (.long (Int64.ofNat s0)), .second, .val (.int (Int32.ofNat r)), .unset, .unset] [(.int (XT.cmpL (Int64.ofNat (s0 + cR xs r)) (Int64.ofNat k)))])) (fun X t q => XT.lcmp X.here C.hx rfl (hb C.hby d13_15) rfl q) ?_
      by_cases hb2 : (Int64.ofNat (s0 + cR xs r)) < (Int64.ofNat k)
      · skip
        refine Wk.st (g' := (mkF m 19 #[.val (.ref o), .val (.long (Int64.ofNat k)), .second, .val (.long (Int64.ofNat s0)), .second, .val (.int (Int32.ofNat r)), .unset, .unset] [])) (fun X t q => XS.ifNo X.here C.hx rfl (hb C.hby d13_16) rfl (XT.ll_ge_f hb2) q) ?_
        refine Wk.st (g' := (mkF m 20 #[.val (.ref o), .val (.long (Int64.ofNat k)), .second, .val (.long (Int64.ofNat s0)), .second, .val (.int (Int32.ofNat r)), .unset, .unset] [(.long (Int64.ofNat s0))])) (fun X t q => XS.lloadN X.here C.hx rfl (hb C.hby d13_19) rfl q) ?_
        refine Wk.st (g' := (mkF m 21 #[.val (.ref o), .val (.long (Int64.ofNat k)), .second, .val (.long (Int64.ofNat s0)), .second, .val (.int (Int32.ofNat r)), .unset, .unset] [(.ref o), (.long (Int64.ofNat s0))])) (fun X t q => XS.aloadN X.here C.hx rfl (hb C.hby d13_20) rfl rfl q) ?_
        refine Wk.getF C (hw _ (List.mem_of_getElem? (i := 16) rfl)) Via.refl xC d13_21 ?_
        show Wk _ p l e _ s m _ below meth c n0 _ h0 0 0 (mkF m 24 #[.val (.ref o), .val (.long (Int64.ofNat k)), .second, .val (.long (Int64.ofNat s0)), .second, .val (.int (Int32.ofNat r)), .unset, .unset] [(.ref rc), (.long (Int64.ofNat s0))])
        refine Wk.st (g' := (mkF m 26 #[.val (.ref o), .val (.long (Int64.ofNat k)), .second, .val (.long (Int64.ofNat s0)), .second, .val (.int (Int32.ofNat r)), .unset, .unset] [(.int (Int32.ofNat r)), (.ref rc), (.long (Int64.ofNat s0))])) (fun X t q => XS.iload X.here C.hx rfl (hb C.hby d13_24) rfl q) ?_
        refine Wk.fLdJ C xG (cl32 (by omega)) (nn32 (by omega)) (by omega) (v := (.long (Int64.ofNat ((cR xs) r)))) (rfl) d13_26 ?_
        show Wk _ p l e _ s m _ below meth c n0 _ h0 0 0 (mkF m 27 #[.val (.ref o), .val (.long (Int64.ofNat k)), .second, .val (.long (Int64.ofNat s0)), .second, .val (.int (Int32.ofNat r)), .unset, .unset] [(.long (Int64.ofNat ((cR xs) r))), (.long (Int64.ofNat s0))])
        refine Wk.st (g' := (mkF m 28 #[.val (.ref o), .val (.long (Int64.ofNat k)), .second, .val (.long (Int64.ofNat s0)), .second, .val (.int (Int32.ofNat r)), .unset, .unset] [(.long ((Int64.ofNat s0) + (Int64.ofNat ((cR xs) r))))])) (fun X t q => XS.ladd X.here C.hx rfl (hb C.hby d13_27) rfl q) ?_
        rw [show ((Int64.ofNat s0) + (Int64.ofNat ((cR xs) r))) = (Int64.ofNat (s0 + cR xs r)) from add64 (by omega)]
        show Wk _ p l e _ s m _ below meth c n0 _ h0 0 0 (mkF m 28 #[.val (.ref o), .val (.long (Int64.ofNat k)), .second, .val (.long (Int64.ofNat s0)), .second, .val (.int (Int32.ofNat r)), .unset, .unset] [(.long (Int64.ofNat (s0 + cR xs r)))])
        refine Wk.st (g' := (mkF m 29 #[.val (.ref o), .val (.long (Int64.ofNat k)), .second, .val (.long (Int64.ofNat (s0 + cR xs r))), .second, .val (.int (Int32.ofNat r)), .unset, .unset] [])) (fun X t q => XS.lstoreN X.here C.hx rfl (hb C.hby d13_28) rfl (l' := #[.val (.ref o), .val (.long (Int64.ofNat k)), .second, .val (.long (Int64.ofNat (s0 + cR xs r))), .second, .val (.int (Int32.ofNat r)), .unset, .unset]) rfl q) ?_
        refine Wk.st (g' := (mkF m 32 #[.val (.ref o), .val (.long (Int64.ofNat k)), .second, .val (.long (Int64.ofNat (s0 + cR xs r))), .second, .val (.int ((Int32.ofNat r) + (1 : Int32))), .unset, .unset] [])) (fun X t q => XS.iinc X.here C.hx rfl (hb C.hby d13_29) rfl (l' := #[.val (.ref o), .val (.long (Int64.ofNat k)), .second, .val (.long (Int64.ofNat (s0 + cR xs r))), .second, .val (.int ((Int32.ofNat r) + (1 : Int32))), .unset, .unset]) rfl q) ?_
        rw [show ((Int32.ofNat r) + (1 : Int32)) = (Int32.ofNat (r + 1)) from add32 (j := 1) (by omega)]
        show Wk _ p l e _ s m _ below meth c n0 _ h0 0 0 (mkF m 32 #[.val (.ref o), .val (.long (Int64.ofNat k)), .second, .val (.long (Int64.ofNat (s0 + cR xs r))), .second, .val (.int (Int32.ofNat (r + 1))), .unset, .unset] [])
        refine Wk.st (g' := (mkF m 5 #[.val (.ref o), .val (.long (Int64.ofNat k)), .second, .val (.long (Int64.ofNat (s0 + cR xs r))), .second, .val (.int (Int32.ofNat (r + 1))), .unset, .unset] [])) (fun X t q => XS.goto X.here C.hx rfl (pc0 := 32) (pc' := 5) rfl (hb C.hby d13_32) (by decide) (by decide) q) ?_
        have gl := (lt64 (by omega) (by omega)).mp hb2
        exact ih (r + 1) (s0 + cR xs r) (by omega) gl (by omega) (by omega) (by rw [← g5, fR_in gl])
      · skip
        refine Wk.st (g' := (mkF m 35 #[.val (.ref o), .val (.long (Int64.ofNat k)), .second, .val (.long (Int64.ofNat s0)), .second, .val (.int (Int32.ofNat r)), .unset, .unset] [])) (fun X t q => XS.ifYes X.here C.hx rfl (pc0 := 16) (pc' := 35) rfl (hb C.hby d13_16) rfl (XT.ll_ge_t hb2) (by decide) (by decide) q) ?_
        have gl := mt (lt64 (by omega) (by omega)).mpr hb2
        rcases HI0.2.2.2.2.2.2.1 r (by omega) with ⟨-, hz, -⟩ | ⟨b, hb0, -⟩
        · exfalso; omega
        refine Wk.st (g' := (mkF m 36 #[.val (.ref o), .val (.long (Int64.ofNat k)), .second, .val (.long (Int64.ofNat s0)), .second, .val (.int (Int32.ofNat r)), .unset, .unset] [(.ref o)])) (fun X t q => XS.aloadN X.here C.hx rfl (hb C.hby d13_35) rfl rfl q) ?_
        refine Wk.getF C (hw _ (List.mem_of_getElem? (i := 13) rfl)) Via.refl xR d13_36 ?_
        show Wk _ p l e _ s m _ below meth c n0 _ h0 0 0 (mkF m 39 #[.val (.ref o), .val (.long (Int64.ofNat k)), .second, .val (.long (Int64.ofNat s0)), .second, .val (.int (Int32.ofNat r)), .unset, .unset] [(.ref ro)])
        refine Wk.st (g' := (mkF m 41 #[.val (.ref o), .val (.long (Int64.ofNat k)), .second, .val (.long (Int64.ofNat s0)), .second, .val (.int (Int32.ofNat r)), .unset, .unset] [(.int (Int32.ofNat r)), (.ref ro)])) (fun X t q => XS.iload X.here C.hx rfl (hb C.hby d13_39) rfl q) ?_
        refine Wk.fLdA C xA (cl32 (by omega)) (nn32 (by omega)) (by omega) (v := (.ref b)) (hb0) d13_41 ?_
        show Wk _ p l e _ s m _ below meth c n0 _ h0 0 0 (mkF m 42 #[.val (.ref o), .val (.long (Int64.ofNat k)), .second, .val (.long (Int64.ofNat s0)), .second, .val (.int (Int32.ofNat r)), .unset, .unset] [(.ref b)])
        refine Wk.st (g' := (mkF m 44 #[.val (.ref o), .val (.long (Int64.ofNat k)), .second, .val (.long (Int64.ofNat s0)), .second, .val (.int (Int32.ofNat r)), .val (.ref b), .unset] [])) (fun X t q => XS.astore X.here C.hx rfl (hb C.hby d13_42) rfl rfl (l' := #[.val (.ref o), .val (.long (Int64.ofNat k)), .second, .val (.long (Int64.ofNat s0)), .second, .val (.int (Int32.ofNat r)), .val (.ref b), .unset]) rfl q) ?_
        refine Wk.st (g' := (mkF m 45 #[.val (.ref o), .val (.long (Int64.ofNat k)), .second, .val (.long (Int64.ofNat s0)), .second, .val (.int (Int32.ofNat r)), .val (.ref b), .unset] [(.int (0 : Int32))])) (fun X t q => XS.iconst X.here C.hx rfl (hb C.hby d13_44) q) ?_
        refine Wk.st (g' := (mkF m 47 #[.val (.ref o), .val (.long (Int64.ofNat k)), .second, .val (.long (Int64.ofNat s0)), .second, .val (.int (Int32.ofNat r)), .val (.ref b), .val (.int (0 : Int32))] [])) (fun X t q => XS.istore X.here C.hx rfl (hb C.hby d13_45) rfl (l' := #[.val (.ref o), .val (.long (Int64.ofNat k)), .second, .val (.long (Int64.ofNat s0)), .second, .val (.int (Int32.ofNat r)), .val (.ref b), .val (.int (0 : Int32))]) rfl q) ?_
        exact k47 r b (by omega) hb0 128 0 s0 (by omega) g2 (by rw [sum_row]; omega) (by rw [sum_row]; omega) (by rw [← g5, fR_out gl]; rfl)
  refine Wk.st (g' := (mkF m 1 #[.val (.ref o), .val (.long (Int64.ofNat k)), .second, .unset, .unset, .unset, .unset, .unset] [(.long (0 : Int64))])) (fun X t q => XS.lconst X.here C.hx rfl (hb C.hby d13_0) q) ?_
  refine Wk.st (g' := (mkF m 2 #[.val (.ref o), .val (.long (Int64.ofNat k)), .second, .val (.long (0 : Int64)), .second, .unset, .unset, .unset] [])) (fun X t q => XS.lstoreN X.here C.hx rfl (hb C.hby d13_1) rfl (l' := #[.val (.ref o), .val (.long (Int64.ofNat k)), .second, .val (.long (0 : Int64)), .second, .unset, .unset, .unset]) rfl q) ?_
  refine Wk.st (g' := (mkF m 3 #[.val (.ref o), .val (.long (Int64.ofNat k)), .second, .val (.long (0 : Int64)), .second, .unset, .unset, .unset] [(.int (0 : Int32))])) (fun X t q => XS.iconst X.here C.hx rfl (hb C.hby d13_2) q) ?_
  refine Wk.st (g' := (mkF m 5 #[.val (.ref o), .val (.long (Int64.ofNat k)), .second, .val (.long (0 : Int64)), .second, .val (.int (0 : Int32)), .unset, .unset] [])) (fun X t q => XS.istore X.here C.hx rfl (hb C.hby d13_3) rfl (l' := #[.val (.ref o), .val (.long (Int64.ofNat k)), .second, .val (.long (0 : Int64)), .second, .val (.int (0 : Int32)), .unset, .unset]) rfl q) ?_
  exact k5 57 0 0 rfl (by omega) (by rw [sum_rows xs HB]; omega) (by rw [sum_rows xs HB]; omega) rfl
theorem d1_0 : decode prog_8_method_1_code 0 = .ok (.aload_n 0, 1) := by decide +kernel
theorem d1_1 : decode prog_8_method_1_code 1 = .ok (.invokespecial 5, 3) := by decide +kernel
theorem d1_4 : decode prog_8_method_1_code 4 = .ok (.aload_n 0, 1) := by decide +kernel
theorem d1_5 : decode prog_8_method_1_code 5 = .ok (.bipush 57, 2) := by decide +kernel
theorem d1_7 : decode prog_8_method_1_code 7 = .ok (.anewarray 11, 3) := by decide +kernel
theorem d1_10 : decode prog_8_method_1_code 10 = .ok (.putfield 13, 3) := by decide +kernel
theorem d1_13 : decode prog_8_method_1_code 13 = .ok (.aload_n 0, 1) := by decide +kernel
theorem d1_14 : decode prog_8_method_1_code 14 = .ok (.bipush 57, 2) := by decide +kernel
theorem d1_16 : decode prog_8_method_1_code 16 = .ok (.newarray .long, 2) := by decide +kernel
theorem d1_18 : decode prog_8_method_1_code 18 = .ok (.putfield 17, 3) := by decide +kernel
theorem d1_21 : decode prog_8_method_1_code 21 = .ok (.return_, 1) := by decide +kernel
set_option maxRecDepth 65536 in
set_option maxHeartbeats 40000000 in
theorem own_init (l : Launch) (Z : State) (a0 : Array Value) (hw : ∀ d ∈ tables_1, d.before a0 Z = true) (n0 : Nat) (h0 : Heap) (hsz : n0 ≤ h0.size) (o : Addr) (go : n0 ≤ o) (F0 : Exa Z h0 o "com/example/headroom/headroom/Histogram") (F1 : Fld Z h0 o "com/example/headroom/headroom/Histogram" "rows" "[[J" .null) (F2 : Fld Z h0 o "com/example/headroom/headroom/Histogram" "rowCounts" "[J" .null) (F3 : Fld Z h0 o "com/example/headroom/headroom/Histogram" "count" "J" (.long (0 : Int64))) :
    Met false l Z n0 (⟨"com/example/headroom/headroom/Histogram", "<init>", "()V"⟩ : MethodName) prog_8_method_1_code 1 none ({ frames := 1, cells := 2, slots := 114, locals := 12 } : Room) #[(.ref o)] h0 (fun v h => ∃ ro rc : Addr, v = none ∧ HL Z h n0 [o, ro, rc] o [] ∧ Keep h0 h [o] ∧ h0.size ≤ ro ∧ h0.size ≤ rc) := by
  refine Met.of (plainFor_of_name pn_3) #[.val (.ref o)] (fun m => by first | (simp [entryFrame, mkF, argsToLocals, Value.category]; done) | rfl) ?_
  intro p e s m below meth c C
  refine Wk.st (g' := (mkF m 1 #[.val (.ref o)] [(.ref o)])) (fun X t q => XS.aloadN X.here C.hx rfl (hb C.hby d1_0) rfl rfl q) ?_
  refine Wk.initO C (hw _ (List.mem_of_getElem? (i := 8) rfl)) (hw _ (List.mem_of_getElem? (i := 9) rfl)) (hw _ (List.mem_of_getElem? (i := 10) rfl)) (w := 0) rfl d1_1 (by decide) (Nat.le_of_eq rfl) (by decide) ?_
  show Wk _ p l e _ s m _ below meth c n0 _ h0 0 0 (mkF m 4 #[.val (.ref o)] [])
  refine Wk.st (g' := (mkF m 5 #[.val (.ref o)] [(.ref o)])) (fun X t q => XS.aloadN X.here C.hx rfl (hb C.hby d1_4) rfl rfl q) ?_
  refine Wk.st (g' := (mkF m 7 #[.val (.ref o)] [(.int (57 : Int32)), (.ref o)])) (fun X t q => XS.bipush X.here C.hx rfl (hb C.hby d1_5) q) ?_
  refine Wk.fNewA C (ty := .long) (K := "[J") (N := 57) (ad := "[[J") (by decide) (hw _ (List.mem_of_getElem? (i := 11) rfl)) (hw _ (List.mem_of_getElem? (i := 12) rfl)) (by decide) (by decide) (by decide) (cap := 57) (by decide) (by decide) d1_7 (by decide) (by decide) ?_
  intro h1 b2 g3 E4 A5 F6
  have ne7 : o ≠ b2 := Nat.ne_of_lt (Nat.lt_of_lt_of_le F0.lt (Nat.le_of_eq g3.symm))
  have ge8 : n0 ≤ b2 := Nat.le_trans hsz (Nat.le_of_eq g3.symm)
  have gz9 : h0.size ≤ b2 := Nat.le_trans (Nat.le_refl h0.size) (Nat.le_of_eq g3.symm)
  have F10 : Exa Z h1 o "com/example/headroom/headroom/Histogram" := F0.ext E4
  have F11 : Fld Z h1 o "com/example/headroom/headroom/Histogram" "rows" "[[J" .null := F1.ext E4
  have F12 : Fld Z h1 o "com/example/headroom/headroom/Histogram" "rowCounts" "[J" .null := F2.ext E4
  have F13 : Fld Z h1 o "com/example/headroom/headroom/Histogram" "count" "J" (.long (0 : Int64)) := F3.ext E4
  have sz14 : n0 ≤ h1.size := Nat.le_trans hsz E4.1
  have sy15 : h0.size ≤ h1.size := Nat.le_trans (Nat.le_refl h0.size) E4.1
  have K16 := (Keep.refl h0 [o]).ext E4
  show Wk _ p l e _ s m _ below meth c n0 _ h1 1 57 (mkF m 10 #[.val (.ref o)] [(.ref b2), (.ref o)])
  refine Wk.putF C (hw _ (List.mem_of_getElem? (i := 13) rfl)) Via.refl F11 F10 (Or.inr ⟨(hw _ (List.mem_of_getElem? (i := 14) rfl)), rfl, rfl⟩) (hw _ (List.mem_of_getElem? (i := 3) rfl)) (ty := (.array (.array .long))) (by decide) (v' := (.ref b2)) rfl rfl go d1_10 ?_
  intro h17 W18
  have F19 : Fld Z h17 o "com/example/headroom/headroom/Histogram" "rows" "[[J" (.ref b2) := F11.same W18
  have F20 : Exa Z h17 o "com/example/headroom/headroom/Histogram" := F10.wr W18
  have F21 : Fld Z h17 o "com/example/headroom/headroom/Histogram" "rowCounts" "[J" .null := F12.other W18 (Or.inr (slot_ne (Or.inr (hw _ (List.mem_of_getElem? (i := 17) rfl))) (Or.inr (hw _ (List.mem_of_getElem? (i := 14) rfl))) (by decide) (t := (.array .long)) (t' := (.array (.array .long))) (by decide) (by decide)))
  have F22 : Fld Z h17 o "com/example/headroom/headroom/Histogram" "count" "J" (.long (0 : Int64)) := F13.other W18 (Or.inr (slot_ne (Or.inl (hw _ (List.mem_of_getElem? (i := 42) rfl))) (Or.inr (hw _ (List.mem_of_getElem? (i := 14) rfl))) (by decide) (t := .long) (t' := (.array (.array .long))) (by decide) (by decide)))
  have F23 : Exa Z h17 b2 "[[J" := A5.wr W18
  have F24 : FaA Z h17 b2 .long "[J" 57 (fun _ => .null) := F6.other W18 (Ne.symm ne7)
  have sz25 : n0 ≤ h17.size := Nat.le_trans sz14 (Nat.le_of_eq W18.size.symm)
  have sy26 : h0.size ≤ h17.size := Nat.le_trans sy15 (Nat.le_of_eq W18.size.symm)
  have K27 := K16.wr W18 (Or.inl (by simp))
  show Wk _ p l e _ s m _ below meth c n0 _ h17 1 57 (mkF m 13 #[.val (.ref o)] [])
  refine Wk.st (g' := (mkF m 14 #[.val (.ref o)] [(.ref o)])) (fun X t q => XS.aloadN X.here C.hx rfl (hb C.hby d1_13) rfl rfl q) ?_
  refine Wk.st (g' := (mkF m 16 #[.val (.ref o)] [(.int (57 : Int32)), (.ref o)])) (fun X t q => XS.bipush X.here C.hx rfl (hb C.hby d1_14) q) ?_
  refine Wk.fNewP C (hw _ (List.mem_of_getElem? (i := 15) rfl)) (ty := .long) (dv := (.long (0 : Int64))) (N := 57) (ad := "[J") rfl rfl (by decide) (by decide) (by decide) (cap := 57) (by decide) (by decide) d1_16 (by decide) (by decide) ?_
  intro h28 b29 g30 E31 A32 F33
  have ne34 : o ≠ b29 := Nat.ne_of_lt (Nat.lt_of_lt_of_le F20.lt (Nat.le_of_eq g30.symm))
  have ne35 : b2 ≠ b29 := Nat.ne_of_lt (Nat.lt_of_lt_of_le F23.lt (Nat.le_of_eq g30.symm))
  have ge36 : n0 ≤ b29 := Nat.le_trans sz25 (Nat.le_of_eq g30.symm)
  have gz37 : h0.size ≤ b29 := Nat.le_trans sy26 (Nat.le_of_eq g30.symm)
  have F38 : Exa Z h28 o "com/example/headroom/headroom/Histogram" := F20.ext E31
  have F39 : Fld Z h28 o "com/example/headroom/headroom/Histogram" "rowCounts" "[J" .null := F21.ext E31
  have F40 : Fld Z h28 o "com/example/headroom/headroom/Histogram" "count" "J" (.long (0 : Int64)) := F22.ext E31
  have F41 : Exa Z h28 b2 "[[J" := F23.ext E31
  have F42 : FaA Z h28 b2 .long "[J" 57 (fun _ => .null) := F24.ext E31
  have F43 : Fld Z h28 o "com/example/headroom/headroom/Histogram" "rows" "[[J" (.ref b2) := F19.ext E31
  have sz44 : n0 ≤ h28.size := Nat.le_trans sz25 E31.1
  have sy45 : h0.size ≤ h28.size := Nat.le_trans sy26 E31.1
  have K46 := K27.ext E31
  show Wk _ p l e _ s m _ below meth c n0 _ h28 2 114 (mkF m 18 #[.val (.ref o)] [(.ref b29), (.ref o)])
  refine Wk.putF C (hw _ (List.mem_of_getElem? (i := 16) rfl)) Via.refl F39 F38 (Or.inr ⟨(hw _ (List.mem_of_getElem? (i := 17) rfl)), rfl, rfl⟩) (hw _ (List.mem_of_getElem? (i := 3) rfl)) (ty := (.array .long)) (by decide) (v' := (.ref b29)) rfl rfl go d1_18 ?_
  intro h47 W48
  have F49 : Fld Z h47 o "com/example/headroom/headroom/Histogram" "rowCounts" "[J" (.ref b29) := F39.same W48
  have F50 : Exa Z h47 o "com/example/headroom/headroom/Histogram" := F38.wr W48
  have F51 : Fld Z h47 o "com/example/headroom/headroom/Histogram" "count" "J" (.long (0 : Int64)) := F40.other W48 (Or.inr (slot_ne (Or.inl (hw _ (List.mem_of_getElem? (i := 42) rfl))) (Or.inr (hw _ (List.mem_of_getElem? (i := 17) rfl))) (by decide) (t := .long) (t' := (.array .long)) (by decide) (by decide)))
  have F52 : Exa Z h47 b2 "[[J" := F41.wr W48
  have F53 : FaA Z h47 b2 .long "[J" 57 (fun _ => .null) := F42.other W48 (Ne.symm ne7)
  have F54 : Fld Z h47 o "com/example/headroom/headroom/Histogram" "rows" "[[J" (.ref b2) := F43.other W48 (Or.inr (slot_ne (Or.inr (hw _ (List.mem_of_getElem? (i := 14) rfl))) (Or.inr (hw _ (List.mem_of_getElem? (i := 17) rfl))) (by decide) (t := (.array (.array .long))) (t' := (.array .long)) (by decide) (by decide)))
  have F55 : Exa Z h47 b29 "[J" := A32.wr W48
  have F56 : Fa Z h47 b29 .long 57 (fun _ => (.long (0 : Int64))) := F33.other W48 (Ne.symm ne34)
  have sz57 : n0 ≤ h47.size := Nat.le_trans sz44 (Nat.le_of_eq W48.size.symm)
  have sy58 : h0.size ≤ h47.size := Nat.le_trans sy45 (Nat.le_of_eq W48.size.symm)
  have K59 := K46.wr W48 (Or.inl (by simp))
  show Wk _ p l e _ s m _ below meth c n0 _ h47 2 114 (mkF m 21 #[.val (.ref o)] [])
  exact Wk.retN0 C rfl d1_21 (by decide) (by decide) ⟨b2, b29, rfl, HI.start F50 F54 F49 F51 F53 F56 ne7 ne34 ne35 go ge8 ge36, K59, gz9, gz37⟩
set_option maxRecDepth 65536 in
set_option maxHeartbeats 40000000 in
theorem law_met (l : Launch) (Z : State) (a0 : Array Value) (hw : ∀ d ∈ tables_1, d.before a0 Z = true) (n0 : Nat) (h0 : Heap) (hsz : n0 ≤ h0.size) (i0 i1 i2 : Int64) (i3 i4 : Int32) :
    Met false l Z n0 x code maxLocals ret room_1 #[(.long i0), (.long i1), (.long i2), (.int i3), (.int i4)] h0 (fun v _ => v = some (.int 1) ∧ True) := by
  refine Met.of (plainFor_of_name pn_2) #[.val (.long i0), .second, .val (.long i1), .second, .val (.long i2), .second, .val (.int i3), .val (.int i4), .unset, .unset, .unset, .unset, .unset, .unset, .unset, .unset, .unset, .unset, .unset, .unset, .unset, .unset, .unset, .unset, .unset, .unset] (fun m => by first | (simp [entryFrame, mkF, argsToLocals, Value.category, maxLocals]; done) | rfl) ?_
  intro p e s m below meth c C
  have k89 : ∀ va vb vc : Nat, va < 9223372036854775808 → vb < 9223372036854775808 → vc < 9223372036854775808 → Wk false p l e room_1 s m #[(.long i0), (.long i1), (.long i2), (.int i3), (.int i4)] below meth c n0 (fun v _ => v = some (.int 1) ∧ True) h0 0 0 (mkF m 89 #[.val (.long i0), .second, .val (.long i1), .second, .val (.long i2), .second, .val (.int i3), .val (.int i4), .val (.long (Int64.ofNat va)), .second, .val (.long (Int64.ofNat vb)), .second, .val (.long (Int64.ofNat vc)), .second, .unset, .unset, .unset, .unset, .unset, .unset, .unset, .unset, .unset, .unset, .unset, .unset] []) := by
    intro va vb vc hva hvb hvc
    refine Wk.newO C (hw _ (List.mem_of_getElem? (i := 2) rfl)) (hw _ (List.mem_of_getElem? (i := 3) rfl)) (hw _ (List.mem_of_getElem? (i := 4) rfl)) at_89 (by decide) (by decide) ?_
    intro h1 b2 g3 E4 A5 D6
    have ge7 : n0 ≤ b2 := Nat.le_trans hsz (Nat.le_of_eq g3.symm)
    have sz8 : n0 ≤ h1.size := Nat.le_trans hsz E4.1
    have F9 : Fld Z h1 b2 "com/example/headroom/headroom/Histogram" "rows" "[[J" .null := D6 (Or.inr (hw _ (List.mem_of_getElem? (i := 14) rfl))) (ty := (.array (.array .long))) (by decide)
    have F10 : Fld Z h1 b2 "com/example/headroom/headroom/Histogram" "rowCounts" "[J" .null := D6 (Or.inr (hw _ (List.mem_of_getElem? (i := 17) rfl))) (ty := (.array .long)) (by decide)
    have F11 : Fld Z h1 b2 "com/example/headroom/headroom/Histogram" "count" "J" (.long (0 : Int64)) := D6 (Or.inl (hw _ (List.mem_of_getElem? (i := 42) rfl))) (ty := .long) (by decide)
    show Wk _ p l e _ s m _ below meth c n0 _ h1 1 3 (mkF m 92 #[.val (.long i0), .second, .val (.long i1), .second, .val (.long i2), .second, .val (.int i3), .val (.int i4), .val (.long (Int64.ofNat va)), .second, .val (.long (Int64.ofNat vb)), .second, .val (.long (Int64.ofNat vc)), .second, .unset, .unset, .unset, .unset, .unset, .unset, .unset, .unset, .unset, .unset, .unset, .unset] [(.ref b2)])
    refine Wk.st (g' := (mkF m 93 #[.val (.long i0), .second, .val (.long i1), .second, .val (.long i2), .second, .val (.int i3), .val (.int i4), .val (.long (Int64.ofNat va)), .second, .val (.long (Int64.ofNat vb)), .second, .val (.long (Int64.ofNat vc)), .second, .unset, .unset, .unset, .unset, .unset, .unset, .unset, .unset, .unset, .unset, .unset, .unset] [(.ref b2), (.ref b2)])) (fun X t q => XS.dup X.here C.hx rfl (hb C.hby at_92) rfl rfl q) ?_
    refine Wk.callI C (z := (⟨"com/example/headroom/headroom/Histogram", "<init>", "()V"⟩ : MethodName)) rfl (hw _ (List.mem_of_getElem? (i := 5) rfl)) (hw _ (List.mem_of_getElem? (i := 6) rfl)) (hw _ (List.mem_of_getElem? (i := 4) rfl)) (hw _ (List.mem_of_getElem? (i := 7) rfl)) (by decide) (own_init l Z a0 hw n0 h1 sz8 b2 ge7 A5 F9 F10 F11) (w := 1) (by decide) (by decide) pd_5 rfl (rest := [(.ref b2)]) rfl rfl (Nat.le_of_eq rfl) (by decide) (by decide) at_93 ?_
    rintro _ h12 ⟨ro13, rc14, rfl, HH15, KK16, gn17, gn18⟩
    show Wk _ p l e _ s m _ below meth c n0 _ h12 3 117 (mkF m 96 #[.val (.long i0), .second, .val (.long i1), .second, .val (.long i2), .second, .val (.int i3), .val (.int i4), .val (.long (Int64.ofNat va)), .second, .val (.long (Int64.ofNat vb)), .second, .val (.long (Int64.ofNat vc)), .second, .unset, .unset, .unset, .unset, .unset, .unset, .unset, .unset, .unset, .unset, .unset, .unset] [(.ref b2)])
    have sz19 : n0 ≤ h12.size := Nat.le_trans sz8 KK16.1
    refine Wk.st (g' := (mkF m 98 #[.val (.long i0), .second, .val (.long i1), .second, .val (.long i2), .second, .val (.int i3), .val (.int i4), .val (.long (Int64.ofNat va)), .second, .val (.long (Int64.ofNat vb)), .second, .val (.long (Int64.ofNat vc)), .second, .val (.ref b2), .unset, .unset, .unset, .unset, .unset, .unset, .unset, .unset, .unset, .unset, .unset] [])) (fun X t q => XS.astore X.here C.hx rfl (hb C.hby at_96) rfl rfl (l' := #[.val (.long i0), .second, .val (.long i1), .second, .val (.long i2), .second, .val (.int i3), .val (.int i4), .val (.long (Int64.ofNat va)), .second, .val (.long (Int64.ofNat vb)), .second, .val (.long (Int64.ofNat vc)), .second, .val (.ref b2), .unset, .unset, .unset, .unset, .unset, .unset, .unset, .unset, .unset, .unset, .unset]) rfl q) ?_
    refine Wk.st (g' := (mkF m 100 #[.val (.long i0), .second, .val (.long i1), .second, .val (.long i2), .second, .val (.int i3), .val (.int i4), .val (.long (Int64.ofNat va)), .second, .val (.long (Int64.ofNat vb)), .second, .val (.long (Int64.ofNat vc)), .second, .val (.ref b2), .unset, .unset, .unset, .unset, .unset, .unset, .unset, .unset, .unset, .unset, .unset] [(.ref b2)])) (fun X t q => XS.aload X.here C.hx rfl (hb C.hby at_98) rfl rfl q) ?_
    refine Wk.st (g' := (mkF m 102 #[.val (.long i0), .second, .val (.long i1), .second, .val (.long i2), .second, .val (.int i3), .val (.int i4), .val (.long (Int64.ofNat va)), .second, .val (.long (Int64.ofNat vb)), .second, .val (.long (Int64.ofNat vc)), .second, .val (.ref b2), .unset, .unset, .unset, .unset, .unset, .unset, .unset, .unset, .unset, .unset, .unset] [(.long (Int64.ofNat va)), (.ref b2)])) (fun X t q => XS.lload X.here C.hx rfl (hb C.hby at_100) rfl q) ?_
    refine Wk.callV C (x := (⟨"com/example/headroom/headroom/Histogram", "add", "(J)V"⟩ : MethodName)) (z := (⟨"com/example/headroom/headroom/Histogram", "add", "(J)V"⟩ : MethodName)) (K := "com/example/headroom/headroom/Histogram") (hw _ (List.mem_of_getElem? (i := 18) rfl)) (hw _ (List.mem_of_getElem? (i := 19) rfl)) (hw _ (List.mem_of_getElem? (i := 21) rfl)) (hw _ (List.mem_of_getElem? (i := 20) rfl)) (hw _ (List.mem_of_getElem? (i := 4) rfl)) (hw _ (List.mem_of_getElem? (i := 22) rfl)) (by decide) (fun s' hZ' => notFace_of_selects (args := #[]) (mvT hZ' (hw _ (List.mem_of_getElem? (i := 21) rfl)))) HH15.exa (own_add l Z a0 hw n0 h12 sz19 [b2, ro13, rc14] b2 [] HH15 (by simp) va hva) (w := 0) (by decide) (by decide) pd_6 rfl (rest := []) rfl rfl (Nat.le_of_eq rfl) (by decide) (by decide) at_102 ?_
    rintro _ h20 ⟨wz21, rfl, HH22, KK23, GG24⟩
    show Wk _ p l e _ s m _ below meth c n0 _ h20 4 373 (mkF m 105 #[.val (.long i0), .second, .val (.long i1), .second, .val (.long i2), .second, .val (.int i3), .val (.int i4), .val (.long (Int64.ofNat va)), .second, .val (.long (Int64.ofNat vb)), .second, .val (.long (Int64.ofNat vc)), .second, .val (.ref b2), .unset, .unset, .unset, .unset, .unset, .unset, .unset, .unset, .unset, .unset, .unset] [])
    have HH25 : HL Z h20 n0 wz21 b2 [va] := HH22
    have sz26 : n0 ≤ h20.size := Nat.le_trans sz19 KK23.1
    refine Wk.st (g' := (mkF m 107 #[.val (.long i0), .second, .val (.long i1), .second, .val (.long i2), .second, .val (.int i3), .val (.int i4), .val (.long (Int64.ofNat va)), .second, .val (.long (Int64.ofNat vb)), .second, .val (.long (Int64.ofNat vc)), .second, .val (.ref b2), .unset, .unset, .unset, .unset, .unset, .unset, .unset, .unset, .unset, .unset, .unset] [(.ref b2)])) (fun X t q => XS.aload X.here C.hx rfl (hb C.hby at_105) rfl rfl q) ?_
    refine Wk.st (g' := (mkF m 109 #[.val (.long i0), .second, .val (.long i1), .second, .val (.long i2), .second, .val (.int i3), .val (.int i4), .val (.long (Int64.ofNat va)), .second, .val (.long (Int64.ofNat vb)), .second, .val (.long (Int64.ofNat vc)), .second, .val (.ref b2), .unset, .unset, .unset, .unset, .unset, .unset, .unset, .unset, .unset, .unset, .unset] [(.long (Int64.ofNat vb)), (.ref b2)])) (fun X t q => XS.lload X.here C.hx rfl (hb C.hby at_107) rfl q) ?_
    refine Wk.callV C (x := (⟨"com/example/headroom/headroom/Histogram", "add", "(J)V"⟩ : MethodName)) (z := (⟨"com/example/headroom/headroom/Histogram", "add", "(J)V"⟩ : MethodName)) (K := "com/example/headroom/headroom/Histogram") (hw _ (List.mem_of_getElem? (i := 18) rfl)) (hw _ (List.mem_of_getElem? (i := 19) rfl)) (hw _ (List.mem_of_getElem? (i := 21) rfl)) (hw _ (List.mem_of_getElem? (i := 20) rfl)) (hw _ (List.mem_of_getElem? (i := 4) rfl)) (hw _ (List.mem_of_getElem? (i := 22) rfl)) (by decide) (fun s' hZ' => notFace_of_selects (args := #[]) (mvT hZ' (hw _ (List.mem_of_getElem? (i := 21) rfl)))) HH25.exa (own_add l Z a0 hw n0 h20 sz26 wz21 b2 [va] HH25 (by simp) vb hvb) (w := 0) (by decide) (by decide) pd_6 rfl (rest := []) rfl rfl (Nat.le_of_eq rfl) (by decide) (by decide) at_109 ?_
    rintro _ h27 ⟨wz28, rfl, HH29, KK30, GG31⟩
    show Wk _ p l e _ s m _ below meth c n0 _ h27 5 629 (mkF m 112 #[.val (.long i0), .second, .val (.long i1), .second, .val (.long i2), .second, .val (.int i3), .val (.int i4), .val (.long (Int64.ofNat va)), .second, .val (.long (Int64.ofNat vb)), .second, .val (.long (Int64.ofNat vc)), .second, .val (.ref b2), .unset, .unset, .unset, .unset, .unset, .unset, .unset, .unset, .unset, .unset, .unset] [])
    have HH32 : HL Z h27 n0 wz28 b2 [vb, va] := HH29
    have sz33 : n0 ≤ h27.size := Nat.le_trans sz26 KK30.1
    refine Wk.st (g' := (mkF m 114 #[.val (.long i0), .second, .val (.long i1), .second, .val (.long i2), .second, .val (.int i3), .val (.int i4), .val (.long (Int64.ofNat va)), .second, .val (.long (Int64.ofNat vb)), .second, .val (.long (Int64.ofNat vc)), .second, .val (.ref b2), .unset, .unset, .unset, .unset, .unset, .unset, .unset, .unset, .unset, .unset, .unset] [(.ref b2)])) (fun X t q => XS.aload X.here C.hx rfl (hb C.hby at_112) rfl rfl q) ?_
    refine Wk.st (g' := (mkF m 116 #[.val (.long i0), .second, .val (.long i1), .second, .val (.long i2), .second, .val (.int i3), .val (.int i4), .val (.long (Int64.ofNat va)), .second, .val (.long (Int64.ofNat vb)), .second, .val (.long (Int64.ofNat vc)), .second, .val (.ref b2), .unset, .unset, .unset, .unset, .unset, .unset, .unset, .unset, .unset, .unset, .unset] [(.long (Int64.ofNat vc)), (.ref b2)])) (fun X t q => XS.lload X.here C.hx rfl (hb C.hby at_114) rfl q) ?_
    refine Wk.callV C (x := (⟨"com/example/headroom/headroom/Histogram", "add", "(J)V"⟩ : MethodName)) (z := (⟨"com/example/headroom/headroom/Histogram", "add", "(J)V"⟩ : MethodName)) (K := "com/example/headroom/headroom/Histogram") (hw _ (List.mem_of_getElem? (i := 18) rfl)) (hw _ (List.mem_of_getElem? (i := 19) rfl)) (hw _ (List.mem_of_getElem? (i := 21) rfl)) (hw _ (List.mem_of_getElem? (i := 20) rfl)) (hw _ (List.mem_of_getElem? (i := 4) rfl)) (hw _ (List.mem_of_getElem? (i := 22) rfl)) (by decide) (fun s' hZ' => notFace_of_selects (args := #[]) (mvT hZ' (hw _ (List.mem_of_getElem? (i := 21) rfl)))) HH32.exa (own_add l Z a0 hw n0 h27 sz33 wz28 b2 [vb, va] HH32 (by simp) vc hvc) (w := 0) (by decide) (by decide) pd_6 rfl (rest := []) rfl rfl (Nat.le_of_eq rfl) (by decide) (by decide) at_116 ?_
    rintro _ h34 ⟨wz35, rfl, HH36, KK37, GG38⟩
    show Wk _ p l e _ s m _ below meth c n0 _ h34 6 885 (mkF m 119 #[.val (.long i0), .second, .val (.long i1), .second, .val (.long i2), .second, .val (.int i3), .val (.int i4), .val (.long (Int64.ofNat va)), .second, .val (.long (Int64.ofNat vb)), .second, .val (.long (Int64.ofNat vc)), .second, .val (.ref b2), .unset, .unset, .unset, .unset, .unset, .unset, .unset, .unset, .unset, .unset, .unset] [])
    have HH39 : HL Z h34 n0 wz35 b2 [vc, vb, va] := HH36
    have sz40 : n0 ≤ h34.size := Nat.le_trans sz33 KK37.1
    refine Wk.st (g' := (mkF m 121 #[.val (.long i0), .second, .val (.long i1), .second, .val (.long i2), .second, .val (.int i3), .val (.int i4), .val (.long (Int64.ofNat va)), .second, .val (.long (Int64.ofNat vb)), .second, .val (.long (Int64.ofNat vc)), .second, .val (.ref b2), .unset, .unset, .unset, .unset, .unset, .unset, .unset, .unset, .unset, .unset, .unset] [(.int i4)])) (fun X t q => XS.iload X.here C.hx rfl (hb C.hby at_119) rfl q) ?_
    refine Wk.ldcI C (hw _ (List.mem_of_getElem? (i := 43) rfl)) at_121 ?_
    show Wk _ p l e _ s m _ below meth c n0 _ h34 6 885 (mkF m 123 #[.val (.long i0), .second, .val (.long i1), .second, .val (.long i2), .second, .val (.int i3), .val (.int i4), .val (.long (Int64.ofNat va)), .second, .val (.long (Int64.ofNat vb)), .second, .val (.long (Int64.ofNat vc)), .second, .val (.ref b2), .unset, .unset, .unset, .unset, .unset, .unset, .unset, .unset, .unset, .unset, .unset] [(.int (2147483647 : Int32)), (.int i4)])
    refine Wk.st (g' := (mkF m 124 #[.val (.long i0), .second, .val (.long i1), .second, .val (.long i2), .second, .val (.int i3), .val (.int i4), .val (.long (Int64.ofNat va)), .second, .val (.long (Int64.ofNat vb)), .second, .val (.long (Int64.ofNat vc)), .second, .val (.ref b2), .unset, .unset, .unset, .unset, .unset, .unset, .unset, .unset, .unset, .unset, .unset] [(.int (i4 &&& (2147483647 : Int32)))])) (fun X t q => XS.iand X.here C.hx rfl (hb C.hby at_123) rfl q) ?_
    refine Wk.st (g' := (mkF m 125 #[.val (.long i0), .second, .val (.long i1), .second, .val (.long i2), .second, .val (.int i3), .val (.int i4), .val (.long (Int64.ofNat va)), .second, .val (.long (Int64.ofNat vb)), .second, .val (.long (Int64.ofNat vc)), .second, .val (.ref b2), .unset, .unset, .unset, .unset, .unset, .unset, .unset, .unset, .unset, .unset, .unset] [(.int (3 : Int32)), (.int (i4 &&& (2147483647 : Int32)))])) (fun X t q => XS.iconst X.here C.hx rfl (hb C.hby at_124) q) ?_
    refine Wk.st (g' := (mkF m 126 #[.val (.long i0), .second, .val (.long i1), .second, .val (.long i2), .second, .val (.int i3), .val (.int i4), .val (.long (Int64.ofNat va)), .second, .val (.long (Int64.ofNat vb)), .second, .val (.long (Int64.ofNat vc)), .second, .val (.ref b2), .unset, .unset, .unset, .unset, .unset, .unset, .unset, .unset, .unset, .unset, .unset] [(.int ((i4 &&& (2147483647 : Int32)) % (3 : Int32)))])) (fun X t q => iremM X C.hx rfl (hb C.hby at_125) rfl (by decide) q) ?_
    refine Wk.st (g' := (mkF m 127 #[.val (.long i0), .second, .val (.long i1), .second, .val (.long i2), .second, .val (.int i3), .val (.int i4), .val (.long (Int64.ofNat va)), .second, .val (.long (Int64.ofNat vb)), .second, .val (.long (Int64.ofNat vc)), .second, .val (.ref b2), .unset, .unset, .unset, .unset, .unset, .unset, .unset, .unset, .unset, .unset, .unset] [(.int (1 : Int32)), (.int ((i4 &&& (2147483647 : Int32)) % (3 : Int32)))])) (fun X t q => XS.iconst X.here C.hx rfl (hb C.hby at_126) q) ?_
    refine Wk.st (g' := (mkF m 128 #[.val (.long i0), .second, .val (.long i1), .second, .val (.long i2), .second, .val (.int i3), .val (.int i4), .val (.long (Int64.ofNat va)), .second, .val (.long (Int64.ofNat vb)), .second, .val (.long (Int64.ofNat vc)), .second, .val (.ref b2), .unset, .unset, .unset, .unset, .unset, .unset, .unset, .unset, .unset, .unset, .unset] [(.int (((i4 &&& (2147483647 : Int32)) % (3 : Int32)) + (1 : Int32)))])) (fun X t q => XS.iadd X.here C.hx rfl (hb C.hby at_127) rfl q) ?_
    refine Wk.st (g' := (mkF m 130 #[.val (.long i0), .second, .val (.long i1), .second, .val (.long i2), .second, .val (.int i3), .val (.int i4), .val (.long (Int64.ofNat va)), .second, .val (.long (Int64.ofNat vb)), .second, .val (.long (Int64.ofNat vc)), .second, .val (.ref b2), .val (.int (((i4 &&& (2147483647 : Int32)) % (3 : Int32)) + (1 : Int32))), .unset, .unset, .unset, .unset, .unset, .unset, .unset, .unset, .unset, .unset] [])) (fun X t q => XS.istore X.here C.hx rfl (hb C.hby at_128) rfl (l' := #[.val (.long i0), .second, .val (.long i1), .second, .val (.long i2), .second, .val (.int i3), .val (.int i4), .val (.long (Int64.ofNat va)), .second, .val (.long (Int64.ofNat vb)), .second, .val (.long (Int64.ofNat vc)), .second, .val (.ref b2), .val (.int (((i4 &&& (2147483647 : Int32)) % (3 : Int32)) + (1 : Int32))), .unset, .unset, .unset, .unset, .unset, .unset, .unset, .unset, .unset, .unset]) rfl q) ?_
    rcases rank3 i4 with hq | hq | hq
    · skip
      rw [show (((i4 &&& (2147483647 : Int32)) % (3 : Int32)) + (1 : Int32)) = (1 : Int32) from hq]
      show Wk _ p l e _ s m _ below meth c n0 _ h34 6 885 (mkF m 130 #[.val (.long i0), .second, .val (.long i1), .second, .val (.long i2), .second, .val (.int i3), .val (.int i4), .val (.long (Int64.ofNat va)), .second, .val (.long (Int64.ofNat vb)), .second, .val (.long (Int64.ofNat vc)), .second, .val (.ref b2), .val (.int (1 : Int32)), .unset, .unset, .unset, .unset, .unset, .unset, .unset, .unset, .unset, .unset] [])
      refine Wk.st (g' := (mkF m 132 #[.val (.long i0), .second, .val (.long i1), .second, .val (.long i2), .second, .val (.int i3), .val (.int i4), .val (.long (Int64.ofNat va)), .second, .val (.long (Int64.ofNat vb)), .second, .val (.long (Int64.ofNat vc)), .second, .val (.ref b2), .val (.int (1 : Int32)), .unset, .unset, .unset, .unset, .unset, .unset, .unset, .unset, .unset, .unset] [(.long (Int64.ofNat va))])) (fun X t q => XS.lload X.here C.hx rfl (hb C.hby at_130) rfl q) ?_
      refine Wk.st (g' := (mkF m 134 #[.val (.long i0), .second, .val (.long i1), .second, .val (.long i2), .second, .val (.int i3), .val (.int i4), .val (.long (Int64.ofNat va)), .second, .val (.long (Int64.ofNat vb)), .second, .val (.long (Int64.ofNat vc)), .second, .val (.ref b2), .val (.int (1 : Int32)), .unset, .unset, .unset, .unset, .unset, .unset, .unset, .unset, .unset, .unset] [(.long (Int64.ofNat vb)), (.long (Int64.ofNat va))])) (fun X t q => XS.lload X.here C.hx rfl (hb C.hby at_132) rfl q) ?_
      refine Wk.st (g' := (mkF m 136 #[.val (.long i0), .second, .val (.long i1), .second, .val (.long i2), .second, .val (.int i3), .val (.int i4), .val (.long (Int64.ofNat va)), .second, .val (.long (Int64.ofNat vb)), .second, .val (.long (Int64.ofNat vc)), .second, .val (.ref b2), .val (.int (1 : Int32)), .unset, .unset, .unset, .unset, .unset, .unset, .unset, .unset, .unset, .unset] [(.long (Int64.ofNat vc)), (.long (Int64.ofNat vb)), (.long (Int64.ofNat va))])) (fun X t q => XS.lload X.here C.hx rfl (hb C.hby at_134) rfl q) ?_
      refine Wk.callS C (z := (⟨"java/lang/Math", "min", "(JJ)J"⟩ : MethodName)) (hw _ (List.mem_of_getElem? (i := 44) rfl)) (hw _ (List.mem_of_getElem? (i := 45) rfl)) (hw _ (List.mem_of_getElem? (i := 34) rfl)) (hw _ (List.mem_of_getElem? (i := 46) rfl)) (by decide) (own_minJ l Z a0 hw n0 h34 vb vc (by omega) (by omega)) (w := 2) (by decide) (by decide) pd_1 rfl (rest := [(.long (Int64.ofNat va))]) rfl rfl (Nat.le_of_eq rfl) (by decide) (by decide) at_136 ?_
      rintro _ _ ⟨rfl, rfl⟩
      show Wk _ p l e _ s m _ below meth c n0 _ h34 6 885 (mkF m 139 #[.val (.long i0), .second, .val (.long i1), .second, .val (.long i2), .second, .val (.int i3), .val (.int i4), .val (.long (Int64.ofNat va)), .second, .val (.long (Int64.ofNat vb)), .second, .val (.long (Int64.ofNat vc)), .second, .val (.ref b2), .val (.int (1 : Int32)), .unset, .unset, .unset, .unset, .unset, .unset, .unset, .unset, .unset, .unset] [(.long (Int64.ofNat (min vb vc))), (.long (Int64.ofNat va))])
      refine Wk.callS C (z := (⟨"java/lang/Math", "min", "(JJ)J"⟩ : MethodName)) (hw _ (List.mem_of_getElem? (i := 44) rfl)) (hw _ (List.mem_of_getElem? (i := 45) rfl)) (hw _ (List.mem_of_getElem? (i := 34) rfl)) (hw _ (List.mem_of_getElem? (i := 46) rfl)) (by decide) (own_minJ l Z a0 hw n0 h34 va (min vb vc) (by omega) (by omega)) (w := 0) (by decide) (by decide) pd_1 rfl (rest := []) rfl rfl (Nat.le_of_eq rfl) (by decide) (by decide) at_139 ?_
      rintro _ _ ⟨rfl, rfl⟩
      show Wk _ p l e _ s m _ below meth c n0 _ h34 6 885 (mkF m 142 #[.val (.long i0), .second, .val (.long i1), .second, .val (.long i2), .second, .val (.int i3), .val (.int i4), .val (.long (Int64.ofNat va)), .second, .val (.long (Int64.ofNat vb)), .second, .val (.long (Int64.ofNat vc)), .second, .val (.ref b2), .val (.int (1 : Int32)), .unset, .unset, .unset, .unset, .unset, .unset, .unset, .unset, .unset, .unset] [(.long (Int64.ofNat (min va (min vb vc))))])
      refine Wk.st (g' := (mkF m 144 #[.val (.long i0), .second, .val (.long i1), .second, .val (.long i2), .second, .val (.int i3), .val (.int i4), .val (.long (Int64.ofNat va)), .second, .val (.long (Int64.ofNat vb)), .second, .val (.long (Int64.ofNat vc)), .second, .val (.ref b2), .val (.int (1 : Int32)), .val (.long (Int64.ofNat (min va (min vb vc)))), .second, .unset, .unset, .unset, .unset, .unset, .unset, .unset, .unset] [])) (fun X t q => XS.lstore X.here C.hx rfl (hb C.hby at_142) rfl (l' := #[.val (.long i0), .second, .val (.long i1), .second, .val (.long i2), .second, .val (.int i3), .val (.int i4), .val (.long (Int64.ofNat va)), .second, .val (.long (Int64.ofNat vb)), .second, .val (.long (Int64.ofNat vc)), .second, .val (.ref b2), .val (.int (1 : Int32)), .val (.long (Int64.ofNat (min va (min vb vc)))), .second, .unset, .unset, .unset, .unset, .unset, .unset, .unset, .unset]) rfl q) ?_
      refine Wk.st (g' := (mkF m 146 #[.val (.long i0), .second, .val (.long i1), .second, .val (.long i2), .second, .val (.int i3), .val (.int i4), .val (.long (Int64.ofNat va)), .second, .val (.long (Int64.ofNat vb)), .second, .val (.long (Int64.ofNat vc)), .second, .val (.ref b2), .val (.int (1 : Int32)), .val (.long (Int64.ofNat (min va (min vb vc)))), .second, .unset, .unset, .unset, .unset, .unset, .unset, .unset, .unset] [(.long (Int64.ofNat va))])) (fun X t q => XS.lload X.here C.hx rfl (hb C.hby at_144) rfl q) ?_
      refine Wk.st (g' := (mkF m 148 #[.val (.long i0), .second, .val (.long i1), .second, .val (.long i2), .second, .val (.int i3), .val (.int i4), .val (.long (Int64.ofNat va)), .second, .val (.long (Int64.ofNat vb)), .second, .val (.long (Int64.ofNat vc)), .second, .val (.ref b2), .val (.int (1 : Int32)), .val (.long (Int64.ofNat (min va (min vb vc)))), .second, .unset, .unset, .unset, .unset, .unset, .unset, .unset, .unset] [(.long (Int64.ofNat vb)), (.long (Int64.ofNat va))])) (fun X t q => XS.lload X.here C.hx rfl (hb C.hby at_146) rfl q) ?_
      refine Wk.st (g' := (mkF m 150 #[.val (.long i0), .second, .val (.long i1), .second, .val (.long i2), .second, .val (.int i3), .val (.int i4), .val (.long (Int64.ofNat va)), .second, .val (.long (Int64.ofNat vb)), .second, .val (.long (Int64.ofNat vc)), .second, .val (.ref b2), .val (.int (1 : Int32)), .val (.long (Int64.ofNat (min va (min vb vc)))), .second, .unset, .unset, .unset, .unset, .unset, .unset, .unset, .unset] [(.long (Int64.ofNat vc)), (.long (Int64.ofNat vb)), (.long (Int64.ofNat va))])) (fun X t q => XS.lload X.here C.hx rfl (hb C.hby at_148) rfl q) ?_
      refine Wk.callS C (z := (⟨"java/lang/Math", "max", "(JJ)J"⟩ : MethodName)) (hw _ (List.mem_of_getElem? (i := 47) rfl)) (hw _ (List.mem_of_getElem? (i := 48) rfl)) (hw _ (List.mem_of_getElem? (i := 34) rfl)) (hw _ (List.mem_of_getElem? (i := 49) rfl)) (by decide) (own_maxJ l Z a0 hw n0 h34 vb vc (by omega) (by omega)) (w := 2) (by decide) (by decide) pd_1 rfl (rest := [(.long (Int64.ofNat va))]) rfl rfl (Nat.le_of_eq rfl) (by decide) (by decide) at_150 ?_
      rintro _ _ ⟨rfl, rfl⟩
      show Wk _ p l e _ s m _ below meth c n0 _ h34 6 885 (mkF m 153 #[.val (.long i0), .second, .val (.long i1), .second, .val (.long i2), .second, .val (.int i3), .val (.int i4), .val (.long (Int64.ofNat va)), .second, .val (.long (Int64.ofNat vb)), .second, .val (.long (Int64.ofNat vc)), .second, .val (.ref b2), .val (.int (1 : Int32)), .val (.long (Int64.ofNat (min va (min vb vc)))), .second, .unset, .unset, .unset, .unset, .unset, .unset, .unset, .unset] [(.long (Int64.ofNat (max vb vc))), (.long (Int64.ofNat va))])
      refine Wk.callS C (z := (⟨"java/lang/Math", "max", "(JJ)J"⟩ : MethodName)) (hw _ (List.mem_of_getElem? (i := 47) rfl)) (hw _ (List.mem_of_getElem? (i := 48) rfl)) (hw _ (List.mem_of_getElem? (i := 34) rfl)) (hw _ (List.mem_of_getElem? (i := 49) rfl)) (by decide) (own_maxJ l Z a0 hw n0 h34 va (max vb vc) (by omega) (by omega)) (w := 0) (by decide) (by decide) pd_1 rfl (rest := []) rfl rfl (Nat.le_of_eq rfl) (by decide) (by decide) at_153 ?_
      rintro _ _ ⟨rfl, rfl⟩
      show Wk _ p l e _ s m _ below meth c n0 _ h34 6 885 (mkF m 156 #[.val (.long i0), .second, .val (.long i1), .second, .val (.long i2), .second, .val (.int i3), .val (.int i4), .val (.long (Int64.ofNat va)), .second, .val (.long (Int64.ofNat vb)), .second, .val (.long (Int64.ofNat vc)), .second, .val (.ref b2), .val (.int (1 : Int32)), .val (.long (Int64.ofNat (min va (min vb vc)))), .second, .unset, .unset, .unset, .unset, .unset, .unset, .unset, .unset] [(.long (Int64.ofNat (max va (max vb vc))))])
      refine Wk.st (g' := (mkF m 158 #[.val (.long i0), .second, .val (.long i1), .second, .val (.long i2), .second, .val (.int i3), .val (.int i4), .val (.long (Int64.ofNat va)), .second, .val (.long (Int64.ofNat vb)), .second, .val (.long (Int64.ofNat vc)), .second, .val (.ref b2), .val (.int (1 : Int32)), .val (.long (Int64.ofNat (min va (min vb vc)))), .second, .val (.long (Int64.ofNat (max va (max vb vc)))), .second, .unset, .unset, .unset, .unset, .unset, .unset] [])) (fun X t q => XS.lstore X.here C.hx rfl (hb C.hby at_156) rfl (l' := #[.val (.long i0), .second, .val (.long i1), .second, .val (.long i2), .second, .val (.int i3), .val (.int i4), .val (.long (Int64.ofNat va)), .second, .val (.long (Int64.ofNat vb)), .second, .val (.long (Int64.ofNat vc)), .second, .val (.ref b2), .val (.int (1 : Int32)), .val (.long (Int64.ofNat (min va (min vb vc)))), .second, .val (.long (Int64.ofNat (max va (max vb vc)))), .second, .unset, .unset, .unset, .unset, .unset, .unset]) rfl q) ?_
      refine Wk.st (g' := (mkF m 160 #[.val (.long i0), .second, .val (.long i1), .second, .val (.long i2), .second, .val (.int i3), .val (.int i4), .val (.long (Int64.ofNat va)), .second, .val (.long (Int64.ofNat vb)), .second, .val (.long (Int64.ofNat vc)), .second, .val (.ref b2), .val (.int (1 : Int32)), .val (.long (Int64.ofNat (min va (min vb vc)))), .second, .val (.long (Int64.ofNat (max va (max vb vc)))), .second, .unset, .unset, .unset, .unset, .unset, .unset] [(.long (Int64.ofNat va))])) (fun X t q => XS.lload X.here C.hx rfl (hb C.hby at_158) rfl q) ?_
      refine Wk.st (g' := (mkF m 162 #[.val (.long i0), .second, .val (.long i1), .second, .val (.long i2), .second, .val (.int i3), .val (.int i4), .val (.long (Int64.ofNat va)), .second, .val (.long (Int64.ofNat vb)), .second, .val (.long (Int64.ofNat vc)), .second, .val (.ref b2), .val (.int (1 : Int32)), .val (.long (Int64.ofNat (min va (min vb vc)))), .second, .val (.long (Int64.ofNat (max va (max vb vc)))), .second, .unset, .unset, .unset, .unset, .unset, .unset] [(.long (Int64.ofNat vb)), (.long (Int64.ofNat va))])) (fun X t q => XS.lload X.here C.hx rfl (hb C.hby at_160) rfl q) ?_
      refine Wk.callS C (z := (⟨"java/lang/Math", "min", "(JJ)J"⟩ : MethodName)) (hw _ (List.mem_of_getElem? (i := 44) rfl)) (hw _ (List.mem_of_getElem? (i := 45) rfl)) (hw _ (List.mem_of_getElem? (i := 34) rfl)) (hw _ (List.mem_of_getElem? (i := 46) rfl)) (by decide) (own_minJ l Z a0 hw n0 h34 va vb (by omega) (by omega)) (w := 0) (by decide) (by decide) pd_1 rfl (rest := []) rfl rfl (Nat.le_of_eq rfl) (by decide) (by decide) at_162 ?_
      rintro _ _ ⟨rfl, rfl⟩
      show Wk _ p l e _ s m _ below meth c n0 _ h34 6 885 (mkF m 165 #[.val (.long i0), .second, .val (.long i1), .second, .val (.long i2), .second, .val (.int i3), .val (.int i4), .val (.long (Int64.ofNat va)), .second, .val (.long (Int64.ofNat vb)), .second, .val (.long (Int64.ofNat vc)), .second, .val (.ref b2), .val (.int (1 : Int32)), .val (.long (Int64.ofNat (min va (min vb vc)))), .second, .val (.long (Int64.ofNat (max va (max vb vc)))), .second, .unset, .unset, .unset, .unset, .unset, .unset] [(.long (Int64.ofNat (min va vb)))])
      refine Wk.st (g' := (mkF m 167 #[.val (.long i0), .second, .val (.long i1), .second, .val (.long i2), .second, .val (.int i3), .val (.int i4), .val (.long (Int64.ofNat va)), .second, .val (.long (Int64.ofNat vb)), .second, .val (.long (Int64.ofNat vc)), .second, .val (.ref b2), .val (.int (1 : Int32)), .val (.long (Int64.ofNat (min va (min vb vc)))), .second, .val (.long (Int64.ofNat (max va (max vb vc)))), .second, .unset, .unset, .unset, .unset, .unset, .unset] [(.long (Int64.ofNat va)), (.long (Int64.ofNat (min va vb)))])) (fun X t q => XS.lload X.here C.hx rfl (hb C.hby at_165) rfl q) ?_
      refine Wk.st (g' := (mkF m 169 #[.val (.long i0), .second, .val (.long i1), .second, .val (.long i2), .second, .val (.int i3), .val (.int i4), .val (.long (Int64.ofNat va)), .second, .val (.long (Int64.ofNat vb)), .second, .val (.long (Int64.ofNat vc)), .second, .val (.ref b2), .val (.int (1 : Int32)), .val (.long (Int64.ofNat (min va (min vb vc)))), .second, .val (.long (Int64.ofNat (max va (max vb vc)))), .second, .unset, .unset, .unset, .unset, .unset, .unset] [(.long (Int64.ofNat vb)), (.long (Int64.ofNat va)), (.long (Int64.ofNat (min va vb)))])) (fun X t q => XS.lload X.here C.hx rfl (hb C.hby at_167) rfl q) ?_
      refine Wk.callS C (z := (⟨"java/lang/Math", "max", "(JJ)J"⟩ : MethodName)) (hw _ (List.mem_of_getElem? (i := 47) rfl)) (hw _ (List.mem_of_getElem? (i := 48) rfl)) (hw _ (List.mem_of_getElem? (i := 34) rfl)) (hw _ (List.mem_of_getElem? (i := 49) rfl)) (by decide) (own_maxJ l Z a0 hw n0 h34 va vb (by omega) (by omega)) (w := 2) (by decide) (by decide) pd_1 rfl (rest := [(.long (Int64.ofNat (min va vb)))]) rfl rfl (Nat.le_of_eq rfl) (by decide) (by decide) at_169 ?_
      rintro _ _ ⟨rfl, rfl⟩
      show Wk _ p l e _ s m _ below meth c n0 _ h34 6 885 (mkF m 172 #[.val (.long i0), .second, .val (.long i1), .second, .val (.long i2), .second, .val (.int i3), .val (.int i4), .val (.long (Int64.ofNat va)), .second, .val (.long (Int64.ofNat vb)), .second, .val (.long (Int64.ofNat vc)), .second, .val (.ref b2), .val (.int (1 : Int32)), .val (.long (Int64.ofNat (min va (min vb vc)))), .second, .val (.long (Int64.ofNat (max va (max vb vc)))), .second, .unset, .unset, .unset, .unset, .unset, .unset] [(.long (Int64.ofNat (max va vb))), (.long (Int64.ofNat (min va vb)))])
      refine Wk.st (g' := (mkF m 174 #[.val (.long i0), .second, .val (.long i1), .second, .val (.long i2), .second, .val (.int i3), .val (.int i4), .val (.long (Int64.ofNat va)), .second, .val (.long (Int64.ofNat vb)), .second, .val (.long (Int64.ofNat vc)), .second, .val (.ref b2), .val (.int (1 : Int32)), .val (.long (Int64.ofNat (min va (min vb vc)))), .second, .val (.long (Int64.ofNat (max va (max vb vc)))), .second, .unset, .unset, .unset, .unset, .unset, .unset] [(.long (Int64.ofNat vc)), (.long (Int64.ofNat (max va vb))), (.long (Int64.ofNat (min va vb)))])) (fun X t q => XS.lload X.here C.hx rfl (hb C.hby at_172) rfl q) ?_
      refine Wk.callS C (z := (⟨"java/lang/Math", "min", "(JJ)J"⟩ : MethodName)) (hw _ (List.mem_of_getElem? (i := 44) rfl)) (hw _ (List.mem_of_getElem? (i := 45) rfl)) (hw _ (List.mem_of_getElem? (i := 34) rfl)) (hw _ (List.mem_of_getElem? (i := 46) rfl)) (by decide) (own_minJ l Z a0 hw n0 h34 (max va vb) vc (by omega) (by omega)) (w := 2) (by decide) (by decide) pd_1 rfl (rest := [(.long (Int64.ofNat (min va vb)))]) rfl rfl (Nat.le_of_eq rfl) (by decide) (by decide) at_174 ?_
      rintro _ _ ⟨rfl, rfl⟩
      show Wk _ p l e _ s m _ below meth c n0 _ h34 6 885 (mkF m 177 #[.val (.long i0), .second, .val (.long i1), .second, .val (.long i2), .second, .val (.int i3), .val (.int i4), .val (.long (Int64.ofNat va)), .second, .val (.long (Int64.ofNat vb)), .second, .val (.long (Int64.ofNat vc)), .second, .val (.ref b2), .val (.int (1 : Int32)), .val (.long (Int64.ofNat (min va (min vb vc)))), .second, .val (.long (Int64.ofNat (max va (max vb vc)))), .second, .unset, .unset, .unset, .unset, .unset, .unset] [(.long (Int64.ofNat (min (max va vb) vc))), (.long (Int64.ofNat (min va vb)))])
      refine Wk.callS C (z := (⟨"java/lang/Math", "max", "(JJ)J"⟩ : MethodName)) (hw _ (List.mem_of_getElem? (i := 47) rfl)) (hw _ (List.mem_of_getElem? (i := 48) rfl)) (hw _ (List.mem_of_getElem? (i := 34) rfl)) (hw _ (List.mem_of_getElem? (i := 49) rfl)) (by decide) (own_maxJ l Z a0 hw n0 h34 (min va vb) (min (max va vb) vc) (by omega) (by omega)) (w := 0) (by decide) (by decide) pd_1 rfl (rest := []) rfl rfl (Nat.le_of_eq rfl) (by decide) (by decide) at_177 ?_
      rintro _ _ ⟨rfl, rfl⟩
      show Wk _ p l e _ s m _ below meth c n0 _ h34 6 885 (mkF m 180 #[.val (.long i0), .second, .val (.long i1), .second, .val (.long i2), .second, .val (.int i3), .val (.int i4), .val (.long (Int64.ofNat va)), .second, .val (.long (Int64.ofNat vb)), .second, .val (.long (Int64.ofNat vc)), .second, .val (.ref b2), .val (.int (1 : Int32)), .val (.long (Int64.ofNat (min va (min vb vc)))), .second, .val (.long (Int64.ofNat (max va (max vb vc)))), .second, .unset, .unset, .unset, .unset, .unset, .unset] [(.long (Int64.ofNat (max (min va vb) (min (max va vb) vc))))])
      refine Wk.st (g' := (mkF m 182 #[.val (.long i0), .second, .val (.long i1), .second, .val (.long i2), .second, .val (.int i3), .val (.int i4), .val (.long (Int64.ofNat va)), .second, .val (.long (Int64.ofNat vb)), .second, .val (.long (Int64.ofNat vc)), .second, .val (.ref b2), .val (.int (1 : Int32)), .val (.long (Int64.ofNat (min va (min vb vc)))), .second, .val (.long (Int64.ofNat (max va (max vb vc)))), .second, .val (.long (Int64.ofNat (max (min va vb) (min (max va vb) vc)))), .second, .unset, .unset, .unset, .unset] [])) (fun X t q => XS.lstore X.here C.hx rfl (hb C.hby at_180) rfl (l' := #[.val (.long i0), .second, .val (.long i1), .second, .val (.long i2), .second, .val (.int i3), .val (.int i4), .val (.long (Int64.ofNat va)), .second, .val (.long (Int64.ofNat vb)), .second, .val (.long (Int64.ofNat vc)), .second, .val (.ref b2), .val (.int (1 : Int32)), .val (.long (Int64.ofNat (min va (min vb vc)))), .second, .val (.long (Int64.ofNat (max va (max vb vc)))), .second, .val (.long (Int64.ofNat (max (min va vb) (min (max va vb) vc)))), .second, .unset, .unset, .unset, .unset]) rfl q) ?_
      refine Wk.st (g' := (mkF m 184 #[.val (.long i0), .second, .val (.long i1), .second, .val (.long i2), .second, .val (.int i3), .val (.int i4), .val (.long (Int64.ofNat va)), .second, .val (.long (Int64.ofNat vb)), .second, .val (.long (Int64.ofNat vc)), .second, .val (.ref b2), .val (.int (1 : Int32)), .val (.long (Int64.ofNat (min va (min vb vc)))), .second, .val (.long (Int64.ofNat (max va (max vb vc)))), .second, .val (.long (Int64.ofNat (max (min va vb) (min (max va vb) vc)))), .second, .unset, .unset, .unset, .unset] [(.int (1 : Int32))])) (fun X t q => XS.iload X.here C.hx rfl (hb C.hby at_182) rfl q) ?_
      refine Wk.st (g' := (mkF m 185 #[.val (.long i0), .second, .val (.long i1), .second, .val (.long i2), .second, .val (.int i3), .val (.int i4), .val (.long (Int64.ofNat va)), .second, .val (.long (Int64.ofNat vb)), .second, .val (.long (Int64.ofNat vc)), .second, .val (.ref b2), .val (.int (1 : Int32)), .val (.long (Int64.ofNat (min va (min vb vc)))), .second, .val (.long (Int64.ofNat (max va (max vb vc)))), .second, .val (.long (Int64.ofNat (max (min va vb) (min (max va vb) vc)))), .second, .unset, .unset, .unset, .unset] [(.int (1 : Int32)), (.int (1 : Int32))])) (fun X t q => XS.iconst X.here C.hx rfl (hb C.hby at_184) q) ?_
      refine Wk.st (g' := (mkF m 188 #[.val (.long i0), .second, .val (.long i1), .second, .val (.long i2), .second, .val (.int i3), .val (.int i4), .val (.long (Int64.ofNat va)), .second, .val (.long (Int64.ofNat vb)), .second, .val (.long (Int64.ofNat vc)), .second, .val (.ref b2), .val (.int (1 : Int32)), .val (.long (Int64.ofNat (min va (min vb vc)))), .second, .val (.long (Int64.ofNat (max va (max vb vc)))), .second, .val (.long (Int64.ofNat (max (min va vb) (min (max va vb) vc)))), .second, .unset, .unset, .unset, .unset] [])) (fun X t q => XS.icmpNo X.here C.hx rfl (hb C.hby at_185) rfl (XT.ii_ne_f (by decide)) q) ?_
      refine Wk.st (g' := (mkF m 190 #[.val (.long i0), .second, .val (.long i1), .second, .val (.long i2), .second, .val (.int i3), .val (.int i4), .val (.long (Int64.ofNat va)), .second, .val (.long (Int64.ofNat vb)), .second, .val (.long (Int64.ofNat vc)), .second, .val (.ref b2), .val (.int (1 : Int32)), .val (.long (Int64.ofNat (min va (min vb vc)))), .second, .val (.long (Int64.ofNat (max va (max vb vc)))), .second, .val (.long (Int64.ofNat (max (min va vb) (min (max va vb) vc)))), .second, .unset, .unset, .unset, .unset] [(.long (Int64.ofNat (min va (min vb vc))))])) (fun X t q => XS.lload X.here C.hx rfl (hb C.hby at_188) rfl q) ?_
      refine Wk.st (g' := (mkF m 206 #[.val (.long i0), .second, .val (.long i1), .second, .val (.long i2), .second, .val (.int i3), .val (.int i4), .val (.long (Int64.ofNat va)), .second, .val (.long (Int64.ofNat vb)), .second, .val (.long (Int64.ofNat vc)), .second, .val (.ref b2), .val (.int (1 : Int32)), .val (.long (Int64.ofNat (min va (min vb vc)))), .second, .val (.long (Int64.ofNat (max va (max vb vc)))), .second, .val (.long (Int64.ofNat (max (min va vb) (min (max va vb) vc)))), .second, .unset, .unset, .unset, .unset] [(.long (Int64.ofNat (min va (min vb vc))))])) (fun X t q => XS.goto X.here C.hx rfl (pc0 := 190) (pc' := 206) rfl (hb C.hby at_190) (by decide) (by decide) q) ?_
      refine Wk.st (g' := (mkF m 208 #[.val (.long i0), .second, .val (.long i1), .second, .val (.long i2), .second, .val (.int i3), .val (.int i4), .val (.long (Int64.ofNat va)), .second, .val (.long (Int64.ofNat vb)), .second, .val (.long (Int64.ofNat vc)), .second, .val (.ref b2), .val (.int (1 : Int32)), .val (.long (Int64.ofNat (min va (min vb vc)))), .second, .val (.long (Int64.ofNat (max va (max vb vc)))), .second, .val (.long (Int64.ofNat (max (min va vb) (min (max va vb) vc)))), .second, .val (.long (Int64.ofNat (min va (min vb vc)))), .second, .unset, .unset] [])) (fun X t q => XS.lstore X.here C.hx rfl (hb C.hby at_206) rfl (l' := #[.val (.long i0), .second, .val (.long i1), .second, .val (.long i2), .second, .val (.int i3), .val (.int i4), .val (.long (Int64.ofNat va)), .second, .val (.long (Int64.ofNat vb)), .second, .val (.long (Int64.ofNat vc)), .second, .val (.ref b2), .val (.int (1 : Int32)), .val (.long (Int64.ofNat (min va (min vb vc)))), .second, .val (.long (Int64.ofNat (max va (max vb vc)))), .second, .val (.long (Int64.ofNat (max (min va vb) (min (max va vb) vc)))), .second, .val (.long (Int64.ofNat (min va (min vb vc)))), .second, .unset, .unset]) rfl q) ?_
      obtain ⟨v, ev⟩ : ∃ v, v = (min va (min vb vc)) := ⟨_, rfl⟩
      have hv : v < 9223372036854775808 := by omega
      rw [← ev]
      show Wk _ p l e _ s m _ below meth c n0 _ h34 6 885 (mkF m 208 #[.val (.long i0), .second, .val (.long i1), .second, .val (.long i2), .second, .val (.int i3), .val (.int i4), .val (.long (Int64.ofNat va)), .second, .val (.long (Int64.ofNat vb)), .second, .val (.long (Int64.ofNat vc)), .second, .val (.ref b2), .val (.int (1 : Int32)), .val (.long (Int64.ofNat v)), .second, .val (.long (Int64.ofNat (max va (max vb vc)))), .second, .val (.long (Int64.ofNat (max (min va vb) (min (max va vb) vc)))), .second, .val (.long (Int64.ofNat v)), .second, .unset, .unset] [])
      refine Wk.st (g' := (mkF m 210 #[.val (.long i0), .second, .val (.long i1), .second, .val (.long i2), .second, .val (.int i3), .val (.int i4), .val (.long (Int64.ofNat va)), .second, .val (.long (Int64.ofNat vb)), .second, .val (.long (Int64.ofNat vc)), .second, .val (.ref b2), .val (.int (1 : Int32)), .val (.long (Int64.ofNat v)), .second, .val (.long (Int64.ofNat (max va (max vb vc)))), .second, .val (.long (Int64.ofNat (max (min va vb) (min (max va vb) vc)))), .second, .val (.long (Int64.ofNat v)), .second, .unset, .unset] [(.long (Int64.ofNat v))])) (fun X t q => XS.lload X.here C.hx rfl (hb C.hby at_208) rfl q) ?_
      refine Wk.st (g' := (mkF m 212 #[.val (.long i0), .second, .val (.long i1), .second, .val (.long i2), .second, .val (.int i3), .val (.int i4), .val (.long (Int64.ofNat va)), .second, .val (.long (Int64.ofNat vb)), .second, .val (.long (Int64.ofNat vc)), .second, .val (.ref b2), .val (.int (1 : Int32)), .val (.long (Int64.ofNat v)), .second, .val (.long (Int64.ofNat (max va (max vb vc)))), .second, .val (.long (Int64.ofNat (max (min va vb) (min (max va vb) vc)))), .second, .val (.long (Int64.ofNat v)), .second, .val (.long (Int64.ofNat v)), .second] [])) (fun X t q => XS.lstore X.here C.hx rfl (hb C.hby at_210) rfl (l' := #[.val (.long i0), .second, .val (.long i1), .second, .val (.long i2), .second, .val (.int i3), .val (.int i4), .val (.long (Int64.ofNat va)), .second, .val (.long (Int64.ofNat vb)), .second, .val (.long (Int64.ofNat vc)), .second, .val (.ref b2), .val (.int (1 : Int32)), .val (.long (Int64.ofNat v)), .second, .val (.long (Int64.ofNat (max va (max vb vc)))), .second, .val (.long (Int64.ofNat (max (min va vb) (min (max va vb) vc)))), .second, .val (.long (Int64.ofNat v)), .second, .val (.long (Int64.ofNat v)), .second]) rfl q) ?_
      refine Wk.st (g' := (mkF m 214 #[.val (.long i0), .second, .val (.long i1), .second, .val (.long i2), .second, .val (.int i3), .val (.int i4), .val (.long (Int64.ofNat va)), .second, .val (.long (Int64.ofNat vb)), .second, .val (.long (Int64.ofNat vc)), .second, .val (.ref b2), .val (.int (1 : Int32)), .val (.long (Int64.ofNat v)), .second, .val (.long (Int64.ofNat (max va (max vb vc)))), .second, .val (.long (Int64.ofNat (max (min va vb) (min (max va vb) vc)))), .second, .val (.long (Int64.ofNat v)), .second, .val (.long (Int64.ofNat v)), .second] [(.long (Int64.ofNat va))])) (fun X t q => XS.lload X.here C.hx rfl (hb C.hby at_212) rfl q) ?_
      refine Wk.st (g' := (mkF m 216 #[.val (.long i0), .second, .val (.long i1), .second, .val (.long i2), .second, .val (.int i3), .val (.int i4), .val (.long (Int64.ofNat va)), .second, .val (.long (Int64.ofNat vb)), .second, .val (.long (Int64.ofNat vc)), .second, .val (.ref b2), .val (.int (1 : Int32)), .val (.long (Int64.ofNat v)), .second, .val (.long (Int64.ofNat (max va (max vb vc)))), .second, .val (.long (Int64.ofNat (max (min va vb) (min (max va vb) vc)))), .second, .val (.long (Int64.ofNat v)), .second, .val (.long (Int64.ofNat v)), .second] [(.long (Int64.ofNat v)), (.long (Int64.ofNat va))])) (fun X t q => XS.lload X.here C.hx rfl (hb C.hby at_214) rfl q) ?_
      refine Wk.callS C (z := (⟨"com/example/headroom/headroom/HistogramValueAtPinLaw", "sameBucket", "(JJ)Z"⟩ : MethodName)) (hw _ (List.mem_of_getElem? (i := 50) rfl)) (hw _ (List.mem_of_getElem? (i := 51) rfl)) (hw _ (List.mem_of_getElem? (i := 52) rfl)) (hw _ (List.mem_of_getElem? (i := 53) rfl)) (by decide) (own_same l Z a0 hw n0 h34 va v (by omega) (by omega)) (w := 0) (by decide) (by decide) pd_7 rfl (rest := []) rfl rfl (Nat.le_of_eq rfl) (by decide) (by decide) at_216 ?_
      rintro _ _ ⟨rfl, rfl⟩
      show Wk _ p l e _ s m _ below meth c n0 _ h34 6 885 (mkF m 219 #[.val (.long i0), .second, .val (.long i1), .second, .val (.long i2), .second, .val (.int i3), .val (.int i4), .val (.long (Int64.ofNat va)), .second, .val (.long (Int64.ofNat vb)), .second, .val (.long (Int64.ofNat vc)), .second, .val (.ref b2), .val (.int (1 : Int32)), .val (.long (Int64.ofNat v)), .second, .val (.long (Int64.ofNat (max va (max vb vc)))), .second, .val (.long (Int64.ofNat (max (min va vb) (min (max va vb) vc)))), .second, .val (.long (Int64.ofNat v)), .second, .val (.long (Int64.ofNat v)), .second] [(.int (if Ky va = Ky v then (1 : Int32) else (0 : Int32)))])
      have k231 : ∀ rf1 : Nat, rf1 < 9223372036854775808 → rf1 = r1 va v → Wk false p l e room_1 s m #[(.long i0), (.long i1), (.long i2), (.int i3), (.int i4)] below meth c n0 (fun v _ => v = some (.int 1) ∧ True) h34 6 885 (mkF m 231 #[.val (.long i0), .second, .val (.long i1), .second, .val (.long i2), .second, .val (.int i3), .val (.int i4), .val (.long (Int64.ofNat va)), .second, .val (.long (Int64.ofNat vb)), .second, .val (.long (Int64.ofNat vc)), .second, .val (.ref b2), .val (.int (1 : Int32)), .val (.long (Int64.ofNat v)), .second, .val (.long (Int64.ofNat (max va (max vb vc)))), .second, .val (.long (Int64.ofNat (max (min va vb) (min (max va vb) vc)))), .second, .val (.long (Int64.ofNat v)), .second, .val (.long (Int64.ofNat rf1)), .second] []) := by
        intro rf1 hrf1 erf1
        refine Wk.st (g' := (mkF m 233 #[.val (.long i0), .second, .val (.long i1), .second, .val (.long i2), .second, .val (.int i3), .val (.int i4), .val (.long (Int64.ofNat va)), .second, .val (.long (Int64.ofNat vb)), .second, .val (.long (Int64.ofNat vc)), .second, .val (.ref b2), .val (.int (1 : Int32)), .val (.long (Int64.ofNat v)), .second, .val (.long (Int64.ofNat (max va (max vb vc)))), .second, .val (.long (Int64.ofNat (max (min va vb) (min (max va vb) vc)))), .second, .val (.long (Int64.ofNat v)), .second, .val (.long (Int64.ofNat rf1)), .second] [(.long (Int64.ofNat vb))])) (fun X t q => XS.lload X.here C.hx rfl (hb C.hby at_231) rfl q) ?_
        refine Wk.st (g' := (mkF m 235 #[.val (.long i0), .second, .val (.long i1), .second, .val (.long i2), .second, .val (.int i3), .val (.int i4), .val (.long (Int64.ofNat va)), .second, .val (.long (Int64.ofNat vb)), .second, .val (.long (Int64.ofNat vc)), .second, .val (.ref b2), .val (.int (1 : Int32)), .val (.long (Int64.ofNat v)), .second, .val (.long (Int64.ofNat (max va (max vb vc)))), .second, .val (.long (Int64.ofNat (max (min va vb) (min (max va vb) vc)))), .second, .val (.long (Int64.ofNat v)), .second, .val (.long (Int64.ofNat rf1)), .second] [(.long (Int64.ofNat v)), (.long (Int64.ofNat vb))])) (fun X t q => XS.lload X.here C.hx rfl (hb C.hby at_233) rfl q) ?_
        refine Wk.callS C (z := (⟨"com/example/headroom/headroom/HistogramValueAtPinLaw", "sameBucket", "(JJ)Z"⟩ : MethodName)) (hw _ (List.mem_of_getElem? (i := 50) rfl)) (hw _ (List.mem_of_getElem? (i := 51) rfl)) (hw _ (List.mem_of_getElem? (i := 52) rfl)) (hw _ (List.mem_of_getElem? (i := 53) rfl)) (by decide) (own_same l Z a0 hw n0 h34 vb v (by omega) (by omega)) (w := 0) (by decide) (by decide) pd_7 rfl (rest := []) rfl rfl (Nat.le_of_eq rfl) (by decide) (by decide) at_235 ?_
        rintro _ _ ⟨rfl, rfl⟩
        show Wk _ p l e _ s m _ below meth c n0 _ h34 6 885 (mkF m 238 #[.val (.long i0), .second, .val (.long i1), .second, .val (.long i2), .second, .val (.int i3), .val (.int i4), .val (.long (Int64.ofNat va)), .second, .val (.long (Int64.ofNat vb)), .second, .val (.long (Int64.ofNat vc)), .second, .val (.ref b2), .val (.int (1 : Int32)), .val (.long (Int64.ofNat v)), .second, .val (.long (Int64.ofNat (max va (max vb vc)))), .second, .val (.long (Int64.ofNat (max (min va vb) (min (max va vb) vc)))), .second, .val (.long (Int64.ofNat v)), .second, .val (.long (Int64.ofNat rf1)), .second] [(.int (if Ky vb = Ky v then (1 : Int32) else (0 : Int32)))])
        have k250 : ∀ rf2 : Nat, rf2 < 9223372036854775808 → rf2 = r2 rf1 vb v → Wk false p l e room_1 s m #[(.long i0), (.long i1), (.long i2), (.int i3), (.int i4)] below meth c n0 (fun v _ => v = some (.int 1) ∧ True) h34 6 885 (mkF m 250 #[.val (.long i0), .second, .val (.long i1), .second, .val (.long i2), .second, .val (.int i3), .val (.int i4), .val (.long (Int64.ofNat va)), .second, .val (.long (Int64.ofNat vb)), .second, .val (.long (Int64.ofNat vc)), .second, .val (.ref b2), .val (.int (1 : Int32)), .val (.long (Int64.ofNat v)), .second, .val (.long (Int64.ofNat (max va (max vb vc)))), .second, .val (.long (Int64.ofNat (max (min va vb) (min (max va vb) vc)))), .second, .val (.long (Int64.ofNat v)), .second, .val (.long (Int64.ofNat rf2)), .second] []) := by
          intro rf2 hrf2 erf2
          refine Wk.st (g' := (mkF m 252 #[.val (.long i0), .second, .val (.long i1), .second, .val (.long i2), .second, .val (.int i3), .val (.int i4), .val (.long (Int64.ofNat va)), .second, .val (.long (Int64.ofNat vb)), .second, .val (.long (Int64.ofNat vc)), .second, .val (.ref b2), .val (.int (1 : Int32)), .val (.long (Int64.ofNat v)), .second, .val (.long (Int64.ofNat (max va (max vb vc)))), .second, .val (.long (Int64.ofNat (max (min va vb) (min (max va vb) vc)))), .second, .val (.long (Int64.ofNat v)), .second, .val (.long (Int64.ofNat rf2)), .second] [(.long (Int64.ofNat vc))])) (fun X t q => XS.lload X.here C.hx rfl (hb C.hby at_250) rfl q) ?_
          refine Wk.st (g' := (mkF m 254 #[.val (.long i0), .second, .val (.long i1), .second, .val (.long i2), .second, .val (.int i3), .val (.int i4), .val (.long (Int64.ofNat va)), .second, .val (.long (Int64.ofNat vb)), .second, .val (.long (Int64.ofNat vc)), .second, .val (.ref b2), .val (.int (1 : Int32)), .val (.long (Int64.ofNat v)), .second, .val (.long (Int64.ofNat (max va (max vb vc)))), .second, .val (.long (Int64.ofNat (max (min va vb) (min (max va vb) vc)))), .second, .val (.long (Int64.ofNat v)), .second, .val (.long (Int64.ofNat rf2)), .second] [(.long (Int64.ofNat v)), (.long (Int64.ofNat vc))])) (fun X t q => XS.lload X.here C.hx rfl (hb C.hby at_252) rfl q) ?_
          refine Wk.callS C (z := (⟨"com/example/headroom/headroom/HistogramValueAtPinLaw", "sameBucket", "(JJ)Z"⟩ : MethodName)) (hw _ (List.mem_of_getElem? (i := 50) rfl)) (hw _ (List.mem_of_getElem? (i := 51) rfl)) (hw _ (List.mem_of_getElem? (i := 52) rfl)) (hw _ (List.mem_of_getElem? (i := 53) rfl)) (by decide) (own_same l Z a0 hw n0 h34 vc v (by omega) (by omega)) (w := 0) (by decide) (by decide) pd_7 rfl (rest := []) rfl rfl (Nat.le_of_eq rfl) (by decide) (by decide) at_254 ?_
          rintro _ _ ⟨rfl, rfl⟩
          show Wk _ p l e _ s m _ below meth c n0 _ h34 6 885 (mkF m 257 #[.val (.long i0), .second, .val (.long i1), .second, .val (.long i2), .second, .val (.int i3), .val (.int i4), .val (.long (Int64.ofNat va)), .second, .val (.long (Int64.ofNat vb)), .second, .val (.long (Int64.ofNat vc)), .second, .val (.ref b2), .val (.int (1 : Int32)), .val (.long (Int64.ofNat v)), .second, .val (.long (Int64.ofNat (max va (max vb vc)))), .second, .val (.long (Int64.ofNat (max (min va vb) (min (max va vb) vc)))), .second, .val (.long (Int64.ofNat v)), .second, .val (.long (Int64.ofNat rf2)), .second] [(.int (if Ky vc = Ky v then (1 : Int32) else (0 : Int32)))])
          have k269 : ∀ rf3 : Nat, rf3 < 9223372036854775808 → rf3 = r2 rf2 vc v → Wk false p l e room_1 s m #[(.long i0), (.long i1), (.long i2), (.int i3), (.int i4)] below meth c n0 (fun v _ => v = some (.int 1) ∧ True) h34 6 885 (mkF m 269 #[.val (.long i0), .second, .val (.long i1), .second, .val (.long i2), .second, .val (.int i3), .val (.int i4), .val (.long (Int64.ofNat va)), .second, .val (.long (Int64.ofNat vb)), .second, .val (.long (Int64.ofNat vc)), .second, .val (.ref b2), .val (.int (1 : Int32)), .val (.long (Int64.ofNat v)), .second, .val (.long (Int64.ofNat (max va (max vb vc)))), .second, .val (.long (Int64.ofNat (max (min va vb) (min (max va vb) vc)))), .second, .val (.long (Int64.ofNat v)), .second, .val (.long (Int64.ofNat rf3)), .second] []) := by
            intro rf3 hrf3 erf3
            refine Wk.st (g' := (mkF m 271 #[.val (.long i0), .second, .val (.long i1), .second, .val (.long i2), .second, .val (.int i3), .val (.int i4), .val (.long (Int64.ofNat va)), .second, .val (.long (Int64.ofNat vb)), .second, .val (.long (Int64.ofNat vc)), .second, .val (.ref b2), .val (.int (1 : Int32)), .val (.long (Int64.ofNat v)), .second, .val (.long (Int64.ofNat (max va (max vb vc)))), .second, .val (.long (Int64.ofNat (max (min va vb) (min (max va vb) vc)))), .second, .val (.long (Int64.ofNat v)), .second, .val (.long (Int64.ofNat rf3)), .second] [(.ref b2)])) (fun X t q => XS.aload X.here C.hx rfl (hb C.hby at_269) rfl rfl q) ?_
            refine Wk.callV C (x := (⟨"com/example/headroom/headroom/Histogram", "count", "()J"⟩ : MethodName)) (z := (⟨"com/example/headroom/headroom/Histogram", "count", "()J"⟩ : MethodName)) (K := "com/example/headroom/headroom/Histogram") (hw _ (List.mem_of_getElem? (i := 58) rfl)) (hw _ (List.mem_of_getElem? (i := 59) rfl)) (hw _ (List.mem_of_getElem? (i := 61) rfl)) (hw _ (List.mem_of_getElem? (i := 60) rfl)) (hw _ (List.mem_of_getElem? (i := 4) rfl)) (hw _ (List.mem_of_getElem? (i := 62) rfl)) (by decide) (fun s' hZ' => notFace_of_selects (args := #[]) (mvT hZ' (hw _ (List.mem_of_getElem? (i := 61) rfl)))) HH39.exa (own_count l Z a0 hw n0 h34 wz35 b2 [vc, vb, va] HH39) (w := 0) (by decide) (by decide) pd_8 rfl (rest := []) rfl rfl (Nat.le_of_eq rfl) (by decide) (by decide) at_271 ?_
            rintro _ _ ⟨rfl, rfl⟩
            show Wk _ p l e _ s m _ below meth c n0 _ h34 6 885 (mkF m 274 #[.val (.long i0), .second, .val (.long i1), .second, .val (.long i2), .second, .val (.int i3), .val (.int i4), .val (.long (Int64.ofNat va)), .second, .val (.long (Int64.ofNat vb)), .second, .val (.long (Int64.ofNat vc)), .second, .val (.ref b2), .val (.int (1 : Int32)), .val (.long (Int64.ofNat v)), .second, .val (.long (Int64.ofNat (max va (max vb vc)))), .second, .val (.long (Int64.ofNat (max (min va vb) (min (max va vb) vc)))), .second, .val (.long (Int64.ofNat v)), .second, .val (.long (Int64.ofNat rf3)), .second] [(.long (3 : Int64))])
            refine Wk.ldc2J C (hw _ (List.mem_of_getElem? (i := 63) rfl)) at_274 ?_
            show Wk _ p l e _ s m _ below meth c n0 _ h34 6 885 (mkF m 277 #[.val (.long i0), .second, .val (.long i1), .second, .val (.long i2), .second, .val (.int i3), .val (.int i4), .val (.long (Int64.ofNat va)), .second, .val (.long (Int64.ofNat vb)), .second, .val (.long (Int64.ofNat vc)), .second, .val (.ref b2), .val (.int (1 : Int32)), .val (.long (Int64.ofNat v)), .second, .val (.long (Int64.ofNat (max va (max vb vc)))), .second, .val (.long (Int64.ofNat (max (min va vb) (min (max va vb) vc)))), .second, .val (.long (Int64.ofNat v)), .second, .val (.long (Int64.ofNat rf3)), .second] [(.long (3 : Int64)), (.long (3 : Int64))])
            refine Wk.st (g' := (mkF m 278 #[.val (.long i0), .second, .val (.long i1), .second, .val (.long i2), .second, .val (.int i3), .val (.int i4), .val (.long (Int64.ofNat va)), .second, .val (.long (Int64.ofNat vb)), .second, .val (.long (Int64.ofNat vc)), .second, .val (.ref b2), .val (.int (1 : Int32)), .val (.long (Int64.ofNat v)), .second, .val (.long (Int64.ofNat (max va (max vb vc)))), .second, .val (.long (Int64.ofNat (max (min va vb) (min (max va vb) vc)))), .second, .val (.long (Int64.ofNat v)), .second, .val (.long (Int64.ofNat rf3)), .second] [(.int (XT.cmpL (3 : Int64) (3 : Int64)))])) (fun X t q => XT.lcmp X.here C.hx rfl (hb C.hby at_277) rfl q) ?_
            refine Wk.st (g' := (mkF m 281 #[.val (.long i0), .second, .val (.long i1), .second, .val (.long i2), .second, .val (.int i3), .val (.int i4), .val (.long (Int64.ofNat va)), .second, .val (.long (Int64.ofNat vb)), .second, .val (.long (Int64.ofNat vc)), .second, .val (.ref b2), .val (.int (1 : Int32)), .val (.long (Int64.ofNat v)), .second, .val (.long (Int64.ofNat (max va (max vb vc)))), .second, .val (.long (Int64.ofNat (max (min va vb) (min (max va vb) vc)))), .second, .val (.long (Int64.ofNat v)), .second, .val (.long (Int64.ofNat rf3)), .second] [])) (fun X t q => XS.ifNo X.here C.hx rfl (hb C.hby at_278) rfl (XT.ll_ne_f (by decide)) q) ?_
            refine Wk.st (g' := (mkF m 283 #[.val (.long i0), .second, .val (.long i1), .second, .val (.long i2), .second, .val (.int i3), .val (.int i4), .val (.long (Int64.ofNat va)), .second, .val (.long (Int64.ofNat vb)), .second, .val (.long (Int64.ofNat vc)), .second, .val (.ref b2), .val (.int (1 : Int32)), .val (.long (Int64.ofNat v)), .second, .val (.long (Int64.ofNat (max va (max vb vc)))), .second, .val (.long (Int64.ofNat (max (min va vb) (min (max va vb) vc)))), .second, .val (.long (Int64.ofNat v)), .second, .val (.long (Int64.ofNat rf3)), .second] [(.ref b2)])) (fun X t q => XS.aload X.here C.hx rfl (hb C.hby at_281) rfl rfl q) ?_
            refine Wk.st (g' := (mkF m 285 #[.val (.long i0), .second, .val (.long i1), .second, .val (.long i2), .second, .val (.int i3), .val (.int i4), .val (.long (Int64.ofNat va)), .second, .val (.long (Int64.ofNat vb)), .second, .val (.long (Int64.ofNat vc)), .second, .val (.ref b2), .val (.int (1 : Int32)), .val (.long (Int64.ofNat v)), .second, .val (.long (Int64.ofNat (max va (max vb vc)))), .second, .val (.long (Int64.ofNat (max (min va vb) (min (max va vb) vc)))), .second, .val (.long (Int64.ofNat v)), .second, .val (.long (Int64.ofNat rf3)), .second] [(.int (1 : Int32)), (.ref b2)])) (fun X t q => XS.iload X.here C.hx rfl (hb C.hby at_283) rfl q) ?_
            refine Wk.st (g' := (mkF m 286 #[.val (.long i0), .second, .val (.long i1), .second, .val (.long i2), .second, .val (.int i3), .val (.int i4), .val (.long (Int64.ofNat va)), .second, .val (.long (Int64.ofNat vb)), .second, .val (.long (Int64.ofNat vc)), .second, .val (.ref b2), .val (.int (1 : Int32)), .val (.long (Int64.ofNat v)), .second, .val (.long (Int64.ofNat (max va (max vb vc)))), .second, .val (.long (Int64.ofNat (max (min va vb) (min (max va vb) vc)))), .second, .val (.long (Int64.ofNat v)), .second, .val (.long (Int64.ofNat rf3)), .second] [(.long (1 : Int64)), (.ref b2)])) (fun X t q => XS.i2l X.here C.hx rfl (hb C.hby at_285) rfl q) ?_
            refine Wk.callV C (x := (⟨"com/example/headroom/headroom/Histogram", "valueAt", "(J)J"⟩ : MethodName)) (z := (⟨"com/example/headroom/headroom/Histogram", "valueAt", "(J)J"⟩ : MethodName)) (K := "com/example/headroom/headroom/Histogram") (hw _ (List.mem_of_getElem? (i := 64) rfl)) (hw _ (List.mem_of_getElem? (i := 65) rfl)) (hw _ (List.mem_of_getElem? (i := 67) rfl)) (hw _ (List.mem_of_getElem? (i := 66) rfl)) (hw _ (List.mem_of_getElem? (i := 4) rfl)) (hw _ (List.mem_of_getElem? (i := 68) rfl)) (by decide) (fun s' hZ' => notFace_of_selects (args := #[]) (mvT hZ' (hw _ (List.mem_of_getElem? (i := 67) rfl)))) HH39.exa (own_valueAt l Z a0 hw n0 h34 wz35 b2 [vc, vb, va] HH39 (by simp) 1 (by decide) (by simp)) (w := 0) (by decide) (by decide) pd_9 rfl (rest := []) rfl rfl (Nat.le_of_eq rfl) (by decide) (by decide) at_286 ?_
            rintro _ _ ⟨rfl, rfl⟩
            show Wk _ p l e _ s m _ below meth c n0 _ h34 6 885 (mkF m 289 #[.val (.long i0), .second, .val (.long i1), .second, .val (.long i2), .second, .val (.int i3), .val (.int i4), .val (.long (Int64.ofNat va)), .second, .val (.long (Int64.ofNat vb)), .second, .val (.long (Int64.ofNat vc)), .second, .val (.ref b2), .val (.int (1 : Int32)), .val (.long (Int64.ofNat v)), .second, .val (.long (Int64.ofNat (max va (max vb vc)))), .second, .val (.long (Int64.ofNat (max (min va vb) (min (max va vb) vc)))), .second, .val (.long (Int64.ofNat v)), .second, .val (.long (Int64.ofNat rf3)), .second] [(.long (Int64.ofNat (Va [vc, vb, va] 1)))])
            refine Wk.st (g' := (mkF m 291 #[.val (.long i0), .second, .val (.long i1), .second, .val (.long i2), .second, .val (.int i3), .val (.int i4), .val (.long (Int64.ofNat va)), .second, .val (.long (Int64.ofNat vb)), .second, .val (.long (Int64.ofNat vc)), .second, .val (.ref b2), .val (.int (1 : Int32)), .val (.long (Int64.ofNat v)), .second, .val (.long (Int64.ofNat (max va (max vb vc)))), .second, .val (.long (Int64.ofNat (max (min va vb) (min (max va vb) vc)))), .second, .val (.long (Int64.ofNat v)), .second, .val (.long (Int64.ofNat rf3)), .second] [(.long (Int64.ofNat rf3)), (.long (Int64.ofNat (Va [vc, vb, va] 1)))])) (fun X t q => XS.lload X.here C.hx rfl (hb C.hby at_289) rfl q) ?_
            refine Wk.st (g' := (mkF m 292 #[.val (.long i0), .second, .val (.long i1), .second, .val (.long i2), .second, .val (.int i3), .val (.int i4), .val (.long (Int64.ofNat va)), .second, .val (.long (Int64.ofNat vb)), .second, .val (.long (Int64.ofNat vc)), .second, .val (.ref b2), .val (.int (1 : Int32)), .val (.long (Int64.ofNat v)), .second, .val (.long (Int64.ofNat (max va (max vb vc)))), .second, .val (.long (Int64.ofNat (max (min va vb) (min (max va vb) vc)))), .second, .val (.long (Int64.ofNat v)), .second, .val (.long (Int64.ofNat rf3)), .second] [(.int (XT.cmpL (Int64.ofNat (Va [vc, vb, va] 1)) (Int64.ofNat rf3)))])) (fun X t q => XT.lcmp X.here C.hx rfl (hb C.hby at_291) rfl q) ?_
            refine Wk.st (g' := (mkF m 295 #[.val (.long i0), .second, .val (.long i1), .second, .val (.long i2), .second, .val (.int i3), .val (.int i4), .val (.long (Int64.ofNat va)), .second, .val (.long (Int64.ofNat vb)), .second, .val (.long (Int64.ofNat vc)), .second, .val (.ref b2), .val (.int (1 : Int32)), .val (.long (Int64.ofNat v)), .second, .val (.long (Int64.ofNat (max va (max vb vc)))), .second, .val (.long (Int64.ofNat (max (min va vb) (min (max va vb) vc)))), .second, .val (.long (Int64.ofNat v)), .second, .val (.long (Int64.ofNat rf3)), .second] [])) (fun X t q => XS.ifNo X.here C.hx rfl (hb C.hby at_292) rfl (XT.ll_ne_f (congrArg Int64.ofNat ((Va_three hva hvb hvc (v := v) (Or.inl ⟨rfl, ev⟩)).trans (by rw [erf3, erf2, erf1])))) q) ?_
            refine Wk.st (g' := (mkF m 296 #[.val (.long i0), .second, .val (.long i1), .second, .val (.long i2), .second, .val (.int i3), .val (.int i4), .val (.long (Int64.ofNat va)), .second, .val (.long (Int64.ofNat vb)), .second, .val (.long (Int64.ofNat vc)), .second, .val (.ref b2), .val (.int (1 : Int32)), .val (.long (Int64.ofNat v)), .second, .val (.long (Int64.ofNat (max va (max vb vc)))), .second, .val (.long (Int64.ofNat (max (min va vb) (min (max va vb) vc)))), .second, .val (.long (Int64.ofNat v)), .second, .val (.long (Int64.ofNat rf3)), .second] [(.int (1 : Int32))])) (fun X t q => XS.iconst X.here C.hx rfl (hb C.hby at_295) q) ?_
            refine Wk.st (g' := (mkF m 300 #[.val (.long i0), .second, .val (.long i1), .second, .val (.long i2), .second, .val (.int i3), .val (.int i4), .val (.long (Int64.ofNat va)), .second, .val (.long (Int64.ofNat vb)), .second, .val (.long (Int64.ofNat vc)), .second, .val (.ref b2), .val (.int (1 : Int32)), .val (.long (Int64.ofNat v)), .second, .val (.long (Int64.ofNat (max va (max vb vc)))), .second, .val (.long (Int64.ofNat (max (min va vb) (min (max va vb) vc)))), .second, .val (.long (Int64.ofNat v)), .second, .val (.long (Int64.ofNat rf3)), .second] [(.int (1 : Int32))])) (fun X t q => XS.goto X.here C.hx rfl (pc0 := 296) (pc' := 300) rfl (hb C.hby at_296) (by decide) (by decide) q) ?_
            exact Wk.retV C (t := .boolean) rfl rfl (Or.inl ⟨rfl, by simp, _, rfl⟩) at_300 (by decide) (by decide) ⟨rfl, trivial⟩
          by_cases hq257 : Ky vc = Ky v
          · skip
            rw [show (if Ky vc = Ky v then (1 : Int32) else (0 : Int32)) = (1 : Int32) from if_pos hq257]
            show Wk _ p l e _ s m _ below meth c n0 _ h34 6 885 (mkF m 257 #[.val (.long i0), .second, .val (.long i1), .second, .val (.long i2), .second, .val (.int i3), .val (.int i4), .val (.long (Int64.ofNat va)), .second, .val (.long (Int64.ofNat vb)), .second, .val (.long (Int64.ofNat vc)), .second, .val (.ref b2), .val (.int (1 : Int32)), .val (.long (Int64.ofNat v)), .second, .val (.long (Int64.ofNat (max va (max vb vc)))), .second, .val (.long (Int64.ofNat (max (min va vb) (min (max va vb) vc)))), .second, .val (.long (Int64.ofNat v)), .second, .val (.long (Int64.ofNat rf2)), .second] [(.int (1 : Int32))])
            refine Wk.st (g' := (mkF m 260 #[.val (.long i0), .second, .val (.long i1), .second, .val (.long i2), .second, .val (.int i3), .val (.int i4), .val (.long (Int64.ofNat va)), .second, .val (.long (Int64.ofNat vb)), .second, .val (.long (Int64.ofNat vc)), .second, .val (.ref b2), .val (.int (1 : Int32)), .val (.long (Int64.ofNat v)), .second, .val (.long (Int64.ofNat (max va (max vb vc)))), .second, .val (.long (Int64.ofNat (max (min va vb) (min (max va vb) vc)))), .second, .val (.long (Int64.ofNat v)), .second, .val (.long (Int64.ofNat rf2)), .second] [])) (fun X t q => XS.ifNo X.here C.hx rfl (hb C.hby at_257) rfl (XT.i0_eq_f (by decide)) q) ?_
            refine Wk.st (g' := (mkF m 262 #[.val (.long i0), .second, .val (.long i1), .second, .val (.long i2), .second, .val (.int i3), .val (.int i4), .val (.long (Int64.ofNat va)), .second, .val (.long (Int64.ofNat vb)), .second, .val (.long (Int64.ofNat vc)), .second, .val (.ref b2), .val (.int (1 : Int32)), .val (.long (Int64.ofNat v)), .second, .val (.long (Int64.ofNat (max va (max vb vc)))), .second, .val (.long (Int64.ofNat (max (min va vb) (min (max va vb) vc)))), .second, .val (.long (Int64.ofNat v)), .second, .val (.long (Int64.ofNat rf2)), .second] [(.long (Int64.ofNat rf2))])) (fun X t q => XS.lload X.here C.hx rfl (hb C.hby at_260) rfl q) ?_
            refine Wk.st (g' := (mkF m 264 #[.val (.long i0), .second, .val (.long i1), .second, .val (.long i2), .second, .val (.int i3), .val (.int i4), .val (.long (Int64.ofNat va)), .second, .val (.long (Int64.ofNat vb)), .second, .val (.long (Int64.ofNat vc)), .second, .val (.ref b2), .val (.int (1 : Int32)), .val (.long (Int64.ofNat v)), .second, .val (.long (Int64.ofNat (max va (max vb vc)))), .second, .val (.long (Int64.ofNat (max (min va vb) (min (max va vb) vc)))), .second, .val (.long (Int64.ofNat v)), .second, .val (.long (Int64.ofNat rf2)), .second] [(.long (Int64.ofNat vc)), (.long (Int64.ofNat rf2))])) (fun X t q => XS.lload X.here C.hx rfl (hb C.hby at_262) rfl q) ?_
            refine Wk.callS C (z := (⟨"java/lang/Math", "max", "(JJ)J"⟩ : MethodName)) (hw _ (List.mem_of_getElem? (i := 47) rfl)) (hw _ (List.mem_of_getElem? (i := 48) rfl)) (hw _ (List.mem_of_getElem? (i := 34) rfl)) (hw _ (List.mem_of_getElem? (i := 49) rfl)) (by decide) (own_maxJ l Z a0 hw n0 h34 rf2 vc (by omega) (by omega)) (w := 0) (by decide) (by decide) pd_1 rfl (rest := []) rfl rfl (Nat.le_of_eq rfl) (by decide) (by decide) at_264 ?_
            rintro _ _ ⟨rfl, rfl⟩
            show Wk _ p l e _ s m _ below meth c n0 _ h34 6 885 (mkF m 267 #[.val (.long i0), .second, .val (.long i1), .second, .val (.long i2), .second, .val (.int i3), .val (.int i4), .val (.long (Int64.ofNat va)), .second, .val (.long (Int64.ofNat vb)), .second, .val (.long (Int64.ofNat vc)), .second, .val (.ref b2), .val (.int (1 : Int32)), .val (.long (Int64.ofNat v)), .second, .val (.long (Int64.ofNat (max va (max vb vc)))), .second, .val (.long (Int64.ofNat (max (min va vb) (min (max va vb) vc)))), .second, .val (.long (Int64.ofNat v)), .second, .val (.long (Int64.ofNat rf2)), .second] [(.long (Int64.ofNat (max rf2 vc)))])
            refine Wk.st (g' := (mkF m 269 #[.val (.long i0), .second, .val (.long i1), .second, .val (.long i2), .second, .val (.int i3), .val (.int i4), .val (.long (Int64.ofNat va)), .second, .val (.long (Int64.ofNat vb)), .second, .val (.long (Int64.ofNat vc)), .second, .val (.ref b2), .val (.int (1 : Int32)), .val (.long (Int64.ofNat v)), .second, .val (.long (Int64.ofNat (max va (max vb vc)))), .second, .val (.long (Int64.ofNat (max (min va vb) (min (max va vb) vc)))), .second, .val (.long (Int64.ofNat v)), .second, .val (.long (Int64.ofNat (max rf2 vc))), .second] [])) (fun X t q => XS.lstore X.here C.hx rfl (hb C.hby at_267) rfl (l' := #[.val (.long i0), .second, .val (.long i1), .second, .val (.long i2), .second, .val (.int i3), .val (.int i4), .val (.long (Int64.ofNat va)), .second, .val (.long (Int64.ofNat vb)), .second, .val (.long (Int64.ofNat vc)), .second, .val (.ref b2), .val (.int (1 : Int32)), .val (.long (Int64.ofNat v)), .second, .val (.long (Int64.ofNat (max va (max vb vc)))), .second, .val (.long (Int64.ofNat (max (min va vb) (min (max va vb) vc)))), .second, .val (.long (Int64.ofNat v)), .second, .val (.long (Int64.ofNat (max rf2 vc))), .second]) rfl q) ?_
            exact k269 (max rf2 vc) (by omega) (if_pos hq257).symm
          · skip
            rw [show (if Ky vc = Ky v then (1 : Int32) else (0 : Int32)) = (0 : Int32) from if_neg hq257]
            show Wk _ p l e _ s m _ below meth c n0 _ h34 6 885 (mkF m 257 #[.val (.long i0), .second, .val (.long i1), .second, .val (.long i2), .second, .val (.int i3), .val (.int i4), .val (.long (Int64.ofNat va)), .second, .val (.long (Int64.ofNat vb)), .second, .val (.long (Int64.ofNat vc)), .second, .val (.ref b2), .val (.int (1 : Int32)), .val (.long (Int64.ofNat v)), .second, .val (.long (Int64.ofNat (max va (max vb vc)))), .second, .val (.long (Int64.ofNat (max (min va vb) (min (max va vb) vc)))), .second, .val (.long (Int64.ofNat v)), .second, .val (.long (Int64.ofNat rf2)), .second] [(.int (0 : Int32))])
            refine Wk.st (g' := (mkF m 269 #[.val (.long i0), .second, .val (.long i1), .second, .val (.long i2), .second, .val (.int i3), .val (.int i4), .val (.long (Int64.ofNat va)), .second, .val (.long (Int64.ofNat vb)), .second, .val (.long (Int64.ofNat vc)), .second, .val (.ref b2), .val (.int (1 : Int32)), .val (.long (Int64.ofNat v)), .second, .val (.long (Int64.ofNat (max va (max vb vc)))), .second, .val (.long (Int64.ofNat (max (min va vb) (min (max va vb) vc)))), .second, .val (.long (Int64.ofNat v)), .second, .val (.long (Int64.ofNat rf2)), .second] [])) (fun X t q => XS.ifYes X.here C.hx rfl (pc0 := 257) (pc' := 269) rfl (hb C.hby at_257) rfl (XT.i0_eq_t (by decide)) (by decide) (by decide) q) ?_
            exact k269 rf2 (by omega) (if_neg hq257).symm
        by_cases hq238 : Ky vb = Ky v
        · skip
          rw [show (if Ky vb = Ky v then (1 : Int32) else (0 : Int32)) = (1 : Int32) from if_pos hq238]
          show Wk _ p l e _ s m _ below meth c n0 _ h34 6 885 (mkF m 238 #[.val (.long i0), .second, .val (.long i1), .second, .val (.long i2), .second, .val (.int i3), .val (.int i4), .val (.long (Int64.ofNat va)), .second, .val (.long (Int64.ofNat vb)), .second, .val (.long (Int64.ofNat vc)), .second, .val (.ref b2), .val (.int (1 : Int32)), .val (.long (Int64.ofNat v)), .second, .val (.long (Int64.ofNat (max va (max vb vc)))), .second, .val (.long (Int64.ofNat (max (min va vb) (min (max va vb) vc)))), .second, .val (.long (Int64.ofNat v)), .second, .val (.long (Int64.ofNat rf1)), .second] [(.int (1 : Int32))])
          refine Wk.st (g' := (mkF m 241 #[.val (.long i0), .second, .val (.long i1), .second, .val (.long i2), .second, .val (.int i3), .val (.int i4), .val (.long (Int64.ofNat va)), .second, .val (.long (Int64.ofNat vb)), .second, .val (.long (Int64.ofNat vc)), .second, .val (.ref b2), .val (.int (1 : Int32)), .val (.long (Int64.ofNat v)), .second, .val (.long (Int64.ofNat (max va (max vb vc)))), .second, .val (.long (Int64.ofNat (max (min va vb) (min (max va vb) vc)))), .second, .val (.long (Int64.ofNat v)), .second, .val (.long (Int64.ofNat rf1)), .second] [])) (fun X t q => XS.ifNo X.here C.hx rfl (hb C.hby at_238) rfl (XT.i0_eq_f (by decide)) q) ?_
          refine Wk.st (g' := (mkF m 243 #[.val (.long i0), .second, .val (.long i1), .second, .val (.long i2), .second, .val (.int i3), .val (.int i4), .val (.long (Int64.ofNat va)), .second, .val (.long (Int64.ofNat vb)), .second, .val (.long (Int64.ofNat vc)), .second, .val (.ref b2), .val (.int (1 : Int32)), .val (.long (Int64.ofNat v)), .second, .val (.long (Int64.ofNat (max va (max vb vc)))), .second, .val (.long (Int64.ofNat (max (min va vb) (min (max va vb) vc)))), .second, .val (.long (Int64.ofNat v)), .second, .val (.long (Int64.ofNat rf1)), .second] [(.long (Int64.ofNat rf1))])) (fun X t q => XS.lload X.here C.hx rfl (hb C.hby at_241) rfl q) ?_
          refine Wk.st (g' := (mkF m 245 #[.val (.long i0), .second, .val (.long i1), .second, .val (.long i2), .second, .val (.int i3), .val (.int i4), .val (.long (Int64.ofNat va)), .second, .val (.long (Int64.ofNat vb)), .second, .val (.long (Int64.ofNat vc)), .second, .val (.ref b2), .val (.int (1 : Int32)), .val (.long (Int64.ofNat v)), .second, .val (.long (Int64.ofNat (max va (max vb vc)))), .second, .val (.long (Int64.ofNat (max (min va vb) (min (max va vb) vc)))), .second, .val (.long (Int64.ofNat v)), .second, .val (.long (Int64.ofNat rf1)), .second] [(.long (Int64.ofNat vb)), (.long (Int64.ofNat rf1))])) (fun X t q => XS.lload X.here C.hx rfl (hb C.hby at_243) rfl q) ?_
          refine Wk.callS C (z := (⟨"java/lang/Math", "max", "(JJ)J"⟩ : MethodName)) (hw _ (List.mem_of_getElem? (i := 47) rfl)) (hw _ (List.mem_of_getElem? (i := 48) rfl)) (hw _ (List.mem_of_getElem? (i := 34) rfl)) (hw _ (List.mem_of_getElem? (i := 49) rfl)) (by decide) (own_maxJ l Z a0 hw n0 h34 rf1 vb (by omega) (by omega)) (w := 0) (by decide) (by decide) pd_1 rfl (rest := []) rfl rfl (Nat.le_of_eq rfl) (by decide) (by decide) at_245 ?_
          rintro _ _ ⟨rfl, rfl⟩
          show Wk _ p l e _ s m _ below meth c n0 _ h34 6 885 (mkF m 248 #[.val (.long i0), .second, .val (.long i1), .second, .val (.long i2), .second, .val (.int i3), .val (.int i4), .val (.long (Int64.ofNat va)), .second, .val (.long (Int64.ofNat vb)), .second, .val (.long (Int64.ofNat vc)), .second, .val (.ref b2), .val (.int (1 : Int32)), .val (.long (Int64.ofNat v)), .second, .val (.long (Int64.ofNat (max va (max vb vc)))), .second, .val (.long (Int64.ofNat (max (min va vb) (min (max va vb) vc)))), .second, .val (.long (Int64.ofNat v)), .second, .val (.long (Int64.ofNat rf1)), .second] [(.long (Int64.ofNat (max rf1 vb)))])
          refine Wk.st (g' := (mkF m 250 #[.val (.long i0), .second, .val (.long i1), .second, .val (.long i2), .second, .val (.int i3), .val (.int i4), .val (.long (Int64.ofNat va)), .second, .val (.long (Int64.ofNat vb)), .second, .val (.long (Int64.ofNat vc)), .second, .val (.ref b2), .val (.int (1 : Int32)), .val (.long (Int64.ofNat v)), .second, .val (.long (Int64.ofNat (max va (max vb vc)))), .second, .val (.long (Int64.ofNat (max (min va vb) (min (max va vb) vc)))), .second, .val (.long (Int64.ofNat v)), .second, .val (.long (Int64.ofNat (max rf1 vb))), .second] [])) (fun X t q => XS.lstore X.here C.hx rfl (hb C.hby at_248) rfl (l' := #[.val (.long i0), .second, .val (.long i1), .second, .val (.long i2), .second, .val (.int i3), .val (.int i4), .val (.long (Int64.ofNat va)), .second, .val (.long (Int64.ofNat vb)), .second, .val (.long (Int64.ofNat vc)), .second, .val (.ref b2), .val (.int (1 : Int32)), .val (.long (Int64.ofNat v)), .second, .val (.long (Int64.ofNat (max va (max vb vc)))), .second, .val (.long (Int64.ofNat (max (min va vb) (min (max va vb) vc)))), .second, .val (.long (Int64.ofNat v)), .second, .val (.long (Int64.ofNat (max rf1 vb))), .second]) rfl q) ?_
          exact k250 (max rf1 vb) (by omega) (if_pos hq238).symm
        · skip
          rw [show (if Ky vb = Ky v then (1 : Int32) else (0 : Int32)) = (0 : Int32) from if_neg hq238]
          show Wk _ p l e _ s m _ below meth c n0 _ h34 6 885 (mkF m 238 #[.val (.long i0), .second, .val (.long i1), .second, .val (.long i2), .second, .val (.int i3), .val (.int i4), .val (.long (Int64.ofNat va)), .second, .val (.long (Int64.ofNat vb)), .second, .val (.long (Int64.ofNat vc)), .second, .val (.ref b2), .val (.int (1 : Int32)), .val (.long (Int64.ofNat v)), .second, .val (.long (Int64.ofNat (max va (max vb vc)))), .second, .val (.long (Int64.ofNat (max (min va vb) (min (max va vb) vc)))), .second, .val (.long (Int64.ofNat v)), .second, .val (.long (Int64.ofNat rf1)), .second] [(.int (0 : Int32))])
          refine Wk.st (g' := (mkF m 250 #[.val (.long i0), .second, .val (.long i1), .second, .val (.long i2), .second, .val (.int i3), .val (.int i4), .val (.long (Int64.ofNat va)), .second, .val (.long (Int64.ofNat vb)), .second, .val (.long (Int64.ofNat vc)), .second, .val (.ref b2), .val (.int (1 : Int32)), .val (.long (Int64.ofNat v)), .second, .val (.long (Int64.ofNat (max va (max vb vc)))), .second, .val (.long (Int64.ofNat (max (min va vb) (min (max va vb) vc)))), .second, .val (.long (Int64.ofNat v)), .second, .val (.long (Int64.ofNat rf1)), .second] [])) (fun X t q => XS.ifYes X.here C.hx rfl (pc0 := 238) (pc' := 250) rfl (hb C.hby at_238) rfl (XT.i0_eq_t (by decide)) (by decide) (by decide) q) ?_
          exact k250 rf1 (by omega) (if_neg hq238).symm
      by_cases hq219 : Ky va = Ky v
      · skip
        rw [show (if Ky va = Ky v then (1 : Int32) else (0 : Int32)) = (1 : Int32) from if_pos hq219]
        show Wk _ p l e _ s m _ below meth c n0 _ h34 6 885 (mkF m 219 #[.val (.long i0), .second, .val (.long i1), .second, .val (.long i2), .second, .val (.int i3), .val (.int i4), .val (.long (Int64.ofNat va)), .second, .val (.long (Int64.ofNat vb)), .second, .val (.long (Int64.ofNat vc)), .second, .val (.ref b2), .val (.int (1 : Int32)), .val (.long (Int64.ofNat v)), .second, .val (.long (Int64.ofNat (max va (max vb vc)))), .second, .val (.long (Int64.ofNat (max (min va vb) (min (max va vb) vc)))), .second, .val (.long (Int64.ofNat v)), .second, .val (.long (Int64.ofNat v)), .second] [(.int (1 : Int32))])
        refine Wk.st (g' := (mkF m 222 #[.val (.long i0), .second, .val (.long i1), .second, .val (.long i2), .second, .val (.int i3), .val (.int i4), .val (.long (Int64.ofNat va)), .second, .val (.long (Int64.ofNat vb)), .second, .val (.long (Int64.ofNat vc)), .second, .val (.ref b2), .val (.int (1 : Int32)), .val (.long (Int64.ofNat v)), .second, .val (.long (Int64.ofNat (max va (max vb vc)))), .second, .val (.long (Int64.ofNat (max (min va vb) (min (max va vb) vc)))), .second, .val (.long (Int64.ofNat v)), .second, .val (.long (Int64.ofNat v)), .second] [])) (fun X t q => XS.ifNo X.here C.hx rfl (hb C.hby at_219) rfl (XT.i0_eq_f (by decide)) q) ?_
        refine Wk.st (g' := (mkF m 224 #[.val (.long i0), .second, .val (.long i1), .second, .val (.long i2), .second, .val (.int i3), .val (.int i4), .val (.long (Int64.ofNat va)), .second, .val (.long (Int64.ofNat vb)), .second, .val (.long (Int64.ofNat vc)), .second, .val (.ref b2), .val (.int (1 : Int32)), .val (.long (Int64.ofNat v)), .second, .val (.long (Int64.ofNat (max va (max vb vc)))), .second, .val (.long (Int64.ofNat (max (min va vb) (min (max va vb) vc)))), .second, .val (.long (Int64.ofNat v)), .second, .val (.long (Int64.ofNat v)), .second] [(.long (Int64.ofNat v))])) (fun X t q => XS.lload X.here C.hx rfl (hb C.hby at_222) rfl q) ?_
        refine Wk.st (g' := (mkF m 226 #[.val (.long i0), .second, .val (.long i1), .second, .val (.long i2), .second, .val (.int i3), .val (.int i4), .val (.long (Int64.ofNat va)), .second, .val (.long (Int64.ofNat vb)), .second, .val (.long (Int64.ofNat vc)), .second, .val (.ref b2), .val (.int (1 : Int32)), .val (.long (Int64.ofNat v)), .second, .val (.long (Int64.ofNat (max va (max vb vc)))), .second, .val (.long (Int64.ofNat (max (min va vb) (min (max va vb) vc)))), .second, .val (.long (Int64.ofNat v)), .second, .val (.long (Int64.ofNat v)), .second] [(.long (Int64.ofNat va)), (.long (Int64.ofNat v))])) (fun X t q => XS.lload X.here C.hx rfl (hb C.hby at_224) rfl q) ?_
        refine Wk.callS C (z := (⟨"java/lang/Math", "max", "(JJ)J"⟩ : MethodName)) (hw _ (List.mem_of_getElem? (i := 47) rfl)) (hw _ (List.mem_of_getElem? (i := 48) rfl)) (hw _ (List.mem_of_getElem? (i := 34) rfl)) (hw _ (List.mem_of_getElem? (i := 49) rfl)) (by decide) (own_maxJ l Z a0 hw n0 h34 v va (by omega) (by omega)) (w := 0) (by decide) (by decide) pd_1 rfl (rest := []) rfl rfl (Nat.le_of_eq rfl) (by decide) (by decide) at_226 ?_
        rintro _ _ ⟨rfl, rfl⟩
        show Wk _ p l e _ s m _ below meth c n0 _ h34 6 885 (mkF m 229 #[.val (.long i0), .second, .val (.long i1), .second, .val (.long i2), .second, .val (.int i3), .val (.int i4), .val (.long (Int64.ofNat va)), .second, .val (.long (Int64.ofNat vb)), .second, .val (.long (Int64.ofNat vc)), .second, .val (.ref b2), .val (.int (1 : Int32)), .val (.long (Int64.ofNat v)), .second, .val (.long (Int64.ofNat (max va (max vb vc)))), .second, .val (.long (Int64.ofNat (max (min va vb) (min (max va vb) vc)))), .second, .val (.long (Int64.ofNat v)), .second, .val (.long (Int64.ofNat v)), .second] [(.long (Int64.ofNat (max v va)))])
        refine Wk.st (g' := (mkF m 231 #[.val (.long i0), .second, .val (.long i1), .second, .val (.long i2), .second, .val (.int i3), .val (.int i4), .val (.long (Int64.ofNat va)), .second, .val (.long (Int64.ofNat vb)), .second, .val (.long (Int64.ofNat vc)), .second, .val (.ref b2), .val (.int (1 : Int32)), .val (.long (Int64.ofNat v)), .second, .val (.long (Int64.ofNat (max va (max vb vc)))), .second, .val (.long (Int64.ofNat (max (min va vb) (min (max va vb) vc)))), .second, .val (.long (Int64.ofNat v)), .second, .val (.long (Int64.ofNat (max v va))), .second] [])) (fun X t q => XS.lstore X.here C.hx rfl (hb C.hby at_229) rfl (l' := #[.val (.long i0), .second, .val (.long i1), .second, .val (.long i2), .second, .val (.int i3), .val (.int i4), .val (.long (Int64.ofNat va)), .second, .val (.long (Int64.ofNat vb)), .second, .val (.long (Int64.ofNat vc)), .second, .val (.ref b2), .val (.int (1 : Int32)), .val (.long (Int64.ofNat v)), .second, .val (.long (Int64.ofNat (max va (max vb vc)))), .second, .val (.long (Int64.ofNat (max (min va vb) (min (max va vb) vc)))), .second, .val (.long (Int64.ofNat v)), .second, .val (.long (Int64.ofNat (max v va))), .second]) rfl q) ?_
        exact k231 (max v va) (by omega) (if_pos hq219).symm
      · skip
        rw [show (if Ky va = Ky v then (1 : Int32) else (0 : Int32)) = (0 : Int32) from if_neg hq219]
        show Wk _ p l e _ s m _ below meth c n0 _ h34 6 885 (mkF m 219 #[.val (.long i0), .second, .val (.long i1), .second, .val (.long i2), .second, .val (.int i3), .val (.int i4), .val (.long (Int64.ofNat va)), .second, .val (.long (Int64.ofNat vb)), .second, .val (.long (Int64.ofNat vc)), .second, .val (.ref b2), .val (.int (1 : Int32)), .val (.long (Int64.ofNat v)), .second, .val (.long (Int64.ofNat (max va (max vb vc)))), .second, .val (.long (Int64.ofNat (max (min va vb) (min (max va vb) vc)))), .second, .val (.long (Int64.ofNat v)), .second, .val (.long (Int64.ofNat v)), .second] [(.int (0 : Int32))])
        refine Wk.st (g' := (mkF m 231 #[.val (.long i0), .second, .val (.long i1), .second, .val (.long i2), .second, .val (.int i3), .val (.int i4), .val (.long (Int64.ofNat va)), .second, .val (.long (Int64.ofNat vb)), .second, .val (.long (Int64.ofNat vc)), .second, .val (.ref b2), .val (.int (1 : Int32)), .val (.long (Int64.ofNat v)), .second, .val (.long (Int64.ofNat (max va (max vb vc)))), .second, .val (.long (Int64.ofNat (max (min va vb) (min (max va vb) vc)))), .second, .val (.long (Int64.ofNat v)), .second, .val (.long (Int64.ofNat v)), .second] [])) (fun X t q => XS.ifYes X.here C.hx rfl (pc0 := 219) (pc' := 231) rfl (hb C.hby at_219) rfl (XT.i0_eq_t (by decide)) (by decide) (by decide) q) ?_
        exact k231 v (by omega) (if_neg hq219).symm
    · skip
      rw [show (((i4 &&& (2147483647 : Int32)) % (3 : Int32)) + (1 : Int32)) = (2 : Int32) from hq]
      show Wk _ p l e _ s m _ below meth c n0 _ h34 6 885 (mkF m 130 #[.val (.long i0), .second, .val (.long i1), .second, .val (.long i2), .second, .val (.int i3), .val (.int i4), .val (.long (Int64.ofNat va)), .second, .val (.long (Int64.ofNat vb)), .second, .val (.long (Int64.ofNat vc)), .second, .val (.ref b2), .val (.int (2 : Int32)), .unset, .unset, .unset, .unset, .unset, .unset, .unset, .unset, .unset, .unset] [])
      refine Wk.st (g' := (mkF m 132 #[.val (.long i0), .second, .val (.long i1), .second, .val (.long i2), .second, .val (.int i3), .val (.int i4), .val (.long (Int64.ofNat va)), .second, .val (.long (Int64.ofNat vb)), .second, .val (.long (Int64.ofNat vc)), .second, .val (.ref b2), .val (.int (2 : Int32)), .unset, .unset, .unset, .unset, .unset, .unset, .unset, .unset, .unset, .unset] [(.long (Int64.ofNat va))])) (fun X t q => XS.lload X.here C.hx rfl (hb C.hby at_130) rfl q) ?_
      refine Wk.st (g' := (mkF m 134 #[.val (.long i0), .second, .val (.long i1), .second, .val (.long i2), .second, .val (.int i3), .val (.int i4), .val (.long (Int64.ofNat va)), .second, .val (.long (Int64.ofNat vb)), .second, .val (.long (Int64.ofNat vc)), .second, .val (.ref b2), .val (.int (2 : Int32)), .unset, .unset, .unset, .unset, .unset, .unset, .unset, .unset, .unset, .unset] [(.long (Int64.ofNat vb)), (.long (Int64.ofNat va))])) (fun X t q => XS.lload X.here C.hx rfl (hb C.hby at_132) rfl q) ?_
      refine Wk.st (g' := (mkF m 136 #[.val (.long i0), .second, .val (.long i1), .second, .val (.long i2), .second, .val (.int i3), .val (.int i4), .val (.long (Int64.ofNat va)), .second, .val (.long (Int64.ofNat vb)), .second, .val (.long (Int64.ofNat vc)), .second, .val (.ref b2), .val (.int (2 : Int32)), .unset, .unset, .unset, .unset, .unset, .unset, .unset, .unset, .unset, .unset] [(.long (Int64.ofNat vc)), (.long (Int64.ofNat vb)), (.long (Int64.ofNat va))])) (fun X t q => XS.lload X.here C.hx rfl (hb C.hby at_134) rfl q) ?_
      refine Wk.callS C (z := (⟨"java/lang/Math", "min", "(JJ)J"⟩ : MethodName)) (hw _ (List.mem_of_getElem? (i := 44) rfl)) (hw _ (List.mem_of_getElem? (i := 45) rfl)) (hw _ (List.mem_of_getElem? (i := 34) rfl)) (hw _ (List.mem_of_getElem? (i := 46) rfl)) (by decide) (own_minJ l Z a0 hw n0 h34 vb vc (by omega) (by omega)) (w := 2) (by decide) (by decide) pd_1 rfl (rest := [(.long (Int64.ofNat va))]) rfl rfl (Nat.le_of_eq rfl) (by decide) (by decide) at_136 ?_
      rintro _ _ ⟨rfl, rfl⟩
      show Wk _ p l e _ s m _ below meth c n0 _ h34 6 885 (mkF m 139 #[.val (.long i0), .second, .val (.long i1), .second, .val (.long i2), .second, .val (.int i3), .val (.int i4), .val (.long (Int64.ofNat va)), .second, .val (.long (Int64.ofNat vb)), .second, .val (.long (Int64.ofNat vc)), .second, .val (.ref b2), .val (.int (2 : Int32)), .unset, .unset, .unset, .unset, .unset, .unset, .unset, .unset, .unset, .unset] [(.long (Int64.ofNat (min vb vc))), (.long (Int64.ofNat va))])
      refine Wk.callS C (z := (⟨"java/lang/Math", "min", "(JJ)J"⟩ : MethodName)) (hw _ (List.mem_of_getElem? (i := 44) rfl)) (hw _ (List.mem_of_getElem? (i := 45) rfl)) (hw _ (List.mem_of_getElem? (i := 34) rfl)) (hw _ (List.mem_of_getElem? (i := 46) rfl)) (by decide) (own_minJ l Z a0 hw n0 h34 va (min vb vc) (by omega) (by omega)) (w := 0) (by decide) (by decide) pd_1 rfl (rest := []) rfl rfl (Nat.le_of_eq rfl) (by decide) (by decide) at_139 ?_
      rintro _ _ ⟨rfl, rfl⟩
      show Wk _ p l e _ s m _ below meth c n0 _ h34 6 885 (mkF m 142 #[.val (.long i0), .second, .val (.long i1), .second, .val (.long i2), .second, .val (.int i3), .val (.int i4), .val (.long (Int64.ofNat va)), .second, .val (.long (Int64.ofNat vb)), .second, .val (.long (Int64.ofNat vc)), .second, .val (.ref b2), .val (.int (2 : Int32)), .unset, .unset, .unset, .unset, .unset, .unset, .unset, .unset, .unset, .unset] [(.long (Int64.ofNat (min va (min vb vc))))])
      refine Wk.st (g' := (mkF m 144 #[.val (.long i0), .second, .val (.long i1), .second, .val (.long i2), .second, .val (.int i3), .val (.int i4), .val (.long (Int64.ofNat va)), .second, .val (.long (Int64.ofNat vb)), .second, .val (.long (Int64.ofNat vc)), .second, .val (.ref b2), .val (.int (2 : Int32)), .val (.long (Int64.ofNat (min va (min vb vc)))), .second, .unset, .unset, .unset, .unset, .unset, .unset, .unset, .unset] [])) (fun X t q => XS.lstore X.here C.hx rfl (hb C.hby at_142) rfl (l' := #[.val (.long i0), .second, .val (.long i1), .second, .val (.long i2), .second, .val (.int i3), .val (.int i4), .val (.long (Int64.ofNat va)), .second, .val (.long (Int64.ofNat vb)), .second, .val (.long (Int64.ofNat vc)), .second, .val (.ref b2), .val (.int (2 : Int32)), .val (.long (Int64.ofNat (min va (min vb vc)))), .second, .unset, .unset, .unset, .unset, .unset, .unset, .unset, .unset]) rfl q) ?_
      refine Wk.st (g' := (mkF m 146 #[.val (.long i0), .second, .val (.long i1), .second, .val (.long i2), .second, .val (.int i3), .val (.int i4), .val (.long (Int64.ofNat va)), .second, .val (.long (Int64.ofNat vb)), .second, .val (.long (Int64.ofNat vc)), .second, .val (.ref b2), .val (.int (2 : Int32)), .val (.long (Int64.ofNat (min va (min vb vc)))), .second, .unset, .unset, .unset, .unset, .unset, .unset, .unset, .unset] [(.long (Int64.ofNat va))])) (fun X t q => XS.lload X.here C.hx rfl (hb C.hby at_144) rfl q) ?_
      refine Wk.st (g' := (mkF m 148 #[.val (.long i0), .second, .val (.long i1), .second, .val (.long i2), .second, .val (.int i3), .val (.int i4), .val (.long (Int64.ofNat va)), .second, .val (.long (Int64.ofNat vb)), .second, .val (.long (Int64.ofNat vc)), .second, .val (.ref b2), .val (.int (2 : Int32)), .val (.long (Int64.ofNat (min va (min vb vc)))), .second, .unset, .unset, .unset, .unset, .unset, .unset, .unset, .unset] [(.long (Int64.ofNat vb)), (.long (Int64.ofNat va))])) (fun X t q => XS.lload X.here C.hx rfl (hb C.hby at_146) rfl q) ?_
      refine Wk.st (g' := (mkF m 150 #[.val (.long i0), .second, .val (.long i1), .second, .val (.long i2), .second, .val (.int i3), .val (.int i4), .val (.long (Int64.ofNat va)), .second, .val (.long (Int64.ofNat vb)), .second, .val (.long (Int64.ofNat vc)), .second, .val (.ref b2), .val (.int (2 : Int32)), .val (.long (Int64.ofNat (min va (min vb vc)))), .second, .unset, .unset, .unset, .unset, .unset, .unset, .unset, .unset] [(.long (Int64.ofNat vc)), (.long (Int64.ofNat vb)), (.long (Int64.ofNat va))])) (fun X t q => XS.lload X.here C.hx rfl (hb C.hby at_148) rfl q) ?_
      refine Wk.callS C (z := (⟨"java/lang/Math", "max", "(JJ)J"⟩ : MethodName)) (hw _ (List.mem_of_getElem? (i := 47) rfl)) (hw _ (List.mem_of_getElem? (i := 48) rfl)) (hw _ (List.mem_of_getElem? (i := 34) rfl)) (hw _ (List.mem_of_getElem? (i := 49) rfl)) (by decide) (own_maxJ l Z a0 hw n0 h34 vb vc (by omega) (by omega)) (w := 2) (by decide) (by decide) pd_1 rfl (rest := [(.long (Int64.ofNat va))]) rfl rfl (Nat.le_of_eq rfl) (by decide) (by decide) at_150 ?_
      rintro _ _ ⟨rfl, rfl⟩
      show Wk _ p l e _ s m _ below meth c n0 _ h34 6 885 (mkF m 153 #[.val (.long i0), .second, .val (.long i1), .second, .val (.long i2), .second, .val (.int i3), .val (.int i4), .val (.long (Int64.ofNat va)), .second, .val (.long (Int64.ofNat vb)), .second, .val (.long (Int64.ofNat vc)), .second, .val (.ref b2), .val (.int (2 : Int32)), .val (.long (Int64.ofNat (min va (min vb vc)))), .second, .unset, .unset, .unset, .unset, .unset, .unset, .unset, .unset] [(.long (Int64.ofNat (max vb vc))), (.long (Int64.ofNat va))])
      refine Wk.callS C (z := (⟨"java/lang/Math", "max", "(JJ)J"⟩ : MethodName)) (hw _ (List.mem_of_getElem? (i := 47) rfl)) (hw _ (List.mem_of_getElem? (i := 48) rfl)) (hw _ (List.mem_of_getElem? (i := 34) rfl)) (hw _ (List.mem_of_getElem? (i := 49) rfl)) (by decide) (own_maxJ l Z a0 hw n0 h34 va (max vb vc) (by omega) (by omega)) (w := 0) (by decide) (by decide) pd_1 rfl (rest := []) rfl rfl (Nat.le_of_eq rfl) (by decide) (by decide) at_153 ?_
      rintro _ _ ⟨rfl, rfl⟩
      show Wk _ p l e _ s m _ below meth c n0 _ h34 6 885 (mkF m 156 #[.val (.long i0), .second, .val (.long i1), .second, .val (.long i2), .second, .val (.int i3), .val (.int i4), .val (.long (Int64.ofNat va)), .second, .val (.long (Int64.ofNat vb)), .second, .val (.long (Int64.ofNat vc)), .second, .val (.ref b2), .val (.int (2 : Int32)), .val (.long (Int64.ofNat (min va (min vb vc)))), .second, .unset, .unset, .unset, .unset, .unset, .unset, .unset, .unset] [(.long (Int64.ofNat (max va (max vb vc))))])
      refine Wk.st (g' := (mkF m 158 #[.val (.long i0), .second, .val (.long i1), .second, .val (.long i2), .second, .val (.int i3), .val (.int i4), .val (.long (Int64.ofNat va)), .second, .val (.long (Int64.ofNat vb)), .second, .val (.long (Int64.ofNat vc)), .second, .val (.ref b2), .val (.int (2 : Int32)), .val (.long (Int64.ofNat (min va (min vb vc)))), .second, .val (.long (Int64.ofNat (max va (max vb vc)))), .second, .unset, .unset, .unset, .unset, .unset, .unset] [])) (fun X t q => XS.lstore X.here C.hx rfl (hb C.hby at_156) rfl (l' := #[.val (.long i0), .second, .val (.long i1), .second, .val (.long i2), .second, .val (.int i3), .val (.int i4), .val (.long (Int64.ofNat va)), .second, .val (.long (Int64.ofNat vb)), .second, .val (.long (Int64.ofNat vc)), .second, .val (.ref b2), .val (.int (2 : Int32)), .val (.long (Int64.ofNat (min va (min vb vc)))), .second, .val (.long (Int64.ofNat (max va (max vb vc)))), .second, .unset, .unset, .unset, .unset, .unset, .unset]) rfl q) ?_
      refine Wk.st (g' := (mkF m 160 #[.val (.long i0), .second, .val (.long i1), .second, .val (.long i2), .second, .val (.int i3), .val (.int i4), .val (.long (Int64.ofNat va)), .second, .val (.long (Int64.ofNat vb)), .second, .val (.long (Int64.ofNat vc)), .second, .val (.ref b2), .val (.int (2 : Int32)), .val (.long (Int64.ofNat (min va (min vb vc)))), .second, .val (.long (Int64.ofNat (max va (max vb vc)))), .second, .unset, .unset, .unset, .unset, .unset, .unset] [(.long (Int64.ofNat va))])) (fun X t q => XS.lload X.here C.hx rfl (hb C.hby at_158) rfl q) ?_
      refine Wk.st (g' := (mkF m 162 #[.val (.long i0), .second, .val (.long i1), .second, .val (.long i2), .second, .val (.int i3), .val (.int i4), .val (.long (Int64.ofNat va)), .second, .val (.long (Int64.ofNat vb)), .second, .val (.long (Int64.ofNat vc)), .second, .val (.ref b2), .val (.int (2 : Int32)), .val (.long (Int64.ofNat (min va (min vb vc)))), .second, .val (.long (Int64.ofNat (max va (max vb vc)))), .second, .unset, .unset, .unset, .unset, .unset, .unset] [(.long (Int64.ofNat vb)), (.long (Int64.ofNat va))])) (fun X t q => XS.lload X.here C.hx rfl (hb C.hby at_160) rfl q) ?_
      refine Wk.callS C (z := (⟨"java/lang/Math", "min", "(JJ)J"⟩ : MethodName)) (hw _ (List.mem_of_getElem? (i := 44) rfl)) (hw _ (List.mem_of_getElem? (i := 45) rfl)) (hw _ (List.mem_of_getElem? (i := 34) rfl)) (hw _ (List.mem_of_getElem? (i := 46) rfl)) (by decide) (own_minJ l Z a0 hw n0 h34 va vb (by omega) (by omega)) (w := 0) (by decide) (by decide) pd_1 rfl (rest := []) rfl rfl (Nat.le_of_eq rfl) (by decide) (by decide) at_162 ?_
      rintro _ _ ⟨rfl, rfl⟩
      show Wk _ p l e _ s m _ below meth c n0 _ h34 6 885 (mkF m 165 #[.val (.long i0), .second, .val (.long i1), .second, .val (.long i2), .second, .val (.int i3), .val (.int i4), .val (.long (Int64.ofNat va)), .second, .val (.long (Int64.ofNat vb)), .second, .val (.long (Int64.ofNat vc)), .second, .val (.ref b2), .val (.int (2 : Int32)), .val (.long (Int64.ofNat (min va (min vb vc)))), .second, .val (.long (Int64.ofNat (max va (max vb vc)))), .second, .unset, .unset, .unset, .unset, .unset, .unset] [(.long (Int64.ofNat (min va vb)))])
      refine Wk.st (g' := (mkF m 167 #[.val (.long i0), .second, .val (.long i1), .second, .val (.long i2), .second, .val (.int i3), .val (.int i4), .val (.long (Int64.ofNat va)), .second, .val (.long (Int64.ofNat vb)), .second, .val (.long (Int64.ofNat vc)), .second, .val (.ref b2), .val (.int (2 : Int32)), .val (.long (Int64.ofNat (min va (min vb vc)))), .second, .val (.long (Int64.ofNat (max va (max vb vc)))), .second, .unset, .unset, .unset, .unset, .unset, .unset] [(.long (Int64.ofNat va)), (.long (Int64.ofNat (min va vb)))])) (fun X t q => XS.lload X.here C.hx rfl (hb C.hby at_165) rfl q) ?_
      refine Wk.st (g' := (mkF m 169 #[.val (.long i0), .second, .val (.long i1), .second, .val (.long i2), .second, .val (.int i3), .val (.int i4), .val (.long (Int64.ofNat va)), .second, .val (.long (Int64.ofNat vb)), .second, .val (.long (Int64.ofNat vc)), .second, .val (.ref b2), .val (.int (2 : Int32)), .val (.long (Int64.ofNat (min va (min vb vc)))), .second, .val (.long (Int64.ofNat (max va (max vb vc)))), .second, .unset, .unset, .unset, .unset, .unset, .unset] [(.long (Int64.ofNat vb)), (.long (Int64.ofNat va)), (.long (Int64.ofNat (min va vb)))])) (fun X t q => XS.lload X.here C.hx rfl (hb C.hby at_167) rfl q) ?_
      refine Wk.callS C (z := (⟨"java/lang/Math", "max", "(JJ)J"⟩ : MethodName)) (hw _ (List.mem_of_getElem? (i := 47) rfl)) (hw _ (List.mem_of_getElem? (i := 48) rfl)) (hw _ (List.mem_of_getElem? (i := 34) rfl)) (hw _ (List.mem_of_getElem? (i := 49) rfl)) (by decide) (own_maxJ l Z a0 hw n0 h34 va vb (by omega) (by omega)) (w := 2) (by decide) (by decide) pd_1 rfl (rest := [(.long (Int64.ofNat (min va vb)))]) rfl rfl (Nat.le_of_eq rfl) (by decide) (by decide) at_169 ?_
      rintro _ _ ⟨rfl, rfl⟩
      show Wk _ p l e _ s m _ below meth c n0 _ h34 6 885 (mkF m 172 #[.val (.long i0), .second, .val (.long i1), .second, .val (.long i2), .second, .val (.int i3), .val (.int i4), .val (.long (Int64.ofNat va)), .second, .val (.long (Int64.ofNat vb)), .second, .val (.long (Int64.ofNat vc)), .second, .val (.ref b2), .val (.int (2 : Int32)), .val (.long (Int64.ofNat (min va (min vb vc)))), .second, .val (.long (Int64.ofNat (max va (max vb vc)))), .second, .unset, .unset, .unset, .unset, .unset, .unset] [(.long (Int64.ofNat (max va vb))), (.long (Int64.ofNat (min va vb)))])
      refine Wk.st (g' := (mkF m 174 #[.val (.long i0), .second, .val (.long i1), .second, .val (.long i2), .second, .val (.int i3), .val (.int i4), .val (.long (Int64.ofNat va)), .second, .val (.long (Int64.ofNat vb)), .second, .val (.long (Int64.ofNat vc)), .second, .val (.ref b2), .val (.int (2 : Int32)), .val (.long (Int64.ofNat (min va (min vb vc)))), .second, .val (.long (Int64.ofNat (max va (max vb vc)))), .second, .unset, .unset, .unset, .unset, .unset, .unset] [(.long (Int64.ofNat vc)), (.long (Int64.ofNat (max va vb))), (.long (Int64.ofNat (min va vb)))])) (fun X t q => XS.lload X.here C.hx rfl (hb C.hby at_172) rfl q) ?_
      refine Wk.callS C (z := (⟨"java/lang/Math", "min", "(JJ)J"⟩ : MethodName)) (hw _ (List.mem_of_getElem? (i := 44) rfl)) (hw _ (List.mem_of_getElem? (i := 45) rfl)) (hw _ (List.mem_of_getElem? (i := 34) rfl)) (hw _ (List.mem_of_getElem? (i := 46) rfl)) (by decide) (own_minJ l Z a0 hw n0 h34 (max va vb) vc (by omega) (by omega)) (w := 2) (by decide) (by decide) pd_1 rfl (rest := [(.long (Int64.ofNat (min va vb)))]) rfl rfl (Nat.le_of_eq rfl) (by decide) (by decide) at_174 ?_
      rintro _ _ ⟨rfl, rfl⟩
      show Wk _ p l e _ s m _ below meth c n0 _ h34 6 885 (mkF m 177 #[.val (.long i0), .second, .val (.long i1), .second, .val (.long i2), .second, .val (.int i3), .val (.int i4), .val (.long (Int64.ofNat va)), .second, .val (.long (Int64.ofNat vb)), .second, .val (.long (Int64.ofNat vc)), .second, .val (.ref b2), .val (.int (2 : Int32)), .val (.long (Int64.ofNat (min va (min vb vc)))), .second, .val (.long (Int64.ofNat (max va (max vb vc)))), .second, .unset, .unset, .unset, .unset, .unset, .unset] [(.long (Int64.ofNat (min (max va vb) vc))), (.long (Int64.ofNat (min va vb)))])
      refine Wk.callS C (z := (⟨"java/lang/Math", "max", "(JJ)J"⟩ : MethodName)) (hw _ (List.mem_of_getElem? (i := 47) rfl)) (hw _ (List.mem_of_getElem? (i := 48) rfl)) (hw _ (List.mem_of_getElem? (i := 34) rfl)) (hw _ (List.mem_of_getElem? (i := 49) rfl)) (by decide) (own_maxJ l Z a0 hw n0 h34 (min va vb) (min (max va vb) vc) (by omega) (by omega)) (w := 0) (by decide) (by decide) pd_1 rfl (rest := []) rfl rfl (Nat.le_of_eq rfl) (by decide) (by decide) at_177 ?_
      rintro _ _ ⟨rfl, rfl⟩
      show Wk _ p l e _ s m _ below meth c n0 _ h34 6 885 (mkF m 180 #[.val (.long i0), .second, .val (.long i1), .second, .val (.long i2), .second, .val (.int i3), .val (.int i4), .val (.long (Int64.ofNat va)), .second, .val (.long (Int64.ofNat vb)), .second, .val (.long (Int64.ofNat vc)), .second, .val (.ref b2), .val (.int (2 : Int32)), .val (.long (Int64.ofNat (min va (min vb vc)))), .second, .val (.long (Int64.ofNat (max va (max vb vc)))), .second, .unset, .unset, .unset, .unset, .unset, .unset] [(.long (Int64.ofNat (max (min va vb) (min (max va vb) vc))))])
      refine Wk.st (g' := (mkF m 182 #[.val (.long i0), .second, .val (.long i1), .second, .val (.long i2), .second, .val (.int i3), .val (.int i4), .val (.long (Int64.ofNat va)), .second, .val (.long (Int64.ofNat vb)), .second, .val (.long (Int64.ofNat vc)), .second, .val (.ref b2), .val (.int (2 : Int32)), .val (.long (Int64.ofNat (min va (min vb vc)))), .second, .val (.long (Int64.ofNat (max va (max vb vc)))), .second, .val (.long (Int64.ofNat (max (min va vb) (min (max va vb) vc)))), .second, .unset, .unset, .unset, .unset] [])) (fun X t q => XS.lstore X.here C.hx rfl (hb C.hby at_180) rfl (l' := #[.val (.long i0), .second, .val (.long i1), .second, .val (.long i2), .second, .val (.int i3), .val (.int i4), .val (.long (Int64.ofNat va)), .second, .val (.long (Int64.ofNat vb)), .second, .val (.long (Int64.ofNat vc)), .second, .val (.ref b2), .val (.int (2 : Int32)), .val (.long (Int64.ofNat (min va (min vb vc)))), .second, .val (.long (Int64.ofNat (max va (max vb vc)))), .second, .val (.long (Int64.ofNat (max (min va vb) (min (max va vb) vc)))), .second, .unset, .unset, .unset, .unset]) rfl q) ?_
      refine Wk.st (g' := (mkF m 184 #[.val (.long i0), .second, .val (.long i1), .second, .val (.long i2), .second, .val (.int i3), .val (.int i4), .val (.long (Int64.ofNat va)), .second, .val (.long (Int64.ofNat vb)), .second, .val (.long (Int64.ofNat vc)), .second, .val (.ref b2), .val (.int (2 : Int32)), .val (.long (Int64.ofNat (min va (min vb vc)))), .second, .val (.long (Int64.ofNat (max va (max vb vc)))), .second, .val (.long (Int64.ofNat (max (min va vb) (min (max va vb) vc)))), .second, .unset, .unset, .unset, .unset] [(.int (2 : Int32))])) (fun X t q => XS.iload X.here C.hx rfl (hb C.hby at_182) rfl q) ?_
      refine Wk.st (g' := (mkF m 185 #[.val (.long i0), .second, .val (.long i1), .second, .val (.long i2), .second, .val (.int i3), .val (.int i4), .val (.long (Int64.ofNat va)), .second, .val (.long (Int64.ofNat vb)), .second, .val (.long (Int64.ofNat vc)), .second, .val (.ref b2), .val (.int (2 : Int32)), .val (.long (Int64.ofNat (min va (min vb vc)))), .second, .val (.long (Int64.ofNat (max va (max vb vc)))), .second, .val (.long (Int64.ofNat (max (min va vb) (min (max va vb) vc)))), .second, .unset, .unset, .unset, .unset] [(.int (1 : Int32)), (.int (2 : Int32))])) (fun X t q => XS.iconst X.here C.hx rfl (hb C.hby at_184) q) ?_
      refine Wk.st (g' := (mkF m 193 #[.val (.long i0), .second, .val (.long i1), .second, .val (.long i2), .second, .val (.int i3), .val (.int i4), .val (.long (Int64.ofNat va)), .second, .val (.long (Int64.ofNat vb)), .second, .val (.long (Int64.ofNat vc)), .second, .val (.ref b2), .val (.int (2 : Int32)), .val (.long (Int64.ofNat (min va (min vb vc)))), .second, .val (.long (Int64.ofNat (max va (max vb vc)))), .second, .val (.long (Int64.ofNat (max (min va vb) (min (max va vb) vc)))), .second, .unset, .unset, .unset, .unset] [])) (fun X t q => XS.icmpYes X.here C.hx rfl (pc0 := 185) (pc' := 193) rfl (hb C.hby at_185) rfl (XT.ii_ne_t (by decide)) (by decide) (by decide) q) ?_
      refine Wk.st (g' := (mkF m 195 #[.val (.long i0), .second, .val (.long i1), .second, .val (.long i2), .second, .val (.int i3), .val (.int i4), .val (.long (Int64.ofNat va)), .second, .val (.long (Int64.ofNat vb)), .second, .val (.long (Int64.ofNat vc)), .second, .val (.ref b2), .val (.int (2 : Int32)), .val (.long (Int64.ofNat (min va (min vb vc)))), .second, .val (.long (Int64.ofNat (max va (max vb vc)))), .second, .val (.long (Int64.ofNat (max (min va vb) (min (max va vb) vc)))), .second, .unset, .unset, .unset, .unset] [(.int (2 : Int32))])) (fun X t q => XS.iload X.here C.hx rfl (hb C.hby at_193) rfl q) ?_
      refine Wk.st (g' := (mkF m 196 #[.val (.long i0), .second, .val (.long i1), .second, .val (.long i2), .second, .val (.int i3), .val (.int i4), .val (.long (Int64.ofNat va)), .second, .val (.long (Int64.ofNat vb)), .second, .val (.long (Int64.ofNat vc)), .second, .val (.ref b2), .val (.int (2 : Int32)), .val (.long (Int64.ofNat (min va (min vb vc)))), .second, .val (.long (Int64.ofNat (max va (max vb vc)))), .second, .val (.long (Int64.ofNat (max (min va vb) (min (max va vb) vc)))), .second, .unset, .unset, .unset, .unset] [(.int (2 : Int32)), (.int (2 : Int32))])) (fun X t q => XS.iconst X.here C.hx rfl (hb C.hby at_195) q) ?_
      refine Wk.st (g' := (mkF m 199 #[.val (.long i0), .second, .val (.long i1), .second, .val (.long i2), .second, .val (.int i3), .val (.int i4), .val (.long (Int64.ofNat va)), .second, .val (.long (Int64.ofNat vb)), .second, .val (.long (Int64.ofNat vc)), .second, .val (.ref b2), .val (.int (2 : Int32)), .val (.long (Int64.ofNat (min va (min vb vc)))), .second, .val (.long (Int64.ofNat (max va (max vb vc)))), .second, .val (.long (Int64.ofNat (max (min va vb) (min (max va vb) vc)))), .second, .unset, .unset, .unset, .unset] [])) (fun X t q => XS.icmpNo X.here C.hx rfl (hb C.hby at_196) rfl (XT.ii_ne_f (by decide)) q) ?_
      refine Wk.st (g' := (mkF m 201 #[.val (.long i0), .second, .val (.long i1), .second, .val (.long i2), .second, .val (.int i3), .val (.int i4), .val (.long (Int64.ofNat va)), .second, .val (.long (Int64.ofNat vb)), .second, .val (.long (Int64.ofNat vc)), .second, .val (.ref b2), .val (.int (2 : Int32)), .val (.long (Int64.ofNat (min va (min vb vc)))), .second, .val (.long (Int64.ofNat (max va (max vb vc)))), .second, .val (.long (Int64.ofNat (max (min va vb) (min (max va vb) vc)))), .second, .unset, .unset, .unset, .unset] [(.long (Int64.ofNat (max (min va vb) (min (max va vb) vc))))])) (fun X t q => XS.lload X.here C.hx rfl (hb C.hby at_199) rfl q) ?_
      refine Wk.st (g' := (mkF m 206 #[.val (.long i0), .second, .val (.long i1), .second, .val (.long i2), .second, .val (.int i3), .val (.int i4), .val (.long (Int64.ofNat va)), .second, .val (.long (Int64.ofNat vb)), .second, .val (.long (Int64.ofNat vc)), .second, .val (.ref b2), .val (.int (2 : Int32)), .val (.long (Int64.ofNat (min va (min vb vc)))), .second, .val (.long (Int64.ofNat (max va (max vb vc)))), .second, .val (.long (Int64.ofNat (max (min va vb) (min (max va vb) vc)))), .second, .unset, .unset, .unset, .unset] [(.long (Int64.ofNat (max (min va vb) (min (max va vb) vc))))])) (fun X t q => XS.goto X.here C.hx rfl (pc0 := 201) (pc' := 206) rfl (hb C.hby at_201) (by decide) (by decide) q) ?_
      refine Wk.st (g' := (mkF m 208 #[.val (.long i0), .second, .val (.long i1), .second, .val (.long i2), .second, .val (.int i3), .val (.int i4), .val (.long (Int64.ofNat va)), .second, .val (.long (Int64.ofNat vb)), .second, .val (.long (Int64.ofNat vc)), .second, .val (.ref b2), .val (.int (2 : Int32)), .val (.long (Int64.ofNat (min va (min vb vc)))), .second, .val (.long (Int64.ofNat (max va (max vb vc)))), .second, .val (.long (Int64.ofNat (max (min va vb) (min (max va vb) vc)))), .second, .val (.long (Int64.ofNat (max (min va vb) (min (max va vb) vc)))), .second, .unset, .unset] [])) (fun X t q => XS.lstore X.here C.hx rfl (hb C.hby at_206) rfl (l' := #[.val (.long i0), .second, .val (.long i1), .second, .val (.long i2), .second, .val (.int i3), .val (.int i4), .val (.long (Int64.ofNat va)), .second, .val (.long (Int64.ofNat vb)), .second, .val (.long (Int64.ofNat vc)), .second, .val (.ref b2), .val (.int (2 : Int32)), .val (.long (Int64.ofNat (min va (min vb vc)))), .second, .val (.long (Int64.ofNat (max va (max vb vc)))), .second, .val (.long (Int64.ofNat (max (min va vb) (min (max va vb) vc)))), .second, .val (.long (Int64.ofNat (max (min va vb) (min (max va vb) vc)))), .second, .unset, .unset]) rfl q) ?_
      obtain ⟨v, ev⟩ : ∃ v, v = (max (min va vb) (min (max va vb) vc)) := ⟨_, rfl⟩
      have hv : v < 9223372036854775808 := by omega
      rw [← ev]
      show Wk _ p l e _ s m _ below meth c n0 _ h34 6 885 (mkF m 208 #[.val (.long i0), .second, .val (.long i1), .second, .val (.long i2), .second, .val (.int i3), .val (.int i4), .val (.long (Int64.ofNat va)), .second, .val (.long (Int64.ofNat vb)), .second, .val (.long (Int64.ofNat vc)), .second, .val (.ref b2), .val (.int (2 : Int32)), .val (.long (Int64.ofNat (min va (min vb vc)))), .second, .val (.long (Int64.ofNat (max va (max vb vc)))), .second, .val (.long (Int64.ofNat v)), .second, .val (.long (Int64.ofNat v)), .second, .unset, .unset] [])
      refine Wk.st (g' := (mkF m 210 #[.val (.long i0), .second, .val (.long i1), .second, .val (.long i2), .second, .val (.int i3), .val (.int i4), .val (.long (Int64.ofNat va)), .second, .val (.long (Int64.ofNat vb)), .second, .val (.long (Int64.ofNat vc)), .second, .val (.ref b2), .val (.int (2 : Int32)), .val (.long (Int64.ofNat (min va (min vb vc)))), .second, .val (.long (Int64.ofNat (max va (max vb vc)))), .second, .val (.long (Int64.ofNat v)), .second, .val (.long (Int64.ofNat v)), .second, .unset, .unset] [(.long (Int64.ofNat v))])) (fun X t q => XS.lload X.here C.hx rfl (hb C.hby at_208) rfl q) ?_
      refine Wk.st (g' := (mkF m 212 #[.val (.long i0), .second, .val (.long i1), .second, .val (.long i2), .second, .val (.int i3), .val (.int i4), .val (.long (Int64.ofNat va)), .second, .val (.long (Int64.ofNat vb)), .second, .val (.long (Int64.ofNat vc)), .second, .val (.ref b2), .val (.int (2 : Int32)), .val (.long (Int64.ofNat (min va (min vb vc)))), .second, .val (.long (Int64.ofNat (max va (max vb vc)))), .second, .val (.long (Int64.ofNat v)), .second, .val (.long (Int64.ofNat v)), .second, .val (.long (Int64.ofNat v)), .second] [])) (fun X t q => XS.lstore X.here C.hx rfl (hb C.hby at_210) rfl (l' := #[.val (.long i0), .second, .val (.long i1), .second, .val (.long i2), .second, .val (.int i3), .val (.int i4), .val (.long (Int64.ofNat va)), .second, .val (.long (Int64.ofNat vb)), .second, .val (.long (Int64.ofNat vc)), .second, .val (.ref b2), .val (.int (2 : Int32)), .val (.long (Int64.ofNat (min va (min vb vc)))), .second, .val (.long (Int64.ofNat (max va (max vb vc)))), .second, .val (.long (Int64.ofNat v)), .second, .val (.long (Int64.ofNat v)), .second, .val (.long (Int64.ofNat v)), .second]) rfl q) ?_
      refine Wk.st (g' := (mkF m 214 #[.val (.long i0), .second, .val (.long i1), .second, .val (.long i2), .second, .val (.int i3), .val (.int i4), .val (.long (Int64.ofNat va)), .second, .val (.long (Int64.ofNat vb)), .second, .val (.long (Int64.ofNat vc)), .second, .val (.ref b2), .val (.int (2 : Int32)), .val (.long (Int64.ofNat (min va (min vb vc)))), .second, .val (.long (Int64.ofNat (max va (max vb vc)))), .second, .val (.long (Int64.ofNat v)), .second, .val (.long (Int64.ofNat v)), .second, .val (.long (Int64.ofNat v)), .second] [(.long (Int64.ofNat va))])) (fun X t q => XS.lload X.here C.hx rfl (hb C.hby at_212) rfl q) ?_
      refine Wk.st (g' := (mkF m 216 #[.val (.long i0), .second, .val (.long i1), .second, .val (.long i2), .second, .val (.int i3), .val (.int i4), .val (.long (Int64.ofNat va)), .second, .val (.long (Int64.ofNat vb)), .second, .val (.long (Int64.ofNat vc)), .second, .val (.ref b2), .val (.int (2 : Int32)), .val (.long (Int64.ofNat (min va (min vb vc)))), .second, .val (.long (Int64.ofNat (max va (max vb vc)))), .second, .val (.long (Int64.ofNat v)), .second, .val (.long (Int64.ofNat v)), .second, .val (.long (Int64.ofNat v)), .second] [(.long (Int64.ofNat v)), (.long (Int64.ofNat va))])) (fun X t q => XS.lload X.here C.hx rfl (hb C.hby at_214) rfl q) ?_
      refine Wk.callS C (z := (⟨"com/example/headroom/headroom/HistogramValueAtPinLaw", "sameBucket", "(JJ)Z"⟩ : MethodName)) (hw _ (List.mem_of_getElem? (i := 50) rfl)) (hw _ (List.mem_of_getElem? (i := 51) rfl)) (hw _ (List.mem_of_getElem? (i := 52) rfl)) (hw _ (List.mem_of_getElem? (i := 53) rfl)) (by decide) (own_same l Z a0 hw n0 h34 va v (by omega) (by omega)) (w := 0) (by decide) (by decide) pd_7 rfl (rest := []) rfl rfl (Nat.le_of_eq rfl) (by decide) (by decide) at_216 ?_
      rintro _ _ ⟨rfl, rfl⟩
      show Wk _ p l e _ s m _ below meth c n0 _ h34 6 885 (mkF m 219 #[.val (.long i0), .second, .val (.long i1), .second, .val (.long i2), .second, .val (.int i3), .val (.int i4), .val (.long (Int64.ofNat va)), .second, .val (.long (Int64.ofNat vb)), .second, .val (.long (Int64.ofNat vc)), .second, .val (.ref b2), .val (.int (2 : Int32)), .val (.long (Int64.ofNat (min va (min vb vc)))), .second, .val (.long (Int64.ofNat (max va (max vb vc)))), .second, .val (.long (Int64.ofNat v)), .second, .val (.long (Int64.ofNat v)), .second, .val (.long (Int64.ofNat v)), .second] [(.int (if Ky va = Ky v then (1 : Int32) else (0 : Int32)))])
      have k231 : ∀ rf1 : Nat, rf1 < 9223372036854775808 → rf1 = r1 va v → Wk false p l e room_1 s m #[(.long i0), (.long i1), (.long i2), (.int i3), (.int i4)] below meth c n0 (fun v _ => v = some (.int 1) ∧ True) h34 6 885 (mkF m 231 #[.val (.long i0), .second, .val (.long i1), .second, .val (.long i2), .second, .val (.int i3), .val (.int i4), .val (.long (Int64.ofNat va)), .second, .val (.long (Int64.ofNat vb)), .second, .val (.long (Int64.ofNat vc)), .second, .val (.ref b2), .val (.int (2 : Int32)), .val (.long (Int64.ofNat (min va (min vb vc)))), .second, .val (.long (Int64.ofNat (max va (max vb vc)))), .second, .val (.long (Int64.ofNat v)), .second, .val (.long (Int64.ofNat v)), .second, .val (.long (Int64.ofNat rf1)), .second] []) := by
        intro rf1 hrf1 erf1
        refine Wk.st (g' := (mkF m 233 #[.val (.long i0), .second, .val (.long i1), .second, .val (.long i2), .second, .val (.int i3), .val (.int i4), .val (.long (Int64.ofNat va)), .second, .val (.long (Int64.ofNat vb)), .second, .val (.long (Int64.ofNat vc)), .second, .val (.ref b2), .val (.int (2 : Int32)), .val (.long (Int64.ofNat (min va (min vb vc)))), .second, .val (.long (Int64.ofNat (max va (max vb vc)))), .second, .val (.long (Int64.ofNat v)), .second, .val (.long (Int64.ofNat v)), .second, .val (.long (Int64.ofNat rf1)), .second] [(.long (Int64.ofNat vb))])) (fun X t q => XS.lload X.here C.hx rfl (hb C.hby at_231) rfl q) ?_
        refine Wk.st (g' := (mkF m 235 #[.val (.long i0), .second, .val (.long i1), .second, .val (.long i2), .second, .val (.int i3), .val (.int i4), .val (.long (Int64.ofNat va)), .second, .val (.long (Int64.ofNat vb)), .second, .val (.long (Int64.ofNat vc)), .second, .val (.ref b2), .val (.int (2 : Int32)), .val (.long (Int64.ofNat (min va (min vb vc)))), .second, .val (.long (Int64.ofNat (max va (max vb vc)))), .second, .val (.long (Int64.ofNat v)), .second, .val (.long (Int64.ofNat v)), .second, .val (.long (Int64.ofNat rf1)), .second] [(.long (Int64.ofNat v)), (.long (Int64.ofNat vb))])) (fun X t q => XS.lload X.here C.hx rfl (hb C.hby at_233) rfl q) ?_
        refine Wk.callS C (z := (⟨"com/example/headroom/headroom/HistogramValueAtPinLaw", "sameBucket", "(JJ)Z"⟩ : MethodName)) (hw _ (List.mem_of_getElem? (i := 50) rfl)) (hw _ (List.mem_of_getElem? (i := 51) rfl)) (hw _ (List.mem_of_getElem? (i := 52) rfl)) (hw _ (List.mem_of_getElem? (i := 53) rfl)) (by decide) (own_same l Z a0 hw n0 h34 vb v (by omega) (by omega)) (w := 0) (by decide) (by decide) pd_7 rfl (rest := []) rfl rfl (Nat.le_of_eq rfl) (by decide) (by decide) at_235 ?_
        rintro _ _ ⟨rfl, rfl⟩
        show Wk _ p l e _ s m _ below meth c n0 _ h34 6 885 (mkF m 238 #[.val (.long i0), .second, .val (.long i1), .second, .val (.long i2), .second, .val (.int i3), .val (.int i4), .val (.long (Int64.ofNat va)), .second, .val (.long (Int64.ofNat vb)), .second, .val (.long (Int64.ofNat vc)), .second, .val (.ref b2), .val (.int (2 : Int32)), .val (.long (Int64.ofNat (min va (min vb vc)))), .second, .val (.long (Int64.ofNat (max va (max vb vc)))), .second, .val (.long (Int64.ofNat v)), .second, .val (.long (Int64.ofNat v)), .second, .val (.long (Int64.ofNat rf1)), .second] [(.int (if Ky vb = Ky v then (1 : Int32) else (0 : Int32)))])
        have k250 : ∀ rf2 : Nat, rf2 < 9223372036854775808 → rf2 = r2 rf1 vb v → Wk false p l e room_1 s m #[(.long i0), (.long i1), (.long i2), (.int i3), (.int i4)] below meth c n0 (fun v _ => v = some (.int 1) ∧ True) h34 6 885 (mkF m 250 #[.val (.long i0), .second, .val (.long i1), .second, .val (.long i2), .second, .val (.int i3), .val (.int i4), .val (.long (Int64.ofNat va)), .second, .val (.long (Int64.ofNat vb)), .second, .val (.long (Int64.ofNat vc)), .second, .val (.ref b2), .val (.int (2 : Int32)), .val (.long (Int64.ofNat (min va (min vb vc)))), .second, .val (.long (Int64.ofNat (max va (max vb vc)))), .second, .val (.long (Int64.ofNat v)), .second, .val (.long (Int64.ofNat v)), .second, .val (.long (Int64.ofNat rf2)), .second] []) := by
          intro rf2 hrf2 erf2
          refine Wk.st (g' := (mkF m 252 #[.val (.long i0), .second, .val (.long i1), .second, .val (.long i2), .second, .val (.int i3), .val (.int i4), .val (.long (Int64.ofNat va)), .second, .val (.long (Int64.ofNat vb)), .second, .val (.long (Int64.ofNat vc)), .second, .val (.ref b2), .val (.int (2 : Int32)), .val (.long (Int64.ofNat (min va (min vb vc)))), .second, .val (.long (Int64.ofNat (max va (max vb vc)))), .second, .val (.long (Int64.ofNat v)), .second, .val (.long (Int64.ofNat v)), .second, .val (.long (Int64.ofNat rf2)), .second] [(.long (Int64.ofNat vc))])) (fun X t q => XS.lload X.here C.hx rfl (hb C.hby at_250) rfl q) ?_
          refine Wk.st (g' := (mkF m 254 #[.val (.long i0), .second, .val (.long i1), .second, .val (.long i2), .second, .val (.int i3), .val (.int i4), .val (.long (Int64.ofNat va)), .second, .val (.long (Int64.ofNat vb)), .second, .val (.long (Int64.ofNat vc)), .second, .val (.ref b2), .val (.int (2 : Int32)), .val (.long (Int64.ofNat (min va (min vb vc)))), .second, .val (.long (Int64.ofNat (max va (max vb vc)))), .second, .val (.long (Int64.ofNat v)), .second, .val (.long (Int64.ofNat v)), .second, .val (.long (Int64.ofNat rf2)), .second] [(.long (Int64.ofNat v)), (.long (Int64.ofNat vc))])) (fun X t q => XS.lload X.here C.hx rfl (hb C.hby at_252) rfl q) ?_
          refine Wk.callS C (z := (⟨"com/example/headroom/headroom/HistogramValueAtPinLaw", "sameBucket", "(JJ)Z"⟩ : MethodName)) (hw _ (List.mem_of_getElem? (i := 50) rfl)) (hw _ (List.mem_of_getElem? (i := 51) rfl)) (hw _ (List.mem_of_getElem? (i := 52) rfl)) (hw _ (List.mem_of_getElem? (i := 53) rfl)) (by decide) (own_same l Z a0 hw n0 h34 vc v (by omega) (by omega)) (w := 0) (by decide) (by decide) pd_7 rfl (rest := []) rfl rfl (Nat.le_of_eq rfl) (by decide) (by decide) at_254 ?_
          rintro _ _ ⟨rfl, rfl⟩
          show Wk _ p l e _ s m _ below meth c n0 _ h34 6 885 (mkF m 257 #[.val (.long i0), .second, .val (.long i1), .second, .val (.long i2), .second, .val (.int i3), .val (.int i4), .val (.long (Int64.ofNat va)), .second, .val (.long (Int64.ofNat vb)), .second, .val (.long (Int64.ofNat vc)), .second, .val (.ref b2), .val (.int (2 : Int32)), .val (.long (Int64.ofNat (min va (min vb vc)))), .second, .val (.long (Int64.ofNat (max va (max vb vc)))), .second, .val (.long (Int64.ofNat v)), .second, .val (.long (Int64.ofNat v)), .second, .val (.long (Int64.ofNat rf2)), .second] [(.int (if Ky vc = Ky v then (1 : Int32) else (0 : Int32)))])
          have k269 : ∀ rf3 : Nat, rf3 < 9223372036854775808 → rf3 = r2 rf2 vc v → Wk false p l e room_1 s m #[(.long i0), (.long i1), (.long i2), (.int i3), (.int i4)] below meth c n0 (fun v _ => v = some (.int 1) ∧ True) h34 6 885 (mkF m 269 #[.val (.long i0), .second, .val (.long i1), .second, .val (.long i2), .second, .val (.int i3), .val (.int i4), .val (.long (Int64.ofNat va)), .second, .val (.long (Int64.ofNat vb)), .second, .val (.long (Int64.ofNat vc)), .second, .val (.ref b2), .val (.int (2 : Int32)), .val (.long (Int64.ofNat (min va (min vb vc)))), .second, .val (.long (Int64.ofNat (max va (max vb vc)))), .second, .val (.long (Int64.ofNat v)), .second, .val (.long (Int64.ofNat v)), .second, .val (.long (Int64.ofNat rf3)), .second] []) := by
            intro rf3 hrf3 erf3
            refine Wk.st (g' := (mkF m 271 #[.val (.long i0), .second, .val (.long i1), .second, .val (.long i2), .second, .val (.int i3), .val (.int i4), .val (.long (Int64.ofNat va)), .second, .val (.long (Int64.ofNat vb)), .second, .val (.long (Int64.ofNat vc)), .second, .val (.ref b2), .val (.int (2 : Int32)), .val (.long (Int64.ofNat (min va (min vb vc)))), .second, .val (.long (Int64.ofNat (max va (max vb vc)))), .second, .val (.long (Int64.ofNat v)), .second, .val (.long (Int64.ofNat v)), .second, .val (.long (Int64.ofNat rf3)), .second] [(.ref b2)])) (fun X t q => XS.aload X.here C.hx rfl (hb C.hby at_269) rfl rfl q) ?_
            refine Wk.callV C (x := (⟨"com/example/headroom/headroom/Histogram", "count", "()J"⟩ : MethodName)) (z := (⟨"com/example/headroom/headroom/Histogram", "count", "()J"⟩ : MethodName)) (K := "com/example/headroom/headroom/Histogram") (hw _ (List.mem_of_getElem? (i := 58) rfl)) (hw _ (List.mem_of_getElem? (i := 59) rfl)) (hw _ (List.mem_of_getElem? (i := 61) rfl)) (hw _ (List.mem_of_getElem? (i := 60) rfl)) (hw _ (List.mem_of_getElem? (i := 4) rfl)) (hw _ (List.mem_of_getElem? (i := 62) rfl)) (by decide) (fun s' hZ' => notFace_of_selects (args := #[]) (mvT hZ' (hw _ (List.mem_of_getElem? (i := 61) rfl)))) HH39.exa (own_count l Z a0 hw n0 h34 wz35 b2 [vc, vb, va] HH39) (w := 0) (by decide) (by decide) pd_8 rfl (rest := []) rfl rfl (Nat.le_of_eq rfl) (by decide) (by decide) at_271 ?_
            rintro _ _ ⟨rfl, rfl⟩
            show Wk _ p l e _ s m _ below meth c n0 _ h34 6 885 (mkF m 274 #[.val (.long i0), .second, .val (.long i1), .second, .val (.long i2), .second, .val (.int i3), .val (.int i4), .val (.long (Int64.ofNat va)), .second, .val (.long (Int64.ofNat vb)), .second, .val (.long (Int64.ofNat vc)), .second, .val (.ref b2), .val (.int (2 : Int32)), .val (.long (Int64.ofNat (min va (min vb vc)))), .second, .val (.long (Int64.ofNat (max va (max vb vc)))), .second, .val (.long (Int64.ofNat v)), .second, .val (.long (Int64.ofNat v)), .second, .val (.long (Int64.ofNat rf3)), .second] [(.long (3 : Int64))])
            refine Wk.ldc2J C (hw _ (List.mem_of_getElem? (i := 63) rfl)) at_274 ?_
            show Wk _ p l e _ s m _ below meth c n0 _ h34 6 885 (mkF m 277 #[.val (.long i0), .second, .val (.long i1), .second, .val (.long i2), .second, .val (.int i3), .val (.int i4), .val (.long (Int64.ofNat va)), .second, .val (.long (Int64.ofNat vb)), .second, .val (.long (Int64.ofNat vc)), .second, .val (.ref b2), .val (.int (2 : Int32)), .val (.long (Int64.ofNat (min va (min vb vc)))), .second, .val (.long (Int64.ofNat (max va (max vb vc)))), .second, .val (.long (Int64.ofNat v)), .second, .val (.long (Int64.ofNat v)), .second, .val (.long (Int64.ofNat rf3)), .second] [(.long (3 : Int64)), (.long (3 : Int64))])
            refine Wk.st (g' := (mkF m 278 #[.val (.long i0), .second, .val (.long i1), .second, .val (.long i2), .second, .val (.int i3), .val (.int i4), .val (.long (Int64.ofNat va)), .second, .val (.long (Int64.ofNat vb)), .second, .val (.long (Int64.ofNat vc)), .second, .val (.ref b2), .val (.int (2 : Int32)), .val (.long (Int64.ofNat (min va (min vb vc)))), .second, .val (.long (Int64.ofNat (max va (max vb vc)))), .second, .val (.long (Int64.ofNat v)), .second, .val (.long (Int64.ofNat v)), .second, .val (.long (Int64.ofNat rf3)), .second] [(.int (XT.cmpL (3 : Int64) (3 : Int64)))])) (fun X t q => XT.lcmp X.here C.hx rfl (hb C.hby at_277) rfl q) ?_
            refine Wk.st (g' := (mkF m 281 #[.val (.long i0), .second, .val (.long i1), .second, .val (.long i2), .second, .val (.int i3), .val (.int i4), .val (.long (Int64.ofNat va)), .second, .val (.long (Int64.ofNat vb)), .second, .val (.long (Int64.ofNat vc)), .second, .val (.ref b2), .val (.int (2 : Int32)), .val (.long (Int64.ofNat (min va (min vb vc)))), .second, .val (.long (Int64.ofNat (max va (max vb vc)))), .second, .val (.long (Int64.ofNat v)), .second, .val (.long (Int64.ofNat v)), .second, .val (.long (Int64.ofNat rf3)), .second] [])) (fun X t q => XS.ifNo X.here C.hx rfl (hb C.hby at_278) rfl (XT.ll_ne_f (by decide)) q) ?_
            refine Wk.st (g' := (mkF m 283 #[.val (.long i0), .second, .val (.long i1), .second, .val (.long i2), .second, .val (.int i3), .val (.int i4), .val (.long (Int64.ofNat va)), .second, .val (.long (Int64.ofNat vb)), .second, .val (.long (Int64.ofNat vc)), .second, .val (.ref b2), .val (.int (2 : Int32)), .val (.long (Int64.ofNat (min va (min vb vc)))), .second, .val (.long (Int64.ofNat (max va (max vb vc)))), .second, .val (.long (Int64.ofNat v)), .second, .val (.long (Int64.ofNat v)), .second, .val (.long (Int64.ofNat rf3)), .second] [(.ref b2)])) (fun X t q => XS.aload X.here C.hx rfl (hb C.hby at_281) rfl rfl q) ?_
            refine Wk.st (g' := (mkF m 285 #[.val (.long i0), .second, .val (.long i1), .second, .val (.long i2), .second, .val (.int i3), .val (.int i4), .val (.long (Int64.ofNat va)), .second, .val (.long (Int64.ofNat vb)), .second, .val (.long (Int64.ofNat vc)), .second, .val (.ref b2), .val (.int (2 : Int32)), .val (.long (Int64.ofNat (min va (min vb vc)))), .second, .val (.long (Int64.ofNat (max va (max vb vc)))), .second, .val (.long (Int64.ofNat v)), .second, .val (.long (Int64.ofNat v)), .second, .val (.long (Int64.ofNat rf3)), .second] [(.int (2 : Int32)), (.ref b2)])) (fun X t q => XS.iload X.here C.hx rfl (hb C.hby at_283) rfl q) ?_
            refine Wk.st (g' := (mkF m 286 #[.val (.long i0), .second, .val (.long i1), .second, .val (.long i2), .second, .val (.int i3), .val (.int i4), .val (.long (Int64.ofNat va)), .second, .val (.long (Int64.ofNat vb)), .second, .val (.long (Int64.ofNat vc)), .second, .val (.ref b2), .val (.int (2 : Int32)), .val (.long (Int64.ofNat (min va (min vb vc)))), .second, .val (.long (Int64.ofNat (max va (max vb vc)))), .second, .val (.long (Int64.ofNat v)), .second, .val (.long (Int64.ofNat v)), .second, .val (.long (Int64.ofNat rf3)), .second] [(.long (2 : Int64)), (.ref b2)])) (fun X t q => XS.i2l X.here C.hx rfl (hb C.hby at_285) rfl q) ?_
            refine Wk.callV C (x := (⟨"com/example/headroom/headroom/Histogram", "valueAt", "(J)J"⟩ : MethodName)) (z := (⟨"com/example/headroom/headroom/Histogram", "valueAt", "(J)J"⟩ : MethodName)) (K := "com/example/headroom/headroom/Histogram") (hw _ (List.mem_of_getElem? (i := 64) rfl)) (hw _ (List.mem_of_getElem? (i := 65) rfl)) (hw _ (List.mem_of_getElem? (i := 67) rfl)) (hw _ (List.mem_of_getElem? (i := 66) rfl)) (hw _ (List.mem_of_getElem? (i := 4) rfl)) (hw _ (List.mem_of_getElem? (i := 68) rfl)) (by decide) (fun s' hZ' => notFace_of_selects (args := #[]) (mvT hZ' (hw _ (List.mem_of_getElem? (i := 67) rfl)))) HH39.exa (own_valueAt l Z a0 hw n0 h34 wz35 b2 [vc, vb, va] HH39 (by simp) 2 (by decide) (by simp)) (w := 0) (by decide) (by decide) pd_9 rfl (rest := []) rfl rfl (Nat.le_of_eq rfl) (by decide) (by decide) at_286 ?_
            rintro _ _ ⟨rfl, rfl⟩
            show Wk _ p l e _ s m _ below meth c n0 _ h34 6 885 (mkF m 289 #[.val (.long i0), .second, .val (.long i1), .second, .val (.long i2), .second, .val (.int i3), .val (.int i4), .val (.long (Int64.ofNat va)), .second, .val (.long (Int64.ofNat vb)), .second, .val (.long (Int64.ofNat vc)), .second, .val (.ref b2), .val (.int (2 : Int32)), .val (.long (Int64.ofNat (min va (min vb vc)))), .second, .val (.long (Int64.ofNat (max va (max vb vc)))), .second, .val (.long (Int64.ofNat v)), .second, .val (.long (Int64.ofNat v)), .second, .val (.long (Int64.ofNat rf3)), .second] [(.long (Int64.ofNat (Va [vc, vb, va] 2)))])
            refine Wk.st (g' := (mkF m 291 #[.val (.long i0), .second, .val (.long i1), .second, .val (.long i2), .second, .val (.int i3), .val (.int i4), .val (.long (Int64.ofNat va)), .second, .val (.long (Int64.ofNat vb)), .second, .val (.long (Int64.ofNat vc)), .second, .val (.ref b2), .val (.int (2 : Int32)), .val (.long (Int64.ofNat (min va (min vb vc)))), .second, .val (.long (Int64.ofNat (max va (max vb vc)))), .second, .val (.long (Int64.ofNat v)), .second, .val (.long (Int64.ofNat v)), .second, .val (.long (Int64.ofNat rf3)), .second] [(.long (Int64.ofNat rf3)), (.long (Int64.ofNat (Va [vc, vb, va] 2)))])) (fun X t q => XS.lload X.here C.hx rfl (hb C.hby at_289) rfl q) ?_
            refine Wk.st (g' := (mkF m 292 #[.val (.long i0), .second, .val (.long i1), .second, .val (.long i2), .second, .val (.int i3), .val (.int i4), .val (.long (Int64.ofNat va)), .second, .val (.long (Int64.ofNat vb)), .second, .val (.long (Int64.ofNat vc)), .second, .val (.ref b2), .val (.int (2 : Int32)), .val (.long (Int64.ofNat (min va (min vb vc)))), .second, .val (.long (Int64.ofNat (max va (max vb vc)))), .second, .val (.long (Int64.ofNat v)), .second, .val (.long (Int64.ofNat v)), .second, .val (.long (Int64.ofNat rf3)), .second] [(.int (XT.cmpL (Int64.ofNat (Va [vc, vb, va] 2)) (Int64.ofNat rf3)))])) (fun X t q => XT.lcmp X.here C.hx rfl (hb C.hby at_291) rfl q) ?_
            refine Wk.st (g' := (mkF m 295 #[.val (.long i0), .second, .val (.long i1), .second, .val (.long i2), .second, .val (.int i3), .val (.int i4), .val (.long (Int64.ofNat va)), .second, .val (.long (Int64.ofNat vb)), .second, .val (.long (Int64.ofNat vc)), .second, .val (.ref b2), .val (.int (2 : Int32)), .val (.long (Int64.ofNat (min va (min vb vc)))), .second, .val (.long (Int64.ofNat (max va (max vb vc)))), .second, .val (.long (Int64.ofNat v)), .second, .val (.long (Int64.ofNat v)), .second, .val (.long (Int64.ofNat rf3)), .second] [])) (fun X t q => XS.ifNo X.here C.hx rfl (hb C.hby at_292) rfl (XT.ll_ne_f (congrArg Int64.ofNat ((Va_three hva hvb hvc (v := v) (Or.inr (Or.inl ⟨rfl, ev⟩))).trans (by rw [erf3, erf2, erf1])))) q) ?_
            refine Wk.st (g' := (mkF m 296 #[.val (.long i0), .second, .val (.long i1), .second, .val (.long i2), .second, .val (.int i3), .val (.int i4), .val (.long (Int64.ofNat va)), .second, .val (.long (Int64.ofNat vb)), .second, .val (.long (Int64.ofNat vc)), .second, .val (.ref b2), .val (.int (2 : Int32)), .val (.long (Int64.ofNat (min va (min vb vc)))), .second, .val (.long (Int64.ofNat (max va (max vb vc)))), .second, .val (.long (Int64.ofNat v)), .second, .val (.long (Int64.ofNat v)), .second, .val (.long (Int64.ofNat rf3)), .second] [(.int (1 : Int32))])) (fun X t q => XS.iconst X.here C.hx rfl (hb C.hby at_295) q) ?_
            refine Wk.st (g' := (mkF m 300 #[.val (.long i0), .second, .val (.long i1), .second, .val (.long i2), .second, .val (.int i3), .val (.int i4), .val (.long (Int64.ofNat va)), .second, .val (.long (Int64.ofNat vb)), .second, .val (.long (Int64.ofNat vc)), .second, .val (.ref b2), .val (.int (2 : Int32)), .val (.long (Int64.ofNat (min va (min vb vc)))), .second, .val (.long (Int64.ofNat (max va (max vb vc)))), .second, .val (.long (Int64.ofNat v)), .second, .val (.long (Int64.ofNat v)), .second, .val (.long (Int64.ofNat rf3)), .second] [(.int (1 : Int32))])) (fun X t q => XS.goto X.here C.hx rfl (pc0 := 296) (pc' := 300) rfl (hb C.hby at_296) (by decide) (by decide) q) ?_
            exact Wk.retV C (t := .boolean) rfl rfl (Or.inl ⟨rfl, by simp, _, rfl⟩) at_300 (by decide) (by decide) ⟨rfl, trivial⟩
          by_cases hq257 : Ky vc = Ky v
          · skip
            rw [show (if Ky vc = Ky v then (1 : Int32) else (0 : Int32)) = (1 : Int32) from if_pos hq257]
            show Wk _ p l e _ s m _ below meth c n0 _ h34 6 885 (mkF m 257 #[.val (.long i0), .second, .val (.long i1), .second, .val (.long i2), .second, .val (.int i3), .val (.int i4), .val (.long (Int64.ofNat va)), .second, .val (.long (Int64.ofNat vb)), .second, .val (.long (Int64.ofNat vc)), .second, .val (.ref b2), .val (.int (2 : Int32)), .val (.long (Int64.ofNat (min va (min vb vc)))), .second, .val (.long (Int64.ofNat (max va (max vb vc)))), .second, .val (.long (Int64.ofNat v)), .second, .val (.long (Int64.ofNat v)), .second, .val (.long (Int64.ofNat rf2)), .second] [(.int (1 : Int32))])
            refine Wk.st (g' := (mkF m 260 #[.val (.long i0), .second, .val (.long i1), .second, .val (.long i2), .second, .val (.int i3), .val (.int i4), .val (.long (Int64.ofNat va)), .second, .val (.long (Int64.ofNat vb)), .second, .val (.long (Int64.ofNat vc)), .second, .val (.ref b2), .val (.int (2 : Int32)), .val (.long (Int64.ofNat (min va (min vb vc)))), .second, .val (.long (Int64.ofNat (max va (max vb vc)))), .second, .val (.long (Int64.ofNat v)), .second, .val (.long (Int64.ofNat v)), .second, .val (.long (Int64.ofNat rf2)), .second] [])) (fun X t q => XS.ifNo X.here C.hx rfl (hb C.hby at_257) rfl (XT.i0_eq_f (by decide)) q) ?_
            refine Wk.st (g' := (mkF m 262 #[.val (.long i0), .second, .val (.long i1), .second, .val (.long i2), .second, .val (.int i3), .val (.int i4), .val (.long (Int64.ofNat va)), .second, .val (.long (Int64.ofNat vb)), .second, .val (.long (Int64.ofNat vc)), .second, .val (.ref b2), .val (.int (2 : Int32)), .val (.long (Int64.ofNat (min va (min vb vc)))), .second, .val (.long (Int64.ofNat (max va (max vb vc)))), .second, .val (.long (Int64.ofNat v)), .second, .val (.long (Int64.ofNat v)), .second, .val (.long (Int64.ofNat rf2)), .second] [(.long (Int64.ofNat rf2))])) (fun X t q => XS.lload X.here C.hx rfl (hb C.hby at_260) rfl q) ?_
            refine Wk.st (g' := (mkF m 264 #[.val (.long i0), .second, .val (.long i1), .second, .val (.long i2), .second, .val (.int i3), .val (.int i4), .val (.long (Int64.ofNat va)), .second, .val (.long (Int64.ofNat vb)), .second, .val (.long (Int64.ofNat vc)), .second, .val (.ref b2), .val (.int (2 : Int32)), .val (.long (Int64.ofNat (min va (min vb vc)))), .second, .val (.long (Int64.ofNat (max va (max vb vc)))), .second, .val (.long (Int64.ofNat v)), .second, .val (.long (Int64.ofNat v)), .second, .val (.long (Int64.ofNat rf2)), .second] [(.long (Int64.ofNat vc)), (.long (Int64.ofNat rf2))])) (fun X t q => XS.lload X.here C.hx rfl (hb C.hby at_262) rfl q) ?_
            refine Wk.callS C (z := (⟨"java/lang/Math", "max", "(JJ)J"⟩ : MethodName)) (hw _ (List.mem_of_getElem? (i := 47) rfl)) (hw _ (List.mem_of_getElem? (i := 48) rfl)) (hw _ (List.mem_of_getElem? (i := 34) rfl)) (hw _ (List.mem_of_getElem? (i := 49) rfl)) (by decide) (own_maxJ l Z a0 hw n0 h34 rf2 vc (by omega) (by omega)) (w := 0) (by decide) (by decide) pd_1 rfl (rest := []) rfl rfl (Nat.le_of_eq rfl) (by decide) (by decide) at_264 ?_
            rintro _ _ ⟨rfl, rfl⟩
            show Wk _ p l e _ s m _ below meth c n0 _ h34 6 885 (mkF m 267 #[.val (.long i0), .second, .val (.long i1), .second, .val (.long i2), .second, .val (.int i3), .val (.int i4), .val (.long (Int64.ofNat va)), .second, .val (.long (Int64.ofNat vb)), .second, .val (.long (Int64.ofNat vc)), .second, .val (.ref b2), .val (.int (2 : Int32)), .val (.long (Int64.ofNat (min va (min vb vc)))), .second, .val (.long (Int64.ofNat (max va (max vb vc)))), .second, .val (.long (Int64.ofNat v)), .second, .val (.long (Int64.ofNat v)), .second, .val (.long (Int64.ofNat rf2)), .second] [(.long (Int64.ofNat (max rf2 vc)))])
            refine Wk.st (g' := (mkF m 269 #[.val (.long i0), .second, .val (.long i1), .second, .val (.long i2), .second, .val (.int i3), .val (.int i4), .val (.long (Int64.ofNat va)), .second, .val (.long (Int64.ofNat vb)), .second, .val (.long (Int64.ofNat vc)), .second, .val (.ref b2), .val (.int (2 : Int32)), .val (.long (Int64.ofNat (min va (min vb vc)))), .second, .val (.long (Int64.ofNat (max va (max vb vc)))), .second, .val (.long (Int64.ofNat v)), .second, .val (.long (Int64.ofNat v)), .second, .val (.long (Int64.ofNat (max rf2 vc))), .second] [])) (fun X t q => XS.lstore X.here C.hx rfl (hb C.hby at_267) rfl (l' := #[.val (.long i0), .second, .val (.long i1), .second, .val (.long i2), .second, .val (.int i3), .val (.int i4), .val (.long (Int64.ofNat va)), .second, .val (.long (Int64.ofNat vb)), .second, .val (.long (Int64.ofNat vc)), .second, .val (.ref b2), .val (.int (2 : Int32)), .val (.long (Int64.ofNat (min va (min vb vc)))), .second, .val (.long (Int64.ofNat (max va (max vb vc)))), .second, .val (.long (Int64.ofNat v)), .second, .val (.long (Int64.ofNat v)), .second, .val (.long (Int64.ofNat (max rf2 vc))), .second]) rfl q) ?_
            exact k269 (max rf2 vc) (by omega) (if_pos hq257).symm
          · skip
            rw [show (if Ky vc = Ky v then (1 : Int32) else (0 : Int32)) = (0 : Int32) from if_neg hq257]
            show Wk _ p l e _ s m _ below meth c n0 _ h34 6 885 (mkF m 257 #[.val (.long i0), .second, .val (.long i1), .second, .val (.long i2), .second, .val (.int i3), .val (.int i4), .val (.long (Int64.ofNat va)), .second, .val (.long (Int64.ofNat vb)), .second, .val (.long (Int64.ofNat vc)), .second, .val (.ref b2), .val (.int (2 : Int32)), .val (.long (Int64.ofNat (min va (min vb vc)))), .second, .val (.long (Int64.ofNat (max va (max vb vc)))), .second, .val (.long (Int64.ofNat v)), .second, .val (.long (Int64.ofNat v)), .second, .val (.long (Int64.ofNat rf2)), .second] [(.int (0 : Int32))])
            refine Wk.st (g' := (mkF m 269 #[.val (.long i0), .second, .val (.long i1), .second, .val (.long i2), .second, .val (.int i3), .val (.int i4), .val (.long (Int64.ofNat va)), .second, .val (.long (Int64.ofNat vb)), .second, .val (.long (Int64.ofNat vc)), .second, .val (.ref b2), .val (.int (2 : Int32)), .val (.long (Int64.ofNat (min va (min vb vc)))), .second, .val (.long (Int64.ofNat (max va (max vb vc)))), .second, .val (.long (Int64.ofNat v)), .second, .val (.long (Int64.ofNat v)), .second, .val (.long (Int64.ofNat rf2)), .second] [])) (fun X t q => XS.ifYes X.here C.hx rfl (pc0 := 257) (pc' := 269) rfl (hb C.hby at_257) rfl (XT.i0_eq_t (by decide)) (by decide) (by decide) q) ?_
            exact k269 rf2 (by omega) (if_neg hq257).symm
        by_cases hq238 : Ky vb = Ky v
        · skip
          rw [show (if Ky vb = Ky v then (1 : Int32) else (0 : Int32)) = (1 : Int32) from if_pos hq238]
          show Wk _ p l e _ s m _ below meth c n0 _ h34 6 885 (mkF m 238 #[.val (.long i0), .second, .val (.long i1), .second, .val (.long i2), .second, .val (.int i3), .val (.int i4), .val (.long (Int64.ofNat va)), .second, .val (.long (Int64.ofNat vb)), .second, .val (.long (Int64.ofNat vc)), .second, .val (.ref b2), .val (.int (2 : Int32)), .val (.long (Int64.ofNat (min va (min vb vc)))), .second, .val (.long (Int64.ofNat (max va (max vb vc)))), .second, .val (.long (Int64.ofNat v)), .second, .val (.long (Int64.ofNat v)), .second, .val (.long (Int64.ofNat rf1)), .second] [(.int (1 : Int32))])
          refine Wk.st (g' := (mkF m 241 #[.val (.long i0), .second, .val (.long i1), .second, .val (.long i2), .second, .val (.int i3), .val (.int i4), .val (.long (Int64.ofNat va)), .second, .val (.long (Int64.ofNat vb)), .second, .val (.long (Int64.ofNat vc)), .second, .val (.ref b2), .val (.int (2 : Int32)), .val (.long (Int64.ofNat (min va (min vb vc)))), .second, .val (.long (Int64.ofNat (max va (max vb vc)))), .second, .val (.long (Int64.ofNat v)), .second, .val (.long (Int64.ofNat v)), .second, .val (.long (Int64.ofNat rf1)), .second] [])) (fun X t q => XS.ifNo X.here C.hx rfl (hb C.hby at_238) rfl (XT.i0_eq_f (by decide)) q) ?_
          refine Wk.st (g' := (mkF m 243 #[.val (.long i0), .second, .val (.long i1), .second, .val (.long i2), .second, .val (.int i3), .val (.int i4), .val (.long (Int64.ofNat va)), .second, .val (.long (Int64.ofNat vb)), .second, .val (.long (Int64.ofNat vc)), .second, .val (.ref b2), .val (.int (2 : Int32)), .val (.long (Int64.ofNat (min va (min vb vc)))), .second, .val (.long (Int64.ofNat (max va (max vb vc)))), .second, .val (.long (Int64.ofNat v)), .second, .val (.long (Int64.ofNat v)), .second, .val (.long (Int64.ofNat rf1)), .second] [(.long (Int64.ofNat rf1))])) (fun X t q => XS.lload X.here C.hx rfl (hb C.hby at_241) rfl q) ?_
          refine Wk.st (g' := (mkF m 245 #[.val (.long i0), .second, .val (.long i1), .second, .val (.long i2), .second, .val (.int i3), .val (.int i4), .val (.long (Int64.ofNat va)), .second, .val (.long (Int64.ofNat vb)), .second, .val (.long (Int64.ofNat vc)), .second, .val (.ref b2), .val (.int (2 : Int32)), .val (.long (Int64.ofNat (min va (min vb vc)))), .second, .val (.long (Int64.ofNat (max va (max vb vc)))), .second, .val (.long (Int64.ofNat v)), .second, .val (.long (Int64.ofNat v)), .second, .val (.long (Int64.ofNat rf1)), .second] [(.long (Int64.ofNat vb)), (.long (Int64.ofNat rf1))])) (fun X t q => XS.lload X.here C.hx rfl (hb C.hby at_243) rfl q) ?_
          refine Wk.callS C (z := (⟨"java/lang/Math", "max", "(JJ)J"⟩ : MethodName)) (hw _ (List.mem_of_getElem? (i := 47) rfl)) (hw _ (List.mem_of_getElem? (i := 48) rfl)) (hw _ (List.mem_of_getElem? (i := 34) rfl)) (hw _ (List.mem_of_getElem? (i := 49) rfl)) (by decide) (own_maxJ l Z a0 hw n0 h34 rf1 vb (by omega) (by omega)) (w := 0) (by decide) (by decide) pd_1 rfl (rest := []) rfl rfl (Nat.le_of_eq rfl) (by decide) (by decide) at_245 ?_
          rintro _ _ ⟨rfl, rfl⟩
          show Wk _ p l e _ s m _ below meth c n0 _ h34 6 885 (mkF m 248 #[.val (.long i0), .second, .val (.long i1), .second, .val (.long i2), .second, .val (.int i3), .val (.int i4), .val (.long (Int64.ofNat va)), .second, .val (.long (Int64.ofNat vb)), .second, .val (.long (Int64.ofNat vc)), .second, .val (.ref b2), .val (.int (2 : Int32)), .val (.long (Int64.ofNat (min va (min vb vc)))), .second, .val (.long (Int64.ofNat (max va (max vb vc)))), .second, .val (.long (Int64.ofNat v)), .second, .val (.long (Int64.ofNat v)), .second, .val (.long (Int64.ofNat rf1)), .second] [(.long (Int64.ofNat (max rf1 vb)))])
          refine Wk.st (g' := (mkF m 250 #[.val (.long i0), .second, .val (.long i1), .second, .val (.long i2), .second, .val (.int i3), .val (.int i4), .val (.long (Int64.ofNat va)), .second, .val (.long (Int64.ofNat vb)), .second, .val (.long (Int64.ofNat vc)), .second, .val (.ref b2), .val (.int (2 : Int32)), .val (.long (Int64.ofNat (min va (min vb vc)))), .second, .val (.long (Int64.ofNat (max va (max vb vc)))), .second, .val (.long (Int64.ofNat v)), .second, .val (.long (Int64.ofNat v)), .second, .val (.long (Int64.ofNat (max rf1 vb))), .second] [])) (fun X t q => XS.lstore X.here C.hx rfl (hb C.hby at_248) rfl (l' := #[.val (.long i0), .second, .val (.long i1), .second, .val (.long i2), .second, .val (.int i3), .val (.int i4), .val (.long (Int64.ofNat va)), .second, .val (.long (Int64.ofNat vb)), .second, .val (.long (Int64.ofNat vc)), .second, .val (.ref b2), .val (.int (2 : Int32)), .val (.long (Int64.ofNat (min va (min vb vc)))), .second, .val (.long (Int64.ofNat (max va (max vb vc)))), .second, .val (.long (Int64.ofNat v)), .second, .val (.long (Int64.ofNat v)), .second, .val (.long (Int64.ofNat (max rf1 vb))), .second]) rfl q) ?_
          exact k250 (max rf1 vb) (by omega) (if_pos hq238).symm
        · skip
          rw [show (if Ky vb = Ky v then (1 : Int32) else (0 : Int32)) = (0 : Int32) from if_neg hq238]
          show Wk _ p l e _ s m _ below meth c n0 _ h34 6 885 (mkF m 238 #[.val (.long i0), .second, .val (.long i1), .second, .val (.long i2), .second, .val (.int i3), .val (.int i4), .val (.long (Int64.ofNat va)), .second, .val (.long (Int64.ofNat vb)), .second, .val (.long (Int64.ofNat vc)), .second, .val (.ref b2), .val (.int (2 : Int32)), .val (.long (Int64.ofNat (min va (min vb vc)))), .second, .val (.long (Int64.ofNat (max va (max vb vc)))), .second, .val (.long (Int64.ofNat v)), .second, .val (.long (Int64.ofNat v)), .second, .val (.long (Int64.ofNat rf1)), .second] [(.int (0 : Int32))])
          refine Wk.st (g' := (mkF m 250 #[.val (.long i0), .second, .val (.long i1), .second, .val (.long i2), .second, .val (.int i3), .val (.int i4), .val (.long (Int64.ofNat va)), .second, .val (.long (Int64.ofNat vb)), .second, .val (.long (Int64.ofNat vc)), .second, .val (.ref b2), .val (.int (2 : Int32)), .val (.long (Int64.ofNat (min va (min vb vc)))), .second, .val (.long (Int64.ofNat (max va (max vb vc)))), .second, .val (.long (Int64.ofNat v)), .second, .val (.long (Int64.ofNat v)), .second, .val (.long (Int64.ofNat rf1)), .second] [])) (fun X t q => XS.ifYes X.here C.hx rfl (pc0 := 238) (pc' := 250) rfl (hb C.hby at_238) rfl (XT.i0_eq_t (by decide)) (by decide) (by decide) q) ?_
          exact k250 rf1 (by omega) (if_neg hq238).symm
      by_cases hq219 : Ky va = Ky v
      · skip
        rw [show (if Ky va = Ky v then (1 : Int32) else (0 : Int32)) = (1 : Int32) from if_pos hq219]
        show Wk _ p l e _ s m _ below meth c n0 _ h34 6 885 (mkF m 219 #[.val (.long i0), .second, .val (.long i1), .second, .val (.long i2), .second, .val (.int i3), .val (.int i4), .val (.long (Int64.ofNat va)), .second, .val (.long (Int64.ofNat vb)), .second, .val (.long (Int64.ofNat vc)), .second, .val (.ref b2), .val (.int (2 : Int32)), .val (.long (Int64.ofNat (min va (min vb vc)))), .second, .val (.long (Int64.ofNat (max va (max vb vc)))), .second, .val (.long (Int64.ofNat v)), .second, .val (.long (Int64.ofNat v)), .second, .val (.long (Int64.ofNat v)), .second] [(.int (1 : Int32))])
        refine Wk.st (g' := (mkF m 222 #[.val (.long i0), .second, .val (.long i1), .second, .val (.long i2), .second, .val (.int i3), .val (.int i4), .val (.long (Int64.ofNat va)), .second, .val (.long (Int64.ofNat vb)), .second, .val (.long (Int64.ofNat vc)), .second, .val (.ref b2), .val (.int (2 : Int32)), .val (.long (Int64.ofNat (min va (min vb vc)))), .second, .val (.long (Int64.ofNat (max va (max vb vc)))), .second, .val (.long (Int64.ofNat v)), .second, .val (.long (Int64.ofNat v)), .second, .val (.long (Int64.ofNat v)), .second] [])) (fun X t q => XS.ifNo X.here C.hx rfl (hb C.hby at_219) rfl (XT.i0_eq_f (by decide)) q) ?_
        refine Wk.st (g' := (mkF m 224 #[.val (.long i0), .second, .val (.long i1), .second, .val (.long i2), .second, .val (.int i3), .val (.int i4), .val (.long (Int64.ofNat va)), .second, .val (.long (Int64.ofNat vb)), .second, .val (.long (Int64.ofNat vc)), .second, .val (.ref b2), .val (.int (2 : Int32)), .val (.long (Int64.ofNat (min va (min vb vc)))), .second, .val (.long (Int64.ofNat (max va (max vb vc)))), .second, .val (.long (Int64.ofNat v)), .second, .val (.long (Int64.ofNat v)), .second, .val (.long (Int64.ofNat v)), .second] [(.long (Int64.ofNat v))])) (fun X t q => XS.lload X.here C.hx rfl (hb C.hby at_222) rfl q) ?_
        refine Wk.st (g' := (mkF m 226 #[.val (.long i0), .second, .val (.long i1), .second, .val (.long i2), .second, .val (.int i3), .val (.int i4), .val (.long (Int64.ofNat va)), .second, .val (.long (Int64.ofNat vb)), .second, .val (.long (Int64.ofNat vc)), .second, .val (.ref b2), .val (.int (2 : Int32)), .val (.long (Int64.ofNat (min va (min vb vc)))), .second, .val (.long (Int64.ofNat (max va (max vb vc)))), .second, .val (.long (Int64.ofNat v)), .second, .val (.long (Int64.ofNat v)), .second, .val (.long (Int64.ofNat v)), .second] [(.long (Int64.ofNat va)), (.long (Int64.ofNat v))])) (fun X t q => XS.lload X.here C.hx rfl (hb C.hby at_224) rfl q) ?_
        refine Wk.callS C (z := (⟨"java/lang/Math", "max", "(JJ)J"⟩ : MethodName)) (hw _ (List.mem_of_getElem? (i := 47) rfl)) (hw _ (List.mem_of_getElem? (i := 48) rfl)) (hw _ (List.mem_of_getElem? (i := 34) rfl)) (hw _ (List.mem_of_getElem? (i := 49) rfl)) (by decide) (own_maxJ l Z a0 hw n0 h34 v va (by omega) (by omega)) (w := 0) (by decide) (by decide) pd_1 rfl (rest := []) rfl rfl (Nat.le_of_eq rfl) (by decide) (by decide) at_226 ?_
        rintro _ _ ⟨rfl, rfl⟩
        show Wk _ p l e _ s m _ below meth c n0 _ h34 6 885 (mkF m 229 #[.val (.long i0), .second, .val (.long i1), .second, .val (.long i2), .second, .val (.int i3), .val (.int i4), .val (.long (Int64.ofNat va)), .second, .val (.long (Int64.ofNat vb)), .second, .val (.long (Int64.ofNat vc)), .second, .val (.ref b2), .val (.int (2 : Int32)), .val (.long (Int64.ofNat (min va (min vb vc)))), .second, .val (.long (Int64.ofNat (max va (max vb vc)))), .second, .val (.long (Int64.ofNat v)), .second, .val (.long (Int64.ofNat v)), .second, .val (.long (Int64.ofNat v)), .second] [(.long (Int64.ofNat (max v va)))])
        refine Wk.st (g' := (mkF m 231 #[.val (.long i0), .second, .val (.long i1), .second, .val (.long i2), .second, .val (.int i3), .val (.int i4), .val (.long (Int64.ofNat va)), .second, .val (.long (Int64.ofNat vb)), .second, .val (.long (Int64.ofNat vc)), .second, .val (.ref b2), .val (.int (2 : Int32)), .val (.long (Int64.ofNat (min va (min vb vc)))), .second, .val (.long (Int64.ofNat (max va (max vb vc)))), .second, .val (.long (Int64.ofNat v)), .second, .val (.long (Int64.ofNat v)), .second, .val (.long (Int64.ofNat (max v va))), .second] [])) (fun X t q => XS.lstore X.here C.hx rfl (hb C.hby at_229) rfl (l' := #[.val (.long i0), .second, .val (.long i1), .second, .val (.long i2), .second, .val (.int i3), .val (.int i4), .val (.long (Int64.ofNat va)), .second, .val (.long (Int64.ofNat vb)), .second, .val (.long (Int64.ofNat vc)), .second, .val (.ref b2), .val (.int (2 : Int32)), .val (.long (Int64.ofNat (min va (min vb vc)))), .second, .val (.long (Int64.ofNat (max va (max vb vc)))), .second, .val (.long (Int64.ofNat v)), .second, .val (.long (Int64.ofNat v)), .second, .val (.long (Int64.ofNat (max v va))), .second]) rfl q) ?_
        exact k231 (max v va) (by omega) (if_pos hq219).symm
      · skip
        rw [show (if Ky va = Ky v then (1 : Int32) else (0 : Int32)) = (0 : Int32) from if_neg hq219]
        show Wk _ p l e _ s m _ below meth c n0 _ h34 6 885 (mkF m 219 #[.val (.long i0), .second, .val (.long i1), .second, .val (.long i2), .second, .val (.int i3), .val (.int i4), .val (.long (Int64.ofNat va)), .second, .val (.long (Int64.ofNat vb)), .second, .val (.long (Int64.ofNat vc)), .second, .val (.ref b2), .val (.int (2 : Int32)), .val (.long (Int64.ofNat (min va (min vb vc)))), .second, .val (.long (Int64.ofNat (max va (max vb vc)))), .second, .val (.long (Int64.ofNat v)), .second, .val (.long (Int64.ofNat v)), .second, .val (.long (Int64.ofNat v)), .second] [(.int (0 : Int32))])
        refine Wk.st (g' := (mkF m 231 #[.val (.long i0), .second, .val (.long i1), .second, .val (.long i2), .second, .val (.int i3), .val (.int i4), .val (.long (Int64.ofNat va)), .second, .val (.long (Int64.ofNat vb)), .second, .val (.long (Int64.ofNat vc)), .second, .val (.ref b2), .val (.int (2 : Int32)), .val (.long (Int64.ofNat (min va (min vb vc)))), .second, .val (.long (Int64.ofNat (max va (max vb vc)))), .second, .val (.long (Int64.ofNat v)), .second, .val (.long (Int64.ofNat v)), .second, .val (.long (Int64.ofNat v)), .second] [])) (fun X t q => XS.ifYes X.here C.hx rfl (pc0 := 219) (pc' := 231) rfl (hb C.hby at_219) rfl (XT.i0_eq_t (by decide)) (by decide) (by decide) q) ?_
        exact k231 v (by omega) (if_neg hq219).symm
    · skip
      rw [show (((i4 &&& (2147483647 : Int32)) % (3 : Int32)) + (1 : Int32)) = (3 : Int32) from hq]
      show Wk _ p l e _ s m _ below meth c n0 _ h34 6 885 (mkF m 130 #[.val (.long i0), .second, .val (.long i1), .second, .val (.long i2), .second, .val (.int i3), .val (.int i4), .val (.long (Int64.ofNat va)), .second, .val (.long (Int64.ofNat vb)), .second, .val (.long (Int64.ofNat vc)), .second, .val (.ref b2), .val (.int (3 : Int32)), .unset, .unset, .unset, .unset, .unset, .unset, .unset, .unset, .unset, .unset] [])
      refine Wk.st (g' := (mkF m 132 #[.val (.long i0), .second, .val (.long i1), .second, .val (.long i2), .second, .val (.int i3), .val (.int i4), .val (.long (Int64.ofNat va)), .second, .val (.long (Int64.ofNat vb)), .second, .val (.long (Int64.ofNat vc)), .second, .val (.ref b2), .val (.int (3 : Int32)), .unset, .unset, .unset, .unset, .unset, .unset, .unset, .unset, .unset, .unset] [(.long (Int64.ofNat va))])) (fun X t q => XS.lload X.here C.hx rfl (hb C.hby at_130) rfl q) ?_
      refine Wk.st (g' := (mkF m 134 #[.val (.long i0), .second, .val (.long i1), .second, .val (.long i2), .second, .val (.int i3), .val (.int i4), .val (.long (Int64.ofNat va)), .second, .val (.long (Int64.ofNat vb)), .second, .val (.long (Int64.ofNat vc)), .second, .val (.ref b2), .val (.int (3 : Int32)), .unset, .unset, .unset, .unset, .unset, .unset, .unset, .unset, .unset, .unset] [(.long (Int64.ofNat vb)), (.long (Int64.ofNat va))])) (fun X t q => XS.lload X.here C.hx rfl (hb C.hby at_132) rfl q) ?_
      refine Wk.st (g' := (mkF m 136 #[.val (.long i0), .second, .val (.long i1), .second, .val (.long i2), .second, .val (.int i3), .val (.int i4), .val (.long (Int64.ofNat va)), .second, .val (.long (Int64.ofNat vb)), .second, .val (.long (Int64.ofNat vc)), .second, .val (.ref b2), .val (.int (3 : Int32)), .unset, .unset, .unset, .unset, .unset, .unset, .unset, .unset, .unset, .unset] [(.long (Int64.ofNat vc)), (.long (Int64.ofNat vb)), (.long (Int64.ofNat va))])) (fun X t q => XS.lload X.here C.hx rfl (hb C.hby at_134) rfl q) ?_
      refine Wk.callS C (z := (⟨"java/lang/Math", "min", "(JJ)J"⟩ : MethodName)) (hw _ (List.mem_of_getElem? (i := 44) rfl)) (hw _ (List.mem_of_getElem? (i := 45) rfl)) (hw _ (List.mem_of_getElem? (i := 34) rfl)) (hw _ (List.mem_of_getElem? (i := 46) rfl)) (by decide) (own_minJ l Z a0 hw n0 h34 vb vc (by omega) (by omega)) (w := 2) (by decide) (by decide) pd_1 rfl (rest := [(.long (Int64.ofNat va))]) rfl rfl (Nat.le_of_eq rfl) (by decide) (by decide) at_136 ?_
      rintro _ _ ⟨rfl, rfl⟩
      show Wk _ p l e _ s m _ below meth c n0 _ h34 6 885 (mkF m 139 #[.val (.long i0), .second, .val (.long i1), .second, .val (.long i2), .second, .val (.int i3), .val (.int i4), .val (.long (Int64.ofNat va)), .second, .val (.long (Int64.ofNat vb)), .second, .val (.long (Int64.ofNat vc)), .second, .val (.ref b2), .val (.int (3 : Int32)), .unset, .unset, .unset, .unset, .unset, .unset, .unset, .unset, .unset, .unset] [(.long (Int64.ofNat (min vb vc))), (.long (Int64.ofNat va))])
      refine Wk.callS C (z := (⟨"java/lang/Math", "min", "(JJ)J"⟩ : MethodName)) (hw _ (List.mem_of_getElem? (i := 44) rfl)) (hw _ (List.mem_of_getElem? (i := 45) rfl)) (hw _ (List.mem_of_getElem? (i := 34) rfl)) (hw _ (List.mem_of_getElem? (i := 46) rfl)) (by decide) (own_minJ l Z a0 hw n0 h34 va (min vb vc) (by omega) (by omega)) (w := 0) (by decide) (by decide) pd_1 rfl (rest := []) rfl rfl (Nat.le_of_eq rfl) (by decide) (by decide) at_139 ?_
      rintro _ _ ⟨rfl, rfl⟩
      show Wk _ p l e _ s m _ below meth c n0 _ h34 6 885 (mkF m 142 #[.val (.long i0), .second, .val (.long i1), .second, .val (.long i2), .second, .val (.int i3), .val (.int i4), .val (.long (Int64.ofNat va)), .second, .val (.long (Int64.ofNat vb)), .second, .val (.long (Int64.ofNat vc)), .second, .val (.ref b2), .val (.int (3 : Int32)), .unset, .unset, .unset, .unset, .unset, .unset, .unset, .unset, .unset, .unset] [(.long (Int64.ofNat (min va (min vb vc))))])
      refine Wk.st (g' := (mkF m 144 #[.val (.long i0), .second, .val (.long i1), .second, .val (.long i2), .second, .val (.int i3), .val (.int i4), .val (.long (Int64.ofNat va)), .second, .val (.long (Int64.ofNat vb)), .second, .val (.long (Int64.ofNat vc)), .second, .val (.ref b2), .val (.int (3 : Int32)), .val (.long (Int64.ofNat (min va (min vb vc)))), .second, .unset, .unset, .unset, .unset, .unset, .unset, .unset, .unset] [])) (fun X t q => XS.lstore X.here C.hx rfl (hb C.hby at_142) rfl (l' := #[.val (.long i0), .second, .val (.long i1), .second, .val (.long i2), .second, .val (.int i3), .val (.int i4), .val (.long (Int64.ofNat va)), .second, .val (.long (Int64.ofNat vb)), .second, .val (.long (Int64.ofNat vc)), .second, .val (.ref b2), .val (.int (3 : Int32)), .val (.long (Int64.ofNat (min va (min vb vc)))), .second, .unset, .unset, .unset, .unset, .unset, .unset, .unset, .unset]) rfl q) ?_
      refine Wk.st (g' := (mkF m 146 #[.val (.long i0), .second, .val (.long i1), .second, .val (.long i2), .second, .val (.int i3), .val (.int i4), .val (.long (Int64.ofNat va)), .second, .val (.long (Int64.ofNat vb)), .second, .val (.long (Int64.ofNat vc)), .second, .val (.ref b2), .val (.int (3 : Int32)), .val (.long (Int64.ofNat (min va (min vb vc)))), .second, .unset, .unset, .unset, .unset, .unset, .unset, .unset, .unset] [(.long (Int64.ofNat va))])) (fun X t q => XS.lload X.here C.hx rfl (hb C.hby at_144) rfl q) ?_
      refine Wk.st (g' := (mkF m 148 #[.val (.long i0), .second, .val (.long i1), .second, .val (.long i2), .second, .val (.int i3), .val (.int i4), .val (.long (Int64.ofNat va)), .second, .val (.long (Int64.ofNat vb)), .second, .val (.long (Int64.ofNat vc)), .second, .val (.ref b2), .val (.int (3 : Int32)), .val (.long (Int64.ofNat (min va (min vb vc)))), .second, .unset, .unset, .unset, .unset, .unset, .unset, .unset, .unset] [(.long (Int64.ofNat vb)), (.long (Int64.ofNat va))])) (fun X t q => XS.lload X.here C.hx rfl (hb C.hby at_146) rfl q) ?_
      refine Wk.st (g' := (mkF m 150 #[.val (.long i0), .second, .val (.long i1), .second, .val (.long i2), .second, .val (.int i3), .val (.int i4), .val (.long (Int64.ofNat va)), .second, .val (.long (Int64.ofNat vb)), .second, .val (.long (Int64.ofNat vc)), .second, .val (.ref b2), .val (.int (3 : Int32)), .val (.long (Int64.ofNat (min va (min vb vc)))), .second, .unset, .unset, .unset, .unset, .unset, .unset, .unset, .unset] [(.long (Int64.ofNat vc)), (.long (Int64.ofNat vb)), (.long (Int64.ofNat va))])) (fun X t q => XS.lload X.here C.hx rfl (hb C.hby at_148) rfl q) ?_
      refine Wk.callS C (z := (⟨"java/lang/Math", "max", "(JJ)J"⟩ : MethodName)) (hw _ (List.mem_of_getElem? (i := 47) rfl)) (hw _ (List.mem_of_getElem? (i := 48) rfl)) (hw _ (List.mem_of_getElem? (i := 34) rfl)) (hw _ (List.mem_of_getElem? (i := 49) rfl)) (by decide) (own_maxJ l Z a0 hw n0 h34 vb vc (by omega) (by omega)) (w := 2) (by decide) (by decide) pd_1 rfl (rest := [(.long (Int64.ofNat va))]) rfl rfl (Nat.le_of_eq rfl) (by decide) (by decide) at_150 ?_
      rintro _ _ ⟨rfl, rfl⟩
      show Wk _ p l e _ s m _ below meth c n0 _ h34 6 885 (mkF m 153 #[.val (.long i0), .second, .val (.long i1), .second, .val (.long i2), .second, .val (.int i3), .val (.int i4), .val (.long (Int64.ofNat va)), .second, .val (.long (Int64.ofNat vb)), .second, .val (.long (Int64.ofNat vc)), .second, .val (.ref b2), .val (.int (3 : Int32)), .val (.long (Int64.ofNat (min va (min vb vc)))), .second, .unset, .unset, .unset, .unset, .unset, .unset, .unset, .unset] [(.long (Int64.ofNat (max vb vc))), (.long (Int64.ofNat va))])
      refine Wk.callS C (z := (⟨"java/lang/Math", "max", "(JJ)J"⟩ : MethodName)) (hw _ (List.mem_of_getElem? (i := 47) rfl)) (hw _ (List.mem_of_getElem? (i := 48) rfl)) (hw _ (List.mem_of_getElem? (i := 34) rfl)) (hw _ (List.mem_of_getElem? (i := 49) rfl)) (by decide) (own_maxJ l Z a0 hw n0 h34 va (max vb vc) (by omega) (by omega)) (w := 0) (by decide) (by decide) pd_1 rfl (rest := []) rfl rfl (Nat.le_of_eq rfl) (by decide) (by decide) at_153 ?_
      rintro _ _ ⟨rfl, rfl⟩
      show Wk _ p l e _ s m _ below meth c n0 _ h34 6 885 (mkF m 156 #[.val (.long i0), .second, .val (.long i1), .second, .val (.long i2), .second, .val (.int i3), .val (.int i4), .val (.long (Int64.ofNat va)), .second, .val (.long (Int64.ofNat vb)), .second, .val (.long (Int64.ofNat vc)), .second, .val (.ref b2), .val (.int (3 : Int32)), .val (.long (Int64.ofNat (min va (min vb vc)))), .second, .unset, .unset, .unset, .unset, .unset, .unset, .unset, .unset] [(.long (Int64.ofNat (max va (max vb vc))))])
      refine Wk.st (g' := (mkF m 158 #[.val (.long i0), .second, .val (.long i1), .second, .val (.long i2), .second, .val (.int i3), .val (.int i4), .val (.long (Int64.ofNat va)), .second, .val (.long (Int64.ofNat vb)), .second, .val (.long (Int64.ofNat vc)), .second, .val (.ref b2), .val (.int (3 : Int32)), .val (.long (Int64.ofNat (min va (min vb vc)))), .second, .val (.long (Int64.ofNat (max va (max vb vc)))), .second, .unset, .unset, .unset, .unset, .unset, .unset] [])) (fun X t q => XS.lstore X.here C.hx rfl (hb C.hby at_156) rfl (l' := #[.val (.long i0), .second, .val (.long i1), .second, .val (.long i2), .second, .val (.int i3), .val (.int i4), .val (.long (Int64.ofNat va)), .second, .val (.long (Int64.ofNat vb)), .second, .val (.long (Int64.ofNat vc)), .second, .val (.ref b2), .val (.int (3 : Int32)), .val (.long (Int64.ofNat (min va (min vb vc)))), .second, .val (.long (Int64.ofNat (max va (max vb vc)))), .second, .unset, .unset, .unset, .unset, .unset, .unset]) rfl q) ?_
      refine Wk.st (g' := (mkF m 160 #[.val (.long i0), .second, .val (.long i1), .second, .val (.long i2), .second, .val (.int i3), .val (.int i4), .val (.long (Int64.ofNat va)), .second, .val (.long (Int64.ofNat vb)), .second, .val (.long (Int64.ofNat vc)), .second, .val (.ref b2), .val (.int (3 : Int32)), .val (.long (Int64.ofNat (min va (min vb vc)))), .second, .val (.long (Int64.ofNat (max va (max vb vc)))), .second, .unset, .unset, .unset, .unset, .unset, .unset] [(.long (Int64.ofNat va))])) (fun X t q => XS.lload X.here C.hx rfl (hb C.hby at_158) rfl q) ?_
      refine Wk.st (g' := (mkF m 162 #[.val (.long i0), .second, .val (.long i1), .second, .val (.long i2), .second, .val (.int i3), .val (.int i4), .val (.long (Int64.ofNat va)), .second, .val (.long (Int64.ofNat vb)), .second, .val (.long (Int64.ofNat vc)), .second, .val (.ref b2), .val (.int (3 : Int32)), .val (.long (Int64.ofNat (min va (min vb vc)))), .second, .val (.long (Int64.ofNat (max va (max vb vc)))), .second, .unset, .unset, .unset, .unset, .unset, .unset] [(.long (Int64.ofNat vb)), (.long (Int64.ofNat va))])) (fun X t q => XS.lload X.here C.hx rfl (hb C.hby at_160) rfl q) ?_
      refine Wk.callS C (z := (⟨"java/lang/Math", "min", "(JJ)J"⟩ : MethodName)) (hw _ (List.mem_of_getElem? (i := 44) rfl)) (hw _ (List.mem_of_getElem? (i := 45) rfl)) (hw _ (List.mem_of_getElem? (i := 34) rfl)) (hw _ (List.mem_of_getElem? (i := 46) rfl)) (by decide) (own_minJ l Z a0 hw n0 h34 va vb (by omega) (by omega)) (w := 0) (by decide) (by decide) pd_1 rfl (rest := []) rfl rfl (Nat.le_of_eq rfl) (by decide) (by decide) at_162 ?_
      rintro _ _ ⟨rfl, rfl⟩
      show Wk _ p l e _ s m _ below meth c n0 _ h34 6 885 (mkF m 165 #[.val (.long i0), .second, .val (.long i1), .second, .val (.long i2), .second, .val (.int i3), .val (.int i4), .val (.long (Int64.ofNat va)), .second, .val (.long (Int64.ofNat vb)), .second, .val (.long (Int64.ofNat vc)), .second, .val (.ref b2), .val (.int (3 : Int32)), .val (.long (Int64.ofNat (min va (min vb vc)))), .second, .val (.long (Int64.ofNat (max va (max vb vc)))), .second, .unset, .unset, .unset, .unset, .unset, .unset] [(.long (Int64.ofNat (min va vb)))])
      refine Wk.st (g' := (mkF m 167 #[.val (.long i0), .second, .val (.long i1), .second, .val (.long i2), .second, .val (.int i3), .val (.int i4), .val (.long (Int64.ofNat va)), .second, .val (.long (Int64.ofNat vb)), .second, .val (.long (Int64.ofNat vc)), .second, .val (.ref b2), .val (.int (3 : Int32)), .val (.long (Int64.ofNat (min va (min vb vc)))), .second, .val (.long (Int64.ofNat (max va (max vb vc)))), .second, .unset, .unset, .unset, .unset, .unset, .unset] [(.long (Int64.ofNat va)), (.long (Int64.ofNat (min va vb)))])) (fun X t q => XS.lload X.here C.hx rfl (hb C.hby at_165) rfl q) ?_
      refine Wk.st (g' := (mkF m 169 #[.val (.long i0), .second, .val (.long i1), .second, .val (.long i2), .second, .val (.int i3), .val (.int i4), .val (.long (Int64.ofNat va)), .second, .val (.long (Int64.ofNat vb)), .second, .val (.long (Int64.ofNat vc)), .second, .val (.ref b2), .val (.int (3 : Int32)), .val (.long (Int64.ofNat (min va (min vb vc)))), .second, .val (.long (Int64.ofNat (max va (max vb vc)))), .second, .unset, .unset, .unset, .unset, .unset, .unset] [(.long (Int64.ofNat vb)), (.long (Int64.ofNat va)), (.long (Int64.ofNat (min va vb)))])) (fun X t q => XS.lload X.here C.hx rfl (hb C.hby at_167) rfl q) ?_
      refine Wk.callS C (z := (⟨"java/lang/Math", "max", "(JJ)J"⟩ : MethodName)) (hw _ (List.mem_of_getElem? (i := 47) rfl)) (hw _ (List.mem_of_getElem? (i := 48) rfl)) (hw _ (List.mem_of_getElem? (i := 34) rfl)) (hw _ (List.mem_of_getElem? (i := 49) rfl)) (by decide) (own_maxJ l Z a0 hw n0 h34 va vb (by omega) (by omega)) (w := 2) (by decide) (by decide) pd_1 rfl (rest := [(.long (Int64.ofNat (min va vb)))]) rfl rfl (Nat.le_of_eq rfl) (by decide) (by decide) at_169 ?_
      rintro _ _ ⟨rfl, rfl⟩
      show Wk _ p l e _ s m _ below meth c n0 _ h34 6 885 (mkF m 172 #[.val (.long i0), .second, .val (.long i1), .second, .val (.long i2), .second, .val (.int i3), .val (.int i4), .val (.long (Int64.ofNat va)), .second, .val (.long (Int64.ofNat vb)), .second, .val (.long (Int64.ofNat vc)), .second, .val (.ref b2), .val (.int (3 : Int32)), .val (.long (Int64.ofNat (min va (min vb vc)))), .second, .val (.long (Int64.ofNat (max va (max vb vc)))), .second, .unset, .unset, .unset, .unset, .unset, .unset] [(.long (Int64.ofNat (max va vb))), (.long (Int64.ofNat (min va vb)))])
      refine Wk.st (g' := (mkF m 174 #[.val (.long i0), .second, .val (.long i1), .second, .val (.long i2), .second, .val (.int i3), .val (.int i4), .val (.long (Int64.ofNat va)), .second, .val (.long (Int64.ofNat vb)), .second, .val (.long (Int64.ofNat vc)), .second, .val (.ref b2), .val (.int (3 : Int32)), .val (.long (Int64.ofNat (min va (min vb vc)))), .second, .val (.long (Int64.ofNat (max va (max vb vc)))), .second, .unset, .unset, .unset, .unset, .unset, .unset] [(.long (Int64.ofNat vc)), (.long (Int64.ofNat (max va vb))), (.long (Int64.ofNat (min va vb)))])) (fun X t q => XS.lload X.here C.hx rfl (hb C.hby at_172) rfl q) ?_
      refine Wk.callS C (z := (⟨"java/lang/Math", "min", "(JJ)J"⟩ : MethodName)) (hw _ (List.mem_of_getElem? (i := 44) rfl)) (hw _ (List.mem_of_getElem? (i := 45) rfl)) (hw _ (List.mem_of_getElem? (i := 34) rfl)) (hw _ (List.mem_of_getElem? (i := 46) rfl)) (by decide) (own_minJ l Z a0 hw n0 h34 (max va vb) vc (by omega) (by omega)) (w := 2) (by decide) (by decide) pd_1 rfl (rest := [(.long (Int64.ofNat (min va vb)))]) rfl rfl (Nat.le_of_eq rfl) (by decide) (by decide) at_174 ?_
      rintro _ _ ⟨rfl, rfl⟩
      show Wk _ p l e _ s m _ below meth c n0 _ h34 6 885 (mkF m 177 #[.val (.long i0), .second, .val (.long i1), .second, .val (.long i2), .second, .val (.int i3), .val (.int i4), .val (.long (Int64.ofNat va)), .second, .val (.long (Int64.ofNat vb)), .second, .val (.long (Int64.ofNat vc)), .second, .val (.ref b2), .val (.int (3 : Int32)), .val (.long (Int64.ofNat (min va (min vb vc)))), .second, .val (.long (Int64.ofNat (max va (max vb vc)))), .second, .unset, .unset, .unset, .unset, .unset, .unset] [(.long (Int64.ofNat (min (max va vb) vc))), (.long (Int64.ofNat (min va vb)))])
      refine Wk.callS C (z := (⟨"java/lang/Math", "max", "(JJ)J"⟩ : MethodName)) (hw _ (List.mem_of_getElem? (i := 47) rfl)) (hw _ (List.mem_of_getElem? (i := 48) rfl)) (hw _ (List.mem_of_getElem? (i := 34) rfl)) (hw _ (List.mem_of_getElem? (i := 49) rfl)) (by decide) (own_maxJ l Z a0 hw n0 h34 (min va vb) (min (max va vb) vc) (by omega) (by omega)) (w := 0) (by decide) (by decide) pd_1 rfl (rest := []) rfl rfl (Nat.le_of_eq rfl) (by decide) (by decide) at_177 ?_
      rintro _ _ ⟨rfl, rfl⟩
      show Wk _ p l e _ s m _ below meth c n0 _ h34 6 885 (mkF m 180 #[.val (.long i0), .second, .val (.long i1), .second, .val (.long i2), .second, .val (.int i3), .val (.int i4), .val (.long (Int64.ofNat va)), .second, .val (.long (Int64.ofNat vb)), .second, .val (.long (Int64.ofNat vc)), .second, .val (.ref b2), .val (.int (3 : Int32)), .val (.long (Int64.ofNat (min va (min vb vc)))), .second, .val (.long (Int64.ofNat (max va (max vb vc)))), .second, .unset, .unset, .unset, .unset, .unset, .unset] [(.long (Int64.ofNat (max (min va vb) (min (max va vb) vc))))])
      refine Wk.st (g' := (mkF m 182 #[.val (.long i0), .second, .val (.long i1), .second, .val (.long i2), .second, .val (.int i3), .val (.int i4), .val (.long (Int64.ofNat va)), .second, .val (.long (Int64.ofNat vb)), .second, .val (.long (Int64.ofNat vc)), .second, .val (.ref b2), .val (.int (3 : Int32)), .val (.long (Int64.ofNat (min va (min vb vc)))), .second, .val (.long (Int64.ofNat (max va (max vb vc)))), .second, .val (.long (Int64.ofNat (max (min va vb) (min (max va vb) vc)))), .second, .unset, .unset, .unset, .unset] [])) (fun X t q => XS.lstore X.here C.hx rfl (hb C.hby at_180) rfl (l' := #[.val (.long i0), .second, .val (.long i1), .second, .val (.long i2), .second, .val (.int i3), .val (.int i4), .val (.long (Int64.ofNat va)), .second, .val (.long (Int64.ofNat vb)), .second, .val (.long (Int64.ofNat vc)), .second, .val (.ref b2), .val (.int (3 : Int32)), .val (.long (Int64.ofNat (min va (min vb vc)))), .second, .val (.long (Int64.ofNat (max va (max vb vc)))), .second, .val (.long (Int64.ofNat (max (min va vb) (min (max va vb) vc)))), .second, .unset, .unset, .unset, .unset]) rfl q) ?_
      refine Wk.st (g' := (mkF m 184 #[.val (.long i0), .second, .val (.long i1), .second, .val (.long i2), .second, .val (.int i3), .val (.int i4), .val (.long (Int64.ofNat va)), .second, .val (.long (Int64.ofNat vb)), .second, .val (.long (Int64.ofNat vc)), .second, .val (.ref b2), .val (.int (3 : Int32)), .val (.long (Int64.ofNat (min va (min vb vc)))), .second, .val (.long (Int64.ofNat (max va (max vb vc)))), .second, .val (.long (Int64.ofNat (max (min va vb) (min (max va vb) vc)))), .second, .unset, .unset, .unset, .unset] [(.int (3 : Int32))])) (fun X t q => XS.iload X.here C.hx rfl (hb C.hby at_182) rfl q) ?_
      refine Wk.st (g' := (mkF m 185 #[.val (.long i0), .second, .val (.long i1), .second, .val (.long i2), .second, .val (.int i3), .val (.int i4), .val (.long (Int64.ofNat va)), .second, .val (.long (Int64.ofNat vb)), .second, .val (.long (Int64.ofNat vc)), .second, .val (.ref b2), .val (.int (3 : Int32)), .val (.long (Int64.ofNat (min va (min vb vc)))), .second, .val (.long (Int64.ofNat (max va (max vb vc)))), .second, .val (.long (Int64.ofNat (max (min va vb) (min (max va vb) vc)))), .second, .unset, .unset, .unset, .unset] [(.int (1 : Int32)), (.int (3 : Int32))])) (fun X t q => XS.iconst X.here C.hx rfl (hb C.hby at_184) q) ?_
      refine Wk.st (g' := (mkF m 193 #[.val (.long i0), .second, .val (.long i1), .second, .val (.long i2), .second, .val (.int i3), .val (.int i4), .val (.long (Int64.ofNat va)), .second, .val (.long (Int64.ofNat vb)), .second, .val (.long (Int64.ofNat vc)), .second, .val (.ref b2), .val (.int (3 : Int32)), .val (.long (Int64.ofNat (min va (min vb vc)))), .second, .val (.long (Int64.ofNat (max va (max vb vc)))), .second, .val (.long (Int64.ofNat (max (min va vb) (min (max va vb) vc)))), .second, .unset, .unset, .unset, .unset] [])) (fun X t q => XS.icmpYes X.here C.hx rfl (pc0 := 185) (pc' := 193) rfl (hb C.hby at_185) rfl (XT.ii_ne_t (by decide)) (by decide) (by decide) q) ?_
      refine Wk.st (g' := (mkF m 195 #[.val (.long i0), .second, .val (.long i1), .second, .val (.long i2), .second, .val (.int i3), .val (.int i4), .val (.long (Int64.ofNat va)), .second, .val (.long (Int64.ofNat vb)), .second, .val (.long (Int64.ofNat vc)), .second, .val (.ref b2), .val (.int (3 : Int32)), .val (.long (Int64.ofNat (min va (min vb vc)))), .second, .val (.long (Int64.ofNat (max va (max vb vc)))), .second, .val (.long (Int64.ofNat (max (min va vb) (min (max va vb) vc)))), .second, .unset, .unset, .unset, .unset] [(.int (3 : Int32))])) (fun X t q => XS.iload X.here C.hx rfl (hb C.hby at_193) rfl q) ?_
      refine Wk.st (g' := (mkF m 196 #[.val (.long i0), .second, .val (.long i1), .second, .val (.long i2), .second, .val (.int i3), .val (.int i4), .val (.long (Int64.ofNat va)), .second, .val (.long (Int64.ofNat vb)), .second, .val (.long (Int64.ofNat vc)), .second, .val (.ref b2), .val (.int (3 : Int32)), .val (.long (Int64.ofNat (min va (min vb vc)))), .second, .val (.long (Int64.ofNat (max va (max vb vc)))), .second, .val (.long (Int64.ofNat (max (min va vb) (min (max va vb) vc)))), .second, .unset, .unset, .unset, .unset] [(.int (2 : Int32)), (.int (3 : Int32))])) (fun X t q => XS.iconst X.here C.hx rfl (hb C.hby at_195) q) ?_
      refine Wk.st (g' := (mkF m 204 #[.val (.long i0), .second, .val (.long i1), .second, .val (.long i2), .second, .val (.int i3), .val (.int i4), .val (.long (Int64.ofNat va)), .second, .val (.long (Int64.ofNat vb)), .second, .val (.long (Int64.ofNat vc)), .second, .val (.ref b2), .val (.int (3 : Int32)), .val (.long (Int64.ofNat (min va (min vb vc)))), .second, .val (.long (Int64.ofNat (max va (max vb vc)))), .second, .val (.long (Int64.ofNat (max (min va vb) (min (max va vb) vc)))), .second, .unset, .unset, .unset, .unset] [])) (fun X t q => XS.icmpYes X.here C.hx rfl (pc0 := 196) (pc' := 204) rfl (hb C.hby at_196) rfl (XT.ii_ne_t (by decide)) (by decide) (by decide) q) ?_
      refine Wk.st (g' := (mkF m 206 #[.val (.long i0), .second, .val (.long i1), .second, .val (.long i2), .second, .val (.int i3), .val (.int i4), .val (.long (Int64.ofNat va)), .second, .val (.long (Int64.ofNat vb)), .second, .val (.long (Int64.ofNat vc)), .second, .val (.ref b2), .val (.int (3 : Int32)), .val (.long (Int64.ofNat (min va (min vb vc)))), .second, .val (.long (Int64.ofNat (max va (max vb vc)))), .second, .val (.long (Int64.ofNat (max (min va vb) (min (max va vb) vc)))), .second, .unset, .unset, .unset, .unset] [(.long (Int64.ofNat (max va (max vb vc))))])) (fun X t q => XS.lload X.here C.hx rfl (hb C.hby at_204) rfl q) ?_
      refine Wk.st (g' := (mkF m 208 #[.val (.long i0), .second, .val (.long i1), .second, .val (.long i2), .second, .val (.int i3), .val (.int i4), .val (.long (Int64.ofNat va)), .second, .val (.long (Int64.ofNat vb)), .second, .val (.long (Int64.ofNat vc)), .second, .val (.ref b2), .val (.int (3 : Int32)), .val (.long (Int64.ofNat (min va (min vb vc)))), .second, .val (.long (Int64.ofNat (max va (max vb vc)))), .second, .val (.long (Int64.ofNat (max (min va vb) (min (max va vb) vc)))), .second, .val (.long (Int64.ofNat (max va (max vb vc)))), .second, .unset, .unset] [])) (fun X t q => XS.lstore X.here C.hx rfl (hb C.hby at_206) rfl (l' := #[.val (.long i0), .second, .val (.long i1), .second, .val (.long i2), .second, .val (.int i3), .val (.int i4), .val (.long (Int64.ofNat va)), .second, .val (.long (Int64.ofNat vb)), .second, .val (.long (Int64.ofNat vc)), .second, .val (.ref b2), .val (.int (3 : Int32)), .val (.long (Int64.ofNat (min va (min vb vc)))), .second, .val (.long (Int64.ofNat (max va (max vb vc)))), .second, .val (.long (Int64.ofNat (max (min va vb) (min (max va vb) vc)))), .second, .val (.long (Int64.ofNat (max va (max vb vc)))), .second, .unset, .unset]) rfl q) ?_
      obtain ⟨v, ev⟩ : ∃ v, v = (max va (max vb vc)) := ⟨_, rfl⟩
      have hv : v < 9223372036854775808 := by omega
      rw [← ev]
      show Wk _ p l e _ s m _ below meth c n0 _ h34 6 885 (mkF m 208 #[.val (.long i0), .second, .val (.long i1), .second, .val (.long i2), .second, .val (.int i3), .val (.int i4), .val (.long (Int64.ofNat va)), .second, .val (.long (Int64.ofNat vb)), .second, .val (.long (Int64.ofNat vc)), .second, .val (.ref b2), .val (.int (3 : Int32)), .val (.long (Int64.ofNat (min va (min vb vc)))), .second, .val (.long (Int64.ofNat v)), .second, .val (.long (Int64.ofNat (max (min va vb) (min (max va vb) vc)))), .second, .val (.long (Int64.ofNat v)), .second, .unset, .unset] [])
      refine Wk.st (g' := (mkF m 210 #[.val (.long i0), .second, .val (.long i1), .second, .val (.long i2), .second, .val (.int i3), .val (.int i4), .val (.long (Int64.ofNat va)), .second, .val (.long (Int64.ofNat vb)), .second, .val (.long (Int64.ofNat vc)), .second, .val (.ref b2), .val (.int (3 : Int32)), .val (.long (Int64.ofNat (min va (min vb vc)))), .second, .val (.long (Int64.ofNat v)), .second, .val (.long (Int64.ofNat (max (min va vb) (min (max va vb) vc)))), .second, .val (.long (Int64.ofNat v)), .second, .unset, .unset] [(.long (Int64.ofNat v))])) (fun X t q => XS.lload X.here C.hx rfl (hb C.hby at_208) rfl q) ?_
      refine Wk.st (g' := (mkF m 212 #[.val (.long i0), .second, .val (.long i1), .second, .val (.long i2), .second, .val (.int i3), .val (.int i4), .val (.long (Int64.ofNat va)), .second, .val (.long (Int64.ofNat vb)), .second, .val (.long (Int64.ofNat vc)), .second, .val (.ref b2), .val (.int (3 : Int32)), .val (.long (Int64.ofNat (min va (min vb vc)))), .second, .val (.long (Int64.ofNat v)), .second, .val (.long (Int64.ofNat (max (min va vb) (min (max va vb) vc)))), .second, .val (.long (Int64.ofNat v)), .second, .val (.long (Int64.ofNat v)), .second] [])) (fun X t q => XS.lstore X.here C.hx rfl (hb C.hby at_210) rfl (l' := #[.val (.long i0), .second, .val (.long i1), .second, .val (.long i2), .second, .val (.int i3), .val (.int i4), .val (.long (Int64.ofNat va)), .second, .val (.long (Int64.ofNat vb)), .second, .val (.long (Int64.ofNat vc)), .second, .val (.ref b2), .val (.int (3 : Int32)), .val (.long (Int64.ofNat (min va (min vb vc)))), .second, .val (.long (Int64.ofNat v)), .second, .val (.long (Int64.ofNat (max (min va vb) (min (max va vb) vc)))), .second, .val (.long (Int64.ofNat v)), .second, .val (.long (Int64.ofNat v)), .second]) rfl q) ?_
      refine Wk.st (g' := (mkF m 214 #[.val (.long i0), .second, .val (.long i1), .second, .val (.long i2), .second, .val (.int i3), .val (.int i4), .val (.long (Int64.ofNat va)), .second, .val (.long (Int64.ofNat vb)), .second, .val (.long (Int64.ofNat vc)), .second, .val (.ref b2), .val (.int (3 : Int32)), .val (.long (Int64.ofNat (min va (min vb vc)))), .second, .val (.long (Int64.ofNat v)), .second, .val (.long (Int64.ofNat (max (min va vb) (min (max va vb) vc)))), .second, .val (.long (Int64.ofNat v)), .second, .val (.long (Int64.ofNat v)), .second] [(.long (Int64.ofNat va))])) (fun X t q => XS.lload X.here C.hx rfl (hb C.hby at_212) rfl q) ?_
      refine Wk.st (g' := (mkF m 216 #[.val (.long i0), .second, .val (.long i1), .second, .val (.long i2), .second, .val (.int i3), .val (.int i4), .val (.long (Int64.ofNat va)), .second, .val (.long (Int64.ofNat vb)), .second, .val (.long (Int64.ofNat vc)), .second, .val (.ref b2), .val (.int (3 : Int32)), .val (.long (Int64.ofNat (min va (min vb vc)))), .second, .val (.long (Int64.ofNat v)), .second, .val (.long (Int64.ofNat (max (min va vb) (min (max va vb) vc)))), .second, .val (.long (Int64.ofNat v)), .second, .val (.long (Int64.ofNat v)), .second] [(.long (Int64.ofNat v)), (.long (Int64.ofNat va))])) (fun X t q => XS.lload X.here C.hx rfl (hb C.hby at_214) rfl q) ?_
      refine Wk.callS C (z := (⟨"com/example/headroom/headroom/HistogramValueAtPinLaw", "sameBucket", "(JJ)Z"⟩ : MethodName)) (hw _ (List.mem_of_getElem? (i := 50) rfl)) (hw _ (List.mem_of_getElem? (i := 51) rfl)) (hw _ (List.mem_of_getElem? (i := 52) rfl)) (hw _ (List.mem_of_getElem? (i := 53) rfl)) (by decide) (own_same l Z a0 hw n0 h34 va v (by omega) (by omega)) (w := 0) (by decide) (by decide) pd_7 rfl (rest := []) rfl rfl (Nat.le_of_eq rfl) (by decide) (by decide) at_216 ?_
      rintro _ _ ⟨rfl, rfl⟩
      show Wk _ p l e _ s m _ below meth c n0 _ h34 6 885 (mkF m 219 #[.val (.long i0), .second, .val (.long i1), .second, .val (.long i2), .second, .val (.int i3), .val (.int i4), .val (.long (Int64.ofNat va)), .second, .val (.long (Int64.ofNat vb)), .second, .val (.long (Int64.ofNat vc)), .second, .val (.ref b2), .val (.int (3 : Int32)), .val (.long (Int64.ofNat (min va (min vb vc)))), .second, .val (.long (Int64.ofNat v)), .second, .val (.long (Int64.ofNat (max (min va vb) (min (max va vb) vc)))), .second, .val (.long (Int64.ofNat v)), .second, .val (.long (Int64.ofNat v)), .second] [(.int (if Ky va = Ky v then (1 : Int32) else (0 : Int32)))])
      have k231 : ∀ rf1 : Nat, rf1 < 9223372036854775808 → rf1 = r1 va v → Wk false p l e room_1 s m #[(.long i0), (.long i1), (.long i2), (.int i3), (.int i4)] below meth c n0 (fun v _ => v = some (.int 1) ∧ True) h34 6 885 (mkF m 231 #[.val (.long i0), .second, .val (.long i1), .second, .val (.long i2), .second, .val (.int i3), .val (.int i4), .val (.long (Int64.ofNat va)), .second, .val (.long (Int64.ofNat vb)), .second, .val (.long (Int64.ofNat vc)), .second, .val (.ref b2), .val (.int (3 : Int32)), .val (.long (Int64.ofNat (min va (min vb vc)))), .second, .val (.long (Int64.ofNat v)), .second, .val (.long (Int64.ofNat (max (min va vb) (min (max va vb) vc)))), .second, .val (.long (Int64.ofNat v)), .second, .val (.long (Int64.ofNat rf1)), .second] []) := by
        intro rf1 hrf1 erf1
        refine Wk.st (g' := (mkF m 233 #[.val (.long i0), .second, .val (.long i1), .second, .val (.long i2), .second, .val (.int i3), .val (.int i4), .val (.long (Int64.ofNat va)), .second, .val (.long (Int64.ofNat vb)), .second, .val (.long (Int64.ofNat vc)), .second, .val (.ref b2), .val (.int (3 : Int32)), .val (.long (Int64.ofNat (min va (min vb vc)))), .second, .val (.long (Int64.ofNat v)), .second, .val (.long (Int64.ofNat (max (min va vb) (min (max va vb) vc)))), .second, .val (.long (Int64.ofNat v)), .second, .val (.long (Int64.ofNat rf1)), .second] [(.long (Int64.ofNat vb))])) (fun X t q => XS.lload X.here C.hx rfl (hb C.hby at_231) rfl q) ?_
        refine Wk.st (g' := (mkF m 235 #[.val (.long i0), .second, .val (.long i1), .second, .val (.long i2), .second, .val (.int i3), .val (.int i4), .val (.long (Int64.ofNat va)), .second, .val (.long (Int64.ofNat vb)), .second, .val (.long (Int64.ofNat vc)), .second, .val (.ref b2), .val (.int (3 : Int32)), .val (.long (Int64.ofNat (min va (min vb vc)))), .second, .val (.long (Int64.ofNat v)), .second, .val (.long (Int64.ofNat (max (min va vb) (min (max va vb) vc)))), .second, .val (.long (Int64.ofNat v)), .second, .val (.long (Int64.ofNat rf1)), .second] [(.long (Int64.ofNat v)), (.long (Int64.ofNat vb))])) (fun X t q => XS.lload X.here C.hx rfl (hb C.hby at_233) rfl q) ?_
        refine Wk.callS C (z := (⟨"com/example/headroom/headroom/HistogramValueAtPinLaw", "sameBucket", "(JJ)Z"⟩ : MethodName)) (hw _ (List.mem_of_getElem? (i := 50) rfl)) (hw _ (List.mem_of_getElem? (i := 51) rfl)) (hw _ (List.mem_of_getElem? (i := 52) rfl)) (hw _ (List.mem_of_getElem? (i := 53) rfl)) (by decide) (own_same l Z a0 hw n0 h34 vb v (by omega) (by omega)) (w := 0) (by decide) (by decide) pd_7 rfl (rest := []) rfl rfl (Nat.le_of_eq rfl) (by decide) (by decide) at_235 ?_
        rintro _ _ ⟨rfl, rfl⟩
        show Wk _ p l e _ s m _ below meth c n0 _ h34 6 885 (mkF m 238 #[.val (.long i0), .second, .val (.long i1), .second, .val (.long i2), .second, .val (.int i3), .val (.int i4), .val (.long (Int64.ofNat va)), .second, .val (.long (Int64.ofNat vb)), .second, .val (.long (Int64.ofNat vc)), .second, .val (.ref b2), .val (.int (3 : Int32)), .val (.long (Int64.ofNat (min va (min vb vc)))), .second, .val (.long (Int64.ofNat v)), .second, .val (.long (Int64.ofNat (max (min va vb) (min (max va vb) vc)))), .second, .val (.long (Int64.ofNat v)), .second, .val (.long (Int64.ofNat rf1)), .second] [(.int (if Ky vb = Ky v then (1 : Int32) else (0 : Int32)))])
        have k250 : ∀ rf2 : Nat, rf2 < 9223372036854775808 → rf2 = r2 rf1 vb v → Wk false p l e room_1 s m #[(.long i0), (.long i1), (.long i2), (.int i3), (.int i4)] below meth c n0 (fun v _ => v = some (.int 1) ∧ True) h34 6 885 (mkF m 250 #[.val (.long i0), .second, .val (.long i1), .second, .val (.long i2), .second, .val (.int i3), .val (.int i4), .val (.long (Int64.ofNat va)), .second, .val (.long (Int64.ofNat vb)), .second, .val (.long (Int64.ofNat vc)), .second, .val (.ref b2), .val (.int (3 : Int32)), .val (.long (Int64.ofNat (min va (min vb vc)))), .second, .val (.long (Int64.ofNat v)), .second, .val (.long (Int64.ofNat (max (min va vb) (min (max va vb) vc)))), .second, .val (.long (Int64.ofNat v)), .second, .val (.long (Int64.ofNat rf2)), .second] []) := by
          intro rf2 hrf2 erf2
          refine Wk.st (g' := (mkF m 252 #[.val (.long i0), .second, .val (.long i1), .second, .val (.long i2), .second, .val (.int i3), .val (.int i4), .val (.long (Int64.ofNat va)), .second, .val (.long (Int64.ofNat vb)), .second, .val (.long (Int64.ofNat vc)), .second, .val (.ref b2), .val (.int (3 : Int32)), .val (.long (Int64.ofNat (min va (min vb vc)))), .second, .val (.long (Int64.ofNat v)), .second, .val (.long (Int64.ofNat (max (min va vb) (min (max va vb) vc)))), .second, .val (.long (Int64.ofNat v)), .second, .val (.long (Int64.ofNat rf2)), .second] [(.long (Int64.ofNat vc))])) (fun X t q => XS.lload X.here C.hx rfl (hb C.hby at_250) rfl q) ?_
          refine Wk.st (g' := (mkF m 254 #[.val (.long i0), .second, .val (.long i1), .second, .val (.long i2), .second, .val (.int i3), .val (.int i4), .val (.long (Int64.ofNat va)), .second, .val (.long (Int64.ofNat vb)), .second, .val (.long (Int64.ofNat vc)), .second, .val (.ref b2), .val (.int (3 : Int32)), .val (.long (Int64.ofNat (min va (min vb vc)))), .second, .val (.long (Int64.ofNat v)), .second, .val (.long (Int64.ofNat (max (min va vb) (min (max va vb) vc)))), .second, .val (.long (Int64.ofNat v)), .second, .val (.long (Int64.ofNat rf2)), .second] [(.long (Int64.ofNat v)), (.long (Int64.ofNat vc))])) (fun X t q => XS.lload X.here C.hx rfl (hb C.hby at_252) rfl q) ?_
          refine Wk.callS C (z := (⟨"com/example/headroom/headroom/HistogramValueAtPinLaw", "sameBucket", "(JJ)Z"⟩ : MethodName)) (hw _ (List.mem_of_getElem? (i := 50) rfl)) (hw _ (List.mem_of_getElem? (i := 51) rfl)) (hw _ (List.mem_of_getElem? (i := 52) rfl)) (hw _ (List.mem_of_getElem? (i := 53) rfl)) (by decide) (own_same l Z a0 hw n0 h34 vc v (by omega) (by omega)) (w := 0) (by decide) (by decide) pd_7 rfl (rest := []) rfl rfl (Nat.le_of_eq rfl) (by decide) (by decide) at_254 ?_
          rintro _ _ ⟨rfl, rfl⟩
          show Wk _ p l e _ s m _ below meth c n0 _ h34 6 885 (mkF m 257 #[.val (.long i0), .second, .val (.long i1), .second, .val (.long i2), .second, .val (.int i3), .val (.int i4), .val (.long (Int64.ofNat va)), .second, .val (.long (Int64.ofNat vb)), .second, .val (.long (Int64.ofNat vc)), .second, .val (.ref b2), .val (.int (3 : Int32)), .val (.long (Int64.ofNat (min va (min vb vc)))), .second, .val (.long (Int64.ofNat v)), .second, .val (.long (Int64.ofNat (max (min va vb) (min (max va vb) vc)))), .second, .val (.long (Int64.ofNat v)), .second, .val (.long (Int64.ofNat rf2)), .second] [(.int (if Ky vc = Ky v then (1 : Int32) else (0 : Int32)))])
          have k269 : ∀ rf3 : Nat, rf3 < 9223372036854775808 → rf3 = r2 rf2 vc v → Wk false p l e room_1 s m #[(.long i0), (.long i1), (.long i2), (.int i3), (.int i4)] below meth c n0 (fun v _ => v = some (.int 1) ∧ True) h34 6 885 (mkF m 269 #[.val (.long i0), .second, .val (.long i1), .second, .val (.long i2), .second, .val (.int i3), .val (.int i4), .val (.long (Int64.ofNat va)), .second, .val (.long (Int64.ofNat vb)), .second, .val (.long (Int64.ofNat vc)), .second, .val (.ref b2), .val (.int (3 : Int32)), .val (.long (Int64.ofNat (min va (min vb vc)))), .second, .val (.long (Int64.ofNat v)), .second, .val (.long (Int64.ofNat (max (min va vb) (min (max va vb) vc)))), .second, .val (.long (Int64.ofNat v)), .second, .val (.long (Int64.ofNat rf3)), .second] []) := by
            intro rf3 hrf3 erf3
            refine Wk.st (g' := (mkF m 271 #[.val (.long i0), .second, .val (.long i1), .second, .val (.long i2), .second, .val (.int i3), .val (.int i4), .val (.long (Int64.ofNat va)), .second, .val (.long (Int64.ofNat vb)), .second, .val (.long (Int64.ofNat vc)), .second, .val (.ref b2), .val (.int (3 : Int32)), .val (.long (Int64.ofNat (min va (min vb vc)))), .second, .val (.long (Int64.ofNat v)), .second, .val (.long (Int64.ofNat (max (min va vb) (min (max va vb) vc)))), .second, .val (.long (Int64.ofNat v)), .second, .val (.long (Int64.ofNat rf3)), .second] [(.ref b2)])) (fun X t q => XS.aload X.here C.hx rfl (hb C.hby at_269) rfl rfl q) ?_
            refine Wk.callV C (x := (⟨"com/example/headroom/headroom/Histogram", "count", "()J"⟩ : MethodName)) (z := (⟨"com/example/headroom/headroom/Histogram", "count", "()J"⟩ : MethodName)) (K := "com/example/headroom/headroom/Histogram") (hw _ (List.mem_of_getElem? (i := 58) rfl)) (hw _ (List.mem_of_getElem? (i := 59) rfl)) (hw _ (List.mem_of_getElem? (i := 61) rfl)) (hw _ (List.mem_of_getElem? (i := 60) rfl)) (hw _ (List.mem_of_getElem? (i := 4) rfl)) (hw _ (List.mem_of_getElem? (i := 62) rfl)) (by decide) (fun s' hZ' => notFace_of_selects (args := #[]) (mvT hZ' (hw _ (List.mem_of_getElem? (i := 61) rfl)))) HH39.exa (own_count l Z a0 hw n0 h34 wz35 b2 [vc, vb, va] HH39) (w := 0) (by decide) (by decide) pd_8 rfl (rest := []) rfl rfl (Nat.le_of_eq rfl) (by decide) (by decide) at_271 ?_
            rintro _ _ ⟨rfl, rfl⟩
            show Wk _ p l e _ s m _ below meth c n0 _ h34 6 885 (mkF m 274 #[.val (.long i0), .second, .val (.long i1), .second, .val (.long i2), .second, .val (.int i3), .val (.int i4), .val (.long (Int64.ofNat va)), .second, .val (.long (Int64.ofNat vb)), .second, .val (.long (Int64.ofNat vc)), .second, .val (.ref b2), .val (.int (3 : Int32)), .val (.long (Int64.ofNat (min va (min vb vc)))), .second, .val (.long (Int64.ofNat v)), .second, .val (.long (Int64.ofNat (max (min va vb) (min (max va vb) vc)))), .second, .val (.long (Int64.ofNat v)), .second, .val (.long (Int64.ofNat rf3)), .second] [(.long (3 : Int64))])
            refine Wk.ldc2J C (hw _ (List.mem_of_getElem? (i := 63) rfl)) at_274 ?_
            show Wk _ p l e _ s m _ below meth c n0 _ h34 6 885 (mkF m 277 #[.val (.long i0), .second, .val (.long i1), .second, .val (.long i2), .second, .val (.int i3), .val (.int i4), .val (.long (Int64.ofNat va)), .second, .val (.long (Int64.ofNat vb)), .second, .val (.long (Int64.ofNat vc)), .second, .val (.ref b2), .val (.int (3 : Int32)), .val (.long (Int64.ofNat (min va (min vb vc)))), .second, .val (.long (Int64.ofNat v)), .second, .val (.long (Int64.ofNat (max (min va vb) (min (max va vb) vc)))), .second, .val (.long (Int64.ofNat v)), .second, .val (.long (Int64.ofNat rf3)), .second] [(.long (3 : Int64)), (.long (3 : Int64))])
            refine Wk.st (g' := (mkF m 278 #[.val (.long i0), .second, .val (.long i1), .second, .val (.long i2), .second, .val (.int i3), .val (.int i4), .val (.long (Int64.ofNat va)), .second, .val (.long (Int64.ofNat vb)), .second, .val (.long (Int64.ofNat vc)), .second, .val (.ref b2), .val (.int (3 : Int32)), .val (.long (Int64.ofNat (min va (min vb vc)))), .second, .val (.long (Int64.ofNat v)), .second, .val (.long (Int64.ofNat (max (min va vb) (min (max va vb) vc)))), .second, .val (.long (Int64.ofNat v)), .second, .val (.long (Int64.ofNat rf3)), .second] [(.int (XT.cmpL (3 : Int64) (3 : Int64)))])) (fun X t q => XT.lcmp X.here C.hx rfl (hb C.hby at_277) rfl q) ?_
            refine Wk.st (g' := (mkF m 281 #[.val (.long i0), .second, .val (.long i1), .second, .val (.long i2), .second, .val (.int i3), .val (.int i4), .val (.long (Int64.ofNat va)), .second, .val (.long (Int64.ofNat vb)), .second, .val (.long (Int64.ofNat vc)), .second, .val (.ref b2), .val (.int (3 : Int32)), .val (.long (Int64.ofNat (min va (min vb vc)))), .second, .val (.long (Int64.ofNat v)), .second, .val (.long (Int64.ofNat (max (min va vb) (min (max va vb) vc)))), .second, .val (.long (Int64.ofNat v)), .second, .val (.long (Int64.ofNat rf3)), .second] [])) (fun X t q => XS.ifNo X.here C.hx rfl (hb C.hby at_278) rfl (XT.ll_ne_f (by decide)) q) ?_
            refine Wk.st (g' := (mkF m 283 #[.val (.long i0), .second, .val (.long i1), .second, .val (.long i2), .second, .val (.int i3), .val (.int i4), .val (.long (Int64.ofNat va)), .second, .val (.long (Int64.ofNat vb)), .second, .val (.long (Int64.ofNat vc)), .second, .val (.ref b2), .val (.int (3 : Int32)), .val (.long (Int64.ofNat (min va (min vb vc)))), .second, .val (.long (Int64.ofNat v)), .second, .val (.long (Int64.ofNat (max (min va vb) (min (max va vb) vc)))), .second, .val (.long (Int64.ofNat v)), .second, .val (.long (Int64.ofNat rf3)), .second] [(.ref b2)])) (fun X t q => XS.aload X.here C.hx rfl (hb C.hby at_281) rfl rfl q) ?_
            refine Wk.st (g' := (mkF m 285 #[.val (.long i0), .second, .val (.long i1), .second, .val (.long i2), .second, .val (.int i3), .val (.int i4), .val (.long (Int64.ofNat va)), .second, .val (.long (Int64.ofNat vb)), .second, .val (.long (Int64.ofNat vc)), .second, .val (.ref b2), .val (.int (3 : Int32)), .val (.long (Int64.ofNat (min va (min vb vc)))), .second, .val (.long (Int64.ofNat v)), .second, .val (.long (Int64.ofNat (max (min va vb) (min (max va vb) vc)))), .second, .val (.long (Int64.ofNat v)), .second, .val (.long (Int64.ofNat rf3)), .second] [(.int (3 : Int32)), (.ref b2)])) (fun X t q => XS.iload X.here C.hx rfl (hb C.hby at_283) rfl q) ?_
            refine Wk.st (g' := (mkF m 286 #[.val (.long i0), .second, .val (.long i1), .second, .val (.long i2), .second, .val (.int i3), .val (.int i4), .val (.long (Int64.ofNat va)), .second, .val (.long (Int64.ofNat vb)), .second, .val (.long (Int64.ofNat vc)), .second, .val (.ref b2), .val (.int (3 : Int32)), .val (.long (Int64.ofNat (min va (min vb vc)))), .second, .val (.long (Int64.ofNat v)), .second, .val (.long (Int64.ofNat (max (min va vb) (min (max va vb) vc)))), .second, .val (.long (Int64.ofNat v)), .second, .val (.long (Int64.ofNat rf3)), .second] [(.long (3 : Int64)), (.ref b2)])) (fun X t q => XS.i2l X.here C.hx rfl (hb C.hby at_285) rfl q) ?_
            refine Wk.callV C (x := (⟨"com/example/headroom/headroom/Histogram", "valueAt", "(J)J"⟩ : MethodName)) (z := (⟨"com/example/headroom/headroom/Histogram", "valueAt", "(J)J"⟩ : MethodName)) (K := "com/example/headroom/headroom/Histogram") (hw _ (List.mem_of_getElem? (i := 64) rfl)) (hw _ (List.mem_of_getElem? (i := 65) rfl)) (hw _ (List.mem_of_getElem? (i := 67) rfl)) (hw _ (List.mem_of_getElem? (i := 66) rfl)) (hw _ (List.mem_of_getElem? (i := 4) rfl)) (hw _ (List.mem_of_getElem? (i := 68) rfl)) (by decide) (fun s' hZ' => notFace_of_selects (args := #[]) (mvT hZ' (hw _ (List.mem_of_getElem? (i := 67) rfl)))) HH39.exa (own_valueAt l Z a0 hw n0 h34 wz35 b2 [vc, vb, va] HH39 (by simp) 3 (by decide) (by simp)) (w := 0) (by decide) (by decide) pd_9 rfl (rest := []) rfl rfl (Nat.le_of_eq rfl) (by decide) (by decide) at_286 ?_
            rintro _ _ ⟨rfl, rfl⟩
            show Wk _ p l e _ s m _ below meth c n0 _ h34 6 885 (mkF m 289 #[.val (.long i0), .second, .val (.long i1), .second, .val (.long i2), .second, .val (.int i3), .val (.int i4), .val (.long (Int64.ofNat va)), .second, .val (.long (Int64.ofNat vb)), .second, .val (.long (Int64.ofNat vc)), .second, .val (.ref b2), .val (.int (3 : Int32)), .val (.long (Int64.ofNat (min va (min vb vc)))), .second, .val (.long (Int64.ofNat v)), .second, .val (.long (Int64.ofNat (max (min va vb) (min (max va vb) vc)))), .second, .val (.long (Int64.ofNat v)), .second, .val (.long (Int64.ofNat rf3)), .second] [(.long (Int64.ofNat (Va [vc, vb, va] 3)))])
            refine Wk.st (g' := (mkF m 291 #[.val (.long i0), .second, .val (.long i1), .second, .val (.long i2), .second, .val (.int i3), .val (.int i4), .val (.long (Int64.ofNat va)), .second, .val (.long (Int64.ofNat vb)), .second, .val (.long (Int64.ofNat vc)), .second, .val (.ref b2), .val (.int (3 : Int32)), .val (.long (Int64.ofNat (min va (min vb vc)))), .second, .val (.long (Int64.ofNat v)), .second, .val (.long (Int64.ofNat (max (min va vb) (min (max va vb) vc)))), .second, .val (.long (Int64.ofNat v)), .second, .val (.long (Int64.ofNat rf3)), .second] [(.long (Int64.ofNat rf3)), (.long (Int64.ofNat (Va [vc, vb, va] 3)))])) (fun X t q => XS.lload X.here C.hx rfl (hb C.hby at_289) rfl q) ?_
            refine Wk.st (g' := (mkF m 292 #[.val (.long i0), .second, .val (.long i1), .second, .val (.long i2), .second, .val (.int i3), .val (.int i4), .val (.long (Int64.ofNat va)), .second, .val (.long (Int64.ofNat vb)), .second, .val (.long (Int64.ofNat vc)), .second, .val (.ref b2), .val (.int (3 : Int32)), .val (.long (Int64.ofNat (min va (min vb vc)))), .second, .val (.long (Int64.ofNat v)), .second, .val (.long (Int64.ofNat (max (min va vb) (min (max va vb) vc)))), .second, .val (.long (Int64.ofNat v)), .second, .val (.long (Int64.ofNat rf3)), .second] [(.int (XT.cmpL (Int64.ofNat (Va [vc, vb, va] 3)) (Int64.ofNat rf3)))])) (fun X t q => XT.lcmp X.here C.hx rfl (hb C.hby at_291) rfl q) ?_
            refine Wk.st (g' := (mkF m 295 #[.val (.long i0), .second, .val (.long i1), .second, .val (.long i2), .second, .val (.int i3), .val (.int i4), .val (.long (Int64.ofNat va)), .second, .val (.long (Int64.ofNat vb)), .second, .val (.long (Int64.ofNat vc)), .second, .val (.ref b2), .val (.int (3 : Int32)), .val (.long (Int64.ofNat (min va (min vb vc)))), .second, .val (.long (Int64.ofNat v)), .second, .val (.long (Int64.ofNat (max (min va vb) (min (max va vb) vc)))), .second, .val (.long (Int64.ofNat v)), .second, .val (.long (Int64.ofNat rf3)), .second] [])) (fun X t q => XS.ifNo X.here C.hx rfl (hb C.hby at_292) rfl (XT.ll_ne_f (congrArg Int64.ofNat ((Va_three hva hvb hvc (v := v) (Or.inr (Or.inr ⟨rfl, ev⟩))).trans (by rw [erf3, erf2, erf1])))) q) ?_
            refine Wk.st (g' := (mkF m 296 #[.val (.long i0), .second, .val (.long i1), .second, .val (.long i2), .second, .val (.int i3), .val (.int i4), .val (.long (Int64.ofNat va)), .second, .val (.long (Int64.ofNat vb)), .second, .val (.long (Int64.ofNat vc)), .second, .val (.ref b2), .val (.int (3 : Int32)), .val (.long (Int64.ofNat (min va (min vb vc)))), .second, .val (.long (Int64.ofNat v)), .second, .val (.long (Int64.ofNat (max (min va vb) (min (max va vb) vc)))), .second, .val (.long (Int64.ofNat v)), .second, .val (.long (Int64.ofNat rf3)), .second] [(.int (1 : Int32))])) (fun X t q => XS.iconst X.here C.hx rfl (hb C.hby at_295) q) ?_
            refine Wk.st (g' := (mkF m 300 #[.val (.long i0), .second, .val (.long i1), .second, .val (.long i2), .second, .val (.int i3), .val (.int i4), .val (.long (Int64.ofNat va)), .second, .val (.long (Int64.ofNat vb)), .second, .val (.long (Int64.ofNat vc)), .second, .val (.ref b2), .val (.int (3 : Int32)), .val (.long (Int64.ofNat (min va (min vb vc)))), .second, .val (.long (Int64.ofNat v)), .second, .val (.long (Int64.ofNat (max (min va vb) (min (max va vb) vc)))), .second, .val (.long (Int64.ofNat v)), .second, .val (.long (Int64.ofNat rf3)), .second] [(.int (1 : Int32))])) (fun X t q => XS.goto X.here C.hx rfl (pc0 := 296) (pc' := 300) rfl (hb C.hby at_296) (by decide) (by decide) q) ?_
            exact Wk.retV C (t := .boolean) rfl rfl (Or.inl ⟨rfl, by simp, _, rfl⟩) at_300 (by decide) (by decide) ⟨rfl, trivial⟩
          by_cases hq257 : Ky vc = Ky v
          · skip
            rw [show (if Ky vc = Ky v then (1 : Int32) else (0 : Int32)) = (1 : Int32) from if_pos hq257]
            show Wk _ p l e _ s m _ below meth c n0 _ h34 6 885 (mkF m 257 #[.val (.long i0), .second, .val (.long i1), .second, .val (.long i2), .second, .val (.int i3), .val (.int i4), .val (.long (Int64.ofNat va)), .second, .val (.long (Int64.ofNat vb)), .second, .val (.long (Int64.ofNat vc)), .second, .val (.ref b2), .val (.int (3 : Int32)), .val (.long (Int64.ofNat (min va (min vb vc)))), .second, .val (.long (Int64.ofNat v)), .second, .val (.long (Int64.ofNat (max (min va vb) (min (max va vb) vc)))), .second, .val (.long (Int64.ofNat v)), .second, .val (.long (Int64.ofNat rf2)), .second] [(.int (1 : Int32))])
            refine Wk.st (g' := (mkF m 260 #[.val (.long i0), .second, .val (.long i1), .second, .val (.long i2), .second, .val (.int i3), .val (.int i4), .val (.long (Int64.ofNat va)), .second, .val (.long (Int64.ofNat vb)), .second, .val (.long (Int64.ofNat vc)), .second, .val (.ref b2), .val (.int (3 : Int32)), .val (.long (Int64.ofNat (min va (min vb vc)))), .second, .val (.long (Int64.ofNat v)), .second, .val (.long (Int64.ofNat (max (min va vb) (min (max va vb) vc)))), .second, .val (.long (Int64.ofNat v)), .second, .val (.long (Int64.ofNat rf2)), .second] [])) (fun X t q => XS.ifNo X.here C.hx rfl (hb C.hby at_257) rfl (XT.i0_eq_f (by decide)) q) ?_
            refine Wk.st (g' := (mkF m 262 #[.val (.long i0), .second, .val (.long i1), .second, .val (.long i2), .second, .val (.int i3), .val (.int i4), .val (.long (Int64.ofNat va)), .second, .val (.long (Int64.ofNat vb)), .second, .val (.long (Int64.ofNat vc)), .second, .val (.ref b2), .val (.int (3 : Int32)), .val (.long (Int64.ofNat (min va (min vb vc)))), .second, .val (.long (Int64.ofNat v)), .second, .val (.long (Int64.ofNat (max (min va vb) (min (max va vb) vc)))), .second, .val (.long (Int64.ofNat v)), .second, .val (.long (Int64.ofNat rf2)), .second] [(.long (Int64.ofNat rf2))])) (fun X t q => XS.lload X.here C.hx rfl (hb C.hby at_260) rfl q) ?_
            refine Wk.st (g' := (mkF m 264 #[.val (.long i0), .second, .val (.long i1), .second, .val (.long i2), .second, .val (.int i3), .val (.int i4), .val (.long (Int64.ofNat va)), .second, .val (.long (Int64.ofNat vb)), .second, .val (.long (Int64.ofNat vc)), .second, .val (.ref b2), .val (.int (3 : Int32)), .val (.long (Int64.ofNat (min va (min vb vc)))), .second, .val (.long (Int64.ofNat v)), .second, .val (.long (Int64.ofNat (max (min va vb) (min (max va vb) vc)))), .second, .val (.long (Int64.ofNat v)), .second, .val (.long (Int64.ofNat rf2)), .second] [(.long (Int64.ofNat vc)), (.long (Int64.ofNat rf2))])) (fun X t q => XS.lload X.here C.hx rfl (hb C.hby at_262) rfl q) ?_
            refine Wk.callS C (z := (⟨"java/lang/Math", "max", "(JJ)J"⟩ : MethodName)) (hw _ (List.mem_of_getElem? (i := 47) rfl)) (hw _ (List.mem_of_getElem? (i := 48) rfl)) (hw _ (List.mem_of_getElem? (i := 34) rfl)) (hw _ (List.mem_of_getElem? (i := 49) rfl)) (by decide) (own_maxJ l Z a0 hw n0 h34 rf2 vc (by omega) (by omega)) (w := 0) (by decide) (by decide) pd_1 rfl (rest := []) rfl rfl (Nat.le_of_eq rfl) (by decide) (by decide) at_264 ?_
            rintro _ _ ⟨rfl, rfl⟩
            show Wk _ p l e _ s m _ below meth c n0 _ h34 6 885 (mkF m 267 #[.val (.long i0), .second, .val (.long i1), .second, .val (.long i2), .second, .val (.int i3), .val (.int i4), .val (.long (Int64.ofNat va)), .second, .val (.long (Int64.ofNat vb)), .second, .val (.long (Int64.ofNat vc)), .second, .val (.ref b2), .val (.int (3 : Int32)), .val (.long (Int64.ofNat (min va (min vb vc)))), .second, .val (.long (Int64.ofNat v)), .second, .val (.long (Int64.ofNat (max (min va vb) (min (max va vb) vc)))), .second, .val (.long (Int64.ofNat v)), .second, .val (.long (Int64.ofNat rf2)), .second] [(.long (Int64.ofNat (max rf2 vc)))])
            refine Wk.st (g' := (mkF m 269 #[.val (.long i0), .second, .val (.long i1), .second, .val (.long i2), .second, .val (.int i3), .val (.int i4), .val (.long (Int64.ofNat va)), .second, .val (.long (Int64.ofNat vb)), .second, .val (.long (Int64.ofNat vc)), .second, .val (.ref b2), .val (.int (3 : Int32)), .val (.long (Int64.ofNat (min va (min vb vc)))), .second, .val (.long (Int64.ofNat v)), .second, .val (.long (Int64.ofNat (max (min va vb) (min (max va vb) vc)))), .second, .val (.long (Int64.ofNat v)), .second, .val (.long (Int64.ofNat (max rf2 vc))), .second] [])) (fun X t q => XS.lstore X.here C.hx rfl (hb C.hby at_267) rfl (l' := #[.val (.long i0), .second, .val (.long i1), .second, .val (.long i2), .second, .val (.int i3), .val (.int i4), .val (.long (Int64.ofNat va)), .second, .val (.long (Int64.ofNat vb)), .second, .val (.long (Int64.ofNat vc)), .second, .val (.ref b2), .val (.int (3 : Int32)), .val (.long (Int64.ofNat (min va (min vb vc)))), .second, .val (.long (Int64.ofNat v)), .second, .val (.long (Int64.ofNat (max (min va vb) (min (max va vb) vc)))), .second, .val (.long (Int64.ofNat v)), .second, .val (.long (Int64.ofNat (max rf2 vc))), .second]) rfl q) ?_
            exact k269 (max rf2 vc) (by omega) (if_pos hq257).symm
          · skip
            rw [show (if Ky vc = Ky v then (1 : Int32) else (0 : Int32)) = (0 : Int32) from if_neg hq257]
            show Wk _ p l e _ s m _ below meth c n0 _ h34 6 885 (mkF m 257 #[.val (.long i0), .second, .val (.long i1), .second, .val (.long i2), .second, .val (.int i3), .val (.int i4), .val (.long (Int64.ofNat va)), .second, .val (.long (Int64.ofNat vb)), .second, .val (.long (Int64.ofNat vc)), .second, .val (.ref b2), .val (.int (3 : Int32)), .val (.long (Int64.ofNat (min va (min vb vc)))), .second, .val (.long (Int64.ofNat v)), .second, .val (.long (Int64.ofNat (max (min va vb) (min (max va vb) vc)))), .second, .val (.long (Int64.ofNat v)), .second, .val (.long (Int64.ofNat rf2)), .second] [(.int (0 : Int32))])
            refine Wk.st (g' := (mkF m 269 #[.val (.long i0), .second, .val (.long i1), .second, .val (.long i2), .second, .val (.int i3), .val (.int i4), .val (.long (Int64.ofNat va)), .second, .val (.long (Int64.ofNat vb)), .second, .val (.long (Int64.ofNat vc)), .second, .val (.ref b2), .val (.int (3 : Int32)), .val (.long (Int64.ofNat (min va (min vb vc)))), .second, .val (.long (Int64.ofNat v)), .second, .val (.long (Int64.ofNat (max (min va vb) (min (max va vb) vc)))), .second, .val (.long (Int64.ofNat v)), .second, .val (.long (Int64.ofNat rf2)), .second] [])) (fun X t q => XS.ifYes X.here C.hx rfl (pc0 := 257) (pc' := 269) rfl (hb C.hby at_257) rfl (XT.i0_eq_t (by decide)) (by decide) (by decide) q) ?_
            exact k269 rf2 (by omega) (if_neg hq257).symm
        by_cases hq238 : Ky vb = Ky v
        · skip
          rw [show (if Ky vb = Ky v then (1 : Int32) else (0 : Int32)) = (1 : Int32) from if_pos hq238]
          show Wk _ p l e _ s m _ below meth c n0 _ h34 6 885 (mkF m 238 #[.val (.long i0), .second, .val (.long i1), .second, .val (.long i2), .second, .val (.int i3), .val (.int i4), .val (.long (Int64.ofNat va)), .second, .val (.long (Int64.ofNat vb)), .second, .val (.long (Int64.ofNat vc)), .second, .val (.ref b2), .val (.int (3 : Int32)), .val (.long (Int64.ofNat (min va (min vb vc)))), .second, .val (.long (Int64.ofNat v)), .second, .val (.long (Int64.ofNat (max (min va vb) (min (max va vb) vc)))), .second, .val (.long (Int64.ofNat v)), .second, .val (.long (Int64.ofNat rf1)), .second] [(.int (1 : Int32))])
          refine Wk.st (g' := (mkF m 241 #[.val (.long i0), .second, .val (.long i1), .second, .val (.long i2), .second, .val (.int i3), .val (.int i4), .val (.long (Int64.ofNat va)), .second, .val (.long (Int64.ofNat vb)), .second, .val (.long (Int64.ofNat vc)), .second, .val (.ref b2), .val (.int (3 : Int32)), .val (.long (Int64.ofNat (min va (min vb vc)))), .second, .val (.long (Int64.ofNat v)), .second, .val (.long (Int64.ofNat (max (min va vb) (min (max va vb) vc)))), .second, .val (.long (Int64.ofNat v)), .second, .val (.long (Int64.ofNat rf1)), .second] [])) (fun X t q => XS.ifNo X.here C.hx rfl (hb C.hby at_238) rfl (XT.i0_eq_f (by decide)) q) ?_
          refine Wk.st (g' := (mkF m 243 #[.val (.long i0), .second, .val (.long i1), .second, .val (.long i2), .second, .val (.int i3), .val (.int i4), .val (.long (Int64.ofNat va)), .second, .val (.long (Int64.ofNat vb)), .second, .val (.long (Int64.ofNat vc)), .second, .val (.ref b2), .val (.int (3 : Int32)), .val (.long (Int64.ofNat (min va (min vb vc)))), .second, .val (.long (Int64.ofNat v)), .second, .val (.long (Int64.ofNat (max (min va vb) (min (max va vb) vc)))), .second, .val (.long (Int64.ofNat v)), .second, .val (.long (Int64.ofNat rf1)), .second] [(.long (Int64.ofNat rf1))])) (fun X t q => XS.lload X.here C.hx rfl (hb C.hby at_241) rfl q) ?_
          refine Wk.st (g' := (mkF m 245 #[.val (.long i0), .second, .val (.long i1), .second, .val (.long i2), .second, .val (.int i3), .val (.int i4), .val (.long (Int64.ofNat va)), .second, .val (.long (Int64.ofNat vb)), .second, .val (.long (Int64.ofNat vc)), .second, .val (.ref b2), .val (.int (3 : Int32)), .val (.long (Int64.ofNat (min va (min vb vc)))), .second, .val (.long (Int64.ofNat v)), .second, .val (.long (Int64.ofNat (max (min va vb) (min (max va vb) vc)))), .second, .val (.long (Int64.ofNat v)), .second, .val (.long (Int64.ofNat rf1)), .second] [(.long (Int64.ofNat vb)), (.long (Int64.ofNat rf1))])) (fun X t q => XS.lload X.here C.hx rfl (hb C.hby at_243) rfl q) ?_
          refine Wk.callS C (z := (⟨"java/lang/Math", "max", "(JJ)J"⟩ : MethodName)) (hw _ (List.mem_of_getElem? (i := 47) rfl)) (hw _ (List.mem_of_getElem? (i := 48) rfl)) (hw _ (List.mem_of_getElem? (i := 34) rfl)) (hw _ (List.mem_of_getElem? (i := 49) rfl)) (by decide) (own_maxJ l Z a0 hw n0 h34 rf1 vb (by omega) (by omega)) (w := 0) (by decide) (by decide) pd_1 rfl (rest := []) rfl rfl (Nat.le_of_eq rfl) (by decide) (by decide) at_245 ?_
          rintro _ _ ⟨rfl, rfl⟩
          show Wk _ p l e _ s m _ below meth c n0 _ h34 6 885 (mkF m 248 #[.val (.long i0), .second, .val (.long i1), .second, .val (.long i2), .second, .val (.int i3), .val (.int i4), .val (.long (Int64.ofNat va)), .second, .val (.long (Int64.ofNat vb)), .second, .val (.long (Int64.ofNat vc)), .second, .val (.ref b2), .val (.int (3 : Int32)), .val (.long (Int64.ofNat (min va (min vb vc)))), .second, .val (.long (Int64.ofNat v)), .second, .val (.long (Int64.ofNat (max (min va vb) (min (max va vb) vc)))), .second, .val (.long (Int64.ofNat v)), .second, .val (.long (Int64.ofNat rf1)), .second] [(.long (Int64.ofNat (max rf1 vb)))])
          refine Wk.st (g' := (mkF m 250 #[.val (.long i0), .second, .val (.long i1), .second, .val (.long i2), .second, .val (.int i3), .val (.int i4), .val (.long (Int64.ofNat va)), .second, .val (.long (Int64.ofNat vb)), .second, .val (.long (Int64.ofNat vc)), .second, .val (.ref b2), .val (.int (3 : Int32)), .val (.long (Int64.ofNat (min va (min vb vc)))), .second, .val (.long (Int64.ofNat v)), .second, .val (.long (Int64.ofNat (max (min va vb) (min (max va vb) vc)))), .second, .val (.long (Int64.ofNat v)), .second, .val (.long (Int64.ofNat (max rf1 vb))), .second] [])) (fun X t q => XS.lstore X.here C.hx rfl (hb C.hby at_248) rfl (l' := #[.val (.long i0), .second, .val (.long i1), .second, .val (.long i2), .second, .val (.int i3), .val (.int i4), .val (.long (Int64.ofNat va)), .second, .val (.long (Int64.ofNat vb)), .second, .val (.long (Int64.ofNat vc)), .second, .val (.ref b2), .val (.int (3 : Int32)), .val (.long (Int64.ofNat (min va (min vb vc)))), .second, .val (.long (Int64.ofNat v)), .second, .val (.long (Int64.ofNat (max (min va vb) (min (max va vb) vc)))), .second, .val (.long (Int64.ofNat v)), .second, .val (.long (Int64.ofNat (max rf1 vb))), .second]) rfl q) ?_
          exact k250 (max rf1 vb) (by omega) (if_pos hq238).symm
        · skip
          rw [show (if Ky vb = Ky v then (1 : Int32) else (0 : Int32)) = (0 : Int32) from if_neg hq238]
          show Wk _ p l e _ s m _ below meth c n0 _ h34 6 885 (mkF m 238 #[.val (.long i0), .second, .val (.long i1), .second, .val (.long i2), .second, .val (.int i3), .val (.int i4), .val (.long (Int64.ofNat va)), .second, .val (.long (Int64.ofNat vb)), .second, .val (.long (Int64.ofNat vc)), .second, .val (.ref b2), .val (.int (3 : Int32)), .val (.long (Int64.ofNat (min va (min vb vc)))), .second, .val (.long (Int64.ofNat v)), .second, .val (.long (Int64.ofNat (max (min va vb) (min (max va vb) vc)))), .second, .val (.long (Int64.ofNat v)), .second, .val (.long (Int64.ofNat rf1)), .second] [(.int (0 : Int32))])
          refine Wk.st (g' := (mkF m 250 #[.val (.long i0), .second, .val (.long i1), .second, .val (.long i2), .second, .val (.int i3), .val (.int i4), .val (.long (Int64.ofNat va)), .second, .val (.long (Int64.ofNat vb)), .second, .val (.long (Int64.ofNat vc)), .second, .val (.ref b2), .val (.int (3 : Int32)), .val (.long (Int64.ofNat (min va (min vb vc)))), .second, .val (.long (Int64.ofNat v)), .second, .val (.long (Int64.ofNat (max (min va vb) (min (max va vb) vc)))), .second, .val (.long (Int64.ofNat v)), .second, .val (.long (Int64.ofNat rf1)), .second] [])) (fun X t q => XS.ifYes X.here C.hx rfl (pc0 := 238) (pc' := 250) rfl (hb C.hby at_238) rfl (XT.i0_eq_t (by decide)) (by decide) (by decide) q) ?_
          exact k250 rf1 (by omega) (if_neg hq238).symm
      by_cases hq219 : Ky va = Ky v
      · skip
        rw [show (if Ky va = Ky v then (1 : Int32) else (0 : Int32)) = (1 : Int32) from if_pos hq219]
        show Wk _ p l e _ s m _ below meth c n0 _ h34 6 885 (mkF m 219 #[.val (.long i0), .second, .val (.long i1), .second, .val (.long i2), .second, .val (.int i3), .val (.int i4), .val (.long (Int64.ofNat va)), .second, .val (.long (Int64.ofNat vb)), .second, .val (.long (Int64.ofNat vc)), .second, .val (.ref b2), .val (.int (3 : Int32)), .val (.long (Int64.ofNat (min va (min vb vc)))), .second, .val (.long (Int64.ofNat v)), .second, .val (.long (Int64.ofNat (max (min va vb) (min (max va vb) vc)))), .second, .val (.long (Int64.ofNat v)), .second, .val (.long (Int64.ofNat v)), .second] [(.int (1 : Int32))])
        refine Wk.st (g' := (mkF m 222 #[.val (.long i0), .second, .val (.long i1), .second, .val (.long i2), .second, .val (.int i3), .val (.int i4), .val (.long (Int64.ofNat va)), .second, .val (.long (Int64.ofNat vb)), .second, .val (.long (Int64.ofNat vc)), .second, .val (.ref b2), .val (.int (3 : Int32)), .val (.long (Int64.ofNat (min va (min vb vc)))), .second, .val (.long (Int64.ofNat v)), .second, .val (.long (Int64.ofNat (max (min va vb) (min (max va vb) vc)))), .second, .val (.long (Int64.ofNat v)), .second, .val (.long (Int64.ofNat v)), .second] [])) (fun X t q => XS.ifNo X.here C.hx rfl (hb C.hby at_219) rfl (XT.i0_eq_f (by decide)) q) ?_
        refine Wk.st (g' := (mkF m 224 #[.val (.long i0), .second, .val (.long i1), .second, .val (.long i2), .second, .val (.int i3), .val (.int i4), .val (.long (Int64.ofNat va)), .second, .val (.long (Int64.ofNat vb)), .second, .val (.long (Int64.ofNat vc)), .second, .val (.ref b2), .val (.int (3 : Int32)), .val (.long (Int64.ofNat (min va (min vb vc)))), .second, .val (.long (Int64.ofNat v)), .second, .val (.long (Int64.ofNat (max (min va vb) (min (max va vb) vc)))), .second, .val (.long (Int64.ofNat v)), .second, .val (.long (Int64.ofNat v)), .second] [(.long (Int64.ofNat v))])) (fun X t q => XS.lload X.here C.hx rfl (hb C.hby at_222) rfl q) ?_
        refine Wk.st (g' := (mkF m 226 #[.val (.long i0), .second, .val (.long i1), .second, .val (.long i2), .second, .val (.int i3), .val (.int i4), .val (.long (Int64.ofNat va)), .second, .val (.long (Int64.ofNat vb)), .second, .val (.long (Int64.ofNat vc)), .second, .val (.ref b2), .val (.int (3 : Int32)), .val (.long (Int64.ofNat (min va (min vb vc)))), .second, .val (.long (Int64.ofNat v)), .second, .val (.long (Int64.ofNat (max (min va vb) (min (max va vb) vc)))), .second, .val (.long (Int64.ofNat v)), .second, .val (.long (Int64.ofNat v)), .second] [(.long (Int64.ofNat va)), (.long (Int64.ofNat v))])) (fun X t q => XS.lload X.here C.hx rfl (hb C.hby at_224) rfl q) ?_
        refine Wk.callS C (z := (⟨"java/lang/Math", "max", "(JJ)J"⟩ : MethodName)) (hw _ (List.mem_of_getElem? (i := 47) rfl)) (hw _ (List.mem_of_getElem? (i := 48) rfl)) (hw _ (List.mem_of_getElem? (i := 34) rfl)) (hw _ (List.mem_of_getElem? (i := 49) rfl)) (by decide) (own_maxJ l Z a0 hw n0 h34 v va (by omega) (by omega)) (w := 0) (by decide) (by decide) pd_1 rfl (rest := []) rfl rfl (Nat.le_of_eq rfl) (by decide) (by decide) at_226 ?_
        rintro _ _ ⟨rfl, rfl⟩
        show Wk _ p l e _ s m _ below meth c n0 _ h34 6 885 (mkF m 229 #[.val (.long i0), .second, .val (.long i1), .second, .val (.long i2), .second, .val (.int i3), .val (.int i4), .val (.long (Int64.ofNat va)), .second, .val (.long (Int64.ofNat vb)), .second, .val (.long (Int64.ofNat vc)), .second, .val (.ref b2), .val (.int (3 : Int32)), .val (.long (Int64.ofNat (min va (min vb vc)))), .second, .val (.long (Int64.ofNat v)), .second, .val (.long (Int64.ofNat (max (min va vb) (min (max va vb) vc)))), .second, .val (.long (Int64.ofNat v)), .second, .val (.long (Int64.ofNat v)), .second] [(.long (Int64.ofNat (max v va)))])
        refine Wk.st (g' := (mkF m 231 #[.val (.long i0), .second, .val (.long i1), .second, .val (.long i2), .second, .val (.int i3), .val (.int i4), .val (.long (Int64.ofNat va)), .second, .val (.long (Int64.ofNat vb)), .second, .val (.long (Int64.ofNat vc)), .second, .val (.ref b2), .val (.int (3 : Int32)), .val (.long (Int64.ofNat (min va (min vb vc)))), .second, .val (.long (Int64.ofNat v)), .second, .val (.long (Int64.ofNat (max (min va vb) (min (max va vb) vc)))), .second, .val (.long (Int64.ofNat v)), .second, .val (.long (Int64.ofNat (max v va))), .second] [])) (fun X t q => XS.lstore X.here C.hx rfl (hb C.hby at_229) rfl (l' := #[.val (.long i0), .second, .val (.long i1), .second, .val (.long i2), .second, .val (.int i3), .val (.int i4), .val (.long (Int64.ofNat va)), .second, .val (.long (Int64.ofNat vb)), .second, .val (.long (Int64.ofNat vc)), .second, .val (.ref b2), .val (.int (3 : Int32)), .val (.long (Int64.ofNat (min va (min vb vc)))), .second, .val (.long (Int64.ofNat v)), .second, .val (.long (Int64.ofNat (max (min va vb) (min (max va vb) vc)))), .second, .val (.long (Int64.ofNat v)), .second, .val (.long (Int64.ofNat (max v va))), .second]) rfl q) ?_
        exact k231 (max v va) (by omega) (if_pos hq219).symm
      · skip
        rw [show (if Ky va = Ky v then (1 : Int32) else (0 : Int32)) = (0 : Int32) from if_neg hq219]
        show Wk _ p l e _ s m _ below meth c n0 _ h34 6 885 (mkF m 219 #[.val (.long i0), .second, .val (.long i1), .second, .val (.long i2), .second, .val (.int i3), .val (.int i4), .val (.long (Int64.ofNat va)), .second, .val (.long (Int64.ofNat vb)), .second, .val (.long (Int64.ofNat vc)), .second, .val (.ref b2), .val (.int (3 : Int32)), .val (.long (Int64.ofNat (min va (min vb vc)))), .second, .val (.long (Int64.ofNat v)), .second, .val (.long (Int64.ofNat (max (min va vb) (min (max va vb) vc)))), .second, .val (.long (Int64.ofNat v)), .second, .val (.long (Int64.ofNat v)), .second] [(.int (0 : Int32))])
        refine Wk.st (g' := (mkF m 231 #[.val (.long i0), .second, .val (.long i1), .second, .val (.long i2), .second, .val (.int i3), .val (.int i4), .val (.long (Int64.ofNat va)), .second, .val (.long (Int64.ofNat vb)), .second, .val (.long (Int64.ofNat vc)), .second, .val (.ref b2), .val (.int (3 : Int32)), .val (.long (Int64.ofNat (min va (min vb vc)))), .second, .val (.long (Int64.ofNat v)), .second, .val (.long (Int64.ofNat (max (min va vb) (min (max va vb) vc)))), .second, .val (.long (Int64.ofNat v)), .second, .val (.long (Int64.ofNat v)), .second] [])) (fun X t q => XS.ifYes X.here C.hx rfl (pc0 := 219) (pc' := 231) rfl (hb C.hby at_219) rfl (XT.i0_eq_t (by decide)) (by decide) (by decide) q) ?_
        exact k231 v (by omega) (if_neg hq219).symm
  have k71 : ∀ va vb vc : Nat, va < 9223372036854775808 → vb < 9223372036854775808 → vc < 9223372036854775808 → Wk false p l e room_1 s m #[(.long i0), (.long i1), (.long i2), (.int i3), (.int i4)] below meth c n0 (fun v _ => v = some (.int 1) ∧ True) h0 0 0 (mkF m 71 #[.val (.long i0), .second, .val (.long i1), .second, .val (.long i2), .second, .val (.int i3), .val (.int i4), .val (.long (Int64.ofNat va)), .second, .val (.long (Int64.ofNat vb)), .second, .val (.long (Int64.ofNat vc)), .second, .unset, .unset, .unset, .unset, .unset, .unset, .unset, .unset, .unset, .unset, .unset, .unset] []) := by
    intro va vb vc hva hvb hvc
    refine Wk.st (g' := (mkF m 73 #[.val (.long i0), .second, .val (.long i1), .second, .val (.long i2), .second, .val (.int i3), .val (.int i4), .val (.long (Int64.ofNat va)), .second, .val (.long (Int64.ofNat vb)), .second, .val (.long (Int64.ofNat vc)), .second, .unset, .unset, .unset, .unset, .unset, .unset, .unset, .unset, .unset, .unset, .unset, .unset] [(.int i3)])) (fun X t q => XS.iload X.here C.hx rfl (hb C.hby at_71) rfl q) ?_
    refine Wk.st (g' := (mkF m 74 #[.val (.long i0), .second, .val (.long i1), .second, .val (.long i2), .second, .val (.int i3), .val (.int i4), .val (.long (Int64.ofNat va)), .second, .val (.long (Int64.ofNat vb)), .second, .val (.long (Int64.ofNat vc)), .second, .unset, .unset, .unset, .unset, .unset, .unset, .unset, .unset, .unset, .unset, .unset, .unset] [(.int (2 : Int32)), (.int i3)])) (fun X t q => XS.iconst X.here C.hx rfl (hb C.hby at_73) q) ?_
    refine Wk.st (g' := (mkF m 75 #[.val (.long i0), .second, .val (.long i1), .second, .val (.long i2), .second, .val (.int i3), .val (.int i4), .val (.long (Int64.ofNat va)), .second, .val (.long (Int64.ofNat vb)), .second, .val (.long (Int64.ofNat vc)), .second, .unset, .unset, .unset, .unset, .unset, .unset, .unset, .unset, .unset, .unset, .unset, .unset] [(.int (i3 &&& (2 : Int32)))])) (fun X t q => XS.iand X.here C.hx rfl (hb C.hby at_74) rfl q) ?_
    by_cases hb41 : (i3 &&& (2 : Int32)) = (0 : Int32)
    · skip
      refine Wk.st (g' := (mkF m 89 #[.val (.long i0), .second, .val (.long i1), .second, .val (.long i2), .second, .val (.int i3), .val (.int i4), .val (.long (Int64.ofNat va)), .second, .val (.long (Int64.ofNat vb)), .second, .val (.long (Int64.ofNat vc)), .second, .unset, .unset, .unset, .unset, .unset, .unset, .unset, .unset, .unset, .unset, .unset, .unset] [])) (fun X t q => XS.ifYes X.here C.hx rfl (pc0 := 75) (pc' := 89) rfl (hb C.hby at_75) rfl (XT.i0_eq_t hb41) (by decide) (by decide) q) ?_
      exact k89 va vb vc hva hvb hvc
    · skip
      refine Wk.st (g' := (mkF m 78 #[.val (.long i0), .second, .val (.long i1), .second, .val (.long i2), .second, .val (.int i3), .val (.int i4), .val (.long (Int64.ofNat va)), .second, .val (.long (Int64.ofNat vb)), .second, .val (.long (Int64.ofNat vc)), .second, .unset, .unset, .unset, .unset, .unset, .unset, .unset, .unset, .unset, .unset, .unset, .unset] [])) (fun X t q => XS.ifNo X.here C.hx rfl (hb C.hby at_75) rfl (XT.i0_eq_f hb41) q) ?_
      refine Wk.st (g' := (mkF m 80 #[.val (.long i0), .second, .val (.long i1), .second, .val (.long i2), .second, .val (.int i3), .val (.int i4), .val (.long (Int64.ofNat va)), .second, .val (.long (Int64.ofNat vb)), .second, .val (.long (Int64.ofNat vc)), .second, .unset, .unset, .unset, .unset, .unset, .unset, .unset, .unset, .unset, .unset, .unset, .unset] [(.long (Int64.ofNat va))])) (fun X t q => XS.lload X.here C.hx rfl (hb C.hby at_78) rfl q) ?_
      refine Wk.st (g' := (mkF m 82 #[.val (.long i0), .second, .val (.long i1), .second, .val (.long i2), .second, .val (.int i3), .val (.int i4), .val (.long (Int64.ofNat va)), .second, .val (.long (Int64.ofNat vb)), .second, .val (.long (Int64.ofNat vc)), .second, .unset, .unset, .unset, .unset, .unset, .unset, .unset, .unset, .unset, .unset, .unset, .unset] [(.long (Int64.ofNat vc)), (.long (Int64.ofNat va))])) (fun X t q => XS.lload X.here C.hx rfl (hb C.hby at_80) rfl q) ?_
      refine Wk.ldc2J C (hw _ (List.mem_of_getElem? (i := 1) rfl)) at_82 ?_
      show Wk _ p l e _ s m _ below meth c n0 _ h0 0 0 (mkF m 85 #[.val (.long i0), .second, .val (.long i1), .second, .val (.long i2), .second, .val (.int i3), .val (.int i4), .val (.long (Int64.ofNat va)), .second, .val (.long (Int64.ofNat vb)), .second, .val (.long (Int64.ofNat vc)), .second, .unset, .unset, .unset, .unset, .unset, .unset, .unset, .unset, .unset, .unset, .unset, .unset] [(.long (15 : Int64)), (.long (Int64.ofNat vc)), (.long (Int64.ofNat va))])
      refine Wk.st (g' := (mkF m 86 #[.val (.long i0), .second, .val (.long i1), .second, .val (.long i2), .second, .val (.int i3), .val (.int i4), .val (.long (Int64.ofNat va)), .second, .val (.long (Int64.ofNat vb)), .second, .val (.long (Int64.ofNat vc)), .second, .unset, .unset, .unset, .unset, .unset, .unset, .unset, .unset, .unset, .unset, .unset, .unset] [(.long ((Int64.ofNat vc) &&& (15 : Int64))), (.long (Int64.ofNat va))])) (fun X t q => XS.land X.here C.hx rfl (hb C.hby at_85) rfl q) ?_
      refine Wk.st (g' := (mkF m 87 #[.val (.long i0), .second, .val (.long i1), .second, .val (.long i2), .second, .val (.int i3), .val (.int i4), .val (.long (Int64.ofNat va)), .second, .val (.long (Int64.ofNat vb)), .second, .val (.long (Int64.ofNat vc)), .second, .unset, .unset, .unset, .unset, .unset, .unset, .unset, .unset, .unset, .unset, .unset, .unset] [(.long ((Int64.ofNat va) ^^^ ((Int64.ofNat vc) &&& (15 : Int64))))])) (fun X t q => XS.lxor X.here C.hx rfl (hb C.hby at_86) rfl q) ?_
      obtain ⟨u, hu, eu⟩ := nn_xor hva hvc (15 : Int64)
      rw [show ((Int64.ofNat va) ^^^ ((Int64.ofNat vc) &&& (15 : Int64))) = (Int64.ofNat u) from eu]
      show Wk _ p l e _ s m _ below meth c n0 _ h0 0 0 (mkF m 87 #[.val (.long i0), .second, .val (.long i1), .second, .val (.long i2), .second, .val (.int i3), .val (.int i4), .val (.long (Int64.ofNat va)), .second, .val (.long (Int64.ofNat vb)), .second, .val (.long (Int64.ofNat vc)), .second, .unset, .unset, .unset, .unset, .unset, .unset, .unset, .unset, .unset, .unset, .unset, .unset] [(.long (Int64.ofNat u))])
      refine Wk.st (g' := (mkF m 89 #[.val (.long i0), .second, .val (.long i1), .second, .val (.long i2), .second, .val (.int i3), .val (.int i4), .val (.long (Int64.ofNat va)), .second, .val (.long (Int64.ofNat vb)), .second, .val (.long (Int64.ofNat u)), .second, .unset, .unset, .unset, .unset, .unset, .unset, .unset, .unset, .unset, .unset, .unset, .unset] [])) (fun X t q => XS.lstore X.here C.hx rfl (hb C.hby at_87) rfl (l' := #[.val (.long i0), .second, .val (.long i1), .second, .val (.long i2), .second, .val (.int i3), .val (.int i4), .val (.long (Int64.ofNat va)), .second, .val (.long (Int64.ofNat vb)), .second, .val (.long (Int64.ofNat u)), .second, .unset, .unset, .unset, .unset, .unset, .unset, .unset, .unset, .unset, .unset, .unset, .unset]) rfl q) ?_
      exact k89 va vb u hva hvb hu
  have k53 : ∀ va vb vc : Nat, va < 9223372036854775808 → vb < 9223372036854775808 → vc < 9223372036854775808 → Wk false p l e room_1 s m #[(.long i0), (.long i1), (.long i2), (.int i3), (.int i4)] below meth c n0 (fun v _ => v = some (.int 1) ∧ True) h0 0 0 (mkF m 53 #[.val (.long i0), .second, .val (.long i1), .second, .val (.long i2), .second, .val (.int i3), .val (.int i4), .val (.long (Int64.ofNat va)), .second, .val (.long (Int64.ofNat vb)), .second, .val (.long (Int64.ofNat vc)), .second, .unset, .unset, .unset, .unset, .unset, .unset, .unset, .unset, .unset, .unset, .unset, .unset] []) := by
    intro va vb vc hva hvb hvc
    refine Wk.st (g' := (mkF m 55 #[.val (.long i0), .second, .val (.long i1), .second, .val (.long i2), .second, .val (.int i3), .val (.int i4), .val (.long (Int64.ofNat va)), .second, .val (.long (Int64.ofNat vb)), .second, .val (.long (Int64.ofNat vc)), .second, .unset, .unset, .unset, .unset, .unset, .unset, .unset, .unset, .unset, .unset, .unset, .unset] [(.int i3)])) (fun X t q => XS.iload X.here C.hx rfl (hb C.hby at_53) rfl q) ?_
    refine Wk.st (g' := (mkF m 56 #[.val (.long i0), .second, .val (.long i1), .second, .val (.long i2), .second, .val (.int i3), .val (.int i4), .val (.long (Int64.ofNat va)), .second, .val (.long (Int64.ofNat vb)), .second, .val (.long (Int64.ofNat vc)), .second, .unset, .unset, .unset, .unset, .unset, .unset, .unset, .unset, .unset, .unset, .unset, .unset] [(.int (1 : Int32)), (.int i3)])) (fun X t q => XS.iconst X.here C.hx rfl (hb C.hby at_55) q) ?_
    refine Wk.st (g' := (mkF m 57 #[.val (.long i0), .second, .val (.long i1), .second, .val (.long i2), .second, .val (.int i3), .val (.int i4), .val (.long (Int64.ofNat va)), .second, .val (.long (Int64.ofNat vb)), .second, .val (.long (Int64.ofNat vc)), .second, .unset, .unset, .unset, .unset, .unset, .unset, .unset, .unset, .unset, .unset, .unset, .unset] [(.int (i3 &&& (1 : Int32)))])) (fun X t q => XS.iand X.here C.hx rfl (hb C.hby at_56) rfl q) ?_
    by_cases hb42 : (i3 &&& (1 : Int32)) = (0 : Int32)
    · skip
      refine Wk.st (g' := (mkF m 71 #[.val (.long i0), .second, .val (.long i1), .second, .val (.long i2), .second, .val (.int i3), .val (.int i4), .val (.long (Int64.ofNat va)), .second, .val (.long (Int64.ofNat vb)), .second, .val (.long (Int64.ofNat vc)), .second, .unset, .unset, .unset, .unset, .unset, .unset, .unset, .unset, .unset, .unset, .unset, .unset] [])) (fun X t q => XS.ifYes X.here C.hx rfl (pc0 := 57) (pc' := 71) rfl (hb C.hby at_57) rfl (XT.i0_eq_t hb42) (by decide) (by decide) q) ?_
      exact k71 va vb vc hva hvb hvc
    · skip
      refine Wk.st (g' := (mkF m 60 #[.val (.long i0), .second, .val (.long i1), .second, .val (.long i2), .second, .val (.int i3), .val (.int i4), .val (.long (Int64.ofNat va)), .second, .val (.long (Int64.ofNat vb)), .second, .val (.long (Int64.ofNat vc)), .second, .unset, .unset, .unset, .unset, .unset, .unset, .unset, .unset, .unset, .unset, .unset, .unset] [])) (fun X t q => XS.ifNo X.here C.hx rfl (hb C.hby at_57) rfl (XT.i0_eq_f hb42) q) ?_
      refine Wk.st (g' := (mkF m 62 #[.val (.long i0), .second, .val (.long i1), .second, .val (.long i2), .second, .val (.int i3), .val (.int i4), .val (.long (Int64.ofNat va)), .second, .val (.long (Int64.ofNat vb)), .second, .val (.long (Int64.ofNat vc)), .second, .unset, .unset, .unset, .unset, .unset, .unset, .unset, .unset, .unset, .unset, .unset, .unset] [(.long (Int64.ofNat va))])) (fun X t q => XS.lload X.here C.hx rfl (hb C.hby at_60) rfl q) ?_
      refine Wk.st (g' := (mkF m 64 #[.val (.long i0), .second, .val (.long i1), .second, .val (.long i2), .second, .val (.int i3), .val (.int i4), .val (.long (Int64.ofNat va)), .second, .val (.long (Int64.ofNat vb)), .second, .val (.long (Int64.ofNat vc)), .second, .unset, .unset, .unset, .unset, .unset, .unset, .unset, .unset, .unset, .unset, .unset, .unset] [(.long (Int64.ofNat vb)), (.long (Int64.ofNat va))])) (fun X t q => XS.lload X.here C.hx rfl (hb C.hby at_62) rfl q) ?_
      refine Wk.ldc2J C (hw _ (List.mem_of_getElem? (i := 70) rfl)) at_64 ?_
      show Wk _ p l e _ s m _ below meth c n0 _ h0 0 0 (mkF m 67 #[.val (.long i0), .second, .val (.long i1), .second, .val (.long i2), .second, .val (.int i3), .val (.int i4), .val (.long (Int64.ofNat va)), .second, .val (.long (Int64.ofNat vb)), .second, .val (.long (Int64.ofNat vc)), .second, .unset, .unset, .unset, .unset, .unset, .unset, .unset, .unset, .unset, .unset, .unset, .unset] [(.long (255 : Int64)), (.long (Int64.ofNat vb)), (.long (Int64.ofNat va))])
      refine Wk.st (g' := (mkF m 68 #[.val (.long i0), .second, .val (.long i1), .second, .val (.long i2), .second, .val (.int i3), .val (.int i4), .val (.long (Int64.ofNat va)), .second, .val (.long (Int64.ofNat vb)), .second, .val (.long (Int64.ofNat vc)), .second, .unset, .unset, .unset, .unset, .unset, .unset, .unset, .unset, .unset, .unset, .unset, .unset] [(.long ((Int64.ofNat vb) &&& (255 : Int64))), (.long (Int64.ofNat va))])) (fun X t q => XS.land X.here C.hx rfl (hb C.hby at_67) rfl q) ?_
      refine Wk.st (g' := (mkF m 69 #[.val (.long i0), .second, .val (.long i1), .second, .val (.long i2), .second, .val (.int i3), .val (.int i4), .val (.long (Int64.ofNat va)), .second, .val (.long (Int64.ofNat vb)), .second, .val (.long (Int64.ofNat vc)), .second, .unset, .unset, .unset, .unset, .unset, .unset, .unset, .unset, .unset, .unset, .unset, .unset] [(.long ((Int64.ofNat va) ^^^ ((Int64.ofNat vb) &&& (255 : Int64))))])) (fun X t q => XS.lxor X.here C.hx rfl (hb C.hby at_68) rfl q) ?_
      obtain ⟨u, hu, eu⟩ := nn_xor hva hvb (255 : Int64)
      rw [show ((Int64.ofNat va) ^^^ ((Int64.ofNat vb) &&& (255 : Int64))) = (Int64.ofNat u) from eu]
      show Wk _ p l e _ s m _ below meth c n0 _ h0 0 0 (mkF m 69 #[.val (.long i0), .second, .val (.long i1), .second, .val (.long i2), .second, .val (.int i3), .val (.int i4), .val (.long (Int64.ofNat va)), .second, .val (.long (Int64.ofNat vb)), .second, .val (.long (Int64.ofNat vc)), .second, .unset, .unset, .unset, .unset, .unset, .unset, .unset, .unset, .unset, .unset, .unset, .unset] [(.long (Int64.ofNat u))])
      refine Wk.st (g' := (mkF m 71 #[.val (.long i0), .second, .val (.long i1), .second, .val (.long i2), .second, .val (.int i3), .val (.int i4), .val (.long (Int64.ofNat va)), .second, .val (.long (Int64.ofNat u)), .second, .val (.long (Int64.ofNat vc)), .second, .unset, .unset, .unset, .unset, .unset, .unset, .unset, .unset, .unset, .unset, .unset, .unset] [])) (fun X t q => XS.lstore X.here C.hx rfl (hb C.hby at_69) rfl (l' := #[.val (.long i0), .second, .val (.long i1), .second, .val (.long i2), .second, .val (.int i3), .val (.int i4), .val (.long (Int64.ofNat va)), .second, .val (.long (Int64.ofNat u)), .second, .val (.long (Int64.ofNat vc)), .second, .unset, .unset, .unset, .unset, .unset, .unset, .unset, .unset, .unset, .unset, .unset, .unset]) rfl q) ?_
      exact k71 va u vc hva hu hvc
  refine Wk.st (g' := (mkF m 1 #[.val (.long i0), .second, .val (.long i1), .second, .val (.long i2), .second, .val (.int i3), .val (.int i4), .unset, .unset, .unset, .unset, .unset, .unset, .unset, .unset, .unset, .unset, .unset, .unset, .unset, .unset, .unset, .unset, .unset, .unset] [(.long i0)])) (fun X t q => XS.lloadN X.here C.hx rfl (hb C.hby at_0) rfl q) ?_
  refine Wk.ldc2J C (hw _ (List.mem_of_getElem? (i := 0) rfl)) at_1 ?_
  show Wk _ p l e _ s m _ below meth c n0 _ h0 0 0 (mkF m 4 #[.val (.long i0), .second, .val (.long i1), .second, .val (.long i2), .second, .val (.int i3), .val (.int i4), .unset, .unset, .unset, .unset, .unset, .unset, .unset, .unset, .unset, .unset, .unset, .unset, .unset, .unset, .unset, .unset, .unset, .unset] [(.long (9223372036854775807 : Int64)), (.long i0)])
  refine Wk.st (g' := (mkF m 5 #[.val (.long i0), .second, .val (.long i1), .second, .val (.long i2), .second, .val (.int i3), .val (.int i4), .unset, .unset, .unset, .unset, .unset, .unset, .unset, .unset, .unset, .unset, .unset, .unset, .unset, .unset, .unset, .unset, .unset, .unset] [(.long (i0 &&& (9223372036854775807 : Int64)))])) (fun X t q => XS.land X.here C.hx rfl (hb C.hby at_4) rfl q) ?_
  obtain ⟨x1, hx1, ex1⟩ := nn64 i0
  rw [show (i0 &&& (9223372036854775807 : Int64)) = (Int64.ofNat x1) from ex1]
  show Wk _ p l e _ s m _ below meth c n0 _ h0 0 0 (mkF m 5 #[.val (.long i0), .second, .val (.long i1), .second, .val (.long i2), .second, .val (.int i3), .val (.int i4), .unset, .unset, .unset, .unset, .unset, .unset, .unset, .unset, .unset, .unset, .unset, .unset, .unset, .unset, .unset, .unset, .unset, .unset] [(.long (Int64.ofNat x1))])
  refine Wk.st (g' := (mkF m 7 #[.val (.long i0), .second, .val (.long i1), .second, .val (.long i2), .second, .val (.int i3), .val (.int i4), .val (.long (Int64.ofNat x1)), .second, .unset, .unset, .unset, .unset, .unset, .unset, .unset, .unset, .unset, .unset, .unset, .unset, .unset, .unset, .unset, .unset] [])) (fun X t q => XS.lstore X.here C.hx rfl (hb C.hby at_5) rfl (l' := #[.val (.long i0), .second, .val (.long i1), .second, .val (.long i2), .second, .val (.int i3), .val (.int i4), .val (.long (Int64.ofNat x1)), .second, .unset, .unset, .unset, .unset, .unset, .unset, .unset, .unset, .unset, .unset, .unset, .unset, .unset, .unset, .unset, .unset]) rfl q) ?_
  refine Wk.st (g' := (mkF m 8 #[.val (.long i0), .second, .val (.long i1), .second, .val (.long i2), .second, .val (.int i3), .val (.int i4), .val (.long (Int64.ofNat x1)), .second, .unset, .unset, .unset, .unset, .unset, .unset, .unset, .unset, .unset, .unset, .unset, .unset, .unset, .unset, .unset, .unset] [(.long i1)])) (fun X t q => XS.lloadN X.here C.hx rfl (hb C.hby at_7) rfl q) ?_
  refine Wk.ldc2J C (hw _ (List.mem_of_getElem? (i := 0) rfl)) at_8 ?_
  show Wk _ p l e _ s m _ below meth c n0 _ h0 0 0 (mkF m 11 #[.val (.long i0), .second, .val (.long i1), .second, .val (.long i2), .second, .val (.int i3), .val (.int i4), .val (.long (Int64.ofNat x1)), .second, .unset, .unset, .unset, .unset, .unset, .unset, .unset, .unset, .unset, .unset, .unset, .unset, .unset, .unset, .unset, .unset] [(.long (9223372036854775807 : Int64)), (.long i1)])
  refine Wk.st (g' := (mkF m 12 #[.val (.long i0), .second, .val (.long i1), .second, .val (.long i2), .second, .val (.int i3), .val (.int i4), .val (.long (Int64.ofNat x1)), .second, .unset, .unset, .unset, .unset, .unset, .unset, .unset, .unset, .unset, .unset, .unset, .unset, .unset, .unset, .unset, .unset] [(.long (i1 &&& (9223372036854775807 : Int64)))])) (fun X t q => XS.land X.here C.hx rfl (hb C.hby at_11) rfl q) ?_
  obtain ⟨x2, hx2, ex2⟩ := nn64 i1
  rw [show (i1 &&& (9223372036854775807 : Int64)) = (Int64.ofNat x2) from ex2]
  show Wk _ p l e _ s m _ below meth c n0 _ h0 0 0 (mkF m 12 #[.val (.long i0), .second, .val (.long i1), .second, .val (.long i2), .second, .val (.int i3), .val (.int i4), .val (.long (Int64.ofNat x1)), .second, .unset, .unset, .unset, .unset, .unset, .unset, .unset, .unset, .unset, .unset, .unset, .unset, .unset, .unset, .unset, .unset] [(.long (Int64.ofNat x2))])
  refine Wk.st (g' := (mkF m 14 #[.val (.long i0), .second, .val (.long i1), .second, .val (.long i2), .second, .val (.int i3), .val (.int i4), .val (.long (Int64.ofNat x1)), .second, .val (.long (Int64.ofNat x2)), .second, .unset, .unset, .unset, .unset, .unset, .unset, .unset, .unset, .unset, .unset, .unset, .unset, .unset, .unset] [])) (fun X t q => XS.lstore X.here C.hx rfl (hb C.hby at_12) rfl (l' := #[.val (.long i0), .second, .val (.long i1), .second, .val (.long i2), .second, .val (.int i3), .val (.int i4), .val (.long (Int64.ofNat x1)), .second, .val (.long (Int64.ofNat x2)), .second, .unset, .unset, .unset, .unset, .unset, .unset, .unset, .unset, .unset, .unset, .unset, .unset, .unset, .unset]) rfl q) ?_
  refine Wk.st (g' := (mkF m 16 #[.val (.long i0), .second, .val (.long i1), .second, .val (.long i2), .second, .val (.int i3), .val (.int i4), .val (.long (Int64.ofNat x1)), .second, .val (.long (Int64.ofNat x2)), .second, .unset, .unset, .unset, .unset, .unset, .unset, .unset, .unset, .unset, .unset, .unset, .unset, .unset, .unset] [(.long i2)])) (fun X t q => XS.lload X.here C.hx rfl (hb C.hby at_14) rfl q) ?_
  refine Wk.ldc2J C (hw _ (List.mem_of_getElem? (i := 0) rfl)) at_16 ?_
  show Wk _ p l e _ s m _ below meth c n0 _ h0 0 0 (mkF m 19 #[.val (.long i0), .second, .val (.long i1), .second, .val (.long i2), .second, .val (.int i3), .val (.int i4), .val (.long (Int64.ofNat x1)), .second, .val (.long (Int64.ofNat x2)), .second, .unset, .unset, .unset, .unset, .unset, .unset, .unset, .unset, .unset, .unset, .unset, .unset, .unset, .unset] [(.long (9223372036854775807 : Int64)), (.long i2)])
  refine Wk.st (g' := (mkF m 20 #[.val (.long i0), .second, .val (.long i1), .second, .val (.long i2), .second, .val (.int i3), .val (.int i4), .val (.long (Int64.ofNat x1)), .second, .val (.long (Int64.ofNat x2)), .second, .unset, .unset, .unset, .unset, .unset, .unset, .unset, .unset, .unset, .unset, .unset, .unset, .unset, .unset] [(.long (i2 &&& (9223372036854775807 : Int64)))])) (fun X t q => XS.land X.here C.hx rfl (hb C.hby at_19) rfl q) ?_
  obtain ⟨x3, hx3, ex3⟩ := nn64 i2
  rw [show (i2 &&& (9223372036854775807 : Int64)) = (Int64.ofNat x3) from ex3]
  show Wk _ p l e _ s m _ below meth c n0 _ h0 0 0 (mkF m 20 #[.val (.long i0), .second, .val (.long i1), .second, .val (.long i2), .second, .val (.int i3), .val (.int i4), .val (.long (Int64.ofNat x1)), .second, .val (.long (Int64.ofNat x2)), .second, .unset, .unset, .unset, .unset, .unset, .unset, .unset, .unset, .unset, .unset, .unset, .unset, .unset, .unset] [(.long (Int64.ofNat x3))])
  refine Wk.st (g' := (mkF m 22 #[.val (.long i0), .second, .val (.long i1), .second, .val (.long i2), .second, .val (.int i3), .val (.int i4), .val (.long (Int64.ofNat x1)), .second, .val (.long (Int64.ofNat x2)), .second, .val (.long (Int64.ofNat x3)), .second, .unset, .unset, .unset, .unset, .unset, .unset, .unset, .unset, .unset, .unset, .unset, .unset] [])) (fun X t q => XS.lstore X.here C.hx rfl (hb C.hby at_20) rfl (l' := #[.val (.long i0), .second, .val (.long i1), .second, .val (.long i2), .second, .val (.int i3), .val (.int i4), .val (.long (Int64.ofNat x1)), .second, .val (.long (Int64.ofNat x2)), .second, .val (.long (Int64.ofNat x3)), .second, .unset, .unset, .unset, .unset, .unset, .unset, .unset, .unset, .unset, .unset, .unset, .unset]) rfl q) ?_
  refine Wk.st (g' := (mkF m 24 #[.val (.long i0), .second, .val (.long i1), .second, .val (.long i2), .second, .val (.int i3), .val (.int i4), .val (.long (Int64.ofNat x1)), .second, .val (.long (Int64.ofNat x2)), .second, .val (.long (Int64.ofNat x3)), .second, .unset, .unset, .unset, .unset, .unset, .unset, .unset, .unset, .unset, .unset, .unset, .unset] [(.int i3)])) (fun X t q => XS.iload X.here C.hx rfl (hb C.hby at_22) rfl q) ?_
  refine Wk.st (g' := (mkF m 25 #[.val (.long i0), .second, .val (.long i1), .second, .val (.long i2), .second, .val (.int i3), .val (.int i4), .val (.long (Int64.ofNat x1)), .second, .val (.long (Int64.ofNat x2)), .second, .val (.long (Int64.ofNat x3)), .second, .unset, .unset, .unset, .unset, .unset, .unset, .unset, .unset, .unset, .unset, .unset, .unset] [(.int (4 : Int32)), (.int i3)])) (fun X t q => XS.iconst X.here C.hx rfl (hb C.hby at_24) q) ?_
  refine Wk.st (g' := (mkF m 26 #[.val (.long i0), .second, .val (.long i1), .second, .val (.long i2), .second, .val (.int i3), .val (.int i4), .val (.long (Int64.ofNat x1)), .second, .val (.long (Int64.ofNat x2)), .second, .val (.long (Int64.ofNat x3)), .second, .unset, .unset, .unset, .unset, .unset, .unset, .unset, .unset, .unset, .unset, .unset, .unset] [(.int (i3 &&& (4 : Int32)))])) (fun X t q => XS.iand X.here C.hx rfl (hb C.hby at_25) rfl q) ?_
  by_cases hb43 : (i3 &&& (4 : Int32)) = (0 : Int32)
  · skip
    refine Wk.st (g' := (mkF m 53 #[.val (.long i0), .second, .val (.long i1), .second, .val (.long i2), .second, .val (.int i3), .val (.int i4), .val (.long (Int64.ofNat x1)), .second, .val (.long (Int64.ofNat x2)), .second, .val (.long (Int64.ofNat x3)), .second, .unset, .unset, .unset, .unset, .unset, .unset, .unset, .unset, .unset, .unset, .unset, .unset] [])) (fun X t q => XS.ifYes X.here C.hx rfl (pc0 := 26) (pc' := 53) rfl (hb C.hby at_26) rfl (XT.i0_eq_t hb43) (by decide) (by decide) q) ?_
    exact k53 x1 x2 x3 hx1 hx2 hx3
  · skip
    refine Wk.st (g' := (mkF m 29 #[.val (.long i0), .second, .val (.long i1), .second, .val (.long i2), .second, .val (.int i3), .val (.int i4), .val (.long (Int64.ofNat x1)), .second, .val (.long (Int64.ofNat x2)), .second, .val (.long (Int64.ofNat x3)), .second, .unset, .unset, .unset, .unset, .unset, .unset, .unset, .unset, .unset, .unset, .unset, .unset] [])) (fun X t q => XS.ifNo X.here C.hx rfl (hb C.hby at_26) rfl (XT.i0_eq_f hb43) q) ?_
    refine Wk.st (g' := (mkF m 31 #[.val (.long i0), .second, .val (.long i1), .second, .val (.long i2), .second, .val (.int i3), .val (.int i4), .val (.long (Int64.ofNat x1)), .second, .val (.long (Int64.ofNat x2)), .second, .val (.long (Int64.ofNat x3)), .second, .unset, .unset, .unset, .unset, .unset, .unset, .unset, .unset, .unset, .unset, .unset, .unset] [(.long (Int64.ofNat x1))])) (fun X t q => XS.lload X.here C.hx rfl (hb C.hby at_29) rfl q) ?_
    refine Wk.ldc2J C (hw _ (List.mem_of_getElem? (i := 69) rfl)) at_31 ?_
    show Wk _ p l e _ s m _ below meth c n0 _ h0 0 0 (mkF m 34 #[.val (.long i0), .second, .val (.long i1), .second, .val (.long i2), .second, .val (.int i3), .val (.int i4), .val (.long (Int64.ofNat x1)), .second, .val (.long (Int64.ofNat x2)), .second, .val (.long (Int64.ofNat x3)), .second, .unset, .unset, .unset, .unset, .unset, .unset, .unset, .unset, .unset, .unset, .unset, .unset] [(.long (511 : Int64)), (.long (Int64.ofNat x1))])
    refine Wk.st (g' := (mkF m 35 #[.val (.long i0), .second, .val (.long i1), .second, .val (.long i2), .second, .val (.int i3), .val (.int i4), .val (.long (Int64.ofNat x1)), .second, .val (.long (Int64.ofNat x2)), .second, .val (.long (Int64.ofNat x3)), .second, .unset, .unset, .unset, .unset, .unset, .unset, .unset, .unset, .unset, .unset, .unset, .unset] [(.long ((Int64.ofNat x1) &&& (511 : Int64)))])) (fun X t q => XS.land X.here C.hx rfl (hb C.hby at_34) rfl q) ?_
    obtain ⟨y1, hy1, ey1⟩ := nn_and hx1 (511 : Int64)
    rw [show ((Int64.ofNat x1) &&& (511 : Int64)) = (Int64.ofNat y1) from ey1]
    show Wk _ p l e _ s m _ below meth c n0 _ h0 0 0 (mkF m 35 #[.val (.long i0), .second, .val (.long i1), .second, .val (.long i2), .second, .val (.int i3), .val (.int i4), .val (.long (Int64.ofNat x1)), .second, .val (.long (Int64.ofNat x2)), .second, .val (.long (Int64.ofNat x3)), .second, .unset, .unset, .unset, .unset, .unset, .unset, .unset, .unset, .unset, .unset, .unset, .unset] [(.long (Int64.ofNat y1))])
    refine Wk.st (g' := (mkF m 37 #[.val (.long i0), .second, .val (.long i1), .second, .val (.long i2), .second, .val (.int i3), .val (.int i4), .val (.long (Int64.ofNat y1)), .second, .val (.long (Int64.ofNat x2)), .second, .val (.long (Int64.ofNat x3)), .second, .unset, .unset, .unset, .unset, .unset, .unset, .unset, .unset, .unset, .unset, .unset, .unset] [])) (fun X t q => XS.lstore X.here C.hx rfl (hb C.hby at_35) rfl (l' := #[.val (.long i0), .second, .val (.long i1), .second, .val (.long i2), .second, .val (.int i3), .val (.int i4), .val (.long (Int64.ofNat y1)), .second, .val (.long (Int64.ofNat x2)), .second, .val (.long (Int64.ofNat x3)), .second, .unset, .unset, .unset, .unset, .unset, .unset, .unset, .unset, .unset, .unset, .unset, .unset]) rfl q) ?_
    refine Wk.st (g' := (mkF m 39 #[.val (.long i0), .second, .val (.long i1), .second, .val (.long i2), .second, .val (.int i3), .val (.int i4), .val (.long (Int64.ofNat y1)), .second, .val (.long (Int64.ofNat x2)), .second, .val (.long (Int64.ofNat x3)), .second, .unset, .unset, .unset, .unset, .unset, .unset, .unset, .unset, .unset, .unset, .unset, .unset] [(.long (Int64.ofNat x2))])) (fun X t q => XS.lload X.here C.hx rfl (hb C.hby at_37) rfl q) ?_
    refine Wk.ldc2J C (hw _ (List.mem_of_getElem? (i := 69) rfl)) at_39 ?_
    show Wk _ p l e _ s m _ below meth c n0 _ h0 0 0 (mkF m 42 #[.val (.long i0), .second, .val (.long i1), .second, .val (.long i2), .second, .val (.int i3), .val (.int i4), .val (.long (Int64.ofNat y1)), .second, .val (.long (Int64.ofNat x2)), .second, .val (.long (Int64.ofNat x3)), .second, .unset, .unset, .unset, .unset, .unset, .unset, .unset, .unset, .unset, .unset, .unset, .unset] [(.long (511 : Int64)), (.long (Int64.ofNat x2))])
    refine Wk.st (g' := (mkF m 43 #[.val (.long i0), .second, .val (.long i1), .second, .val (.long i2), .second, .val (.int i3), .val (.int i4), .val (.long (Int64.ofNat y1)), .second, .val (.long (Int64.ofNat x2)), .second, .val (.long (Int64.ofNat x3)), .second, .unset, .unset, .unset, .unset, .unset, .unset, .unset, .unset, .unset, .unset, .unset, .unset] [(.long ((Int64.ofNat x2) &&& (511 : Int64)))])) (fun X t q => XS.land X.here C.hx rfl (hb C.hby at_42) rfl q) ?_
    obtain ⟨y2, hy2, ey2⟩ := nn_and hx2 (511 : Int64)
    rw [show ((Int64.ofNat x2) &&& (511 : Int64)) = (Int64.ofNat y2) from ey2]
    show Wk _ p l e _ s m _ below meth c n0 _ h0 0 0 (mkF m 43 #[.val (.long i0), .second, .val (.long i1), .second, .val (.long i2), .second, .val (.int i3), .val (.int i4), .val (.long (Int64.ofNat y1)), .second, .val (.long (Int64.ofNat x2)), .second, .val (.long (Int64.ofNat x3)), .second, .unset, .unset, .unset, .unset, .unset, .unset, .unset, .unset, .unset, .unset, .unset, .unset] [(.long (Int64.ofNat y2))])
    refine Wk.st (g' := (mkF m 45 #[.val (.long i0), .second, .val (.long i1), .second, .val (.long i2), .second, .val (.int i3), .val (.int i4), .val (.long (Int64.ofNat y1)), .second, .val (.long (Int64.ofNat y2)), .second, .val (.long (Int64.ofNat x3)), .second, .unset, .unset, .unset, .unset, .unset, .unset, .unset, .unset, .unset, .unset, .unset, .unset] [])) (fun X t q => XS.lstore X.here C.hx rfl (hb C.hby at_43) rfl (l' := #[.val (.long i0), .second, .val (.long i1), .second, .val (.long i2), .second, .val (.int i3), .val (.int i4), .val (.long (Int64.ofNat y1)), .second, .val (.long (Int64.ofNat y2)), .second, .val (.long (Int64.ofNat x3)), .second, .unset, .unset, .unset, .unset, .unset, .unset, .unset, .unset, .unset, .unset, .unset, .unset]) rfl q) ?_
    refine Wk.st (g' := (mkF m 47 #[.val (.long i0), .second, .val (.long i1), .second, .val (.long i2), .second, .val (.int i3), .val (.int i4), .val (.long (Int64.ofNat y1)), .second, .val (.long (Int64.ofNat y2)), .second, .val (.long (Int64.ofNat x3)), .second, .unset, .unset, .unset, .unset, .unset, .unset, .unset, .unset, .unset, .unset, .unset, .unset] [(.long (Int64.ofNat x3))])) (fun X t q => XS.lload X.here C.hx rfl (hb C.hby at_45) rfl q) ?_
    refine Wk.ldc2J C (hw _ (List.mem_of_getElem? (i := 69) rfl)) at_47 ?_
    show Wk _ p l e _ s m _ below meth c n0 _ h0 0 0 (mkF m 50 #[.val (.long i0), .second, .val (.long i1), .second, .val (.long i2), .second, .val (.int i3), .val (.int i4), .val (.long (Int64.ofNat y1)), .second, .val (.long (Int64.ofNat y2)), .second, .val (.long (Int64.ofNat x3)), .second, .unset, .unset, .unset, .unset, .unset, .unset, .unset, .unset, .unset, .unset, .unset, .unset] [(.long (511 : Int64)), (.long (Int64.ofNat x3))])
    refine Wk.st (g' := (mkF m 51 #[.val (.long i0), .second, .val (.long i1), .second, .val (.long i2), .second, .val (.int i3), .val (.int i4), .val (.long (Int64.ofNat y1)), .second, .val (.long (Int64.ofNat y2)), .second, .val (.long (Int64.ofNat x3)), .second, .unset, .unset, .unset, .unset, .unset, .unset, .unset, .unset, .unset, .unset, .unset, .unset] [(.long ((Int64.ofNat x3) &&& (511 : Int64)))])) (fun X t q => XS.land X.here C.hx rfl (hb C.hby at_50) rfl q) ?_
    obtain ⟨y3, hy3, ey3⟩ := nn_and hx3 (511 : Int64)
    rw [show ((Int64.ofNat x3) &&& (511 : Int64)) = (Int64.ofNat y3) from ey3]
    show Wk _ p l e _ s m _ below meth c n0 _ h0 0 0 (mkF m 51 #[.val (.long i0), .second, .val (.long i1), .second, .val (.long i2), .second, .val (.int i3), .val (.int i4), .val (.long (Int64.ofNat y1)), .second, .val (.long (Int64.ofNat y2)), .second, .val (.long (Int64.ofNat x3)), .second, .unset, .unset, .unset, .unset, .unset, .unset, .unset, .unset, .unset, .unset, .unset, .unset] [(.long (Int64.ofNat y3))])
    refine Wk.st (g' := (mkF m 53 #[.val (.long i0), .second, .val (.long i1), .second, .val (.long i2), .second, .val (.int i3), .val (.int i4), .val (.long (Int64.ofNat y1)), .second, .val (.long (Int64.ofNat y2)), .second, .val (.long (Int64.ofNat y3)), .second, .unset, .unset, .unset, .unset, .unset, .unset, .unset, .unset, .unset, .unset, .unset, .unset] [])) (fun X t q => XS.lstore X.here C.hx rfl (hb C.hby at_51) rfl (l' := #[.val (.long i0), .second, .val (.long i1), .second, .val (.long i2), .second, .val (.int i3), .val (.int i4), .val (.long (Int64.ofNat y1)), .second, .val (.long (Int64.ofNat y2)), .second, .val (.long (Int64.ofNat y3)), .second, .unset, .unset, .unset, .unset, .unset, .unset, .unset, .unset, .unset, .unset, .unset, .unset]) rfl q) ?_
    exact k53 y1 y2 y3 hy1 hy2 hy3
set_option maxRecDepth 65536 in
set_option maxHeartbeats 40000000 in
theorem comes_1 {Post : Tables → Env → Array Value → State → Outcome → State → Prop} (hpost : ∀ tb e args s v u, (limb_1_1.after args s (.returned v) u = true ∧ limb_1_2.after args s (.returned v) u = true ∧ True) → FrameEnd s (.returned v) u (Jvm.fieldLocs frame_1_writes args s ++ Jvm.arrayLocs frame_1_arrays args s ++ Jvm.staticLocs frame_1_statics s) 24 1856 → Post tb e args s (.returned v) u) :
    ArmFor flags0 classFile x code maxLocals ret World_1 tables_1 room_1 Calls_1 rest_1 Pre_1 Post := by
  intro l hfl _ _ p e ha hc hk s m args below hf hA hF happ hP
  obtain ⟨hcalls, hrest, hpre⟩ := hP
  obtain ⟨-, -, -, hnamed, -, -, -, hat⟩ := (Spec.applies_iff hf).mp happ
  obtain ⟨hg, hn⟩ := and_e (Cond.before_iff.mp (show (Jvm.Cond.and given_1 narrow_1).before args s = true from hpre))
  obtain ⟨hcount, g0⟩ := and_e hg
  obtain ⟨v0, v1, v2, v3, v4, rfl⟩ : ∃ v0 v1 v2 v3 v4 : Value, args = #[v0, v1, v2, v3, v4] := by
    have hs : args.size = 5 := by simpa [Cond.value, given_1] using hcount
    obtain ⟨L⟩ := args
    match L, hs with
    | [v0, v1, v2, v3, v4], _ => exact ⟨v0, v1, v2, v3, v4, rfl⟩
  have hw := fun d (hd : d ∈ tables_1) => atoms_spec (ws := Jvm.Cond.code x code maxLocals ret :: tables_1) hat d (List.mem_cons_of_mem _ hd)
  have hfit : Fit s := fun {y c} hc i hi => by
    obtain ⟨ha, rfl⟩ := Array.getElem?_eq_some_iff.mp hc
    have q := List.all_eq_true.mp ((Array.all_eq_true_iff_forall_mem.mp hF) _ (Array.getElem_mem ha)) i (List.mem_range.mpr hi)
    simpa [Array.getElem?_eq_getElem hi] using q
  obtain ⟨e0, g1⟩ := and_e g0
  obtain ⟨i0, f0⟩ := isL_v e0
  obtain rfl : v0 = (.long i0) := Option.some.inj f0
  obtain ⟨e1, g2⟩ := and_e g1
  obtain ⟨i1, f1⟩ := isL_v e1
  obtain rfl : v1 = (.long i1) := Option.some.inj f1
  obtain ⟨e2, g3⟩ := and_e g2
  obtain ⟨i2, f2⟩ := isL_v e2
  obtain rfl : v2 = (.long i2) := Option.some.inj f2
  obtain ⟨e3, g4⟩ := and_e g3
  obtain ⟨i3, f3⟩ := is_v e3
  obtain rfl : v3 = (.int i3) := Option.some.inj f3
  obtain ⟨i4, f4⟩ := is_v g4
  obtain rfl : v4 = (.int i4) := Option.some.inj f4
  obtain ⟨n, o, h1, h2, h3, _, L, rfl, ⟨⟨rfl, -⟩, N⟩, hq⟩ := law_met l s _ hw s.heap.size s.heap (Nat.le_refl _) i0 i1 i2 i3 i4 tables_1 p e ha hc hk s m _ below hf ((Spec.applies_iff_loose hf).mp happ).1 ⟨rfl, State.Warmed39.refl s, rfl⟩ trivial
  refine ⟨n, _, h1, h2, h3, hpost _ _ _ _ _ _ ⟨Cond.after_iff.mpr rfl, Cond.after_iff.mpr (eq_i res_at (Term.int_eval (1)) rfl), trivial⟩ ⟨hq.1, hq.2.1, (hq.2.2.sift fun y hy => Or.inr (N y hy)).mono (by decide) (by decide)⟩⟩
theorem main_1_1 : Claimed_1_1 := comes_1 fun _ _ _ _ _ _ h hF => ⟨h.1, hF⟩
theorem main_1_2 : Claimed_1_2 := comes_1 fun _ _ _ _ _ _ h hF => ⟨h.2.1, hF⟩
end Jvm.Pilot.@@N@@
namespace Jvm.Pilot.@@N@@
open Jvm Jvm.ClassFile Sem Op Lib Jvm.Free Jvm.Stand Jvm.Pilot.@@N@@.Jvm.D
/-! MADE BY PROGRAM (witnessworld.py) out of the Statement's table words and the real class files: 18 classes; the members and pool entries that the words name. The judged class is class 1, her method 3. -/
namespace start1
open Jvm.ClassFile
def u (s : String) : CpInfo := .utf8 (stringToUtf16 s)
/-- a pool by its gaps: so many unusable entries, then the entry; so many at the end -/
def gap : Nat → List CpInfo → List CpInfo
  | 0, r => r
  | n + 1, r => .unusable :: gap n r
def poolList (es : List (Nat × CpInfo)) (last : Nat) : List CpInfo := es.foldr (fun e r => gap e.1 (e.2 :: r)) (gap last [])
def pool (es : List (Nat × CpInfo)) (last : Nat) : Array CpInfo := ⟨poolList es last⟩
def fileOf (pool : Array CpInfo) (this : Nat) (attrs : Array Attribute := #[]) (ms : Array MethodInfo := #[]) (fl : Nat := 33) (sup : Nat := 0) (ifs : Array Nat := #[]) (fds : Array FieldInfo := #[]) : ClassFile where
  minorVersion := 0
  majorVersion := 65
  constantPool := pool
  accessFlags := fl
  thisClass := this
  superClass := sup
  interfaces := ifs
  fields := fds
  methods := ms
  attributes := attrs
def plain (name : String) (sup : Option ClassId) : Class where
  name := name
  kind := .ordinary
  loader := none
  accessFlags := 33
  super := sup
  interfaces := #[]
  cf := none
  fields := #[]
  methods := #[]
  instanceTypes := #[]
  staticTypes := #[]
  resolved := #[]
  callSites := []
  init := .initialized
  statics := none
  mirror := none

def pool0 : Array CpInfo := pool [(5, u "<init>"), (0, u "()V"), (1, .class_ 10), (1, u "java/lang/Object")] 113

def k0c0 : Code := { maxStack := 0, maxLocals := 1, code := object_method_1_code, exceptionTable := #[], attributes := #[] }
def k0m0 : Method := { name := "<init>", desc := "()V", sig := { parameters := [], returnType := none }, accessFlags := 1, code := some k0c0 }
/-- java/lang/Object -/
def k0 : Class := { plain "java/lang/Object" none with
  accessFlags := 33
  interfaces := #[]
  cf := some (fileOf pool0 8 #[] #[{ accessFlags := 1, nameIndex := 5, descriptorIndex := 6, attributes := #[] }] 33 0 #[] #[])
  fields := #[]
  methods := #[k0m0]
  instanceTypes := #[]
  staticTypes := #[]
  resolved := Array.replicate 124 none
  statics := none }

def pool1 : Array CpInfo := pool [(2, .class_ 4), (0, .nameAndType 5 6), (0, u "java/lang/Object"), (0, u "<init>"), (0, u "()V"), (0, .methodref 8 9), (0, .class_ 10), (0, .nameAndType 11 12), (0, u "java/lang/Math"), (0, u "max"), (0, u "(JJ)J"), (0, .methodref 14 15), (0, .class_ 16), (0, .nameAndType 17 18), (0, u "com/example/headroom/headroom/HistogramValueAtPinLaw"), (0, u "mag"), (0, u "(J)I"), (0, .methodref 8 20), (0, .nameAndType 11 21), (0, u "(II)I"), (2, .long 9223372036854775807), (1, .long 511), (1, .long 255), (1, .long 15), (1, .class_ 33), (0, u "com/example/headroom/headroom/Histogram"), (0, .methodref 32 3), (0, .methodref 32 36), (0, .nameAndType 37 38), (0, u "add"), (0, u "(J)V"), (0, .integer 2147483647), (0, .methodref 8 41), (0, .nameAndType 42 12), (0, u "min"), (0, .methodref 14 44), (0, .nameAndType 45 46), (0, u "sameBucket"), (0, u "(JJ)Z"), (0, .methodref 32 48), (0, .nameAndType 49 50), (0, u "count"), (0, u "()J"), (0, .long 3), (1, .methodref 32 54), (0, .nameAndType 55 56), (0, u "valueAt"), (0, u "(J)J"), (3, u "law"), (0, u "(JJJII)Z")] 2

def k1m0 : Method := { name := "<init>", desc := "()V", sig := { parameters := [], returnType := none }, accessFlags := 1, code := none }
def k1c1 : Code := { maxStack := 4, maxLocals := 3, code := method_2_code, exceptionTable := #[], attributes := #[] }
def k1m1 : Method := { name := "mag", desc := "(J)I", sig := { parameters := [.long], returnType := some .int }, accessFlags := 10, code := some k1c1 }
def k1c2 : Code := { maxStack := 5, maxLocals := 7, code := method_3_code, exceptionTable := #[], attributes := #[] }
def k1m2 : Method := { name := "sameBucket", desc := "(JJ)Z", sig := { parameters := [.long, .long], returnType := some .boolean }, accessFlags := 10, code := some k1c2 }
def k1c3 : Code := { maxStack := 6, maxLocals := 26, code := code, exceptionTable := #[], attributes := #[] }
def k1m3 : Method := { name := "law", desc := "(JJJII)Z", sig := { parameters := [.long, .long, .long, .int, .int], returnType := some .boolean }, accessFlags := 9, code := some k1c3 }
/-- com/example/headroom/headroom/HistogramValueAtPinLaw -/
def k1 : Class := { plain "com/example/headroom/headroom/HistogramValueAtPinLaw" (some 0) with
  accessFlags := 49
  interfaces := #[]
  cf := some (fileOf pool1 14 #[] #[{ accessFlags := 1, nameIndex := 5, descriptorIndex := 6, attributes := #[] }, { accessFlags := 10, nameIndex := 17, descriptorIndex := 18, attributes := #[] }, { accessFlags := 10, nameIndex := 45, descriptorIndex := 46, attributes := #[] }, { accessFlags := 9, nameIndex := 60, descriptorIndex := 61, attributes := #[] }] 49 2 #[] #[])
  fields := #[]
  methods := #[k1m0, k1m1, k1m2, k1m3]
  instanceTypes := #[]
  staticTypes := #[]
  resolved := Array.replicate 64 none
  statics := none }

def pool2 : Array CpInfo := pool [(1, .class_ 2), (0, u "com/example/headroom/headroom/Histogram"), (0, .class_ 4), (0, u "java/lang/Long"), (0, .methodref 6 7), (0, .class_ 8), (0, .nameAndType 9 10), (0, u "java/lang/Object"), (0, u "<init>"), (0, u "()V"), (0, .class_ 12), (0, u "[J"), (0, .fieldref 1 14), (0, .nameAndType 15 16), (0, u "rows"), (0, u "[[J"), (0, .fieldref 1 18), (0, .nameAndType 19 12), (0, u "rowCounts"), (0, .methodref 3 21), (0, .nameAndType 22 23), (0, u "numberOfLeadingZeros"), (0, u "(J)I"), (0, .methodref 25 26), (0, .class_ 27), (0, .nameAndType 28 29), (0, u "java/lang/Math"), (0, u "max"), (0, u "(II)I"), (0, .methodref 1 31), (0, .nameAndType 32 33), (0, u "row"), (0, u "(I)[J"), (0, .fieldref 1 35), (0, .nameAndType 36 37), (0, u "count"), (0, u "J"), (9, u "SUB_BITS"), (0, u "I"), (2, u "ROW_BUCKETS"), (1, u "ROWS"), (3, u "add"), (0, u "(J)V"), (3, u "()J"), (0, u "valueAt"), (0, u "(J)J")] 3

def k2c0 : Code := { maxStack := 2, maxLocals := 1, code := prog_8_method_1_code, exceptionTable := #[], attributes := #[] }
def k2m0 : Method := { name := "<init>", desc := "()V", sig := { parameters := [], returnType := none }, accessFlags := 0, code := some k2c0 }
def k2c1 : Code := { maxStack := 6, maxLocals := 7, code := prog_8_method_2_code, exceptionTable := #[], attributes := #[] }
def k2m1 : Method := { name := "add", desc := "(J)V", sig := { parameters := [.long], returnType := none }, accessFlags := 0, code := some k2c1 }
def k2c2 : Code := { maxStack := 2, maxLocals := 1, code := prog_8_method_4_code, exceptionTable := #[], attributes := #[] }
def k2m2 : Method := { name := "count", desc := "()J", sig := { parameters := [], returnType := some .long }, accessFlags := 0, code := some k2c2 }
def k2c3 : Code := { maxStack := 4, maxLocals := 8, code := prog_8_method_5_code, exceptionTable := #[], attributes := #[] }
def k2m3 : Method := { name := "valueAt", desc := "(J)J", sig := { parameters := [.long], returnType := some .long }, accessFlags := 0, code := some k2c3 }
def k2c4 : Code := { maxStack := 3, maxLocals := 2, code := prog_8_method_6_code, exceptionTable := #[], attributes := #[] }
def k2m4 : Method := { name := "row", desc := "(I)[J", sig := { parameters := [.int], returnType := some (.array .long) }, accessFlags := 2, code := some k2c4 }
/-- com/example/headroom/headroom/Histogram -/
def k2 : Class := { plain "com/example/headroom/headroom/Histogram" (some 0) with
  accessFlags := 48
  interfaces := #[]
  cf := some (fileOf pool2 1 #[] #[{ accessFlags := 0, nameIndex := 9, descriptorIndex := 10, attributes := #[] }, { accessFlags := 0, nameIndex := 57, descriptorIndex := 58, attributes := #[] }, { accessFlags := 0, nameIndex := 36, descriptorIndex := 62, attributes := #[] }, { accessFlags := 0, nameIndex := 63, descriptorIndex := 64, attributes := #[] }, { accessFlags := 2, nameIndex := 32, descriptorIndex := 33, attributes := #[] }] 48 6 #[] #[{ accessFlags := 26, nameIndex := 47, descriptorIndex := 48, attributes := #[] }, { accessFlags := 26, nameIndex := 51, descriptorIndex := 48, attributes := #[] }, { accessFlags := 26, nameIndex := 53, descriptorIndex := 48, attributes := #[] }, { accessFlags := 18, nameIndex := 15, descriptorIndex := 16, attributes := #[] }, { accessFlags := 18, nameIndex := 19, descriptorIndex := 12, attributes := #[] }, { accessFlags := 2, nameIndex := 36, descriptorIndex := 37, attributes := #[] }])
  fields := #[{ name := "SUB_BITS", type := .int, accessFlags := 26, slot := 0, constantValue := 0 }, { name := "ROW_BUCKETS", type := .int, accessFlags := 26, slot := 1, constantValue := 0 }, { name := "ROWS", type := .int, accessFlags := 26, slot := 2, constantValue := 0 }, { name := "rows", type := (.array (.array .long)), accessFlags := 18, slot := 0, constantValue := 0 }, { name := "rowCounts", type := (.array .long), accessFlags := 18, slot := 1, constantValue := 0 }, { name := "count", type := .long, accessFlags := 2, slot := 2, constantValue := 0 }]
  methods := #[k2m0, k2m1, k2m2, k2m3, k2m4]
  instanceTypes := #[(.array (.array .long)), (.array .long), .long]
  staticTypes := #[.int, .int, .int]
  resolved := Array.replicate 68 none
  statics := none }

def pool3 : Array CpInfo := pool [(1, .class_ 2), (0, u "java/io/Serializable"), (0, .class_ 4), (0, u "java/lang/Object")] 2

/-- java/io/Serializable -/
def k3 : Class := { plain "java/io/Serializable" (some 0) with
  accessFlags := 1537
  interfaces := #[]
  cf := some (fileOf pool3 1 #[] #[] 1537 3 #[] #[])
  fields := #[]
  methods := #[]
  instanceTypes := #[]
  staticTypes := #[]
  resolved := Array.replicate 7 none
  statics := none }

def pool4 : Array CpInfo := pool [(2, .class_ 4), (1, u "java/lang/Object"), (0, u "<init>"), (0, u "()V"), (1, .class_ 10), (1, u "java/lang/Number"), (2, .class_ 14), (0, u "java/io/Serializable"), (0, u "serialVersionUID"), (0, u "J")] 20

def k4m0 : Method := { name := "<init>", desc := "()V", sig := { parameters := [], returnType := none }, accessFlags := 1, code := none }
/-- java/lang/Number -/
def k4 : Class := { plain "java/lang/Number" (some 0) with
  accessFlags := 1057
  interfaces := #[3]
  cf := some (fileOf pool4 8 #[] #[{ accessFlags := 1, nameIndex := 5, descriptorIndex := 6, attributes := #[] }] 1057 2 #[13] #[{ accessFlags := 26, nameIndex := 15, descriptorIndex := 16, attributes := #[] }])
  fields := #[{ name := "serialVersionUID", type := .long, accessFlags := 26, slot := 0, constantValue := 0 }]
  methods := #[k4m0]
  instanceTypes := #[]
  staticTypes := #[.long]
  resolved := Array.replicate 37 none
  statics := none }

def pool5 : Array CpInfo := pool [(1, .class_ 2), (0, u "java/lang/Comparable"), (0, .class_ 4), (0, u "java/lang/Object")] 7

/-- java/lang/Comparable -/
def k5 : Class := { plain "java/lang/Comparable" (some 0) with
  accessFlags := 1537
  interfaces := #[]
  cf := some (fileOf pool5 1 #[] #[] 1537 3 #[] #[])
  fields := #[]
  methods := #[]
  instanceTypes := #[]
  staticTypes := #[]
  resolved := Array.replicate 12 none
  statics := none }

def pool6 : Array CpInfo := pool [(1, .class_ 2), (0, u "java/lang/constant/Constable"), (0, .class_ 4), (0, u "java/lang/Object")] 6

/-- java/lang/constant/Constable -/
def k6 : Class := { plain "java/lang/constant/Constable" (some 0) with
  accessFlags := 1537
  interfaces := #[]
  cf := some (fileOf pool6 1 #[] #[] 1537 3 #[] #[])
  fields := #[]
  methods := #[]
  instanceTypes := #[]
  staticTypes := #[]
  resolved := Array.replicate 11 none
  statics := none }

def pool7 : Array CpInfo := pool [(1, .class_ 2), (0, u "java/lang/constant/ConstantDesc"), (0, .class_ 4), (0, u "java/lang/Object")] 32

/-- java/lang/constant/ConstantDesc -/
def k7 : Class := { plain "java/lang/constant/ConstantDesc" (some 0) with
  accessFlags := 1537
  interfaces := #[]
  cf := some (fileOf pool7 1 #[] #[] 1537 3 #[] #[])
  fields := #[]
  methods := #[]
  instanceTypes := #[]
  staticTypes := #[]
  resolved := Array.replicate 37 none
  statics := none }

def pool8 : Array CpInfo := pool [(1, .class_ 2), (0, u "java/lang/Long"), (15, .class_ 20), (1, u "java/lang/Integer"), (79, u "numberOfLeadingZeros"), (0, u "(J)I"), (133, .class_ 237), (1, u "java/lang/Long$LongCache"), (33, .class_ 272), (0, u "java/lang/Number"), (2, u "value"), (0, u "J"), (31, .methodref 18 309), (0, .nameAndType 100 310), (0, u "(I)I"), (50, u "TYPE"), (0, u "Ljava/lang/Class;"), (0, .class_ 364), (0, u "java/lang/Comparable"), (0, .class_ 366), (0, u "java/lang/constant/Constable"), (0, .class_ 368), (0, u "java/lang/constant/ConstantDesc"), (0, u "MIN_VALUE"), (1, u "MAX_VALUE"), (4, u "SIZE"), (0, u "I"), (1, u "BYTES"), (1, u "serialVersionUID")] 142

def k8c0 : Code := { maxStack := 3, maxLocals := 3, code := jdk_35_method_48_code, exceptionTable := #[], attributes := #[] }
def k8m0 : Method := { name := "numberOfLeadingZeros", desc := "(J)I", sig := { parameters := [.long], returnType := some .int }, accessFlags := 9, code := some k8c0 }
/-- java/lang/Long -/
def k8 : Class := { plain "java/lang/Long" (some 4) with
  accessFlags := 49
  interfaces := #[5, 6, 7]
  cf := some (fileOf pool8 1 #[.nestMembers #[235]] #[{ accessFlags := 9, nameIndex := 100, descriptorIndex := 101, attributes := #[] }] 49 271 #[363, 365, 367] #[{ accessFlags := 25, nameIndex := 369, descriptorIndex := 276, attributes := #[] }, { accessFlags := 25, nameIndex := 371, descriptorIndex := 276, attributes := #[] }, { accessFlags := 25, nameIndex := 361, descriptorIndex := 362, attributes := #[] }, { accessFlags := 18, nameIndex := 275, descriptorIndex := 276, attributes := #[] }, { accessFlags := 25, nameIndex := 376, descriptorIndex := 377, attributes := #[] }, { accessFlags := 25, nameIndex := 379, descriptorIndex := 377, attributes := #[] }, { accessFlags := 26, nameIndex := 381, descriptorIndex := 276, attributes := #[] }])
  fields := #[{ name := "MIN_VALUE", type := .long, accessFlags := 25, slot := 0, constantValue := 0 }, { name := "MAX_VALUE", type := .long, accessFlags := 25, slot := 1, constantValue := 0 }, { name := "TYPE", type := (.object "java/lang/Class"), accessFlags := 25, slot := 2, constantValue := 0 }, { name := "value", type := .long, accessFlags := 18, slot := 0, constantValue := 0 }, { name := "SIZE", type := .int, accessFlags := 25, slot := 3, constantValue := 0 }, { name := "BYTES", type := .int, accessFlags := 25, slot := 4, constantValue := 0 }, { name := "serialVersionUID", type := .long, accessFlags := 26, slot := 5, constantValue := 0 }]
  methods := #[k8m0]
  instanceTypes := #[.long]
  staticTypes := #[.long, .long, (.object "java/lang/Class"), .int, .int, .long]
  resolved := Array.replicate 524 none
  statics := none }

def pool9 : Array CpInfo := pool [(1, .class_ 2), (0, u "java/lang/Integer"), (16, u "digits"), (0, u "[C"), (32, u "numberOfLeadingZeros"), (0, u "(I)I"), (30, u "DigitOnes"), (0, u "[B"), (2, u "DigitTens"), (99, .class_ 190), (0, u "java/lang/Integer$IntegerCache"), (3, u "I"), (8, .class_ 204), (0, u "java/lang/Number"), (2, u "value"), (56, .integer 65536), (37, u "TYPE"), (0, u "Ljava/lang/Class;"), (0, .class_ 305), (0, u "java/lang/Comparable"), (0, .class_ 307), (0, u "java/lang/constant/Constable"), (0, .class_ 309), (0, u "java/lang/constant/ConstantDesc"), (0, u "MIN_VALUE"), (1, u "MAX_VALUE"), (3, u "SIZE"), (1, u "BYTES"), (1, u "serialVersionUID"), (0, u "J")] 131

def k9c0 : Code := { maxStack := 3, maxLocals := 2, code := jdk_33_method_47_code, exceptionTable := #[], attributes := #[] }
def k9m0 : Method := { name := "numberOfLeadingZeros", desc := "(I)I", sig := { parameters := [.int], returnType := some .int }, accessFlags := 9, code := some k9c0 }
/-- java/lang/Integer -/
def k9 : Class := { plain "java/lang/Integer" (some 4) with
  accessFlags := 49
  interfaces := #[5, 6, 7]
  cf := some (fileOf pool9 1 #[.nestMembers #[189]] #[{ accessFlags := 9, nameIndex := 53, descriptorIndex := 54, attributes := #[] }] 49 203 #[304, 306, 308] #[{ accessFlags := 25, nameIndex := 310, descriptorIndex := 194, attributes := #[] }, { accessFlags := 25, nameIndex := 312, descriptorIndex := 194, attributes := #[] }, { accessFlags := 25, nameIndex := 302, descriptorIndex := 303, attributes := #[] }, { accessFlags := 24, nameIndex := 19, descriptorIndex := 20, attributes := #[] }, { accessFlags := 24, nameIndex := 89, descriptorIndex := 86, attributes := #[] }, { accessFlags := 24, nameIndex := 85, descriptorIndex := 86, attributes := #[] }, { accessFlags := 18, nameIndex := 207, descriptorIndex := 194, attributes := #[] }, { accessFlags := 25, nameIndex := 316, descriptorIndex := 194, attributes := #[] }, { accessFlags := 25, nameIndex := 318, descriptorIndex := 194, attributes := #[] }, { accessFlags := 26, nameIndex := 320, descriptorIndex := 321, attributes := #[] }])
  fields := #[{ name := "MIN_VALUE", type := .int, accessFlags := 25, slot := 0, constantValue := 0 }, { name := "MAX_VALUE", type := .int, accessFlags := 25, slot := 1, constantValue := 0 }, { name := "TYPE", type := (.object "java/lang/Class"), accessFlags := 25, slot := 2, constantValue := 0 }, { name := "digits", type := (.array .char), accessFlags := 24, slot := 3, constantValue := 0 }, { name := "DigitTens", type := (.array .byte), accessFlags := 24, slot := 4, constantValue := 0 }, { name := "DigitOnes", type := (.array .byte), accessFlags := 24, slot := 5, constantValue := 0 }, { name := "value", type := .int, accessFlags := 18, slot := 0, constantValue := 0 }, { name := "SIZE", type := .int, accessFlags := 25, slot := 6, constantValue := 0 }, { name := "BYTES", type := .int, accessFlags := 25, slot := 7, constantValue := 0 }, { name := "serialVersionUID", type := .long, accessFlags := 26, slot := 8, constantValue := 0 }]
  methods := #[k9m0]
  instanceTypes := #[.int]
  staticTypes := #[.int, .int, (.object "java/lang/Class"), (.array .char), (.array .byte), (.array .byte), .int, .int, .long]
  resolved := Array.replicate 453 none
  statics := none }

def pool10 : Array CpInfo := pool [(1, .class_ 2), (0, u "java/lang/Math"), (1, .class_ 6), (1, u "java/lang/Object"), (0, u "<init>"), (0, u "()V"), (89, .class_ 100), (1, u "java/lang/Math$RandomNumberGeneratorHolder"), (20, u "(JJ)J"), (50, u "negativeZeroFloatBits"), (0, u "J"), (2, u "negativeZeroDoubleBits"), (21, u "max"), (2, u "min"), (43, u "$assertionsDisabled"), (0, u "Z"), (88, u "(II)I"), (2, u "twoToTheDoubleScaleDown"), (0, u "D"), (4, u "twoToTheDoubleScaleUp"), (9, u "E"), (3, u "PI"), (2, u "TAU"), (2, u "DEGREES_TO_RADIANS"), (0, u "RADIANS_TO_DEGREES")] 94

def k10m0 : Method := { name := "<init>", desc := "()V", sig := { parameters := [], returnType := none }, accessFlags := 2, code := none }
def k10c1 : Code := { maxStack := 2, maxLocals := 2, code := jdk_29_method_65_code, exceptionTable := #[], attributes := #[] }
def k10m1 : Method := { name := "max", desc := "(II)I", sig := { parameters := [.int, .int], returnType := some .int }, accessFlags := 9, code := some k10c1 }
def k10c2 : Code := { maxStack := 4, maxLocals := 4, code := jdk_29_method_66_code, exceptionTable := #[], attributes := #[] }
def k10m2 : Method := { name := "max", desc := "(JJ)J", sig := { parameters := [.long, .long], returnType := some .long }, accessFlags := 9, code := some k10c2 }
def k10c3 : Code := { maxStack := 4, maxLocals := 4, code := jdk_29_method_70_code, exceptionTable := #[], attributes := #[] }
def k10m3 : Method := { name := "min", desc := "(JJ)J", sig := { parameters := [.long, .long], returnType := some .long }, accessFlags := 9, code := some k10c3 }
/-- java/lang/Math -/
def k10 : Class := { plain "java/lang/Math" (some 0) with
  accessFlags := 49
  interfaces := #[]
  cf := some (fileOf pool10 1 #[.nestMembers #[98]] #[{ accessFlags := 2, nameIndex := 7, descriptorIndex := 8, attributes := #[] }, { accessFlags := 9, nameIndex := 198, descriptorIndex := 335, attributes := #[] }, { accessFlags := 9, nameIndex := 198, descriptorIndex := 121, attributes := #[] }, { accessFlags := 9, nameIndex := 201, descriptorIndex := 121, attributes := #[] }] 49 4 #[] #[{ accessFlags := 25, nameIndex := 354, descriptorIndex := 339, attributes := #[] }, { accessFlags := 25, nameIndex := 358, descriptorIndex := 339, attributes := #[] }, { accessFlags := 25, nameIndex := 361, descriptorIndex := 339, attributes := #[] }, { accessFlags := 26, nameIndex := 364, descriptorIndex := 339, attributes := #[] }, { accessFlags := 26, nameIndex := 365, descriptorIndex := 339, attributes := #[] }, { accessFlags := 26, nameIndex := 172, descriptorIndex := 173, attributes := #[] }, { accessFlags := 26, nameIndex := 176, descriptorIndex := 173, attributes := #[] }, { accessFlags := 8, nameIndex := 344, descriptorIndex := 339, attributes := #[] }, { accessFlags := 8, nameIndex := 338, descriptorIndex := 339, attributes := #[] }, { accessFlags := 4120, nameIndex := 245, descriptorIndex := 246, attributes := #[] }])
  fields := #[{ name := "E", type := .double, accessFlags := 25, slot := 0, constantValue := 0 }, { name := "PI", type := .double, accessFlags := 25, slot := 1, constantValue := 0 }, { name := "TAU", type := .double, accessFlags := 25, slot := 2, constantValue := 0 }, { name := "DEGREES_TO_RADIANS", type := .double, accessFlags := 26, slot := 3, constantValue := 0 }, { name := "RADIANS_TO_DEGREES", type := .double, accessFlags := 26, slot := 4, constantValue := 0 }, { name := "negativeZeroFloatBits", type := .long, accessFlags := 26, slot := 5, constantValue := 0 }, { name := "negativeZeroDoubleBits", type := .long, accessFlags := 26, slot := 6, constantValue := 0 }, { name := "twoToTheDoubleScaleUp", type := .double, accessFlags := 8, slot := 7, constantValue := 0 }, { name := "twoToTheDoubleScaleDown", type := .double, accessFlags := 8, slot := 8, constantValue := 0 }, { name := "$assertionsDisabled", type := .boolean, accessFlags := 4120, slot := 9, constantValue := 0 }]
  methods := #[k10m0, k10m1, k10m2, k10m3]
  instanceTypes := #[]
  staticTypes := #[.double, .double, .double, .double, .double, .long, .long, .double, .double, .boolean]
  resolved := Array.replicate 460 none
  statics := none }

def pool11 : Array CpInfo := pool [(1, u "java/lang/Cloneable"), (0, .class_ 1), (0, u "java/lang/Object"), (0, .class_ 3)] 3

/-- java/lang/Cloneable -/
def k11 : Class := { plain "java/lang/Cloneable" (some 0) with
  accessFlags := 1537
  interfaces := #[]
  cf := some (fileOf pool11 2 #[] #[] 1537 4 #[] #[])
  fields := #[]
  methods := #[]
  instanceTypes := #[]
  staticTypes := #[]
  resolved := Array.replicate 8 none
  statics := none }

/-- the primitive byte -/
def k12 : Class := { plain "byte" none with kind := .primitive 'B', accessFlags := 0x411 }
/-- [B -/
def k13 : Class := { plain "[B" (some 0) with kind := .array 12 .byte, interfaces := #[11, 3], accessFlags := 1041 }

/-- the primitive int -/
def k14 : Class := { plain "int" none with kind := .primitive 'I', accessFlags := 0x411 }
/-- [I -/
def k15 : Class := { plain "[I" (some 0) with kind := .array 14 .int, interfaces := #[11, 3], accessFlags := 1041 }

/-- the primitive long -/
def k16 : Class := { plain "long" none with kind := .primitive 'J', accessFlags := 0x411 }
/-- [J -/
def k17 : Class := { plain "[J" (some 0) with kind := .array 16 .long, interfaces := #[11, 3], accessFlags := 1041 }

def heap : Heap := #[]
def k18 : Class := { plain "[[J" (some 0) with kind := .array 17 (.array .long), interfaces := #[11, 3], accessFlags := 1041 }
def classes : Array Class := #[k0, k1, k2, k3, k4, k5, k6, k7, k8, k9, k10, k11, k12, k13, k14, k15, k16, k17, k18]
def interned : List (Array UInt16 × Addr) := []
def slotsUsed : Nat := 0
def theMethod : MethodId := ⟨1, 3⟩
def args0 : Array Value := #[.long 5, .long 6, .long 7, .int 3, .int 1]
def aboutOver (below : List Frame) : State where
  vm := { classes := classes, interned := interned.toArray }
  heap := heap
  slotsUsed := slotsUsed
  threads := #[{ frames := .invoking theMethod args0 :: below }]
def below0 : List Frame := [.native { method := ⟨0, 0⟩, args := #[] }]
def about1 : State := aboutOver below0
def p0 : Program := .bare "" "" ""
def e0 : Env := launch0.env 0 0 0
theorem w_frames : about1.frames = Frame.invoking theMethod args0 :: below0 := rfl
set_option maxRecDepth 65536 in
theorem w_args : argsFit about1.vm theMethod args0 = true := by decide +kernel
set_option maxRecDepth 65536 in
theorem w_heap : heapFits about1 = true := by decide +kernel
set_option maxRecDepth 65536 in
theorem w_runnable : about1.curStatus? = some .runnable := by decide +kernel
set_option maxRecDepth 65536 in
theorem w_alone : about1.alone = true := by decide +kernel
set_option maxRecDepth 65536 in
theorem w_named : about1.methodNamed? x = some theMethod := by decide +kernel
set_option maxRecDepth 65536 in
theorem w_hears : about1.hears theMethod below0 = true := by decide +kernel
set_option maxRecDepth 65536 in
theorem w_ripe : about1.ripe theMethod args0 below0 = true := by decide +kernel
theorem w_running : about1.status = .running := rfl
set_option maxRecDepth 65536 in
theorem w_room : about1.hasRoom e0.platform room_1 = true :=
  launch0.hasRoom_least _ room_1 (by decide +kernel) (by decide +kernel) (by decide +kernel) (by decide +kernel) (by decide +kernel) (by decide +kernel)
theorem allAtoms_all (ts : List Jvm.Cond) (a : Array Jvm.Value) (st : Jvm.State) : (allAtoms ts).before a st = ts.all (fun c => c.before a st) := by
  induction ts with
  | nil => rfl
  | cons c t ih =>
    show (Jvm.Cond.and c (allAtoms t)).before a st = _
    rw [Jvm.Cond.before_and, ih, List.all_cons]
def words1 : List Jvm.Cond := Jvm.Cond.code x code maxLocals ret :: tables_1
/-- a 'code' word, met by the world's own term for the bytes: nothing is compared byte by byte -/
theorem code_word {y : MethodName} {bytes : ByteArray} {mx : Nat} {rt : Option FieldType} {a : Array Value} {s : State} {m : MethodId} {meth : Method} {c : Code} (h1 : s.methodNamed? y = some m) (h2 : s.vm.method? m = some meth) (h3 : meth.code = some c) (h4 : c.code = bytes)
    (h5 : (c.maxLocals == mx && c.exceptionTable.isEmpty && decide (c.maxStack ≤ mostOperands) && decide (meth.sig.returnType = rt) && !meth.locks && decide (parseMethodDescriptor y.desc = some meth.sig)) = true) : (Jvm.Cond.code y bytes mx rt).before a s = true := by
  simp only [Bool.and_eq_true, beq_iff_eq, Bool.not_eq_true', decide_eq_true_eq] at h5
  obtain ⟨⟨⟨⟨⟨g1, g2⟩, g3⟩, g4⟩, g5⟩, g6⟩ := h5
  simp [Cond.before, Cond.holds, Cond.value, h1, h2, h3, h4, g1, g2, g3, g4, g5, g6]
def isCode : Jvm.Cond → Bool
  | .code _ _ _ _ => true
  | _ => false
theorem all_split {L : List Jvm.Cond} {P : Jvm.Cond → Bool} (h1 : L.all (fun c => isCode c || P c) = true) (h2 : ∀ c ∈ L.filter isCode, P c = true) : L.all P = true := by
  refine List.all_eq_true.mpr fun c hc => ?_
  have h := List.all_eq_true.mp h1 c hc
  rcases Bool.eq_false_or_eq_true (isCode c) with hi | hi
  · exact h2 c (List.mem_filter.mpr ⟨hc, hi⟩)
  · simpa [hi] using h
set_option maxRecDepth 65536 in
theorem w_c0 : (Jvm.Cond.code x code maxLocals ret).before args0 about1 = true := code_word (m := ⟨1, 3⟩) (meth := k1m3) (c := k1c3) (by decide +kernel) rfl rfl rfl (by decide +kernel)
set_option maxRecDepth 65536 in
theorem w_c1 : (Jvm.Cond.code ({ cls := "com/example/headroom/headroom/Histogram", name := "<init>", desc := "()V" } : Jvm.MethodName) prog_8_method_1_code (1 : Nat) (Option.none : Option Jvm.ClassFile.FieldType)).before args0 about1 = true := code_word (m := ⟨2, 0⟩) (meth := k2m0) (c := k2c0) (by decide +kernel) rfl rfl rfl (by decide +kernel)
set_option maxRecDepth 65536 in
theorem w_c2 : (Jvm.Cond.code ({ cls := "java/lang/Object", name := "<init>", desc := "()V" } : Jvm.MethodName) object_method_1_code (1 : Nat) (Option.none : Option Jvm.ClassFile.FieldType)).before args0 about1 = true := code_word (m := ⟨0, 0⟩) (meth := k0m0) (c := k0c0) (by decide +kernel) rfl rfl rfl (by decide +kernel)
set_option maxRecDepth 65536 in
theorem w_c3 : (Jvm.Cond.code ({ cls := "com/example/headroom/headroom/Histogram", name := "add", desc := "(J)V" } : Jvm.MethodName) prog_8_method_2_code (7 : Nat) (Option.none : Option Jvm.ClassFile.FieldType)).before args0 about1 = true := code_word (m := ⟨2, 1⟩) (meth := k2m1) (c := k2c1) (by decide +kernel) rfl rfl rfl (by decide +kernel)
set_option maxRecDepth 65536 in
theorem w_c4 : (Jvm.Cond.code ({ cls := "java/lang/Long", name := "numberOfLeadingZeros", desc := "(J)I" } : Jvm.MethodName) jdk_35_method_48_code (3 : Nat) (Option.some Jvm.ClassFile.FieldType.int)).before args0 about1 = true := code_word (m := ⟨8, 0⟩) (meth := k8m0) (c := k8c0) (by decide +kernel) rfl rfl rfl (by decide +kernel)
set_option maxRecDepth 65536 in
theorem w_c5 : (Jvm.Cond.code ({ cls := "java/lang/Integer", name := "numberOfLeadingZeros", desc := "(I)I" } : Jvm.MethodName) jdk_33_method_47_code (2 : Nat) (Option.some Jvm.ClassFile.FieldType.int)).before args0 about1 = true := code_word (m := ⟨9, 0⟩) (meth := k9m0) (c := k9c0) (by decide +kernel) rfl rfl rfl (by decide +kernel)
set_option maxRecDepth 65536 in
theorem w_c6 : (Jvm.Cond.code ({ cls := "java/lang/Math", name := "max", desc := "(II)I" } : Jvm.MethodName) jdk_29_method_65_code (2 : Nat) (Option.some Jvm.ClassFile.FieldType.int)).before args0 about1 = true := code_word (m := ⟨10, 1⟩) (meth := k10m1) (c := k10c1) (by decide +kernel) rfl rfl rfl (by decide +kernel)
set_option maxRecDepth 65536 in
theorem w_c7 : (Jvm.Cond.code ({ cls := "com/example/headroom/headroom/Histogram", name := "row", desc := "(I)[J" } : Jvm.MethodName) prog_8_method_6_code (2 : Nat) (Option.some (Jvm.ClassFile.FieldType.array Jvm.ClassFile.FieldType.long))).before args0 about1 = true := code_word (m := ⟨2, 4⟩) (meth := k2m4) (c := k2c4) (by decide +kernel) rfl rfl rfl (by decide +kernel)
set_option maxRecDepth 65536 in
theorem w_c8 : (Jvm.Cond.code ({ cls := "java/lang/Math", name := "min", desc := "(JJ)J" } : Jvm.MethodName) jdk_29_method_70_code (4 : Nat) (Option.some Jvm.ClassFile.FieldType.long)).before args0 about1 = true := code_word (m := ⟨10, 3⟩) (meth := k10m3) (c := k10c3) (by decide +kernel) rfl rfl rfl (by decide +kernel)
set_option maxRecDepth 65536 in
theorem w_c9 : (Jvm.Cond.code ({ cls := "java/lang/Math", name := "max", desc := "(JJ)J" } : Jvm.MethodName) jdk_29_method_66_code (4 : Nat) (Option.some Jvm.ClassFile.FieldType.long)).before args0 about1 = true := code_word (m := ⟨10, 2⟩) (meth := k10m2) (c := k10c2) (by decide +kernel) rfl rfl rfl (by decide +kernel)
set_option maxRecDepth 65536 in
theorem w_c10 : (Jvm.Cond.code ({ cls := "com/example/headroom/headroom/HistogramValueAtPinLaw", name := "sameBucket", desc := "(JJ)Z" } : Jvm.MethodName) method_3_code (7 : Nat) (Option.some Jvm.ClassFile.FieldType.boolean)).before args0 about1 = true := code_word (m := ⟨1, 2⟩) (meth := k1m2) (c := k1c2) (by decide +kernel) rfl rfl rfl (by decide +kernel)
set_option maxRecDepth 65536 in
theorem w_c11 : (Jvm.Cond.code ({ cls := "com/example/headroom/headroom/HistogramValueAtPinLaw", name := "mag", desc := "(J)I" } : Jvm.MethodName) method_2_code (3 : Nat) (Option.some Jvm.ClassFile.FieldType.int)).before args0 about1 = true := code_word (m := ⟨1, 1⟩) (meth := k1m1) (c := k1c1) (by decide +kernel) rfl rfl rfl (by decide +kernel)
set_option maxRecDepth 65536 in
theorem w_c12 : (Jvm.Cond.code ({ cls := "com/example/headroom/headroom/Histogram", name := "count", desc := "()J" } : Jvm.MethodName) prog_8_method_4_code (1 : Nat) (Option.some Jvm.ClassFile.FieldType.long)).before args0 about1 = true := code_word (m := ⟨2, 2⟩) (meth := k2m2) (c := k2c2) (by decide +kernel) rfl rfl rfl (by decide +kernel)
set_option maxRecDepth 65536 in
theorem w_c13 : (Jvm.Cond.code ({ cls := "com/example/headroom/headroom/Histogram", name := "valueAt", desc := "(J)J" } : Jvm.MethodName) prog_8_method_5_code (8 : Nat) (Option.some Jvm.ClassFile.FieldType.long)).before args0 about1 = true := code_word (m := ⟨2, 3⟩) (meth := k2m3) (c := k2c3) (by decide +kernel) rfl rfl rfl (by decide +kernel)
def codes1 : List Jvm.Cond := [Jvm.Cond.code x code maxLocals ret, Jvm.Cond.code ({ cls := "com/example/headroom/headroom/Histogram", name := "<init>", desc := "()V" } : Jvm.MethodName) prog_8_method_1_code (1 : Nat) (Option.none : Option Jvm.ClassFile.FieldType), Jvm.Cond.code ({ cls := "java/lang/Object", name := "<init>", desc := "()V" } : Jvm.MethodName) object_method_1_code (1 : Nat) (Option.none : Option Jvm.ClassFile.FieldType), Jvm.Cond.code ({ cls := "com/example/headroom/headroom/Histogram", name := "add", desc := "(J)V" } : Jvm.MethodName) prog_8_method_2_code (7 : Nat) (Option.none : Option Jvm.ClassFile.FieldType), Jvm.Cond.code ({ cls := "java/lang/Long", name := "numberOfLeadingZeros", desc := "(J)I" } : Jvm.MethodName) jdk_35_method_48_code (3 : Nat) (Option.some Jvm.ClassFile.FieldType.int), Jvm.Cond.code ({ cls := "java/lang/Integer", name := "numberOfLeadingZeros", desc := "(I)I" } : Jvm.MethodName) jdk_33_method_47_code (2 : Nat) (Option.some Jvm.ClassFile.FieldType.int), Jvm.Cond.code ({ cls := "java/lang/Math", name := "max", desc := "(II)I" } : Jvm.MethodName) jdk_29_method_65_code (2 : Nat) (Option.some Jvm.ClassFile.FieldType.int), Jvm.Cond.code ({ cls := "com/example/headroom/headroom/Histogram", name := "row", desc := "(I)[J" } : Jvm.MethodName) prog_8_method_6_code (2 : Nat) (Option.some (Jvm.ClassFile.FieldType.array Jvm.ClassFile.FieldType.long)), Jvm.Cond.code ({ cls := "java/lang/Math", name := "min", desc := "(JJ)J" } : Jvm.MethodName) jdk_29_method_70_code (4 : Nat) (Option.some Jvm.ClassFile.FieldType.long), Jvm.Cond.code ({ cls := "java/lang/Math", name := "max", desc := "(JJ)J" } : Jvm.MethodName) jdk_29_method_66_code (4 : Nat) (Option.some Jvm.ClassFile.FieldType.long), Jvm.Cond.code ({ cls := "com/example/headroom/headroom/HistogramValueAtPinLaw", name := "sameBucket", desc := "(JJ)Z" } : Jvm.MethodName) method_3_code (7 : Nat) (Option.some Jvm.ClassFile.FieldType.boolean), Jvm.Cond.code ({ cls := "com/example/headroom/headroom/HistogramValueAtPinLaw", name := "mag", desc := "(J)I" } : Jvm.MethodName) method_2_code (3 : Nat) (Option.some Jvm.ClassFile.FieldType.int), Jvm.Cond.code ({ cls := "com/example/headroom/headroom/Histogram", name := "count", desc := "()J" } : Jvm.MethodName) prog_8_method_4_code (1 : Nat) (Option.some Jvm.ClassFile.FieldType.long), Jvm.Cond.code ({ cls := "com/example/headroom/headroom/Histogram", name := "valueAt", desc := "(J)J" } : Jvm.MethodName) prog_8_method_5_code (8 : Nat) (Option.some Jvm.ClassFile.FieldType.long)]
set_option maxRecDepth 65536 in
theorem codes_eq : words1.filter isCode = codes1 := rfl
theorem w_codes : ∀ c ∈ words1.filter isCode, c.before args0 about1 = true := by
  rw [codes_eq]
  intro c hc
  simp only [codes1, List.mem_cons, List.not_mem_nil, or_false] at hc
  rcases hc with rfl | rfl | rfl | rfl | rfl | rfl | rfl | rfl | rfl | rfl | rfl | rfl | rfl | rfl
  · exact w_c0
  · exact w_c1
  · exact w_c2
  · exact w_c3
  · exact w_c4
  · exact w_c5
  · exact w_c6
  · exact w_c7
  · exact w_c8
  · exact w_c9
  · exact w_c10
  · exact w_c11
  · exact w_c12
  · exact w_c13
set_option maxRecDepth 65536 in
theorem w_t1 : (words1.take 24).all (fun c => isCode c || c.before args0 about1) = true := by decide +kernel
set_option maxRecDepth 65536 in
theorem w_t2 : ((words1.drop 24).take 24).all (fun c => isCode c || c.before args0 about1) = true := by decide +kernel
set_option maxRecDepth 65536 in
theorem w_t3 : ((words1.drop 24).drop 24).all (fun c => isCode c || c.before args0 about1) = true := by decide +kernel
theorem w_tables : (allAtoms (Jvm.Cond.code x code maxLocals ret :: tables_1)).before args0 about1 = true := by
  rw [allAtoms_all]
  show words1.all (fun c => c.before args0 about1) = true
  refine all_split ?_ w_codes
  rw [← List.take_append_drop 24 words1, List.all_append, w_t1, ← List.take_append_drop 24 (words1.drop 24), List.all_append, w_t2, w_t3]
  rfl
set_option maxRecDepth 65536 in
theorem w_case : (Jvm.Cond.and given_1 narrow_1).before args0 about1 = true := by decide +kernel
theorem w_applies : (headSpec (Jvm.Cond.code x code maxLocals ret :: tables_1) room_1).applies x e0.platform about1 = true :=
  (Spec.applies_iff w_frames).mpr ⟨w_running, w_runnable, w_alone, w_named, w_hears, w_ripe, w_room, w_tables⟩
theorem atStart : AtStart classFile x code maxLocals ret World_1 tables_1 room_1 Calls_1 rest_1 Pre_1 launch0 p0 e0 about1 theMethod args0 below0 :=
  ⟨lists_1, trivial, launch0.admits_env _ _ _, launch0.least_env, fairChoices_fair.cas, fairChoices_fair.clock, w_frames, w_args, w_heap, w_applies, trivial, trivial, w_case⟩
end start1
theorem witness_1 : WitnessClaimed_1 := ⟨start1.p0, start1.e0, start1.about1, start1.theMethod, start1.args0, start1.below0, start1.atStart⟩
end Jvm.Pilot.@@N@@
