import JvmDerived
import JvmDerived.Pilot.@@N@@Statement
import JvmDerived.Pilot.@@N@@Code
set_option linter.unusedVariables false
set_option linter.unusedSimpArgs false
namespace Jvm.Own
open Jvm Jvm.ClassFile Sem Op Lib Jvm.Free Jvm.Stand Jvm.LawKit Jvm.RoadKit
/-! MY LAYER: a goal 'Wk' over the library's Stand (from any state that stands here with the heap h, the walk comes to its end and Q holds), one rule a step; W: may the walk intern (wide frame). -/
def Bs (W : Bool) (s : State) (vm0 : Vm) (sz : Nat) : Prop := match W with
  | false => vm0 = s.vm
  | true => ∃ k0, s.Since vm0 k0 ∧ k0 ≤ sz
def En (W : Bool) (s : State) (o : Outcome) (t : State) (L : List Loc) (k n : Nat) : Prop := match W with
  | false => FrameEnd s o t L k n
  | true => ReturnedEndW s o t L k n
def Cx (Z : State) (p : Program) (s : State) (m : MethodId) (meth : Method) (c : Code) (y : MethodName) (bytes : ByteArray) (maxL : Nat) (ret : Option FieldType) : Prop :=
  p.tables.exec = Jvm.exec ∧ c.code = bytes ∧ c.maxLocals = maxL ∧ Z.Warmed39 s.vm ∧ s.vm.findClass y.cls = some m.cls ∧ meth.name = y.name ∧ meth.sig.returnType = ret ∧ meth.locks = false
def Wk (W : Bool) (p : Program) (l : Launch) (e : Env) (R : Room) (s : State) (m : MethodId) (args : Array Value) (below : List Frame) (meth : Method) (c : Code) (n0 : Nat) (Q : Option Value → Heap → Prop) (h : Heap) (k n : Nat) (g : JFrame) : Prop :=
  ∀ T L vm0, Stand p l e R (s.setVm vm0) m args below meth c T L k n → Bs W s vm0 h.size → T.heap = h → Fr n0 L →
    ∃ s₂ o, Steps p.tables e below (T.setTop g) s₂ ∧ s₂.status = .running ∧ Ended s₂ below o ∧ ∃ v L, o = .returned v ∧ (Q v s₂.heap ∧ Fr n0 L) ∧ En W s o s₂ L R.cells R.slots
def Met (W : Bool) (l : Launch) (Z : State) (n0 : Nat) (y : MethodName) (bytes : ByteArray) (maxL : Nat) (ret : Option FieldType) (rm : Room) (as : Array Value) (h : Heap) (Q : Option Value → Heap → Prop) : Prop :=
  ∀ ws, MetFree l y (head1 (Cond.code y bytes maxL ret :: ws) rm) (fun a U => a = as ∧ Z.Warmed39 U.vm ∧ U.heap = h) (fun _ _ _ _ _ => True)
    (fun _ U o U' => ∃ v L, o = .returned v ∧ (Q v U'.heap ∧ Fr n0 L) ∧ En W U o U' L rm.cells rm.slots)
theorem Bs.start (W : Bool) (s : State) (sz : Nat) : Bs W s s.vm sz := by
  cases W
  · rfl
  · exact ⟨0, (State.WarmedH.refl s).since 0, Nat.zero_le _⟩
theorem Bs.mono {W : Bool} {s : State} {vm0 : Vm} {a b : Nat} (B : Bs W s vm0 a) (q : a ≤ b) : Bs W s vm0 b := by
  cases W
  · exact B
  · obtain ⟨k0, h1, h2⟩ := B; exact ⟨k0, h1, Nat.le_trans h2 q⟩
theorem Bs.warm {W : Bool} {s : State} {vm0 : Vm} {a : Nat} (B : Bs W s vm0 a) : s.Warmed39 vm0 := by
  cases W
  · cases (B : vm0 = s.vm); exact State.Warmed39.refl s
  · obtain ⟨k0, h1, h2⟩ := B; exact h1.1
section Cxs
variable {W : Bool} {Z : State} {p : Program} {s : State} {m : MethodId} {meth : Method} {c : Code} {y : MethodName} {bytes : ByteArray} {maxL : Nat} {ret : Option FieldType}
theorem Cx.hx (C : Cx Z p s m meth c y bytes maxL ret) : p.tables.exec = Jvm.exec := C.1
theorem Cx.hby (C : Cx Z p s m meth c y bytes maxL ret) : c.code = bytes := C.2.1
theorem Cx.hml (C : Cx Z p s m meth c y bytes maxL ret) : c.maxLocals = maxL := C.2.2.1
theorem Cx.hZ (C : Cx Z p s m meth c y bytes maxL ret) : Z.Warmed39 s.vm := C.2.2.2.1
theorem Cx.hown (C : Cx Z p s m meth c y bytes maxL ret) : s.vm.findClass y.cls = some m.cls := C.2.2.2.2.1
theorem Cx.hnm (C : Cx Z p s m meth c y bytes maxL ret) : meth.name = y.name := C.2.2.2.2.2.1
theorem Cx.hret (C : Cx Z p s m meth c y bytes maxL ret) : meth.sig.returnType = ret := C.2.2.2.2.2.2.1
theorem Cx.hlk (C : Cx Z p s m meth c y bytes maxL ret) : meth.locks = false := C.2.2.2.2.2.2.2
theorem Cx.wZ (C : Cx Z p s m meth c y bytes maxL ret) {vm0 : Vm} {a : Nat} (B : Bs W s vm0 a) : Z.Warmed39 (s.setVm vm0).vm := State.Warmed39.trans (t := s) C.hZ B.warm
theorem Cx.wo (C : Cx Z p s m meth c y bytes maxL ret) {vm0 : Vm} {a : Nat} (B : Bs W s vm0 a) : (s.setVm vm0).vm.findClass y.cls = some m.cls := by
  show vm0.findClass y.cls = _
  rw [B.warm.alike.findClass]; exact C.hown
end Cxs
theorem Met.of {W : Bool} {l : Launch} {Z : State} {n0 : Nat} {y : MethodName} {bytes : ByteArray} {maxL : Nat} {ret : Option FieldType} {rm : Room} {as : Array Value} {h : Heap} {Q : Option Value → Heap → Prop}
    (hpn : plainFor y = true) (Ls : Array Slot) (hef : ∀ m, entryFrame m as maxL = mkF m 0 Ls [])
    (H : ∀ p e s m below meth c, Cx Z p s m meth c y bytes maxL ret → Wk W p l e rm s m as below meth c n0 Q h 0 0 (mkF m 0 Ls [])) : Met W l Z n0 y bytes maxL ret rm as h Q := by
  intro ws
  refine MetFree.of_bodySF hpn hisR ?_
  intro p e s m args below meth c s₁ Bd hml0 hP hK
  obtain ⟨ha, hZ, hh⟩ := hP
  have hown := findClass_of_methodNamed Bd.named
  have hnm := (name_of_methodNamed Bd.named Bd.method).1
  have e0 : s₁.heap = h := by rw [← hh, Bd.state]; rfl
  have X0 : Stand p l e rm s m args below meth c s₁ [] 0 0 := Stand.of_body Bd
  rw [ha] at X0 ⊢
  obtain ⟨s₂, o, h1, h2⟩ := H p e s m below meth c ⟨Bd.exec, Bd.bytes, hml0, hZ, hown, hnm, Bd.returns, Bd.notSynchronized⟩ s₁ [] s.vm X0 (Bs.start W s _) e0 (Fr.nil n0)
  exact ⟨s₂, o, castTop (hef m) h1, h2⟩
section Rules
variable {W : Bool} {Z : State} {p : Program} {l : Launch} {e : Env} {R : Room} {s : State} {m : MethodId} {args : Array Value} {below : List Frame} {meth : Method} {c : Code} {y : MethodName} {bytes : ByteArray} {maxL : Nat} {ret : Option FieldType} {n0 : Nat} {Q : Option Value → Heap → Prop} {h : Heap} {k n : Nat} {g g' : JFrame} {a0 : Array Value}
theorem Wk.more {k' n' : Nat} (q1 : k ≤ k') (q2 : n ≤ n') (H : Wk W p l e R s m args below meth c n0 Q h k' n' g) : Wk W p l e R s m args below meth c n0 Q h k n g :=
  fun T L vm0 X B eT N => H T L vm0 (X.more q1 q2) B eT N
theorem Wk.st (f : ∀ {T : State} {L : List Loc} {vm0 : Vm}, Stand p l e R (s.setVm vm0) m args below meth c T L k n → ∀ t, Steps p.tables e below (T.setTop g') t → Steps p.tables e below (T.setTop g) t)
    (H : Wk W p l e R s m args below meth c n0 Q h k n g') : Wk W p l e R s m args below meth c n0 Q h k n g := by
  intro T L vm0 X B eT N
  obtain ⟨s₂, o, h1, h2⟩ := H T L vm0 X B eT N
  exact ⟨s₂, o, f X _ h1, h2⟩
/-- a step that needs the tables (as they stand at vm0) and the heap, and leaves the heap -/
theorem Wk.stZ (C : Cx Z p s m meth c y bytes maxL ret) (f : ∀ {T : State} {L : List Loc} {vm0 : Vm}, Stand p l e R (s.setVm vm0) m args below meth c T L k n → Z.Warmed39 (s.setVm vm0).vm → (s.setVm vm0).vm.findClass y.cls = some m.cls → T.heap = h → ∃ T', Stand p l e R (s.setVm vm0) m args below meth c T' L k n ∧ T'.heap = h ∧ ∀ t, Steps p.tables e below (T'.setTop g') t → Steps p.tables e below (T.setTop g) t)
    (H : Wk W p l e R s m args below meth c n0 Q h k n g') : Wk W p l e R s m args below meth c n0 Q h k n g := by
  intro T L vm0 X B eT N
  obtain ⟨T', X', e', st⟩ := f X (C.wZ B) (C.wo B) eT
  obtain ⟨s₂, o, h1, h2⟩ := H T' L vm0 X' B e' N
  exact ⟨s₂, o, st _ h1, h2⟩
/-- a step that writes one place of a new cell -/
theorem Wk.stW (C : Cx Z p s m meth c y bytes maxL ret) {a : Addr} {sl : Nat} {v : Value} (ge : n0 ≤ a) (f : ∀ {T : State} {L : List Loc} {vm0 : Vm}, Stand p l e R (s.setVm vm0) m args below meth c T L k n → Z.Warmed39 (s.setVm vm0).vm → (s.setVm vm0).vm.findClass y.cls = some m.cls → T.heap = h → ∃ T' h', Stand p l e R (s.setVm vm0) m args below meth c T' (L ++ [⟨a, sl⟩]) k n ∧ T'.heap = h' ∧ Wr h h' a sl v ∧ ∀ t, Steps p.tables e below (T'.setTop g') t → Steps p.tables e below (T.setTop g) t)
    (H : ∀ h', Wr h h' a sl v → Wk W p l e R s m args below meth c n0 Q h' k n g') : Wk W p l e R s m args below meth c n0 Q h k n g := by
  intro T L vm0 X B eT N
  obtain ⟨T', h', X', e', Wh, st⟩ := f X (C.wZ B) (C.wo B) eT
  obtain ⟨s₂, o, h1, h2⟩ := H h' Wh T' _ vm0 X' (B.mono (Nat.le_of_eq Wh.size.symm)) e' (Fr.snoc X' N ge)
  exact ⟨s₂, o, st _ h1, h2⟩
theorem Wk.ldcI (C : Cx Z p s m meth c y bytes maxL ret) {index : Nat} {v : Int32} (w : (Cond.constant y.cls index v).before a0 Z = true) {pc : Nat} {Ls : Array Slot} {st : List Value} (hd : decode bytes pc = .ok (.ldc index, 2))
    (H : Wk W p l e R s m args below meth c n0 Q h k n (mkF m (pc + 2) Ls (.int v :: st))) : Wk W p l e R s m args below meth c n0 Q h k n (mkF m pc Ls st) :=
  Wk.stZ C (fun X hZ ho eT => ⟨_, X, eT, fun t q => X.ldcI C.hx ho (mvT hZ w) rfl (hb C.hby hd) q⟩) H
theorem Wk.ldc2J (C : Cx Z p s m meth c y bytes maxL ret) {index : Nat} {v : Int64} (w : (Cond.constantLong y.cls index v).before a0 Z = true) {pc : Nat} {Ls : Array Slot} {st : List Value} (hd : decode bytes pc = .ok (.ldc2_w index, 3))
    (H : Wk W p l e R s m args below meth c n0 Q h k n (mkF m (pc + 3) Ls (.long v :: st))) : Wk W p l e R s m args below meth c n0 Q h k n (mkF m pc Ls st) :=
  Wk.stZ C (fun X hZ ho eT => ⟨_, X, eT, fun t q => X.ldc2J C.hx ho (mvT hZ w) rfl (hb C.hby hd) q⟩) H
theorem Wk.ldc2D (C : Cx Z p s m meth c y bytes maxL ret) {index : Nat} {v : UInt64} (w : (Cond.constantDouble y.cls index v).before a0 Z = true) {pc : Nat} {Ls : Array Slot} {st : List Value} (hd : decode bytes pc = .ok (.ldc2_w index, 3))
    (H : Wk W p l e R s m args below meth c n0 Q h k n (mkF m (pc + 3) Ls (.double v :: st))) : Wk W p l e R s m args below meth c n0 Q h k n (mkF m pc Ls st) :=
  Wk.stZ C (fun X hZ ho eT => ⟨_, X, eT, fun t q => X.ldc2DoubleC C.hx ho (mvT hZ w) (g := mkF m pc Ls st) rfl (hb C.hby hd) _ q⟩) H
theorem Wk.ldcF (C : Cx Z p s m meth c y bytes maxL ret) {index : Nat} {v : UInt32} (w : (Cond.constantFloat y.cls index v).before a0 Z = true) {pc : Nat} {Ls : Array Slot} {st : List Value} (hd : decode bytes pc = .ok (.ldc index, 2))
    (H : Wk W p l e R s m args below meth c n0 Q h k n (mkF m (pc + 2) Ls (.float v :: st))) : Wk W p l e R s m args below meth c n0 Q h k n (mkF m pc Ls st) :=
  Wk.stZ C (fun X hZ ho eT => ⟨_, X, eT, fun t q => X.ldcFloatC C.hx ho (mvT hZ w) (g := mkF m pc Ls st) rfl (hb C.hby hd) _ q⟩) H
theorem Wk.cast (C : Cx Z p s m meth c y bytes maxL ret) {K : String} {index : Nat} (w : (Cond.classLink y.cls index K).before a0 Z = true) {a : Addr} (F : Ins Z h a K true) {pc : Nat} {Ls : Array Slot} {st : List Value} (hd : decode bytes pc = .ok (.checkcast index, 3))
    (H : Wk W p l e R s m args below meth c n0 Q h k n (mkF m (pc + 3) Ls (.ref a :: st))) : Wk W p l e R s m args below meth c n0 Q h k n (mkF m pc Ls (.ref a :: st)) :=
  Wk.stZ C (fun X hZ ho eT => castY X C.hx hZ ho w eT F (g := mkF m pc Ls (.ref a :: st)) rfl rfl (hb C.hby hd)) H
theorem Wk.getS (C : Cx Z p s m meth c y bytes maxL ret) {O nm d : String} {index : Nat} (w : (Cond.fieldLink y.cls index O nm d).before a0 Z = true) {v : Value} (F : Sta Z h O nm d v) {pc : Nat} {Ls : Array Slot} {st : List Value} (hd : decode bytes pc = .ok (.getstatic index, 3))
    (H : Wk W p l e R s m args below meth c n0 Q h k n (mkF m (pc + 3) Ls (v :: st))) : Wk W p l e R s m args below meth c n0 Q h k n (mkF m pc Ls st) :=
  Wk.stZ C (fun X hZ ho eT => Jvm.RoadKit.getS (host := "") X C.hx hZ ho w Via.refl eT F (g := mkF m pc Ls st) rfl (hb C.hby hd)) H
theorem Wk.getF (C : Cx Z p s m meth c y bytes maxL ret) {R0 O nm d : String} {index : Nat} (w : (Cond.fieldLink y.cls index R0 nm d).before a0 Z = true) (via : Via Z R0 O nm d) {a : Addr} {v : Value} (F : Fld Z h a O nm d v) {pc : Nat} {Ls : Array Slot} {st : List Value} (hd : decode bytes pc = .ok (.getfield index, 3))
    (H : Wk W p l e R s m args below meth c n0 Q h k n (mkF m (pc + 3) Ls (v :: st))) : Wk W p l e R s m args below meth c n0 Q h k n (mkF m pc Ls (.ref a :: st)) :=
  Wk.stZ C (fun X hZ ho eT => Jvm.RoadKit.getF (host := "") X C.hx hZ ho (Or.inl w) via eT F (g := mkF m pc Ls (.ref a :: st)) rfl rfl (hb C.hby hd)) H
theorem Wk.putF (C : Cx Z p s m meth c y bytes maxL ret) {R0 O nm d K : String} {index kk : Nat} {ty : FieldType} (w : (Cond.fieldLink y.cls index R0 nm d).before a0 Z = true) (via : Via Z R0 O nm d) {a : Addr} {v v' old : Value} (F : Fld Z h a O nm d old) (E : Exa Z h a K)
    (L : (Cond.lays K O nm d).before a0 Z = true ∨ ((Cond.laysFinal K O nm d).before a0 Z = true ∧ y.cls = O ∧ y.name = "<init>")) (wi : (Cond.instantiable K kk).before a0 Z = true) (hty : parseFieldDescriptor d = some ty) (hn : narrow ty v = v') (hf : fits ty v' = true) (ge : n0 ≤ a)
    {pc : Nat} {Ls : Array Slot} {st : List Value} (hd : decode bytes pc = .ok (.putfield index, 3))
    (H : ∀ h', Wr h h' a (Jvm.RoadKit.slotOf Z O nm d) v' → Wk W p l e R s m args below meth c n0 Q h' k n (mkF m (pc + 3) Ls st)) : Wk W p l e R s m args below meth c n0 Q h k n (mkF m pc Ls (v :: .ref a :: st)) :=
  Wk.stW C ge (fun X hZ ho eT => Jvm.RoadKit.putFN X C.hx hZ ho w via eT F E (L.imp id fun q => ⟨q.1, q.2.1, C.hnm.trans q.2.2⟩) wi hty hn hf (g := mkF m pc Ls (v :: .ref a :: st)) rfl rfl (hb C.hby hd)) H
theorem Wk.newO (C : Cx Z p s m meth c y bytes maxL ret) {K : String} {index sz : Nat} (w : (Cond.classLink y.cls index K).before a0 Z = true) (wi : (Cond.instantiable K sz).before a0 Z = true) (wz : (Cond.initialized K).before a0 Z = true) {pc : Nat} {Ls : Array Slot} {st : List Value} (hd : decode bytes pc = .ok (.new index, 3)) (hc : k + 1 ≤ R.cells) (hl : n + sz ≤ R.slots)
    (H : ∀ h' a, a = h.size → Ext h h' → Exa Z h' a K → (∀ {O nm d : String} {ty : FieldType}, Laid Z a0 K O nm d → parseFieldDescriptor d = some ty → Fld Z h' a O nm d (defaultValue ty)) → Wk W p l e R s m args below meth c n0 Q h' (k + 1) (n + sz) (mkF m (pc + 3) Ls (.ref a :: st))) :
    Wk W p l e R s m args below meth c n0 Q h k n (mkF m pc Ls st) := by
  intro T L vm0 X B eT N
  obtain ⟨T', h', X', e', E, A, D, -, st⟩ := Jvm.RoadKit.newO X C.hx (C.wZ B) (C.wo B) w wi wz eT (g := mkF m pc Ls st) rfl (hb C.hby hd) hc hl
  obtain ⟨s₂, o, h1, h2⟩ := H h' _ rfl E A D T' L vm0 X' (B.mono E.1) e' N
  exact ⟨s₂, o, st _ h1, h2⟩
theorem Wk.newP (C : Cx Z p s m meth c y bytes maxL ret) {aty : ArrayType} (w : (Cond.arrayClass (newarray.typeOf aty)).before a0 Z = true) {z : Int32} (hz : ¬ z < 0) {cap : Nat} (hcap : z.toNatClampNeg ≤ cap) (hbig : cap * 8 ≤ 536870912) {pc : Nat} {Ls : Array Slot} {st : List Value} (hd : decode bytes pc = .ok (.newarray aty, 2)) (hc : k + 1 ≤ R.cells) (hl : n + cap ≤ R.slots)
    (H : ∀ h' a cA, a = h.size → Ext h h' → Arr Z h' a (newA cA (newarray.typeOf aty) z) (newarray.typeOf aty) → Wk W p l e R s m args below meth c n0 Q h' (k + 1) (n + cap) (mkF m (pc + 2) Ls (.ref a :: st))) :
    Wk W p l e R s m args below meth c n0 Q h k n (mkF m pc Ls (.int z :: st)) := by
  intro T L vm0 X B eT N
  obtain ⟨T', h', cA, X', e', E, A, st⟩ := Jvm.RoadKit.newP X C.hx (C.wZ B) w eT (g := mkF m pc Ls (.int z :: st)) rfl (hb C.hby hd) rfl hz hcap hbig hc hl
  obtain ⟨s₂, o, h1, h2⟩ := H h' _ cA rfl E A T' L vm0 X' (B.mono E.1) e' N
  exact ⟨s₂, o, st _ h1, h2⟩
theorem Wk.newR (C : Cx Z p s m meth c y bytes maxL ret) {K : String} {index : Nat} (w1 : (Cond.classLink y.cls index K).before a0 Z = true) (w2 : (Cond.arrayOver (.object K)).before a0 Z = true) {z : Int32} (hz : ¬ z < 0) {cap : Nat} (hcap : z.toNatClampNeg ≤ cap) (hbig : cap * 8 ≤ 536870912) {pc : Nat} {Ls : Array Slot} {st : List Value} (hd : decode bytes pc = .ok (.anewarray index, 3)) (hc : k + 1 ≤ R.cells) (hl : n + cap ≤ R.slots)
    (H : ∀ h' a cA, a = h.size → Ext h h' → Arr Z h' a (newA cA (.object K) z) (.object K) → Ovr Z cA K → Wk W p l e R s m args below meth c n0 Q h' (k + 1) (n + cap) (mkF m (pc + 3) Ls (.ref a :: st))) :
    Wk W p l e R s m args below meth c n0 Q h k n (mkF m pc Ls (.int z :: st)) := by
  intro T L vm0 X B eT N
  obtain ⟨T', h', cA, X', e', E, A, O, st⟩ := Jvm.RoadKit.newR X C.hx (C.wZ B) (C.wo B) w1 w2 eT (g := mkF m pc Ls (.int z :: st)) rfl (hb C.hby hd) rfl hz hcap hbig hc hl
  obtain ⟨s₂, o, h1, h2⟩ := H h' _ cA rfl E A O T' L vm0 X' (B.mono E.1) e' N
  exact ⟨s₂, o, st _ h1, h2⟩
theorem Wk.stI (C : Cx Z p s m meth c y bytes maxL ret) {a : Addr} {cl : Cell} (A : Arr Z h a cl .int) {j x : Int32} (hj : ¬ (j < 0 ∨ cl.slots.size ≤ j.toNatClampNeg)) (ge : n0 ≤ a) {pc : Nat} {Ls : Array Slot} {st : List Value} (hd : decode bytes pc = .ok (.iastore, 1))
    (H : ∀ h', Wr h h' a j.toNatClampNeg (.int x) → Wk W p l e R s m args below meth c n0 Q h' k n (mkF m (pc + 1) Ls st)) : Wk W p l e R s m args below meth c n0 Q h k n (mkF m pc Ls (.int x :: .int j :: .ref a :: st)) :=
  Wk.stW C ge (fun X hZ ho eT => Jvm.RoadKit.stI X C.hx hZ eT A hj (g := mkF m pc Ls (.int x :: .int j :: .ref a :: st)) rfl rfl (hb C.hby hd)) H
theorem Wk.stJ (C : Cx Z p s m meth c y bytes maxL ret) {a : Addr} {cl : Cell} (A : Arr Z h a cl .long) {j : Int32} {x : Int64} (hj : ¬ (j < 0 ∨ cl.slots.size ≤ j.toNatClampNeg)) (ge : n0 ≤ a) {pc : Nat} {Ls : Array Slot} {st : List Value} (hd : decode bytes pc = .ok (.lastore, 1))
    (H : ∀ h', Wr h h' a j.toNatClampNeg (.long x) → Wk W p l e R s m args below meth c n0 Q h' k n (mkF m (pc + 1) Ls st)) : Wk W p l e R s m args below meth c n0 Q h k n (mkF m pc Ls (.long x :: .int j :: .ref a :: st)) :=
  Wk.stW C ge (fun X hZ ho eT => Jvm.RoadKit.stJ X C.hx hZ eT A hj (g := mkF m pc Ls (.long x :: .int j :: .ref a :: st)) rfl rfl (hb C.hby hd)) H
theorem Wk.stD (C : Cx Z p s m meth c y bytes maxL ret) {a : Addr} {cl : Cell} (A : Arr Z h a cl .double) {j : Int32} {x : UInt64} (hj : ¬ (j < 0 ∨ cl.slots.size ≤ j.toNatClampNeg)) (ge : n0 ≤ a) {pc : Nat} {Ls : Array Slot} {st : List Value} (hd : decode bytes pc = .ok (.dastore, 1))
    (H : ∀ h', Wr h h' a j.toNatClampNeg (.double x) → Wk W p l e R s m args below meth c n0 Q h' k n (mkF m (pc + 1) Ls st)) : Wk W p l e R s m args below meth c n0 Q h k n (mkF m pc Ls (.double x :: .int j :: .ref a :: st)) :=
  Wk.stW C ge (fun X hZ ho eT => Jvm.RoadKit.stD X C.hx hZ eT A hj (g := mkF m pc Ls (.double x :: .int j :: .ref a :: st)) rfl rfl (hb C.hby hd)) H
theorem Wk.stR (C : Cx Z p s m meth c y bytes maxL ret) {a : Addr} {cl : Cell} {ty : FieldType} (A : Arr Z h a cl ty) {j : Int32} {v : Value} (hj : ¬ (j < 0 ∨ cl.slots.size ≤ j.toNatClampNeg)) (hty : ty.isReference = true) (F : Sto Z h a v) (ge : n0 ≤ a) {pc : Nat} {Ls : Array Slot} {st : List Value} (hd : decode bytes pc = .ok (.aastore, 1))
    (H : ∀ h', Wr h h' a j.toNatClampNeg v → Wk W p l e R s m args below meth c n0 Q h' k n (mkF m (pc + 1) Ls st)) : Wk W p l e R s m args below meth c n0 Q h k n (mkF m pc Ls (v :: .int j :: .ref a :: st)) :=
  Wk.stW C ge (fun X hZ ho eT => Jvm.RoadKit.stR X C.hx hZ eT A hj hty F (g := mkF m pc Ls (v :: .int j :: .ref a :: st)) rfl rfl (hb C.hby hd)) H
theorem Wk.len (C : Cx Z p s m meth c y bytes maxL ret) {a : Addr} {cl : Cell} {ty : FieldType} (A : Arr Z h a cl ty) {pc : Nat} {Ls : Array Slot} {st : List Value} (hd : decode bytes pc = .ok (.arraylength, 1))
    (H : Wk W p l e R s m args below meth c n0 Q h k n (mkF m (pc + 1) Ls (.int cl.slots.size.toInt32 :: st))) : Wk W p l e R s m args below meth c n0 Q h k n (mkF m pc Ls (.ref a :: st)) :=
  Wk.stZ C (fun X hZ ho eT => ⟨_, X, eT, X.arraylength C.hx (by rw [eT]; exact A.1) (State.isArrayOf_alike hZ.alike A.2.1) (g := mkF m pc Ls (.ref a :: st)) rfl rfl (hb C.hby hd)⟩) H
theorem Wk.ldI (C : Cx Z p s m meth c y bytes maxL ret) {a : Addr} {cl : Cell} (A : Arr Z h a cl .int) {j : Int32} {v : Value} (hj : ¬ (j < 0 ∨ cl.slots.size ≤ j.toNatClampNeg)) (hv : cl.slots[j.toNatClampNeg]? = some v) {pc : Nat} {Ls : Array Slot} {st : List Value} (hd : decode bytes pc = .ok (.iaload, 1))
    (H : Wk W p l e R s m args below meth c n0 Q h k n (mkF m (pc + 1) Ls (v :: st))) : Wk W p l e R s m args below meth c n0 Q h k n (mkF m pc Ls (.int j :: .ref a :: st)) :=
  Wk.stZ C (fun X hZ ho eT => ⟨_, X, eT, X.iaload C.hx (by rw [eT]; exact A.1) (State.isArrayOf_alike hZ.alike A.2.1) A.2.2 hj hv (g := mkF m pc Ls (.int j :: .ref a :: st)) rfl rfl (hb C.hby hd)⟩) H
theorem Wk.ldJ (C : Cx Z p s m meth c y bytes maxL ret) {a : Addr} {cl : Cell} (A : Arr Z h a cl .long) {j : Int32} {v : Value} (hj : ¬ (j < 0 ∨ cl.slots.size ≤ j.toNatClampNeg)) (hv : cl.slots[j.toNatClampNeg]? = some v) {pc : Nat} {Ls : Array Slot} {st : List Value} (hd : decode bytes pc = .ok (.laload, 1))
    (H : Wk W p l e R s m args below meth c n0 Q h k n (mkF m (pc + 1) Ls (v :: st))) : Wk W p l e R s m args below meth c n0 Q h k n (mkF m pc Ls (.int j :: .ref a :: st)) :=
  Wk.stZ C (fun X hZ ho eT => ⟨_, X, eT, X.laload C.hx (by rw [eT]; exact A.1) (State.isArrayOf_alike hZ.alike A.2.1) A.2.2 hj hv (g := mkF m pc Ls (.int j :: .ref a :: st)) rfl rfl (hb C.hby hd)⟩) H
theorem Wk.ldD (C : Cx Z p s m meth c y bytes maxL ret) {a : Addr} {cl : Cell} (A : Arr Z h a cl .double) {j : Int32} {v : Value} (hj : ¬ (j < 0 ∨ cl.slots.size ≤ j.toNatClampNeg)) (hv : cl.slots[j.toNatClampNeg]? = some v) {pc : Nat} {Ls : Array Slot} {st : List Value} (hd : decode bytes pc = .ok (.daload, 1))
    (H : Wk W p l e R s m args below meth c n0 Q h k n (mkF m (pc + 1) Ls (v :: st))) : Wk W p l e R s m args below meth c n0 Q h k n (mkF m pc Ls (.int j :: .ref a :: st)) :=
  Wk.stZ C (fun X hZ ho eT => ⟨_, X, eT, X.daload C.hx (by rw [eT]; exact A.1) (State.isArrayOf_alike hZ.alike A.2.1) A.2.2 hj hv (g := mkF m pc Ls (.int j :: .ref a :: st)) rfl rfl (hb C.hby hd)⟩) H
theorem Wk.ldR (C : Cx Z p s m meth c y bytes maxL ret) {a : Addr} {cl : Cell} {ty : FieldType} (A : Arr Z h a cl ty) (hty : ty.isReference = true) {j : Int32} {v : Value} (hj : ¬ (j < 0 ∨ cl.slots.size ≤ j.toNatClampNeg)) (hv : cl.slots[j.toNatClampNeg]? = some v) {pc : Nat} {Ls : Array Slot} {st : List Value} (hd : decode bytes pc = .ok (.aaload, 1))
    (H : Wk W p l e R s m args below meth c n0 Q h k n (mkF m (pc + 1) Ls (v :: st))) : Wk W p l e R s m args below meth c n0 Q h k n (mkF m pc Ls (.int j :: .ref a :: st)) :=
  Wk.stZ C (fun X hZ ho eT => ⟨_, X, eT, X.aaload C.hx (by rw [eT]; exact A.1) (State.isArrayOf_alike hZ.alike A.2.1) hty A.2.2 hj hv (g := mkF m pc Ls (.int j :: .ref a :: st)) rfl rfl (hb C.hby hd)⟩) H
theorem Wk.ldZ (C : Cx Z p s m meth c y bytes maxL ret) {a : Addr} {cl : Cell} (A : Arr Z h a cl .boolean) {j : Int32} {v : Value} (hj : ¬ (j < 0 ∨ cl.slots.size ≤ j.toNatClampNeg)) (hv : cl.slots[j.toNatClampNeg]? = some v) {pc : Nat} {Ls : Array Slot} {st : List Value} (hd : decode bytes pc = .ok (.baload, 1))
    (H : Wk W p l e R s m args below meth c n0 Q h k n (mkF m (pc + 1) Ls (v :: st))) : Wk W p l e R s m args below meth c n0 Q h k n (mkF m pc Ls (.int j :: .ref a :: st)) :=
  Wk.stZ C (fun X hZ ho eT => ⟨_, X, eT, X.baloadBooleans C.hx (by rw [eT]; exact A.1) (State.isArrayOf_alike hZ.alike A.2.1) A.2.2 hj hv (g := mkF m pc Ls (.int j :: .ref a :: st)) rfl rfl (hb C.hby hd)⟩) H
theorem Wk.ldC (C : Cx Z p s m meth c y bytes maxL ret) {a : Addr} {cl : Cell} (A : Arr Z h a cl .char) {j : Int32} {v : Value} (hj : ¬ (j < 0 ∨ cl.slots.size ≤ j.toNatClampNeg)) (hv : cl.slots[j.toNatClampNeg]? = some v) {pc : Nat} {Ls : Array Slot} {st : List Value} (hd : decode bytes pc = .ok (.caload, 1))
    (H : Wk W p l e R s m args below meth c n0 Q h k n (mkF m (pc + 1) Ls (v :: st))) : Wk W p l e R s m args below meth c n0 Q h k n (mkF m pc Ls (.int j :: .ref a :: st)) :=
  Wk.stZ C (fun X hZ ho eT => ⟨_, X, eT, X.caload C.hx (by rw [eT]; exact A.1) (State.isArrayOf_alike hZ.alike A.2.1) A.2.2 hj hv (g := mkF m pc Ls (.int j :: .ref a :: st)) rfl rfl (hb C.hby hd)⟩) H
theorem Wk.ldB (C : Cx Z p s m meth c y bytes maxL ret) {a : Addr} {cl : Cell} (A : Arr Z h a cl .byte) {j : Int32} {v : Value} (hj : ¬ (j < 0 ∨ cl.slots.size ≤ j.toNatClampNeg)) (hv : cl.slots[j.toNatClampNeg]? = some v) {pc : Nat} {Ls : Array Slot} {st : List Value} (hd : decode bytes pc = .ok (.baload, 1))
    (H : Wk W p l e R s m args below meth c n0 Q h k n (mkF m (pc + 1) Ls (v :: st))) : Wk W p l e R s m args below meth c n0 Q h k n (mkF m pc Ls (.int j :: .ref a :: st)) :=
  Wk.stZ C (fun X hZ ho eT => ⟨_, X, eT, X.baloadBytes C.hx (by rw [eT]; exact A.1) (State.isArrayOf_alike hZ.alike A.2.1) A.2.2 hj hv (g := mkF m pc Ls (.int j :: .ref a :: st)) rfl rfl (hb C.hby hd)⟩) H
theorem Wk.stZb (C : Cx Z p s m meth c y bytes maxL ret) {a : Addr} {cl : Cell} (A : Arr Z h a cl .boolean) {j x : Int32} (hj : ¬ (j < 0 ∨ cl.slots.size ≤ j.toNatClampNeg)) (ge : n0 ≤ a) {pc : Nat} {Ls : Array Slot} {st : List Value} (hd : decode bytes pc = .ok (.bastore, 1))
    (H : ∀ h', Wr h h' a j.toNatClampNeg (.int (nar .boolean x)) → Wk W p l e R s m args below meth c n0 Q h' k n (mkF m (pc + 1) Ls st)) : Wk W p l e R s m args below meth c n0 Q h k n (mkF m pc Ls (.int x :: .int j :: .ref a :: st)) :=
  Wk.stW C ge (fun X hZ ho eT => Jvm.RoadKit.stZ X C.hx hZ eT A hj (g := mkF m pc Ls (.int x :: .int j :: .ref a :: st)) rfl rfl (hb C.hby hd)) H
theorem Wk.stB (C : Cx Z p s m meth c y bytes maxL ret) {a : Addr} {cl : Cell} (A : Arr Z h a cl .byte) {j x : Int32} (hj : ¬ (j < 0 ∨ cl.slots.size ≤ j.toNatClampNeg)) (ge : n0 ≤ a) {pc : Nat} {Ls : Array Slot} {st : List Value} (hd : decode bytes pc = .ok (.bastore, 1))
    (H : ∀ h', Wr h h' a j.toNatClampNeg (.int (nar .byte x)) → Wk W p l e R s m args below meth c n0 Q h' k n (mkF m (pc + 1) Ls st)) : Wk W p l e R s m args below meth c n0 Q h k n (mkF m pc Ls (.int x :: .int j :: .ref a :: st)) :=
  Wk.stW C ge (fun X hZ ho eT => Jvm.RoadKit.stB X C.hx hZ eT A hj (g := mkF m pc Ls (.int x :: .int j :: .ref a :: st)) rfl rfl (hb C.hby hd)) H
theorem Wk.stC (C : Cx Z p s m meth c y bytes maxL ret) {a : Addr} {cl : Cell} (A : Arr Z h a cl .char) {j x : Int32} (hj : ¬ (j < 0 ∨ cl.slots.size ≤ j.toNatClampNeg)) (ge : n0 ≤ a) {pc : Nat} {Ls : Array Slot} {st : List Value} (hd : decode bytes pc = .ok (.castore, 1))
    (H : ∀ h', Wr h h' a j.toNatClampNeg (.int (nar .char x)) → Wk W p l e R s m args below meth c n0 Q h' k n (mkF m (pc + 1) Ls st)) : Wk W p l e R s m args below meth c n0 Q h k n (mkF m pc Ls (.int x :: .int j :: .ref a :: st)) :=
  Wk.stW C ge (fun X hZ ho eT => Jvm.RoadKit.stC X C.hx hZ eT A hj (g := mkF m pc Ls (.int x :: .int j :: .ref a :: st)) rfl rfl (hb C.hby hd)) H
theorem Wk.initO (C : Cx Z p s m meth c y bytes maxL ret) {index : Nat} (w1 : (Cond.methodLink y.cls index Lib.objectInit).before a0 Z = true) (w2 : (Cond.instanceMethod Lib.objectInit).before a0 Z = true) (w3 : (Cond.code Lib.objectInit ⟨#[0xb1]⟩ 1 none).before a0 Z = true) {a : Addr} {w : Nat} {pc : Nat} {Ls : Array Slot} {st : List Value} (hls : Ls.size = maxL) (hd : decode bytes pc = .ok (.invokespecial index, 3)) (hf : 1 ≤ R.frames) (hw : (st.map fun v => v.category).sum ≤ w) (hl : w + 12 ≤ R.locals)
    (H : Wk W p l e R s m args below meth c n0 Q h k n (mkF m (pc + 3) Ls st)) : Wk W p l e R s m args below meth c n0 Q h k n (mkF m pc Ls (.ref a :: st)) :=
  Wk.stZ C (fun X hZ ho eT => Jvm.RoadKit.initO X C.hx hZ ho w1 w2 w3 eT (g := mkF m pc Ls (.ref a :: st)) rfl (hls.trans C.hml.symm) rfl (hb C.hby hd) hf (W := w) (by show 2 * 0 + _ ≤ _; omega) hl) H
theorem Wk.retV (C : Cx Z p s m meth c y bytes maxL ret) {pc : Nat} {Ls : Array Slot} {w : Value} {t : FieldType} {i : Instr} {rest : List Value} (ht : ret = some t) (hn : narrow t w = w)
    (hi : (i = .ireturn ∧ (t = .int ∨ t = .boolean ∨ t = .byte ∨ t = .char ∨ t = .short) ∧ ∃ z, w = .int z) ∨ (i = .lreturn ∧ t = .long ∧ ∃ z, w = .long z) ∨ (i = .dreturn ∧ t = .double ∧ ∃ z, w = .double z) ∨ (i = .freturn ∧ t = .float ∧ ∃ z, w = .float z) ∨ (i = .areturn ∧ t.isReference = true ∧ w.isRef = true))
    (hd : decode bytes pc = .ok (i, 1)) (hk : k ≤ R.cells) (hs : n ≤ R.slots) (hq : Q (some w) h) : Wk W p l e R s m args below meth c n0 Q h k n (mkF m pc Ls (w :: rest)) := by
  intro T L vm0 X B eT N
  have hlk := C.hlk
  have hv : meth.sig.returnType = none → (some w : Option Value) = none := fun h => by rw [C.hret, ht] at h; cases h
  cases W
  · cases (B : vm0 = s.vm)
    obtain ⟨fs, hr, hrun, hended, hW, hsame⟩ := Stand.leave (s := s) X (v := some w) hv hlk
    refine ⟨_, _, retOut X C.hx (C.hret.trans ht) hn hi (hb C.hby hd) hr, hrun, hended, _, L, rfl, ⟨?_, N⟩, ⟨_, rfl⟩, hW, hsame.mono hk hs⟩
    show Q (some w) T.heap
    rw [eT]; exact hq
  · obtain ⟨k0, hS, hk0⟩ := (B : ∃ k0, s.Since vm0 k0 ∧ k0 ≤ h.size)
    obtain ⟨fs, hr, hrun, hended, hE⟩ := X.leaveW hS (by rw [eT]; exact hk0) (v := some w) hv hlk
    refine ⟨_, _, retOut X C.hx (C.hret.trans ht) hn hi (hb C.hby hd) hr, hrun, hended, _, L, rfl, ⟨?_, N⟩, hE.1, hE.2.1, hE.2.2.1, hE.2.2.2.mono hk hs⟩
    show Q (some w) T.heap
    rw [eT]; exact hq
theorem Wk.retN0 (C : Cx Z p s m meth c y bytes maxL ret) {pc : Nat} {Ls : Array Slot} (ht : ret = none) (hd : decode bytes pc = .ok (.return_, 1)) (hk : k ≤ R.cells) (hs : n ≤ R.slots) (hq : Q none h) : Wk W p l e R s m args below meth c n0 Q h k n (mkF m pc Ls []) := by
  intro T L vm0 X B eT N
  have hlk := C.hlk
  have hv : meth.sig.returnType = none → (none : Option Value) = none := fun _ => rfl
  cases W
  · cases (B : vm0 = s.vm)
    obtain ⟨fs, hr, hrun, hended, hW, hsame⟩ := Stand.leave (s := s) X (v := none) hv hlk
    refine ⟨_, _, X.returnOut C.hx (C.hret.trans ht) (hb C.hby hd) hr, hrun, hended, _, L, rfl, ⟨?_, N⟩, ⟨_, rfl⟩, hW, hsame.mono hk hs⟩
    show Q none T.heap
    rw [eT]; exact hq
  · obtain ⟨k0, hS, hk0⟩ := (B : ∃ k0, s.Since vm0 k0 ∧ k0 ≤ h.size)
    obtain ⟨fs, hr, hrun, hended, hE⟩ := X.leaveW hS (by rw [eT]; exact hk0) (v := none) hv hlk
    refine ⟨_, _, X.returnOut C.hx (C.hret.trans ht) (hb C.hby hd) hr, hrun, hended, _, L, rfl, ⟨?_, N⟩, hE.1, hE.2.1, hE.2.2.1, hE.2.2.2.mono hk hs⟩
    show Q none T.heap
    rw [eT]; exact hq
/-- the three calls, by the callee's contract -/
theorem Wk.callS (C : Cx Z p s m meth c y bytes maxL ret) {z : MethodName} {index : Nat} {bz : ByteArray} {mz : Nat} {rz : Option FieldType} {rm : Room} {asL : List Value} {Qz : Option Value → Heap → Prop}
    (w1 : (Cond.methodLink y.cls index z).before a0 Z = true) (w2 : (Cond.static z).before a0 Z = true) (w3 : (Cond.initialized z.cls).before a0 Z = true) (w4 : (Cond.code z bz mz rz).before a0 Z = true)
    (hz : z.cls ≠ "java/lang/invoke/MethodHandle" ∧ z.cls ≠ "java/lang/invoke/VarHandle") (M : Met W l Z n0 z bz mz rz rm asL.toArray h Qz) {w : Nat} (hf : rm.frames + 1 ≤ R.frames) (hl : w + (mz + 11) + rm.locals ≤ R.locals)
    {ps : List FieldType} {r : Option FieldType} (hlen : parseMethodDescriptor z.desc = some ⟨ps, r⟩) (hps : asL.length = ps.length) {pc : Nat} {Ls : Array Slot} {st rest : List Value} (hls : Ls.size = maxL) (hst : st = asL.reverse ++ rest) (hw : (rest.map fun v => v.category).sum ≤ w)
    (hc : k + rm.cells ≤ R.cells) (hs : n + rm.slots ≤ R.slots) (hd : decode bytes pc = .ok (.invokestatic index, 3))
    (H : ∀ v h', Qz v h' → Wk W p l e R s m args below meth c n0 Q h' (k + rm.cells) (n + rm.slots) (mkF m (pc + 3) Ls (v.toList ++ rest))) : Wk W p l e R s m args below meth c n0 Q h k n (mkF m pc Ls st) := by
  intro T L vm0 X B eT N
  subst hst
  have hZ := C.wZ B
  have ho := C.wo B
  have hw' : 2 * (mkF m pc Ls (asL.reverse ++ rest)).monitorRoom + (rest.map fun v => v.category).sum ≤ w := by show 2 * 0 + _ ≤ _; omega
  cases W
  · obtain ⟨v, vm₁, ⟨T', L', k', n'⟩, -, X', ⟨Lc, hQ, l1, y1, z1⟩, st⟩ := Jvm.LawKit.callS X C.hx ho (mvT hZ w1) (mvT hZ w2) (mvT hZ w3) (mvT hZ w4) hz (backOf (W := w) (Q := fun v h L => Qz v h ∧ Fr n0 L) (M []) hZ w4 w3 hf hl) (g := mkF m pc Ls (asL.reverse ++ rest)) rfl (hls.trans C.hml.symm) (argsL := asL) (rest := rest) (lenOf hlen hps) rfl hw' (hb C.hby hd) (fun _ _ => ⟨rfl, eT, hc, hs⟩)
    dsimp only [Pt.U, Pt.locs, Pt.cells, Pt.slots] at X' l1 y1 z1 st hQ
    subst l1 y1 z1
    obtain ⟨s₂, o, h1, h2⟩ := H v T'.heap hQ.1 T' _ vm0 X' (B : vm0 = s.vm) rfl (N.app hQ.2)
    exact ⟨s₂, o, st _ h1, h2⟩
  · obtain ⟨v, vm₁, ⟨T', L', k', n'⟩, -, X', hS', hgr, ⟨Lc, hQ, l1, y1, z1⟩, st⟩ := callSS X C.hx ho (mvT hZ w1) (mvT hZ w2) (mvT hZ w3) (mvT hZ w4) hz (backOfS (W := w) (Q := fun v h L => Qz v h ∧ Fr n0 L) (M []) hZ w4 w3 hf hl) (g := mkF m pc Ls (asL.reverse ++ rest)) rfl (hls.trans C.hml.symm) (argsL := asL) (rest := rest) (lenOf hlen hps) rfl hw' (hb C.hby hd) (fun _ _ => ⟨rfl, eT, hc, hs⟩)
    dsimp only [Pt.U, Pt.locs, Pt.cells, Pt.slots] at X' hS' hgr l1 y1 z1 st hQ
    subst l1 y1 z1
    obtain ⟨k0, hS, hk0⟩ := (B : ∃ k0, s.Since vm0 k0 ∧ k0 ≤ h.size)
    obtain ⟨s₂, o, h1, h2⟩ := H v T'.heap hQ.1 T' _ T'.vm X' ⟨_, foldS hS (by rw [eT]; exact hk0) hS' hgr, Nat.le_refl _⟩ rfl (N.app hQ.2)
    exact ⟨s₂, o, st.trans h1, h2⟩
theorem Wk.callI (C : Cx Z p s m meth c y bytes maxL ret) {z : MethodName} {index : Nat} {bz : ByteArray} {mz : Nat} {rm : Room} {a : Addr} {asL : List Value} {Qz : Option Value → Heap → Prop} (hz1 : z.name = "<init>")
    (w1 : (Cond.methodLink y.cls index z).before a0 Z = true) (w2 : (Cond.instanceMethod z).before a0 Z = true) (w3 : (Cond.initialized z.cls).before a0 Z = true) (w4 : (Cond.code z bz mz none).before a0 Z = true)
    (hz : z.cls ≠ "java/lang/invoke/MethodHandle" ∧ z.cls ≠ "java/lang/invoke/VarHandle") (M : Met W l Z n0 z bz mz none rm (.ref a :: asL).toArray h Qz) {w : Nat} (hf : rm.frames + 1 ≤ R.frames) (hl : w + (mz + 11) + rm.locals ≤ R.locals)
    {ps : List FieldType} {r : Option FieldType} (hlen : parseMethodDescriptor z.desc = some ⟨ps, r⟩) (hps : asL.length = ps.length) {pc : Nat} {Ls : Array Slot} {st rest : List Value} (hls : Ls.size = maxL) (hst : st = asL.reverse ++ .ref a :: rest) (hw : (rest.map fun v => v.category).sum ≤ w)
    (hc : k + rm.cells ≤ R.cells) (hs : n + rm.slots ≤ R.slots) (hd : decode bytes pc = .ok (.invokespecial index, 3))
    (H : ∀ v h', Qz v h' → Wk W p l e R s m args below meth c n0 Q h' (k + rm.cells) (n + rm.slots) (mkF m (pc + 3) Ls (v.toList ++ rest))) : Wk W p l e R s m args below meth c n0 Q h k n (mkF m pc Ls st) := by
  intro T L vm0 X B eT N
  subst hst
  have hZ := C.wZ B
  have ho := C.wo B
  have hw' : 2 * (mkF m pc Ls (asL.reverse ++ .ref a :: rest)).monitorRoom + (rest.map fun v => v.category).sum ≤ w := by show 2 * 0 + _ ≤ _; omega
  cases W
  · obtain ⟨v, vm₁, ⟨T', L', k', n'⟩, -, X', ⟨Lc, hQ, l1, y1, z1⟩, st⟩ := X.specialBack C.hx hz1 ho (mvT hZ w1) (mvT hZ w2) (mvT hZ w4) hz (backOf (W := w) (Q := fun v h L => Qz v h ∧ Fr n0 L) (M []) hZ w4 w3 hf hl) (g := mkF m pc Ls (asL.reverse ++ .ref a :: rest)) rfl (hls.trans C.hml.symm) (Steps.refl _) (a := a) (argsL := asL) (rest := rest) (lenOf hlen hps) rfl hw' (hb C.hby hd) (fun _ _ => ⟨rfl, eT, hc, hs⟩)
    dsimp only [Pt.U, Pt.locs, Pt.cells, Pt.slots] at X' l1 y1 z1 st hQ
    subst l1 y1 z1
    obtain ⟨s₂, o, h1, h2⟩ := H v T'.heap hQ.1 T' _ vm0 X' (B : vm0 = s.vm) rfl (N.app hQ.2)
    exact ⟨s₂, o, st.trans h1, h2⟩
  · obtain ⟨v, vm₁, ⟨T', L', k', n'⟩, -, X', hS', hgr, ⟨Lc, hQ, l1, y1, z1⟩, st⟩ := X.specialBackS C.hx hz1 ho (mvT hZ w1) (mvT hZ w2) (mvT hZ w4) hz (backOfS (W := w) (Q := fun v h L => Qz v h ∧ Fr n0 L) (M []) hZ w4 w3 hf hl) (g := mkF m pc Ls (asL.reverse ++ .ref a :: rest)) rfl (hls.trans C.hml.symm) (Steps.refl _) (a := a) (argsL := asL) (rest := rest) (lenOf hlen hps) rfl hw' (hb C.hby hd) (fun _ _ => ⟨rfl, eT, hc, hs⟩)
    dsimp only [Pt.U, Pt.locs, Pt.cells, Pt.slots] at X' hS' hgr l1 y1 z1 st hQ
    subst l1 y1 z1
    obtain ⟨k0, hS, hk0⟩ := (B : ∃ k0, s.Since vm0 k0 ∧ k0 ≤ h.size)
    obtain ⟨s₂, o, h1, h2⟩ := H v T'.heap hQ.1 T' _ T'.vm X' ⟨_, foldS hS (by rw [eT]; exact hk0) hS' hgr, Nat.le_refl _⟩ rfl (N.app hQ.2)
    exact ⟨s₂, o, st.trans h1, h2⟩
theorem Wk.callV (C : Cx Z p s m meth c y bytes maxL ret) {x z : MethodName} {K : String} {index : Nat} {bz : ByteArray} {mz : Nat} {rz : Option FieldType} {rm : Room} {a : Addr} {asL : List Value} {Qz : Option Value → Heap → Prop}
    (w1 : (Cond.methodLink y.cls index x).before a0 Z = true) (w2 : (Cond.declares x).before a0 Z = true) (w5 : (Cond.selects K x z).before a0 Z = true) (w6 : (Cond.instanceMethod z).before a0 Z = true) (w3 : (Cond.initialized z.cls).before a0 Z = true) (w4 : (Cond.code z bz mz rz).before a0 Z = true)
    (hz : x.cls ≠ "java/lang/invoke/MethodHandle" ∧ x.cls ≠ "java/lang/invoke/VarHandle") (hnf : ∀ s' : State, Z.Warmed39 s'.vm → NotFace s' x) (E : Exa Z h a K) (M : Met W l Z n0 z bz mz rz rm (.ref a :: asL).toArray h Qz) {w : Nat} (hf : rm.frames + 1 ≤ R.frames) (hl : w + (mz + 11) + rm.locals ≤ R.locals)
    {ps : List FieldType} {r : Option FieldType} (hlen : parseMethodDescriptor x.desc = some ⟨ps, r⟩) (hps : asL.length = ps.length) {pc : Nat} {Ls : Array Slot} {st rest : List Value} (hls : Ls.size = maxL) (hst : st = asL.reverse ++ .ref a :: rest) (hw : (rest.map fun v => v.category).sum ≤ w)
    (hc : k + rm.cells ≤ R.cells) (hs : n + rm.slots ≤ R.slots) (hd : decode bytes pc = .ok (.invokevirtual index, 3))
    (H : ∀ v h', Qz v h' → Wk W p l e R s m args below meth c n0 Q h' (k + rm.cells) (n + rm.slots) (mkF m (pc + 3) Ls (v.toList ++ rest))) : Wk W p l e R s m args below meth c n0 Q h k n (mkF m pc Ls st) := by
  intro T L vm0 X B eT N
  subst hst
  have hZ := C.wZ B
  have ho := C.wo B
  have hw' : 2 * (mkF m pc Ls (asL.reverse ++ .ref a :: rest)).monitorRoom + (rest.map fun v => v.category).sum ≤ w := by show 2 * 0 + _ ≤ _; omega
  obtain ⟨cq, kq, qa, qb, qc⟩ := isOf hZ eT E
  cases W
  · obtain ⟨v, vm₁, ⟨T', L', k', n'⟩, -, X', ⟨Lc, hQ, l1, y1, z1⟩, st⟩ := X.virtualBack C.hx (y := x) (z := z) ho (mvT hZ w1) (mvT hZ w2) (hnf _ hZ) (mvT hZ w5) (mvT hZ w6) hz (backOf (W := w) (Q := fun v h L => Qz v h ∧ Fr n0 L) (M []) hZ w4 w3 hf hl) qa qc (g := mkF m pc Ls (asL.reverse ++ .ref a :: rest)) rfl (hls.trans C.hml.symm) (Steps.refl _) (argsL := asL) (rest := rest) (lenOf hlen hps) rfl hw' (hb C.hby hd) (fun _ _ => ⟨rfl, eT, hc, hs⟩)
    dsimp only [Pt.U, Pt.locs, Pt.cells, Pt.slots] at X' l1 y1 z1 st hQ
    subst l1 y1 z1
    obtain ⟨s₂, o, h1, h2⟩ := H v T'.heap hQ.1 T' _ vm0 X' (B : vm0 = s.vm) rfl (N.app hQ.2)
    exact ⟨s₂, o, st.trans h1, h2⟩
  · obtain ⟨v, vm₁, ⟨T', L', k', n'⟩, -, X', hS', hgr, ⟨Lc, hQ, l1, y1, z1⟩, st⟩ := X.virtualBackS C.hx (y := x) (z := z) ho (mvT hZ w1) (mvT hZ w2) (hnf _ hZ) (mvT hZ w5) (mvT hZ w6) hz (backOfS (W := w) (Q := fun v h L => Qz v h ∧ Fr n0 L) (M []) hZ w4 w3 hf hl) qa qc (g := mkF m pc Ls (asL.reverse ++ .ref a :: rest)) rfl (hls.trans C.hml.symm) (Steps.refl _) (argsL := asL) (rest := rest) (lenOf hlen hps) rfl hw' (hb C.hby hd) (fun _ _ => ⟨rfl, eT, hc, hs⟩)
    dsimp only [Pt.U, Pt.locs, Pt.cells, Pt.slots] at X' hS' hgr l1 y1 z1 st hQ
    subst l1 y1 z1
    obtain ⟨k0, hS, hk0⟩ := (B : ∃ k0, s.Since vm0 k0 ∧ k0 ≤ h.size)
    obtain ⟨s₂, o, h1, h2⟩ := H v T'.heap hQ.1 T' _ T'.vm X' ⟨_, foldS hS (by rw [eT]; exact hk0) hS' hgr, Nat.le_refl _⟩ rfl (N.app hQ.2)
    exact ⟨s₂, o, st.trans h1, h2⟩
theorem Wk.callU (C : Cx Z p s m meth c y bytes maxL ret) {x z : MethodName} {K owner : String} {index : Nat} {bz : ByteArray} {mz : Nat} {rz : Option FieldType} {rm : Room} {a : Addr} {asL : List Value} {Qz : Option Value → Heap → Prop}
    (w1 : (Cond.methodLink y.cls index x).before a0 Z = true) (w7 : (Cond.sameMethod x.cls owner x.name x.desc).before a0 Z = true) (w2 : (Cond.declares ⟨owner, x.name, x.desc⟩).before a0 Z = true) (w5 : (Cond.selects K x z).before a0 Z = true) (w6 : (Cond.instanceMethod z).before a0 Z = true) (w3 : (Cond.initialized z.cls).before a0 Z = true) (w4 : (Cond.code z bz mz rz).before a0 Z = true)
    (hz : owner ≠ "java/lang/invoke/MethodHandle" ∧ owner ≠ "java/lang/invoke/VarHandle") (E : Exa Z h a K) (M : Met W l Z n0 z bz mz rz rm (.ref a :: asL).toArray h Qz) {w : Nat} (hf : rm.frames + 1 ≤ R.frames) (hl : w + (mz + 11) + rm.locals ≤ R.locals)
    {ps : List FieldType} {r : Option FieldType} (hlen : parseMethodDescriptor x.desc = some ⟨ps, r⟩) (hps : asL.length = ps.length) {pc : Nat} {Ls : Array Slot} {st rest : List Value} (hls : Ls.size = maxL) (hst : st = asL.reverse ++ .ref a :: rest) (hw : (rest.map fun v => v.category).sum ≤ w)
    (hc : k + rm.cells ≤ R.cells) (hs : n + rm.slots ≤ R.slots) (hd : decode bytes pc = .ok (.invokevirtual index, 3))
    (H : ∀ v h', Qz v h' → Wk W p l e R s m args below meth c n0 Q h' (k + rm.cells) (n + rm.slots) (mkF m (pc + 3) Ls (v.toList ++ rest))) : Wk W p l e R s m args below meth c n0 Q h k n (mkF m pc Ls st) := by
  intro T L vm0 X B eT N
  subst hst
  have hZ := C.wZ B
  have ho := C.wo B
  have hw' : 2 * (mkF m pc Ls (asL.reverse ++ .ref a :: rest)).monitorRoom + (rest.map fun v => v.category).sum ≤ w := by show 2 * 0 + _ ≤ _; omega
  obtain ⟨cq, kq, qa, qb, qc⟩ := isOf hZ eT E
  cases W
  · obtain ⟨v, vm₁, ⟨T', L', k', n'⟩, -, X', ⟨Lc, hQ, l1, y1, z1⟩, st⟩ := X.virtualBackUp C.hx (x := x) (y := z) ho (mvT hZ w1) (mvT hZ w7) (mvT hZ w2) hz (mvT hZ w5) (mvT hZ w6) (backOf (W := w) (Q := fun v h L => Qz v h ∧ Fr n0 L) (M []) hZ w4 w3 hf hl) qa qc (g := mkF m pc Ls (asL.reverse ++ .ref a :: rest)) rfl (hls.trans C.hml.symm) (Steps.refl _) (argsL := asL) (rest := rest) (lenOf hlen hps) rfl hw' (hb C.hby hd) (fun _ _ => ⟨rfl, eT, hc, hs⟩)
    dsimp only [Pt.U, Pt.locs, Pt.cells, Pt.slots] at X' l1 y1 z1 st hQ
    subst l1 y1 z1
    obtain ⟨s₂, o, h1, h2⟩ := H v T'.heap hQ.1 T' _ vm0 X' (B : vm0 = s.vm) rfl (N.app hQ.2)
    exact ⟨s₂, o, st.trans h1, h2⟩
  · obtain ⟨v, vm₁, ⟨T', L', k', n'⟩, -, X', hS', hgr, ⟨Lc, hQ, l1, y1, z1⟩, st⟩ := X.virtualBackUpS C.hx (x := x) (y := z) ho (mvT hZ w1) (mvT hZ w7) (mvT hZ w2) hz (mvT hZ w5) (mvT hZ w6) (backOfS (W := w) (Q := fun v h L => Qz v h ∧ Fr n0 L) (M []) hZ w4 w3 hf hl) qa qc (g := mkF m pc Ls (asL.reverse ++ .ref a :: rest)) rfl (hls.trans C.hml.symm) (Steps.refl _) (argsL := asL) (rest := rest) (lenOf hlen hps) rfl hw' (hb C.hby hd) (fun _ _ => ⟨rfl, eT, hc, hs⟩)
    dsimp only [Pt.U, Pt.locs, Pt.cells, Pt.slots] at X' hS' hgr l1 y1 z1 st hQ
    subst l1 y1 z1
    obtain ⟨k0, hS, hk0⟩ := (B : ∃ k0, s.Since vm0 k0 ∧ k0 ≤ h.size)
    obtain ⟨s₂, o, h1, h2⟩ := H v T'.heap hQ.1 T' _ T'.vm X' ⟨_, foldS hS (by rw [eT]; exact hk0) hS' hgr, Nat.le_refl _⟩ rfl (N.app hQ.2)
    exact ⟨s₂, o, st.trans h1, h2⟩
theorem Wk.ldcS (C : Cx Z p s m meth c y bytes maxL ret) {index : Nat} {text : String} (w : (Cond.stringLink y.cls index text).before a0 Z = true) (wS : ∀ d ∈ Bundle.stringAtoms, d.before a0 Z = true) {N : Nat} (hn : 4 * text.toList.length ≤ N) (hbig : N ≤ 536870912) {pc : Nat} {Ls : Array Slot} {st : List Value} (hd : decode bytes pc = .ok (.ldc index, 2)) (hc : k + 2 ≤ R.cells) (hl : n + (N + 4) ≤ R.slots)
    (H : ∀ h' a, Ext h h' → Wk true p l e R s m args below meth c n0 Q h' (k + 2) (n + (N + 4)) (mkF m (pc + 2) Ls (.ref a :: st))) : Wk true p l e R s m args below meth c n0 Q h k n (mkF m pc Ls st) := by
  intro T L vm0 X B eT N'
  have hZ := C.wZ B
  have ho := C.wo B
  obtain ⟨k0, hS, hk0⟩ := (B : ∃ k0, s.Since vm0 k0 ∧ k0 ≤ h.size)
  obtain ⟨a, T', h', k1, X', e', E, hS', hk1, -, -, st⟩ := Jvm.RoadKit.ldcS X C.hx hZ ho w wS eT hS hk0 (g := mkF m pc Ls st) rfl (hb C.hby hd) hn hbig hc hl
  obtain ⟨s₂, o, h1, h2⟩ := H h' a E T' L T'.vm X' ⟨k1, hS', hk1⟩ e' N'
  exact ⟨s₂, o, st _ h1, h2⟩
end Rules
theorem ext_trans {h h' h'' : Heap} (E : Ext h h') (E' : Ext h' h'') : Ext h h'' := ⟨Nat.le_trans E.1 E'.1, fun a c q => E'.2 a c (E.2 a c q)⟩
theorem ext_refl (h : Heap) : Ext h h := ⟨Nat.le_refl _, fun _ _ q => q⟩
end Jvm.Own
namespace Jvm.Own
open Jvm Jvm.ClassFile Sem Op Lib Jvm.Free Jvm.Stand Jvm.LawKit Jvm.RoadKit
/-! statics that hold objects, told apart by a field -/
theorem stat_exa {args : Array Value} {s : State} {C n d K : String} (wi : (Cond.initialized C).before args s = true) (wl : (Cond.laysStatic C n d).before args s = true) (hx : (Cond.exactly (Term.static C n d) K).value args s none s [] = some true) :
    ∃ a, (Term.static C n d).eval args s none [] s = some (.ref a) ∧ Sta s s.heap C n d (.ref a) ∧ Exa s s.heap a K := by
  obtain ⟨a, ev⟩ := exa_v hx
  exact ⟨a, ev, Sta.start ev (Or.inr ⟨wi, wl⟩), Exa.start ev hx⟩
theorem fld_int {args : Array Value} {s : State} {t : Term} {a : Addr} {O f d : String} {i : Int32} (ev : t.eval args s none [] s = some (.ref a)) (hq : (Cond.eq (Term.field t O f d) (Term.int i)).value args s none s [] = some true) : Fld s s.heap a O f d (.int i) := by
  refine Fld.start ?_
  obtain ⟨x, y, h1, h2, k1, k2⟩ := cmp_v (Or.inl hq)
  cases (show some (Value.int i) = some y from h2)
  obtain ⟨z, rfl⟩ := k2
  have q := gotT (show (Cond.eq (Term.field t O f d) (Term.int i)).value args s none s [] = some (decide (z = i)) by simp [Cond.value, h1, h2]) hq
  subst q
  rw [fld_at ev] at h1; exact h1
theorem fld_uniq {Z : State} {h : Heap} {a : Addr} {O f d : String} {v w : Value} (F : Fld Z h a O f d v) (G : Fld Z h a O f d w) : v = w := by
  obtain ⟨c1, cf, k, i, fd, h1, h2, -, -, -, -, h7⟩ := F
  obtain ⟨c2, cf', k', i', fd', g1, g2, -, -, -, -, g7⟩ := G
  cases h1.symm.trans g1
  cases h2.symm.trans g2
  exact Option.some.inj (h7.symm.trans g7)
theorem ne_fld {Z : State} {h : Heap} {a b : Addr} {O f d : String} {v w : Value} (F : Fld Z h a O f d v) (G : Fld Z h b O f d w) (q : v ≠ w) : a ≠ b := fun e => by
  subst e; exact q (fld_uniq F G)
theorem mod_range (p k : Int32) (d : Int) (hd : k.toInt = d) (h0 : 0 < d) : 0 ≤ ((p &&& 2147483647) % k).toInt ∧ ((p &&& 2147483647) % k).toInt < d := by
  have h1 := (c_andS p 2147483647).2.2 (by decide)
  have h2 := (c_irem (p &&& 2147483647) k d hd).1 h1
  rw [h2]
  exact ⟨Int.emod_nonneg _ (by omega), Int.emod_lt_of_pos _ h0⟩
theorem mod6 (p : Int32) : (p &&& 2147483647) % 6 = 0 ∨ (p &&& 2147483647) % 6 = 1 ∨ (p &&& 2147483647) % 6 = 2 ∨ (p &&& 2147483647) % 6 = 3 ∨ (p &&& 2147483647) % 6 = 4 ∨ (p &&& 2147483647) % 6 = 5 := by
  have h := mod_range p 6 6 (by decide) (by decide)
  generalize (p &&& 2147483647) % 6 = r at h ⊢
  have q : r.toInt = 0 ∨ r.toInt = 1 ∨ r.toInt = 2 ∨ r.toInt = 3 ∨ r.toInt = 4 ∨ r.toInt = 5 := by omega
  rcases q with q | q | q | q | q | q
  · exact Or.inl (Int32.toInt_inj.mp q)
  · exact Or.inr (Or.inl (Int32.toInt_inj.mp q))
  · exact Or.inr (Or.inr (Or.inl (Int32.toInt_inj.mp q)))
  · exact Or.inr (Or.inr (Or.inr (Or.inl (Int32.toInt_inj.mp q))))
  · exact Or.inr (Or.inr (Or.inr (Or.inr (Or.inl (Int32.toInt_inj.mp q)))))
  · exact Or.inr (Or.inr (Or.inr (Or.inr (Or.inr (Int32.toInt_inj.mp q)))))
theorem mod3 (p : Int32) : (p &&& 2147483647) % 3 = 0 ∨ (p &&& 2147483647) % 3 = 1 ∨ (p &&& 2147483647) % 3 = 2 := by
  have h := mod_range p 3 3 (by decide) (by decide)
  generalize (p &&& 2147483647) % 3 = r at h ⊢
  have q : r.toInt = 0 ∨ r.toInt = 1 ∨ r.toInt = 2 := by omega
  rcases q with q | q | q
  · exact Or.inl (Int32.toInt_inj.mp q)
  · exact Or.inr (Or.inl (Int32.toInt_inj.mp q))
  · exact Or.inr (Or.inr (Int32.toInt_inj.mp q))
end Jvm.Own
namespace Jvm.Own
open Jvm Jvm.ClassFile Sem Op Lib Jvm.Free Jvm.Stand Jvm.LawKit Jvm.RoadKit
/-! an array by what it holds at each place -/
def up {α : Type} (f : Nat → α) (i : Nat) (v : α) : Nat → α := fun k => if k = i then v else f k
theorem up_eq {α : Type} {f : Nat → α} {i k : Nat} {v : α} (q : k = i) : up f i v k = v := by simp [up, q]
theorem up_ne {α : Type} {f : Nat → α} {i k : Nat} {v : α} (q : k ≠ i) : up f i v k = f k := by simp [up, q]
def Fa (Z : State) (h : Heap) (a : Addr) (ty : FieldType) (n : Nat) (f : Nat → Value) : Prop :=
  ∃ c : Cell, Arr Z h a c ty ∧ c.slots.size = n ∧ n < 2 ^ 31 ∧ ∀ i, i < n → c.slots[i]? = some (f i)
/-- .. of objects of the class K -/
def FaO (Z : State) (h : Heap) (a : Addr) (K : String) (n : Nat) (f : Nat → Value) : Prop :=
  ∃ c : Cell, Arr Z h a c (.object K) ∧ Ovr Z c.cls K ∧ c.slots.size = n ∧ n < 2 ^ 31 ∧ ∀ i, i < n → c.slots[i]? = some (f i)
/-- .. of arrays, whose class is named K -/
def FaA (Z : State) (h : Heap) (a : Addr) (ty : FieldType) (K : String) (n : Nat) (f : Nat → Value) : Prop :=
  ∃ c : Cell, Arr Z h a c (.array ty) ∧ OvrA Z c.cls ty K ∧ c.slots.size = n ∧ n < 2 ^ 31 ∧ ∀ i, i < n → c.slots[i]? = some (f i)
section Facts
variable {Z : State} {h h' : Heap} {a b : Addr} {ty : FieldType} {K : String} {n : Nat} {f g : Nat → Value} {sl : Nat} {v : Value} {ws : List Addr}
theorem inb {c : Cell} {j : Int32} (S : c.slots.size = n) (h0 : ¬ j < 0) (hi : j.toNatClampNeg < n) : ¬ (j < 0 ∨ c.slots.size ≤ j.toNatClampNeg) := by
  rintro (q | q)
  · exact h0 q
  · omega
theorem set_at {c : Cell} (S : c.slots.size = n) (H : ∀ i, i < n → c.slots[i]? = some (f i)) (hs : sl < n) : ∀ i, i < n → (c.setSlot sl v).slots[i]? = some (up f sl v i) := fun i hi => by
  by_cases q : i = sl
  · subst q; rw [up_eq rfl]; simp [Cell.setSlot, S, hi]
  · rw [up_ne q, ← H i hi]; exact Array.getElem?_setIfInBounds_ne (Ne.symm q)
theorem new_at {cA : ClassId} {z : Int32} : ∀ i, i < z.toNatClampNeg → (newA cA ty z).slots[i]? = some (defaultValue ty) := fun i hi => by simp [newA, hi]
theorem clamp_lt (z : Int32) : z.toNatClampNeg < 2 ^ 31 := by
  have := Int32.toInt_lt z; simp only [Int32.toNatClampNeg]; omega
theorem Fa.lt (F : Fa Z h a ty n f) : a < h.size := by obtain ⟨c, A, -⟩ := F; exact A.lt
theorem Fa.ext (F : Fa Z h a ty n f) (E : Ext h h') : Fa Z h' a ty n f := by obtain ⟨c, A, r⟩ := F; exact ⟨c, A.ext E, r⟩
theorem Fa.other (F : Fa Z h b ty n f) (W : Wr h h' a sl v) (q : b ≠ a) : Fa Z h' b ty n f := by obtain ⟨c, A, r⟩ := F; exact ⟨c, A.other W q, r⟩
theorem Fa.keep (F : Fa Z h a ty n f) (K : Keep h h' ws) (q : a ∉ ws) : Fa Z h' a ty n f := by obtain ⟨c, A, r⟩ := F; exact ⟨c, ⟨K.2.1 a c A.1 q, A.2⟩, r⟩
theorem Fa.set (F : Fa Z h a ty n f) (W : Wr h h' a sl v) (hs : sl < n) : Fa Z h' a ty n (up f sl v) := by
  obtain ⟨c, A, S, N, H⟩ := F; exact ⟨_, A.same W, (sz_set _ _ _).trans S, N, set_at S H hs⟩
theorem Fa.new {cA : ClassId} {z : Int32} (A : Arr Z h a (newA cA ty z) ty) : Fa Z h a ty z.toNatClampNeg (fun _ => defaultValue ty) := ⟨_, A, sz_new _ _ _, clamp_lt z, new_at⟩
theorem Fa.congr (F : Fa Z h a ty n f) (q : ∀ i, i < n → f i = g i) : Fa Z h a ty n g := by obtain ⟨c, A, S, N, H⟩ := F; exact ⟨c, A, S, N, fun i hi => (H i hi).trans (congrArg some (q i hi))⟩
theorem FaO.lt (F : FaO Z h a K n f) : a < h.size := by obtain ⟨c, A, -⟩ := F; exact A.lt
theorem FaO.ext (F : FaO Z h a K n f) (E : Ext h h') : FaO Z h' a K n f := by obtain ⟨c, A, r⟩ := F; exact ⟨c, A.ext E, r⟩
theorem FaO.other (F : FaO Z h b K n f) (W : Wr h h' a sl v) (q : b ≠ a) : FaO Z h' b K n f := by obtain ⟨c, A, r⟩ := F; exact ⟨c, A.other W q, r⟩
theorem FaO.set (F : FaO Z h a K n f) (W : Wr h h' a sl v) (hs : sl < n) : FaO Z h' a K n (up f sl v) := by
  obtain ⟨c, A, O, S, N, H⟩ := F; exact ⟨_, A.same W, O, (sz_set _ _ _).trans S, N, set_at S H hs⟩
theorem FaO.new {cA : ClassId} {z : Int32} (A : Arr Z h a (newA cA (.object K) z) (.object K)) (O : Ovr Z cA K) : FaO Z h a K z.toNatClampNeg (fun _ => .null) := ⟨_, A, O, sz_new _ _ _, clamp_lt z, new_at⟩
theorem FaO.sto (F : FaO Z h a K n f) {y : Addr} (E : Exa Z h y K) : Sto Z h a (.ref y) := by obtain ⟨c, A, O, -⟩ := F; exact Sto.of A O (Ins.self E)
theorem FaA.lt (F : FaA Z h a ty K n f) : a < h.size := by obtain ⟨c, A, -⟩ := F; exact A.lt
theorem FaA.ext (F : FaA Z h a ty K n f) (E : Ext h h') : FaA Z h' a ty K n f := by obtain ⟨c, A, r⟩ := F; exact ⟨c, A.ext E, r⟩
theorem FaA.other (F : FaA Z h b ty K n f) (W : Wr h h' a sl v) (q : b ≠ a) : FaA Z h' b ty K n f := by obtain ⟨c, A, r⟩ := F; exact ⟨c, A.other W q, r⟩
theorem FaA.keep (F : FaA Z h a ty K n f) (Kp : Keep h h' ws) (q : a ∉ ws) : FaA Z h' a ty K n f := by obtain ⟨c, A, r⟩ := F; exact ⟨c, ⟨Kp.2.1 a c A.1 q, A.2⟩, r⟩
theorem FaA.set (F : FaA Z h a ty K n f) (W : Wr h h' a sl v) (hs : sl < n) : FaA Z h' a ty K n (up f sl v) := by
  obtain ⟨c, A, O, S, N, H⟩ := F; exact ⟨_, A.same W, O, (sz_set _ _ _).trans S, N, set_at S H hs⟩
theorem FaA.new {cA : ClassId} {z : Int32} (A : Arr Z h a (newA cA (.array ty) z) (.array ty)) (O : OvrA Z cA ty K) : FaA Z h a ty K z.toNatClampNeg (fun _ => .null) := ⟨_, A, O, sz_new _ _ _, clamp_lt z, new_at⟩
end Facts
section Rules
variable {W : Bool} {Z : State} {p : Program} {l : Launch} {e : Env} {R : Room} {s : State} {m : MethodId} {args : Array Value} {below : List Frame} {meth : Method} {c : Code} {y : MethodName} {bytes : ByteArray} {maxL : Nat} {ret : Option FieldType} {n0 : Nat} {Q : Option Value → Heap → Prop} {h : Heap} {k n : Nat} {a0 : Array Value}
variable {a : Addr} {ty : FieldType} {K : String} {N : Nat} {f : Nat → Value} {j : Int32} {v : Value} {pc : Nat} {Ls : Array Slot} {st : List Value}
theorem Wk.fLen (C : Cx Z p s m meth c y bytes maxL ret) (F : Fa Z h a ty N f) {z : Int32} (hz : N.toInt32 = z) (hd : decode bytes pc = .ok (.arraylength, 1))
    (H : Wk W p l e R s m args below meth c n0 Q h k n (mkF m (pc + 1) Ls (.int z :: st))) : Wk W p l e R s m args below meth c n0 Q h k n (mkF m pc Ls (.ref a :: st)) := by
  obtain ⟨cl, A, S, -⟩ := F; exact Wk.len C A hd (by rw [S, hz]; exact H)
theorem Wk.fLenA (C : Cx Z p s m meth c y bytes maxL ret) (F : FaA Z h a ty K N f) {z : Int32} (hz : N.toInt32 = z) (hd : decode bytes pc = .ok (.arraylength, 1))
    (H : Wk W p l e R s m args below meth c n0 Q h k n (mkF m (pc + 1) Ls (.int z :: st))) : Wk W p l e R s m args below meth c n0 Q h k n (mkF m pc Ls (.ref a :: st)) := by
  obtain ⟨cl, A, -, S, -⟩ := F; exact Wk.len C A hd (by rw [S, hz]; exact H)
theorem Wk.fLdI (C : Cx Z p s m meth c y bytes maxL ret) (F : Fa Z h a .int N f) {i : Nat} (hj : j.toNatClampNeg = i) (h0 : ¬ j < 0) (hi : i < N) (hv : f i = v) (hd : decode bytes pc = .ok (.iaload, 1))
    (H : Wk W p l e R s m args below meth c n0 Q h k n (mkF m (pc + 1) Ls (v :: st))) : Wk W p l e R s m args below meth c n0 Q h k n (mkF m pc Ls (.int j :: .ref a :: st)) := by
  subst hj
  obtain ⟨cl, A, S, -, Hs⟩ := F; exact Wk.ldI C A (inb S h0 hi) (hv ▸ Hs _ hi) hd H
theorem Wk.fLdJ (C : Cx Z p s m meth c y bytes maxL ret) (F : Fa Z h a .long N f) {i : Nat} (hj : j.toNatClampNeg = i) (h0 : ¬ j < 0) (hi : i < N) (hv : f i = v) (hd : decode bytes pc = .ok (.laload, 1))
    (H : Wk W p l e R s m args below meth c n0 Q h k n (mkF m (pc + 1) Ls (v :: st))) : Wk W p l e R s m args below meth c n0 Q h k n (mkF m pc Ls (.int j :: .ref a :: st)) := by
  subst hj
  obtain ⟨cl, A, S, -, Hs⟩ := F; exact Wk.ldJ C A (inb S h0 hi) (hv ▸ Hs _ hi) hd H
theorem Wk.fLdD (C : Cx Z p s m meth c y bytes maxL ret) (F : Fa Z h a .double N f) {i : Nat} (hj : j.toNatClampNeg = i) (h0 : ¬ j < 0) (hi : i < N) (hv : f i = v) (hd : decode bytes pc = .ok (.daload, 1))
    (H : Wk W p l e R s m args below meth c n0 Q h k n (mkF m (pc + 1) Ls (v :: st))) : Wk W p l e R s m args below meth c n0 Q h k n (mkF m pc Ls (.int j :: .ref a :: st)) := by
  subst hj
  obtain ⟨cl, A, S, -, Hs⟩ := F; exact Wk.ldD C A (inb S h0 hi) (hv ▸ Hs _ hi) hd H
theorem Wk.fLdZ (C : Cx Z p s m meth c y bytes maxL ret) (F : Fa Z h a .boolean N f) {i : Nat} (hj : j.toNatClampNeg = i) (h0 : ¬ j < 0) (hi : i < N) (hv : f i = v) (hd : decode bytes pc = .ok (.baload, 1))
    (H : Wk W p l e R s m args below meth c n0 Q h k n (mkF m (pc + 1) Ls (v :: st))) : Wk W p l e R s m args below meth c n0 Q h k n (mkF m pc Ls (.int j :: .ref a :: st)) := by
  subst hj
  obtain ⟨cl, A, S, -, Hs⟩ := F; exact Wk.ldZ C A (inb S h0 hi) (hv ▸ Hs _ hi) hd H
theorem Wk.fLdC (C : Cx Z p s m meth c y bytes maxL ret) (F : Fa Z h a .char N f) {i : Nat} (hj : j.toNatClampNeg = i) (h0 : ¬ j < 0) (hi : i < N) (hv : f i = v) (hd : decode bytes pc = .ok (.caload, 1))
    (H : Wk W p l e R s m args below meth c n0 Q h k n (mkF m (pc + 1) Ls (v :: st))) : Wk W p l e R s m args below meth c n0 Q h k n (mkF m pc Ls (.int j :: .ref a :: st)) := by
  subst hj
  obtain ⟨cl, A, S, -, Hs⟩ := F; exact Wk.ldC C A (inb S h0 hi) (hv ▸ Hs _ hi) hd H
theorem Wk.fLdB (C : Cx Z p s m meth c y bytes maxL ret) (F : Fa Z h a .byte N f) {i : Nat} (hj : j.toNatClampNeg = i) (h0 : ¬ j < 0) (hi : i < N) (hv : f i = v) (hd : decode bytes pc = .ok (.baload, 1))
    (H : Wk W p l e R s m args below meth c n0 Q h k n (mkF m (pc + 1) Ls (v :: st))) : Wk W p l e R s m args below meth c n0 Q h k n (mkF m pc Ls (.int j :: .ref a :: st)) := by
  subst hj
  obtain ⟨cl, A, S, -, Hs⟩ := F; exact Wk.ldB C A (inb S h0 hi) (hv ▸ Hs _ hi) hd H
theorem Wk.fLdO (C : Cx Z p s m meth c y bytes maxL ret) (F : FaO Z h a K N f) {i : Nat} (hj : j.toNatClampNeg = i) (h0 : ¬ j < 0) (hi : i < N) (hv : f i = v) (hd : decode bytes pc = .ok (.aaload, 1))
    (H : Wk W p l e R s m args below meth c n0 Q h k n (mkF m (pc + 1) Ls (v :: st))) : Wk W p l e R s m args below meth c n0 Q h k n (mkF m pc Ls (.int j :: .ref a :: st)) := by
  subst hj
  obtain ⟨cl, A, -, S, -, Hs⟩ := F; exact Wk.ldR C A rfl (inb S h0 hi) (hv ▸ Hs _ hi) hd H
theorem Wk.fLdA (C : Cx Z p s m meth c y bytes maxL ret) (F : FaA Z h a ty K N f) {i : Nat} (hj : j.toNatClampNeg = i) (h0 : ¬ j < 0) (hi : i < N) (hv : f i = v) (hd : decode bytes pc = .ok (.aaload, 1))
    (H : Wk W p l e R s m args below meth c n0 Q h k n (mkF m (pc + 1) Ls (v :: st))) : Wk W p l e R s m args below meth c n0 Q h k n (mkF m pc Ls (.int j :: .ref a :: st)) := by
  subst hj
  obtain ⟨cl, A, -, S, -, Hs⟩ := F; exact Wk.ldR C A rfl (inb S h0 hi) (hv ▸ Hs _ hi) hd H
theorem Wk.fStI (C : Cx Z p s m meth c y bytes maxL ret) (F : Fa Z h a .int N f) {x : Int32} {i : Nat} (hj : j.toNatClampNeg = i) (h0 : ¬ j < 0) (hi : i < N) (ge : n0 ≤ a) (hd : decode bytes pc = .ok (.iastore, 1))
    (H : ∀ h', Wr h h' a i (.int x) → Fa Z h' a .int N (up f i (.int x)) → Wk W p l e R s m args below meth c n0 Q h' k n (mkF m (pc + 1) Ls st)) : Wk W p l e R s m args below meth c n0 Q h k n (mkF m pc Ls (.int x :: .int j :: .ref a :: st)) := by
  subst hj
  obtain ⟨cl, A, S, r⟩ := id F; exact Wk.stI C A (inb S h0 hi) ge hd fun h' Wh => H h' Wh (F.set Wh hi)
theorem Wk.fStJ (C : Cx Z p s m meth c y bytes maxL ret) (F : Fa Z h a .long N f) {x : Int64} {i : Nat} (hj : j.toNatClampNeg = i) (h0 : ¬ j < 0) (hi : i < N) (ge : n0 ≤ a) (hd : decode bytes pc = .ok (.lastore, 1))
    (H : ∀ h', Wr h h' a i (.long x) → Fa Z h' a .long N (up f i (.long x)) → Wk W p l e R s m args below meth c n0 Q h' k n (mkF m (pc + 1) Ls st)) : Wk W p l e R s m args below meth c n0 Q h k n (mkF m pc Ls (.long x :: .int j :: .ref a :: st)) := by
  subst hj
  obtain ⟨cl, A, S, r⟩ := id F; exact Wk.stJ C A (inb S h0 hi) ge hd fun h' Wh => H h' Wh (F.set Wh hi)
theorem Wk.fStD (C : Cx Z p s m meth c y bytes maxL ret) (F : Fa Z h a .double N f) {x : UInt64} {i : Nat} (hj : j.toNatClampNeg = i) (h0 : ¬ j < 0) (hi : i < N) (ge : n0 ≤ a) (hd : decode bytes pc = .ok (.dastore, 1))
    (H : ∀ h', Wr h h' a i (.double x) → Fa Z h' a .double N (up f i (.double x)) → Wk W p l e R s m args below meth c n0 Q h' k n (mkF m (pc + 1) Ls st)) : Wk W p l e R s m args below meth c n0 Q h k n (mkF m pc Ls (.double x :: .int j :: .ref a :: st)) := by
  subst hj
  obtain ⟨cl, A, S, r⟩ := id F; exact Wk.stD C A (inb S h0 hi) ge hd fun h' Wh => H h' Wh (F.set Wh hi)
theorem Wk.fStZ (C : Cx Z p s m meth c y bytes maxL ret) (F : Fa Z h a .boolean N f) {x x' : Int32} (hx : nar .boolean x = x') {i : Nat} (hj : j.toNatClampNeg = i) (h0 : ¬ j < 0) (hi : i < N) (ge : n0 ≤ a) (hd : decode bytes pc = .ok (.bastore, 1))
    (H : ∀ h', Wr h h' a i (.int x') → Fa Z h' a .boolean N (up f i (.int x')) → Wk W p l e R s m args below meth c n0 Q h' k n (mkF m (pc + 1) Ls st)) : Wk W p l e R s m args below meth c n0 Q h k n (mkF m pc Ls (.int x :: .int j :: .ref a :: st)) := by
  subst hx
  subst hj
  obtain ⟨cl, A, S, r⟩ := id F; exact Wk.stZb C A (inb S h0 hi) ge hd fun h' Wh => H h' Wh (F.set Wh hi)
theorem Wk.fStB (C : Cx Z p s m meth c y bytes maxL ret) (F : Fa Z h a .byte N f) {x x' : Int32} (hx : nar .byte x = x') {i : Nat} (hj : j.toNatClampNeg = i) (h0 : ¬ j < 0) (hi : i < N) (ge : n0 ≤ a) (hd : decode bytes pc = .ok (.bastore, 1))
    (H : ∀ h', Wr h h' a i (.int x') → Fa Z h' a .byte N (up f i (.int x')) → Wk W p l e R s m args below meth c n0 Q h' k n (mkF m (pc + 1) Ls st)) : Wk W p l e R s m args below meth c n0 Q h k n (mkF m pc Ls (.int x :: .int j :: .ref a :: st)) := by
  subst hx
  subst hj
  obtain ⟨cl, A, S, r⟩ := id F; exact Wk.stB C A (inb S h0 hi) ge hd fun h' Wh => H h' Wh (F.set Wh hi)
theorem Wk.fStC (C : Cx Z p s m meth c y bytes maxL ret) (F : Fa Z h a .char N f) {x x' : Int32} (hx : nar .char x = x') {i : Nat} (hj : j.toNatClampNeg = i) (h0 : ¬ j < 0) (hi : i < N) (ge : n0 ≤ a) (hd : decode bytes pc = .ok (.castore, 1))
    (H : ∀ h', Wr h h' a i (.int x') → Fa Z h' a .char N (up f i (.int x')) → Wk W p l e R s m args below meth c n0 Q h' k n (mkF m (pc + 1) Ls st)) : Wk W p l e R s m args below meth c n0 Q h k n (mkF m pc Ls (.int x :: .int j :: .ref a :: st)) := by
  subst hx
  subst hj
  obtain ⟨cl, A, S, r⟩ := id F; exact Wk.stC C A (inb S h0 hi) ge hd fun h' Wh => H h' Wh (F.set Wh hi)
theorem Wk.fStO (C : Cx Z p s m meth c y bytes maxL ret) (F : FaO Z h a K N f) {i : Nat} (hj : j.toNatClampNeg = i) (h0 : ¬ j < 0) (hi : i < N) (So : Sto Z h a v) (ge : n0 ≤ a) (hd : decode bytes pc = .ok (.aastore, 1))
    (H : ∀ h', Wr h h' a i v → FaO Z h' a K N (up f i v) → Wk W p l e R s m args below meth c n0 Q h' k n (mkF m (pc + 1) Ls st)) : Wk W p l e R s m args below meth c n0 Q h k n (mkF m pc Ls (v :: .int j :: .ref a :: st)) := by
  subst hj
  obtain ⟨cl, A, O, S, r⟩ := id F; exact Wk.stR C A (inb S h0 hi) rfl So ge hd fun h' Wh => H h' Wh (F.set Wh hi)
theorem Wk.fStA (C : Cx Z p s m meth c y bytes maxL ret) (F : FaA Z h a ty K N f) {i : Nat} (hj : j.toNatClampNeg = i) (h0 : ¬ j < 0) (hi : i < N) (So : Sto Z h a v) (ge : n0 ≤ a) (hd : decode bytes pc = .ok (.aastore, 1))
    (H : ∀ h', Wr h h' a i v → FaA Z h' a ty K N (up f i v) → Wk W p l e R s m args below meth c n0 Q h' k n (mkF m (pc + 1) Ls st)) : Wk W p l e R s m args below meth c n0 Q h k n (mkF m pc Ls (v :: .int j :: .ref a :: st)) := by
  subst hj
  obtain ⟨cl, A, O, S, r⟩ := id F; exact Wk.stR C A (inb S h0 hi) rfl So ge hd fun h' Wh => H h' Wh (F.set Wh hi)
theorem Wk.fNewP (C : Cx Z p s m meth c y bytes maxL ret) {aty : ArrayType} (w : (Cond.arrayClass (newarray.typeOf aty)).before a0 Z = true) {z : Int32} {dv : Value} {ad : String} (hty : newarray.typeOf aty = ty) (hdv : defaultValue ty = dv) (hN : z.toNatClampNeg = N) (had : "[" ++ (newarray.typeOf aty).toString = ad) (hz : ¬ z < 0) {cap : Nat} (hcap : N ≤ cap) (hbig : cap * 8 ≤ 536870912) (hd : decode bytes pc = .ok (.newarray aty, 2)) (hc : k + 1 ≤ R.cells) (hl : n + cap ≤ R.slots)
    (H : ∀ h' a, a = h.size → Ext h h' → Exa Z h' a ad → Fa Z h' a ty N (fun _ => dv) → Wk W p l e R s m args below meth c n0 Q h' (k + 1) (n + cap) (mkF m (pc + 2) Ls (.ref a :: st))) :
    Wk W p l e R s m args below meth c n0 Q h k n (mkF m pc Ls (.int z :: st)) := by
  intro T L vm0 X B eT Nn
  subst hty hdv hN
  obtain ⟨T', h', cA, X', e', E, A, Ex, st⟩ := Jvm.RoadKit.newPE X C.hx (C.wZ B) w eT (g := mkF m pc Ls (.int z :: st)) rfl (hb C.hby hd) rfl hz hcap hbig hc hl had
  obtain ⟨s₂, o, h1, h2⟩ := H h' _ rfl E Ex (Fa.new A) T' L vm0 X' (B.mono E.1) e' Nn
  exact ⟨s₂, o, st _ h1, h2⟩
theorem Wk.fNewA (C : Cx Z p s m meth c y bytes maxL ret) {index : Nat} {z : Int32} {ad : String} (hK : (FieldType.array ty).toString = K) (w1 : (Cond.classLink y.cls index K).before a0 Z = true) (w2 : (Cond.arrayOver (.array ty)).before a0 Z = true) (hN : z.toNatClampNeg = N) (had : "[" ++ K = ad) (hz : ¬ z < 0) {cap : Nat} (hcap : N ≤ cap) (hbig : cap * 8 ≤ 536870912) (hd : decode bytes pc = .ok (.anewarray index, 3)) (hc : k + 1 ≤ R.cells) (hl : n + cap ≤ R.slots)
    (H : ∀ h' a, a = h.size → Ext h h' → Exa Z h' a ad → FaA Z h' a ty K N (fun _ => .null) → Wk W p l e R s m args below meth c n0 Q h' (k + 1) (n + cap) (mkF m (pc + 3) Ls (.ref a :: st))) :
    Wk W p l e R s m args below meth c n0 Q h k n (mkF m pc Ls (.int z :: st)) := by
  intro T L vm0 X B eT Nn
  subst hN
  obtain ⟨T', h', cA, X', e', E, A, Ex, O, st⟩ := Jvm.RoadKit.newRA X C.hx (C.wZ B) (C.wo B) hK w1 w2 eT (g := mkF m pc Ls (.int z :: st)) rfl (hb C.hby hd) rfl hz hcap hbig hc hl had
  obtain ⟨s₂, o, h1, h2⟩ := H h' _ rfl E Ex (FaA.new A O) T' L vm0 X' (B.mono E.1) e' Nn
  exact ⟨s₂, o, st _ h1, h2⟩
theorem Wk.fNewO (C : Cx Z p s m meth c y bytes maxL ret) {index : Nat} {z : Int32} (w1 : (Cond.classLink y.cls index K).before a0 Z = true) (w2 : (Cond.arrayOver (.object K)).before a0 Z = true) (hN : z.toNatClampNeg = N) (hz : ¬ z < 0) {cap : Nat} (hcap : N ≤ cap) (hbig : cap * 8 ≤ 536870912) (hd : decode bytes pc = .ok (.anewarray index, 3)) (hc : k + 1 ≤ R.cells) (hl : n + cap ≤ R.slots)
    (H : ∀ h' a, a = h.size → Ext h h' → FaO Z h' a K N (fun _ => .null) → Wk W p l e R s m args below meth c n0 Q h' (k + 1) (n + cap) (mkF m (pc + 3) Ls (.ref a :: st))) :
    Wk W p l e R s m args below meth c n0 Q h k n (mkF m pc Ls (.int z :: st)) := by
  subst hN
  exact Wk.newR C w1 w2 hz hcap hbig hd hc hl fun h' a cA g E A O => H h' a g E (FaO.new A O)
theorem FaA.sto {f : Nat → Value} (F : FaA Z h a ty K N f) {b : Addr} (E : Exa Z h b K) : Sto Z h a (.ref b) := by obtain ⟨c, A, O, -⟩ := F; exact Sto.ofVA A rfl O (Ins.self E)
end Rules
end Jvm.Own
namespace Jvm.Own
theorem nm0 {a : Nat} : a ∉ ([] : List Nat) := by simp
theorem nmS {a b : Nat} {ws : List Nat} (h : a ≠ b) (t : a ∉ ws) : a ∉ b :: ws := by simp [h, t]
theorem nv0 {P : Nat → Prop} : ∀ x ∈ ([] : List Nat), P x := fun _ q => nomatch q
theorem nvS {P : Nat → Prop} {b : Nat} {ws : List Nat} (h : P b) (t : ∀ x ∈ ws, P x) : ∀ x ∈ b :: ws, P x := fun x q => (List.mem_cons.mp q).elim (fun e => e ▸ h) (t x)
end Jvm.Own
namespace Jvm.Own
open Jvm Jvm.ClassFile Sem Op Lib Jvm.Free Jvm.Stand Jvm.LawKit Jvm.RoadKit
theorem dupX2 {tb : Tables} [Ours tb] {e : Env} {below : List Frame} {T target : State} {m : MethodId} {c : Code} {g : JFrame} (h : At T m c below) (hx : tb.exec = Jvm.exec) (hg : g.method = m) {x y z : Value} {rest : List Value} (hd : decode c.code g.pc = .ok (.dup_x2, 1)) (hs : g.stack = x :: y :: z :: rest) (hc : x.category = 1) (hc2 : y.category = 1) (hc3 : z.category = 1)
    (hr : Steps tb e below (T.setTop { g with pc := g.pc + 1, stack := x :: y :: z :: x :: rest }) target) : Steps tb e below (T.setTop g) target := by
  subst hg
  jvm_step h [h.top, hx, hd, hs, hc, hc2, hc3, dup_x2.wp_sem]
  exact hr
end Jvm.Own
namespace Jvm.Own
open Jvm Jvm.ClassFile Sem Op Lib Jvm.Free Jvm.Stand Jvm.LawKit Jvm.RoadKit
theorem fld_known {Z : State} {h : Heap} {a : Addr} {C n d : String} {v : Value} (F : Fld Z h a C n d v) : ∃ cell : Cell, h[a]? = some cell ∧ cell.vm ≠ .unknown := by
  obtain ⟨cell, _, _, _, _, h1, -, -, h4, -⟩ := F; exact ⟨cell, h1, h4⟩
end Jvm.Own
namespace Jvm.Pilot.@@N@@
open Jvm Jvm.ClassFile Sem Op Lib Jvm.Free Jvm.Stand Jvm.LawKit Jvm.RoadKit Bundle Jvm.Own Jvm.Pilot.@@N@@.Jvm.D
theorem pn_0 : plainName "com/example/understory/understory/Classifier" = true := by first | (simp [plainName, overriddenIn]; done) | decide +kernel
theorem pn_1 : plainName "com/example/understory/understory/ClassifierMostProbablePinLaw" = true := by first | (simp [plainName, overriddenIn]; done) | decide +kernel
theorem pd_0 : parseMethodDescriptor "([D)I" = some ⟨[(.array .double)], some .int⟩ := by decide +kernel
theorem pd_1 : parseMethodDescriptor "([DIIID)Z" = some ⟨[(.array .double), .int, .int, .int, .double], some .boolean⟩ := by decide +kernel
def dv (k : Int32) : UInt64 := FP.ddiv (FP.i2d k) 4620693217682128896
def cv (a b : Int32) : Int32 := if a < b then -1 else if a = b then 0 else 1
theorem cmp_fin : ∀ i j : Fin 8, cmpValue (FP.dcmp (dv (Int32.ofNat i.1)) (dv (Int32.ofNat j.1))) .l = cv (Int32.ofNat i.1) (Int32.ofNat j.1) ∧ cmpValue (FP.dcmp (dv (Int32.ofNat i.1)) (dv (Int32.ofNat j.1))) .g = cv (Int32.ofNat i.1) (Int32.ofNat j.1) := by decide +kernel
theorem nan_fin : ∀ i : Fin 8, Jvm.Free.Fl.NoNaN64 (FP.ddiv (FP.i2d (Int32.ofNat i.1)) 4620693217682128896) := by decide +kernel
theorem as_fin {a : Int32} (h : 0 ≤ a.toInt ∧ a.toInt < 8) : ∃ i : Fin 8, a = Int32.ofNat i.1 := by
  refine ⟨⟨a.toInt.toNat, by omega⟩, Int32.toInt_inj.mp ?_⟩
  show a.toInt = (Int32.ofNat a.toInt.toNat).toInt
  rw [Int32.toInt_ofNat_of_lt (by omega)]; omega
theorem cmp_l {a b : Int32} (ha : 0 ≤ a.toInt ∧ a.toInt < 8) (hb : 0 ≤ b.toInt ∧ b.toInt < 8) : cmpValue (FP.dcmp (dv a) (dv b)) .l = cv a b := by
  obtain ⟨i, rfl⟩ := as_fin ha; obtain ⟨j, rfl⟩ := as_fin hb; exact (cmp_fin i j).1
theorem cmp_g {a b : Int32} (ha : 0 ≤ a.toInt ∧ a.toInt < 8) (hb : 0 ≤ b.toInt ∧ b.toInt < 8) : cmpValue (FP.dcmp (dv a) (dv b)) .g = cv a b := by
  obtain ⟨i, rfl⟩ := as_fin ha; obtain ⟨j, rfl⟩ := as_fin hb; exact (cmp_fin i j).2
theorem dv_nan {a : Int32} (ha : 0 ≤ a.toInt ∧ a.toInt < 8) : Jvm.Free.Fl.NoNaN64 (FP.ddiv (FP.i2d a) 4620693217682128896) := by
  obtain ⟨i, rfl⟩ := as_fin ha; exact nan_fin i
theorem cv_pos {a b : Int32} : (0 : Int32) < cv a b ↔ b.toInt < a.toInt := by
  simp only [cv, Int32.lt_iff_toInt_lt]; split
  · rename_i h; constructor
    · intro q; exact absurd q (by decide)
    · intro q; omega
  · split
    · rename_i h1 h2; subst h2; constructor
      · intro q; exact absurd q (by decide)
      · intro q; omega
    · rename_i h1 h2; constructor
      · intro _; have : a.toInt ≠ b.toInt := fun q => h2 (Int32.toInt_inj.mp q); omega
      · intro _; decide
theorem cv_neg {a b : Int32} : cv a b < (0 : Int32) ↔ a.toInt < b.toInt := by
  simp only [cv, Int32.lt_iff_toInt_lt]; split
  · rename_i h; exact ⟨fun _ => h, fun _ => by decide⟩
  · split
    · rename_i h1 h2; subst h2; constructor
      · intro q; exact absurd q (by decide)
      · intro q; omega
    · rename_i h1 h2; constructor
      · intro q; exact absurd q (by decide)
      · intro q; omega
theorem and7 (x : Int32) : 0 ≤ (x &&& (7 : Int32)).toInt ∧ (x &&& (7 : Int32)).toInt < 8 := by
  have h := c_mask x 7 3 (by decide) (by decide); omega
theorem mod5 (p : Int32) : (p &&& 2147483647) % 5 = 0 ∨ (p &&& 2147483647) % 5 = 1 ∨ (p &&& 2147483647) % 5 = 2 ∨ (p &&& 2147483647) % 5 = 3 ∨ (p &&& 2147483647) % 5 = 4 := by
  have h := mod_range p 5 5 (by decide) (by decide)
  generalize (p &&& 2147483647) % 5 = r at h ⊢
  have q : r.toInt = 0 ∨ r.toInt = 1 ∨ r.toInt = 2 ∨ r.toInt = 3 ∨ r.toInt = 4 := by omega
  rcases q with q | q | q | q | q
  · exact Or.inl (Int32.toInt_inj.mp q)
  · exact Or.inr (Or.inl (Int32.toInt_inj.mp q))
  · exact Or.inr (Or.inr (Or.inl (Int32.toInt_inj.mp q)))
  · exact Or.inr (Or.inr (Or.inr (Or.inl (Int32.toInt_inj.mp q))))
  · exact Or.inr (Or.inr (Or.inr (Or.inr (Int32.toInt_inj.mp q))))
theorem d1_0 : decode prog_1_method_4_code 0 = .ok (.iconst 0, 1) := by decide +kernel
theorem d1_1 : decode prog_1_method_4_code 1 = .ok (.istore_n 1, 1) := by decide +kernel
theorem d1_2 : decode prog_1_method_4_code 2 = .ok (.iconst 1, 1) := by decide +kernel
theorem d1_3 : decode prog_1_method_4_code 3 = .ok (.istore_n 2, 1) := by decide +kernel
theorem d1_4 : decode prog_1_method_4_code 4 = .ok (.iload_n 2, 1) := by decide +kernel
theorem d1_5 : decode prog_1_method_4_code 5 = .ok (.aload_n 0, 1) := by decide +kernel
theorem d1_6 : decode prog_1_method_4_code 6 = .ok (.arraylength, 1) := by decide +kernel
theorem d1_7 : decode prog_1_method_4_code 7 = .ok (.if_icmp .ge 21, 3) := by decide +kernel
theorem d1_10 : decode prog_1_method_4_code 10 = .ok (.aload_n 0, 1) := by decide +kernel
theorem d1_11 : decode prog_1_method_4_code 11 = .ok (.iload_n 2, 1) := by decide +kernel
theorem d1_12 : decode prog_1_method_4_code 12 = .ok (.daload, 1) := by decide +kernel
theorem d1_13 : decode prog_1_method_4_code 13 = .ok (.aload_n 0, 1) := by decide +kernel
theorem d1_14 : decode prog_1_method_4_code 14 = .ok (.iload_n 1, 1) := by decide +kernel
theorem d1_15 : decode prog_1_method_4_code 15 = .ok (.daload, 1) := by decide +kernel
theorem d1_16 : decode prog_1_method_4_code 16 = .ok (.dcmp .l, 1) := by decide +kernel
theorem d1_17 : decode prog_1_method_4_code 17 = .ok (.ifCond .le 5, 3) := by decide +kernel
theorem d1_20 : decode prog_1_method_4_code 20 = .ok (.iload_n 2, 1) := by decide +kernel
theorem d1_21 : decode prog_1_method_4_code 21 = .ok (.istore_n 1, 1) := by decide +kernel
theorem d1_22 : decode prog_1_method_4_code 22 = .ok (.iinc 2 1, 3) := by decide +kernel
theorem d1_25 : decode prog_1_method_4_code 25 = .ok (.goto (-21), 3) := by decide +kernel
theorem d1_28 : decode prog_1_method_4_code 28 = .ok (.iload_n 1, 1) := by decide +kernel
theorem d1_29 : decode prog_1_method_4_code 29 = .ok (.ireturn, 1) := by decide +kernel
set_option maxRecDepth 65536 in
set_option maxHeartbeats 40000000 in
theorem own_mp0 (l : Launch) (Z : State) (a0 : Array Value) (hw : ∀ d ∈ tables_1, d.before a0 Z = true) (n0 : Nat) (h0 : Heap) (a : Addr) (x0 x1 x2 x3 : Int32) (r_x0 : 0 ≤ x0.toInt ∧ x0.toInt < 8) (r_x1 : 0 ≤ x1.toInt ∧ x1.toInt < 8) (r_x2 : 0 ≤ x2.toInt ∧ x2.toInt < 8) (r_x3 : 0 ≤ x3.toInt ∧ x3.toInt < 8) (PA : Fa Z h0 a .double 0 (fun _ => (.double (0 : UInt64)))) :
    Met false l Z n0 (⟨"com/example/understory/understory/Classifier", "mostProbable", "([D)I"⟩ : MethodName) prog_1_method_4_code 3 (some .int) ({ frames := 0, cells := 0, slots := 0, locals := 0 } : Room) #[(.ref a)] h0 (fun v h => ((v = some (.int (0 : Int32)) ∧ True)) ∧ h0 = h) := by
  refine Met.of (plainFor_of_name pn_0) #[.val (.ref a), .unset, .unset] (fun m => by first | (simp [entryFrame, mkF, argsToLocals, Value.category]; done) | rfl) ?_
  intro p e s m below meth c C
  refine Wk.st (g' := (mkF m 1 #[.val (.ref a), .unset, .unset] [(.int (0 : Int32))])) (fun X t q => XS.iconst X.here C.hx rfl (hb C.hby d1_0) q) ?_
  refine Wk.st (g' := (mkF m 2 #[.val (.ref a), .val (.int (0 : Int32)), .unset] [])) (fun X t q => XS.istoreN X.here C.hx rfl (hb C.hby d1_1) rfl (l' := #[.val (.ref a), .val (.int (0 : Int32)), .unset]) rfl q) ?_
  refine Wk.st (g' := (mkF m 3 #[.val (.ref a), .val (.int (0 : Int32)), .unset] [(.int (1 : Int32))])) (fun X t q => XS.iconst X.here C.hx rfl (hb C.hby d1_2) q) ?_
  refine Wk.st (g' := (mkF m 4 #[.val (.ref a), .val (.int (0 : Int32)), .val (.int (1 : Int32))] [])) (fun X t q => XS.istoreN X.here C.hx rfl (hb C.hby d1_3) rfl (l' := #[.val (.ref a), .val (.int (0 : Int32)), .val (.int (1 : Int32))]) rfl q) ?_
  refine Wk.st (g' := (mkF m 5 #[.val (.ref a), .val (.int (0 : Int32)), .val (.int (1 : Int32))] [(.int (1 : Int32))])) (fun X t q => XS.iloadN X.here C.hx rfl (hb C.hby d1_4) rfl q) ?_
  refine Wk.st (g' := (mkF m 6 #[.val (.ref a), .val (.int (0 : Int32)), .val (.int (1 : Int32))] [(.ref a), (.int (1 : Int32))])) (fun X t q => XS.aloadN X.here C.hx rfl (hb C.hby d1_5) rfl rfl q) ?_
  refine Wk.fLen C PA (z := (0 : Int32)) (by decide) d1_6 ?_
  show Wk _ p l e _ s m _ below meth c n0 _ h0 0 0 (mkF m 7 #[.val (.ref a), .val (.int (0 : Int32)), .val (.int (1 : Int32))] [(.int (0 : Int32)), (.int (1 : Int32))])
  refine Wk.st (g' := (mkF m 28 #[.val (.ref a), .val (.int (0 : Int32)), .val (.int (1 : Int32))] [])) (fun X t q => XS.icmpYes X.here C.hx rfl (pc0 := 7) (pc' := 28) rfl (hb C.hby d1_7) rfl (XT.ii_ge_t (by decide)) (by decide) (by decide) q) ?_
  refine Wk.st (g' := (mkF m 29 #[.val (.ref a), .val (.int (0 : Int32)), .val (.int (1 : Int32))] [(.int (0 : Int32))])) (fun X t q => XS.iloadN X.here C.hx rfl (hb C.hby d1_28) rfl q) ?_
  exact Wk.retV C (t := .int) rfl rfl (Or.inl ⟨rfl, by simp, _, rfl⟩) d1_29 (by decide) (by decide) ⟨⟨rfl, trivial⟩, rfl⟩
set_option maxRecDepth 65536 in
set_option maxHeartbeats 40000000 in
theorem own_mp1 (l : Launch) (Z : State) (a0 : Array Value) (hw : ∀ d ∈ tables_1, d.before a0 Z = true) (n0 : Nat) (h0 : Heap) (a : Addr) (x0 x1 x2 x3 : Int32) (r_x0 : 0 ≤ x0.toInt ∧ x0.toInt < 8) (r_x1 : 0 ≤ x1.toInt ∧ x1.toInt < 8) (r_x2 : 0 ≤ x2.toInt ∧ x2.toInt < 8) (r_x3 : 0 ≤ x3.toInt ∧ x3.toInt < 8) (PA : Fa Z h0 a .double 1 (up (fun _ => (.double (0 : UInt64))) 0 (.double (dv x0)))) :
    Met false l Z n0 (⟨"com/example/understory/understory/Classifier", "mostProbable", "([D)I"⟩ : MethodName) prog_1_method_4_code 3 (some .int) ({ frames := 0, cells := 0, slots := 0, locals := 0 } : Room) #[(.ref a)] h0 (fun v h => ((v = some (.int (0 : Int32)) ∧ True)) ∧ h0 = h) := by
  refine Met.of (plainFor_of_name pn_0) #[.val (.ref a), .unset, .unset] (fun m => by first | (simp [entryFrame, mkF, argsToLocals, Value.category]; done) | rfl) ?_
  intro p e s m below meth c C
  refine Wk.st (g' := (mkF m 1 #[.val (.ref a), .unset, .unset] [(.int (0 : Int32))])) (fun X t q => XS.iconst X.here C.hx rfl (hb C.hby d1_0) q) ?_
  refine Wk.st (g' := (mkF m 2 #[.val (.ref a), .val (.int (0 : Int32)), .unset] [])) (fun X t q => XS.istoreN X.here C.hx rfl (hb C.hby d1_1) rfl (l' := #[.val (.ref a), .val (.int (0 : Int32)), .unset]) rfl q) ?_
  refine Wk.st (g' := (mkF m 3 #[.val (.ref a), .val (.int (0 : Int32)), .unset] [(.int (1 : Int32))])) (fun X t q => XS.iconst X.here C.hx rfl (hb C.hby d1_2) q) ?_
  refine Wk.st (g' := (mkF m 4 #[.val (.ref a), .val (.int (0 : Int32)), .val (.int (1 : Int32))] [])) (fun X t q => XS.istoreN X.here C.hx rfl (hb C.hby d1_3) rfl (l' := #[.val (.ref a), .val (.int (0 : Int32)), .val (.int (1 : Int32))]) rfl q) ?_
  refine Wk.st (g' := (mkF m 5 #[.val (.ref a), .val (.int (0 : Int32)), .val (.int (1 : Int32))] [(.int (1 : Int32))])) (fun X t q => XS.iloadN X.here C.hx rfl (hb C.hby d1_4) rfl q) ?_
  refine Wk.st (g' := (mkF m 6 #[.val (.ref a), .val (.int (0 : Int32)), .val (.int (1 : Int32))] [(.ref a), (.int (1 : Int32))])) (fun X t q => XS.aloadN X.here C.hx rfl (hb C.hby d1_5) rfl rfl q) ?_
  refine Wk.fLen C PA (z := (1 : Int32)) (by decide) d1_6 ?_
  show Wk _ p l e _ s m _ below meth c n0 _ h0 0 0 (mkF m 7 #[.val (.ref a), .val (.int (0 : Int32)), .val (.int (1 : Int32))] [(.int (1 : Int32)), (.int (1 : Int32))])
  refine Wk.st (g' := (mkF m 28 #[.val (.ref a), .val (.int (0 : Int32)), .val (.int (1 : Int32))] [])) (fun X t q => XS.icmpYes X.here C.hx rfl (pc0 := 7) (pc' := 28) rfl (hb C.hby d1_7) rfl (XT.ii_ge_t (by decide)) (by decide) (by decide) q) ?_
  refine Wk.st (g' := (mkF m 29 #[.val (.ref a), .val (.int (0 : Int32)), .val (.int (1 : Int32))] [(.int (0 : Int32))])) (fun X t q => XS.iloadN X.here C.hx rfl (hb C.hby d1_28) rfl q) ?_
  exact Wk.retV C (t := .int) rfl rfl (Or.inl ⟨rfl, by simp, _, rfl⟩) d1_29 (by decide) (by decide) ⟨⟨rfl, trivial⟩, rfl⟩
set_option maxRecDepth 65536 in
set_option maxHeartbeats 40000000 in
theorem own_mp2 (l : Launch) (Z : State) (a0 : Array Value) (hw : ∀ d ∈ tables_1, d.before a0 Z = true) (n0 : Nat) (h0 : Heap) (a : Addr) (x0 x1 x2 x3 : Int32) (r_x0 : 0 ≤ x0.toInt ∧ x0.toInt < 8) (r_x1 : 0 ≤ x1.toInt ∧ x1.toInt < 8) (r_x2 : 0 ≤ x2.toInt ∧ x2.toInt < 8) (r_x3 : 0 ≤ x3.toInt ∧ x3.toInt < 8) (PA : Fa Z h0 a .double 2 (up (up (fun _ => (.double (0 : UInt64))) 0 (.double (dv x0))) 1 (.double (dv x1)))) :
    Met false l Z n0 (⟨"com/example/understory/understory/Classifier", "mostProbable", "([D)I"⟩ : MethodName) prog_1_method_4_code 3 (some .int) ({ frames := 0, cells := 0, slots := 0, locals := 0 } : Room) #[(.ref a)] h0 (fun v h => ((v = some (.int (0 : Int32)) ∧ x1.toInt ≤ x0.toInt) ∨ (v = some (.int (1 : Int32)) ∧ x0.toInt < x1.toInt)) ∧ h0 = h) := by
  refine Met.of (plainFor_of_name pn_0) #[.val (.ref a), .unset, .unset] (fun m => by first | (simp [entryFrame, mkF, argsToLocals, Value.category]; done) | rfl) ?_
  intro p e s m below meth c C
  refine Wk.st (g' := (mkF m 1 #[.val (.ref a), .unset, .unset] [(.int (0 : Int32))])) (fun X t q => XS.iconst X.here C.hx rfl (hb C.hby d1_0) q) ?_
  refine Wk.st (g' := (mkF m 2 #[.val (.ref a), .val (.int (0 : Int32)), .unset] [])) (fun X t q => XS.istoreN X.here C.hx rfl (hb C.hby d1_1) rfl (l' := #[.val (.ref a), .val (.int (0 : Int32)), .unset]) rfl q) ?_
  refine Wk.st (g' := (mkF m 3 #[.val (.ref a), .val (.int (0 : Int32)), .unset] [(.int (1 : Int32))])) (fun X t q => XS.iconst X.here C.hx rfl (hb C.hby d1_2) q) ?_
  refine Wk.st (g' := (mkF m 4 #[.val (.ref a), .val (.int (0 : Int32)), .val (.int (1 : Int32))] [])) (fun X t q => XS.istoreN X.here C.hx rfl (hb C.hby d1_3) rfl (l' := #[.val (.ref a), .val (.int (0 : Int32)), .val (.int (1 : Int32))]) rfl q) ?_
  refine Wk.st (g' := (mkF m 5 #[.val (.ref a), .val (.int (0 : Int32)), .val (.int (1 : Int32))] [(.int (1 : Int32))])) (fun X t q => XS.iloadN X.here C.hx rfl (hb C.hby d1_4) rfl q) ?_
  refine Wk.st (g' := (mkF m 6 #[.val (.ref a), .val (.int (0 : Int32)), .val (.int (1 : Int32))] [(.ref a), (.int (1 : Int32))])) (fun X t q => XS.aloadN X.here C.hx rfl (hb C.hby d1_5) rfl rfl q) ?_
  refine Wk.fLen C PA (z := (2 : Int32)) (by decide) d1_6 ?_
  show Wk _ p l e _ s m _ below meth c n0 _ h0 0 0 (mkF m 7 #[.val (.ref a), .val (.int (0 : Int32)), .val (.int (1 : Int32))] [(.int (2 : Int32)), (.int (1 : Int32))])
  refine Wk.st (g' := (mkF m 10 #[.val (.ref a), .val (.int (0 : Int32)), .val (.int (1 : Int32))] [])) (fun X t q => XS.icmpNo X.here C.hx rfl (hb C.hby d1_7) rfl (XT.ii_ge_f (by decide)) q) ?_
  refine Wk.st (g' := (mkF m 11 #[.val (.ref a), .val (.int (0 : Int32)), .val (.int (1 : Int32))] [(.ref a)])) (fun X t q => XS.aloadN X.here C.hx rfl (hb C.hby d1_10) rfl rfl q) ?_
  refine Wk.st (g' := (mkF m 12 #[.val (.ref a), .val (.int (0 : Int32)), .val (.int (1 : Int32))] [(.int (1 : Int32)), (.ref a)])) (fun X t q => XS.iloadN X.here C.hx rfl (hb C.hby d1_11) rfl q) ?_
  refine Wk.fLdD C PA (i := 1) (by decide) (by decide) (by decide) (v := (.double (dv x1))) (by simp [up]) d1_12 ?_
  show Wk _ p l e _ s m _ below meth c n0 _ h0 0 0 (mkF m 13 #[.val (.ref a), .val (.int (0 : Int32)), .val (.int (1 : Int32))] [(.double (dv x1))])
  refine Wk.st (g' := (mkF m 14 #[.val (.ref a), .val (.int (0 : Int32)), .val (.int (1 : Int32))] [(.ref a), (.double (dv x1))])) (fun X t q => XS.aloadN X.here C.hx rfl (hb C.hby d1_13) rfl rfl q) ?_
  refine Wk.st (g' := (mkF m 15 #[.val (.ref a), .val (.int (0 : Int32)), .val (.int (1 : Int32))] [(.int (0 : Int32)), (.ref a), (.double (dv x1))])) (fun X t q => XS.iloadN X.here C.hx rfl (hb C.hby d1_14) rfl q) ?_
  refine Wk.fLdD C PA (i := 0) (by decide) (by decide) (by decide) (v := (.double (dv x0))) (by simp [up]) d1_15 ?_
  show Wk _ p l e _ s m _ below meth c n0 _ h0 0 0 (mkF m 16 #[.val (.ref a), .val (.int (0 : Int32)), .val (.int (1 : Int32))] [(.double (dv x0)), (.double (dv x1))])
  refine Wk.st (g' := (mkF m 17 #[.val (.ref a), .val (.int (0 : Int32)), .val (.int (1 : Int32))] [(.int (cv x1 x0))])) (fun X t q => XS.dcmpS X.here C.hx rfl (hb C.hby d1_16) rfl (cmp_l r_x1 r_x0) q) ?_
  by_cases hb1 : (0 : Int32) < (cv x1 x0)
  · skip
    refine Wk.st (g' := (mkF m 20 #[.val (.ref a), .val (.int (0 : Int32)), .val (.int (1 : Int32))] [])) (fun X t q => XS.ifNo X.here C.hx rfl (hb C.hby d1_17) rfl (XT.i0_le_f hb1) q) ?_
    refine Wk.st (g' := (mkF m 21 #[.val (.ref a), .val (.int (0 : Int32)), .val (.int (1 : Int32))] [(.int (1 : Int32))])) (fun X t q => XS.iloadN X.here C.hx rfl (hb C.hby d1_20) rfl q) ?_
    refine Wk.st (g' := (mkF m 22 #[.val (.ref a), .val (.int (1 : Int32)), .val (.int (1 : Int32))] [])) (fun X t q => XS.istoreN X.here C.hx rfl (hb C.hby d1_21) rfl (l' := #[.val (.ref a), .val (.int (1 : Int32)), .val (.int (1 : Int32))]) rfl q) ?_
    refine Wk.st (g' := (mkF m 25 #[.val (.ref a), .val (.int (1 : Int32)), .val (.int (2 : Int32))] [])) (fun X t q => XS.iinc X.here C.hx rfl (hb C.hby d1_22) rfl (l' := #[.val (.ref a), .val (.int (1 : Int32)), .val (.int (2 : Int32))]) rfl q) ?_
    refine Wk.st (g' := (mkF m 4 #[.val (.ref a), .val (.int (1 : Int32)), .val (.int (2 : Int32))] [])) (fun X t q => XS.goto X.here C.hx rfl (pc0 := 25) (pc' := 4) rfl (hb C.hby d1_25) (by decide) (by decide) q) ?_
    refine Wk.st (g' := (mkF m 5 #[.val (.ref a), .val (.int (1 : Int32)), .val (.int (2 : Int32))] [(.int (2 : Int32))])) (fun X t q => XS.iloadN X.here C.hx rfl (hb C.hby d1_4) rfl q) ?_
    refine Wk.st (g' := (mkF m 6 #[.val (.ref a), .val (.int (1 : Int32)), .val (.int (2 : Int32))] [(.ref a), (.int (2 : Int32))])) (fun X t q => XS.aloadN X.here C.hx rfl (hb C.hby d1_5) rfl rfl q) ?_
    refine Wk.fLen C PA (z := (2 : Int32)) (by decide) d1_6 ?_
    show Wk _ p l e _ s m _ below meth c n0 _ h0 0 0 (mkF m 7 #[.val (.ref a), .val (.int (1 : Int32)), .val (.int (2 : Int32))] [(.int (2 : Int32)), (.int (2 : Int32))])
    refine Wk.st (g' := (mkF m 28 #[.val (.ref a), .val (.int (1 : Int32)), .val (.int (2 : Int32))] [])) (fun X t q => XS.icmpYes X.here C.hx rfl (pc0 := 7) (pc' := 28) rfl (hb C.hby d1_7) rfl (XT.ii_ge_t (by decide)) (by decide) (by decide) q) ?_
    refine Wk.st (g' := (mkF m 29 #[.val (.ref a), .val (.int (1 : Int32)), .val (.int (2 : Int32))] [(.int (1 : Int32))])) (fun X t q => XS.iloadN X.here C.hx rfl (hb C.hby d1_28) rfl q) ?_
    have e0 : x0.toInt < x1.toInt := cv_pos.mp hb1
    exact Wk.retV C (t := .int) rfl rfl (Or.inl ⟨rfl, by simp, _, rfl⟩) d1_29 (by decide) (by decide) ⟨Or.inr (⟨rfl, by omega⟩), rfl⟩
  · skip
    refine Wk.st (g' := (mkF m 22 #[.val (.ref a), .val (.int (0 : Int32)), .val (.int (1 : Int32))] [])) (fun X t q => XS.ifYes X.here C.hx rfl (pc0 := 17) (pc' := 22) rfl (hb C.hby d1_17) rfl (XT.i0_le_t hb1) (by decide) (by decide) q) ?_
    refine Wk.st (g' := (mkF m 25 #[.val (.ref a), .val (.int (0 : Int32)), .val (.int (2 : Int32))] [])) (fun X t q => XS.iinc X.here C.hx rfl (hb C.hby d1_22) rfl (l' := #[.val (.ref a), .val (.int (0 : Int32)), .val (.int (2 : Int32))]) rfl q) ?_
    refine Wk.st (g' := (mkF m 4 #[.val (.ref a), .val (.int (0 : Int32)), .val (.int (2 : Int32))] [])) (fun X t q => XS.goto X.here C.hx rfl (pc0 := 25) (pc' := 4) rfl (hb C.hby d1_25) (by decide) (by decide) q) ?_
    refine Wk.st (g' := (mkF m 5 #[.val (.ref a), .val (.int (0 : Int32)), .val (.int (2 : Int32))] [(.int (2 : Int32))])) (fun X t q => XS.iloadN X.here C.hx rfl (hb C.hby d1_4) rfl q) ?_
    refine Wk.st (g' := (mkF m 6 #[.val (.ref a), .val (.int (0 : Int32)), .val (.int (2 : Int32))] [(.ref a), (.int (2 : Int32))])) (fun X t q => XS.aloadN X.here C.hx rfl (hb C.hby d1_5) rfl rfl q) ?_
    refine Wk.fLen C PA (z := (2 : Int32)) (by decide) d1_6 ?_
    show Wk _ p l e _ s m _ below meth c n0 _ h0 0 0 (mkF m 7 #[.val (.ref a), .val (.int (0 : Int32)), .val (.int (2 : Int32))] [(.int (2 : Int32)), (.int (2 : Int32))])
    refine Wk.st (g' := (mkF m 28 #[.val (.ref a), .val (.int (0 : Int32)), .val (.int (2 : Int32))] [])) (fun X t q => XS.icmpYes X.here C.hx rfl (pc0 := 7) (pc' := 28) rfl (hb C.hby d1_7) rfl (XT.ii_ge_t (by decide)) (by decide) (by decide) q) ?_
    refine Wk.st (g' := (mkF m 29 #[.val (.ref a), .val (.int (0 : Int32)), .val (.int (2 : Int32))] [(.int (0 : Int32))])) (fun X t q => XS.iloadN X.here C.hx rfl (hb C.hby d1_28) rfl q) ?_
    have e0 : ¬ x0.toInt < x1.toInt := fun q => hb1 (cv_pos.mpr q)
    exact Wk.retV C (t := .int) rfl rfl (Or.inl ⟨rfl, by simp, _, rfl⟩) d1_29 (by decide) (by decide) ⟨Or.inl ⟨rfl, by omega⟩, rfl⟩
set_option maxRecDepth 65536 in
set_option maxHeartbeats 40000000 in
theorem own_mp3 (l : Launch) (Z : State) (a0 : Array Value) (hw : ∀ d ∈ tables_1, d.before a0 Z = true) (n0 : Nat) (h0 : Heap) (a : Addr) (x0 x1 x2 x3 : Int32) (r_x0 : 0 ≤ x0.toInt ∧ x0.toInt < 8) (r_x1 : 0 ≤ x1.toInt ∧ x1.toInt < 8) (r_x2 : 0 ≤ x2.toInt ∧ x2.toInt < 8) (r_x3 : 0 ≤ x3.toInt ∧ x3.toInt < 8) (PA : Fa Z h0 a .double 3 (up (up (up (fun _ => (.double (0 : UInt64))) 0 (.double (dv x0))) 1 (.double (dv x1))) 2 (.double (dv x2)))) :
    Met false l Z n0 (⟨"com/example/understory/understory/Classifier", "mostProbable", "([D)I"⟩ : MethodName) prog_1_method_4_code 3 (some .int) ({ frames := 0, cells := 0, slots := 0, locals := 0 } : Room) #[(.ref a)] h0 (fun v h => ((v = some (.int (0 : Int32)) ∧ x1.toInt ≤ x0.toInt ∧ x2.toInt ≤ x0.toInt) ∨ (v = some (.int (1 : Int32)) ∧ x0.toInt < x1.toInt ∧ x2.toInt ≤ x1.toInt) ∨ (v = some (.int (2 : Int32)) ∧ x0.toInt < x2.toInt ∧ x1.toInt < x2.toInt)) ∧ h0 = h) := by
  refine Met.of (plainFor_of_name pn_0) #[.val (.ref a), .unset, .unset] (fun m => by first | (simp [entryFrame, mkF, argsToLocals, Value.category]; done) | rfl) ?_
  intro p e s m below meth c C
  refine Wk.st (g' := (mkF m 1 #[.val (.ref a), .unset, .unset] [(.int (0 : Int32))])) (fun X t q => XS.iconst X.here C.hx rfl (hb C.hby d1_0) q) ?_
  refine Wk.st (g' := (mkF m 2 #[.val (.ref a), .val (.int (0 : Int32)), .unset] [])) (fun X t q => XS.istoreN X.here C.hx rfl (hb C.hby d1_1) rfl (l' := #[.val (.ref a), .val (.int (0 : Int32)), .unset]) rfl q) ?_
  refine Wk.st (g' := (mkF m 3 #[.val (.ref a), .val (.int (0 : Int32)), .unset] [(.int (1 : Int32))])) (fun X t q => XS.iconst X.here C.hx rfl (hb C.hby d1_2) q) ?_
  refine Wk.st (g' := (mkF m 4 #[.val (.ref a), .val (.int (0 : Int32)), .val (.int (1 : Int32))] [])) (fun X t q => XS.istoreN X.here C.hx rfl (hb C.hby d1_3) rfl (l' := #[.val (.ref a), .val (.int (0 : Int32)), .val (.int (1 : Int32))]) rfl q) ?_
  refine Wk.st (g' := (mkF m 5 #[.val (.ref a), .val (.int (0 : Int32)), .val (.int (1 : Int32))] [(.int (1 : Int32))])) (fun X t q => XS.iloadN X.here C.hx rfl (hb C.hby d1_4) rfl q) ?_
  refine Wk.st (g' := (mkF m 6 #[.val (.ref a), .val (.int (0 : Int32)), .val (.int (1 : Int32))] [(.ref a), (.int (1 : Int32))])) (fun X t q => XS.aloadN X.here C.hx rfl (hb C.hby d1_5) rfl rfl q) ?_
  refine Wk.fLen C PA (z := (3 : Int32)) (by decide) d1_6 ?_
  show Wk _ p l e _ s m _ below meth c n0 _ h0 0 0 (mkF m 7 #[.val (.ref a), .val (.int (0 : Int32)), .val (.int (1 : Int32))] [(.int (3 : Int32)), (.int (1 : Int32))])
  refine Wk.st (g' := (mkF m 10 #[.val (.ref a), .val (.int (0 : Int32)), .val (.int (1 : Int32))] [])) (fun X t q => XS.icmpNo X.here C.hx rfl (hb C.hby d1_7) rfl (XT.ii_ge_f (by decide)) q) ?_
  refine Wk.st (g' := (mkF m 11 #[.val (.ref a), .val (.int (0 : Int32)), .val (.int (1 : Int32))] [(.ref a)])) (fun X t q => XS.aloadN X.here C.hx rfl (hb C.hby d1_10) rfl rfl q) ?_
  refine Wk.st (g' := (mkF m 12 #[.val (.ref a), .val (.int (0 : Int32)), .val (.int (1 : Int32))] [(.int (1 : Int32)), (.ref a)])) (fun X t q => XS.iloadN X.here C.hx rfl (hb C.hby d1_11) rfl q) ?_
  refine Wk.fLdD C PA (i := 1) (by decide) (by decide) (by decide) (v := (.double (dv x1))) (by simp [up]) d1_12 ?_
  show Wk _ p l e _ s m _ below meth c n0 _ h0 0 0 (mkF m 13 #[.val (.ref a), .val (.int (0 : Int32)), .val (.int (1 : Int32))] [(.double (dv x1))])
  refine Wk.st (g' := (mkF m 14 #[.val (.ref a), .val (.int (0 : Int32)), .val (.int (1 : Int32))] [(.ref a), (.double (dv x1))])) (fun X t q => XS.aloadN X.here C.hx rfl (hb C.hby d1_13) rfl rfl q) ?_
  refine Wk.st (g' := (mkF m 15 #[.val (.ref a), .val (.int (0 : Int32)), .val (.int (1 : Int32))] [(.int (0 : Int32)), (.ref a), (.double (dv x1))])) (fun X t q => XS.iloadN X.here C.hx rfl (hb C.hby d1_14) rfl q) ?_
  refine Wk.fLdD C PA (i := 0) (by decide) (by decide) (by decide) (v := (.double (dv x0))) (by simp [up]) d1_15 ?_
  show Wk _ p l e _ s m _ below meth c n0 _ h0 0 0 (mkF m 16 #[.val (.ref a), .val (.int (0 : Int32)), .val (.int (1 : Int32))] [(.double (dv x0)), (.double (dv x1))])
  refine Wk.st (g' := (mkF m 17 #[.val (.ref a), .val (.int (0 : Int32)), .val (.int (1 : Int32))] [(.int (cv x1 x0))])) (fun X t q => XS.dcmpS X.here C.hx rfl (hb C.hby d1_16) rfl (cmp_l r_x1 r_x0) q) ?_
  by_cases hb1 : (0 : Int32) < (cv x1 x0)
  · skip
    refine Wk.st (g' := (mkF m 20 #[.val (.ref a), .val (.int (0 : Int32)), .val (.int (1 : Int32))] [])) (fun X t q => XS.ifNo X.here C.hx rfl (hb C.hby d1_17) rfl (XT.i0_le_f hb1) q) ?_
    refine Wk.st (g' := (mkF m 21 #[.val (.ref a), .val (.int (0 : Int32)), .val (.int (1 : Int32))] [(.int (1 : Int32))])) (fun X t q => XS.iloadN X.here C.hx rfl (hb C.hby d1_20) rfl q) ?_
    refine Wk.st (g' := (mkF m 22 #[.val (.ref a), .val (.int (1 : Int32)), .val (.int (1 : Int32))] [])) (fun X t q => XS.istoreN X.here C.hx rfl (hb C.hby d1_21) rfl (l' := #[.val (.ref a), .val (.int (1 : Int32)), .val (.int (1 : Int32))]) rfl q) ?_
    refine Wk.st (g' := (mkF m 25 #[.val (.ref a), .val (.int (1 : Int32)), .val (.int (2 : Int32))] [])) (fun X t q => XS.iinc X.here C.hx rfl (hb C.hby d1_22) rfl (l' := #[.val (.ref a), .val (.int (1 : Int32)), .val (.int (2 : Int32))]) rfl q) ?_
    refine Wk.st (g' := (mkF m 4 #[.val (.ref a), .val (.int (1 : Int32)), .val (.int (2 : Int32))] [])) (fun X t q => XS.goto X.here C.hx rfl (pc0 := 25) (pc' := 4) rfl (hb C.hby d1_25) (by decide) (by decide) q) ?_
    refine Wk.st (g' := (mkF m 5 #[.val (.ref a), .val (.int (1 : Int32)), .val (.int (2 : Int32))] [(.int (2 : Int32))])) (fun X t q => XS.iloadN X.here C.hx rfl (hb C.hby d1_4) rfl q) ?_
    refine Wk.st (g' := (mkF m 6 #[.val (.ref a), .val (.int (1 : Int32)), .val (.int (2 : Int32))] [(.ref a), (.int (2 : Int32))])) (fun X t q => XS.aloadN X.here C.hx rfl (hb C.hby d1_5) rfl rfl q) ?_
    refine Wk.fLen C PA (z := (3 : Int32)) (by decide) d1_6 ?_
    show Wk _ p l e _ s m _ below meth c n0 _ h0 0 0 (mkF m 7 #[.val (.ref a), .val (.int (1 : Int32)), .val (.int (2 : Int32))] [(.int (3 : Int32)), (.int (2 : Int32))])
    refine Wk.st (g' := (mkF m 10 #[.val (.ref a), .val (.int (1 : Int32)), .val (.int (2 : Int32))] [])) (fun X t q => XS.icmpNo X.here C.hx rfl (hb C.hby d1_7) rfl (XT.ii_ge_f (by decide)) q) ?_
    refine Wk.st (g' := (mkF m 11 #[.val (.ref a), .val (.int (1 : Int32)), .val (.int (2 : Int32))] [(.ref a)])) (fun X t q => XS.aloadN X.here C.hx rfl (hb C.hby d1_10) rfl rfl q) ?_
    refine Wk.st (g' := (mkF m 12 #[.val (.ref a), .val (.int (1 : Int32)), .val (.int (2 : Int32))] [(.int (2 : Int32)), (.ref a)])) (fun X t q => XS.iloadN X.here C.hx rfl (hb C.hby d1_11) rfl q) ?_
    refine Wk.fLdD C PA (i := 2) (by decide) (by decide) (by decide) (v := (.double (dv x2))) (by simp [up]) d1_12 ?_
    show Wk _ p l e _ s m _ below meth c n0 _ h0 0 0 (mkF m 13 #[.val (.ref a), .val (.int (1 : Int32)), .val (.int (2 : Int32))] [(.double (dv x2))])
    refine Wk.st (g' := (mkF m 14 #[.val (.ref a), .val (.int (1 : Int32)), .val (.int (2 : Int32))] [(.ref a), (.double (dv x2))])) (fun X t q => XS.aloadN X.here C.hx rfl (hb C.hby d1_13) rfl rfl q) ?_
    refine Wk.st (g' := (mkF m 15 #[.val (.ref a), .val (.int (1 : Int32)), .val (.int (2 : Int32))] [(.int (1 : Int32)), (.ref a), (.double (dv x2))])) (fun X t q => XS.iloadN X.here C.hx rfl (hb C.hby d1_14) rfl q) ?_
    refine Wk.fLdD C PA (i := 1) (by decide) (by decide) (by decide) (v := (.double (dv x1))) (by simp [up]) d1_15 ?_
    show Wk _ p l e _ s m _ below meth c n0 _ h0 0 0 (mkF m 16 #[.val (.ref a), .val (.int (1 : Int32)), .val (.int (2 : Int32))] [(.double (dv x1)), (.double (dv x2))])
    refine Wk.st (g' := (mkF m 17 #[.val (.ref a), .val (.int (1 : Int32)), .val (.int (2 : Int32))] [(.int (cv x2 x1))])) (fun X t q => XS.dcmpS X.here C.hx rfl (hb C.hby d1_16) rfl (cmp_l r_x2 r_x1) q) ?_
    by_cases hb2 : (0 : Int32) < (cv x2 x1)
    · skip
      refine Wk.st (g' := (mkF m 20 #[.val (.ref a), .val (.int (1 : Int32)), .val (.int (2 : Int32))] [])) (fun X t q => XS.ifNo X.here C.hx rfl (hb C.hby d1_17) rfl (XT.i0_le_f hb2) q) ?_
      refine Wk.st (g' := (mkF m 21 #[.val (.ref a), .val (.int (1 : Int32)), .val (.int (2 : Int32))] [(.int (2 : Int32))])) (fun X t q => XS.iloadN X.here C.hx rfl (hb C.hby d1_20) rfl q) ?_
      refine Wk.st (g' := (mkF m 22 #[.val (.ref a), .val (.int (2 : Int32)), .val (.int (2 : Int32))] [])) (fun X t q => XS.istoreN X.here C.hx rfl (hb C.hby d1_21) rfl (l' := #[.val (.ref a), .val (.int (2 : Int32)), .val (.int (2 : Int32))]) rfl q) ?_
      refine Wk.st (g' := (mkF m 25 #[.val (.ref a), .val (.int (2 : Int32)), .val (.int (3 : Int32))] [])) (fun X t q => XS.iinc X.here C.hx rfl (hb C.hby d1_22) rfl (l' := #[.val (.ref a), .val (.int (2 : Int32)), .val (.int (3 : Int32))]) rfl q) ?_
      refine Wk.st (g' := (mkF m 4 #[.val (.ref a), .val (.int (2 : Int32)), .val (.int (3 : Int32))] [])) (fun X t q => XS.goto X.here C.hx rfl (pc0 := 25) (pc' := 4) rfl (hb C.hby d1_25) (by decide) (by decide) q) ?_
      refine Wk.st (g' := (mkF m 5 #[.val (.ref a), .val (.int (2 : Int32)), .val (.int (3 : Int32))] [(.int (3 : Int32))])) (fun X t q => XS.iloadN X.here C.hx rfl (hb C.hby d1_4) rfl q) ?_
      refine Wk.st (g' := (mkF m 6 #[.val (.ref a), .val (.int (2 : Int32)), .val (.int (3 : Int32))] [(.ref a), (.int (3 : Int32))])) (fun X t q => XS.aloadN X.here C.hx rfl (hb C.hby d1_5) rfl rfl q) ?_
      refine Wk.fLen C PA (z := (3 : Int32)) (by decide) d1_6 ?_
      show Wk _ p l e _ s m _ below meth c n0 _ h0 0 0 (mkF m 7 #[.val (.ref a), .val (.int (2 : Int32)), .val (.int (3 : Int32))] [(.int (3 : Int32)), (.int (3 : Int32))])
      refine Wk.st (g' := (mkF m 28 #[.val (.ref a), .val (.int (2 : Int32)), .val (.int (3 : Int32))] [])) (fun X t q => XS.icmpYes X.here C.hx rfl (pc0 := 7) (pc' := 28) rfl (hb C.hby d1_7) rfl (XT.ii_ge_t (by decide)) (by decide) (by decide) q) ?_
      refine Wk.st (g' := (mkF m 29 #[.val (.ref a), .val (.int (2 : Int32)), .val (.int (3 : Int32))] [(.int (2 : Int32))])) (fun X t q => XS.iloadN X.here C.hx rfl (hb C.hby d1_28) rfl q) ?_
      have e0 : x0.toInt < x1.toInt := cv_pos.mp hb1
      have e1 : x1.toInt < x2.toInt := cv_pos.mp hb2
      exact Wk.retV C (t := .int) rfl rfl (Or.inl ⟨rfl, by simp, _, rfl⟩) d1_29 (by decide) (by decide) ⟨Or.inr (Or.inr (⟨rfl, by omega, by omega⟩)), rfl⟩
    · skip
      refine Wk.st (g' := (mkF m 22 #[.val (.ref a), .val (.int (1 : Int32)), .val (.int (2 : Int32))] [])) (fun X t q => XS.ifYes X.here C.hx rfl (pc0 := 17) (pc' := 22) rfl (hb C.hby d1_17) rfl (XT.i0_le_t hb2) (by decide) (by decide) q) ?_
      refine Wk.st (g' := (mkF m 25 #[.val (.ref a), .val (.int (1 : Int32)), .val (.int (3 : Int32))] [])) (fun X t q => XS.iinc X.here C.hx rfl (hb C.hby d1_22) rfl (l' := #[.val (.ref a), .val (.int (1 : Int32)), .val (.int (3 : Int32))]) rfl q) ?_
      refine Wk.st (g' := (mkF m 4 #[.val (.ref a), .val (.int (1 : Int32)), .val (.int (3 : Int32))] [])) (fun X t q => XS.goto X.here C.hx rfl (pc0 := 25) (pc' := 4) rfl (hb C.hby d1_25) (by decide) (by decide) q) ?_
      refine Wk.st (g' := (mkF m 5 #[.val (.ref a), .val (.int (1 : Int32)), .val (.int (3 : Int32))] [(.int (3 : Int32))])) (fun X t q => XS.iloadN X.here C.hx rfl (hb C.hby d1_4) rfl q) ?_
      refine Wk.st (g' := (mkF m 6 #[.val (.ref a), .val (.int (1 : Int32)), .val (.int (3 : Int32))] [(.ref a), (.int (3 : Int32))])) (fun X t q => XS.aloadN X.here C.hx rfl (hb C.hby d1_5) rfl rfl q) ?_
      refine Wk.fLen C PA (z := (3 : Int32)) (by decide) d1_6 ?_
      show Wk _ p l e _ s m _ below meth c n0 _ h0 0 0 (mkF m 7 #[.val (.ref a), .val (.int (1 : Int32)), .val (.int (3 : Int32))] [(.int (3 : Int32)), (.int (3 : Int32))])
      refine Wk.st (g' := (mkF m 28 #[.val (.ref a), .val (.int (1 : Int32)), .val (.int (3 : Int32))] [])) (fun X t q => XS.icmpYes X.here C.hx rfl (pc0 := 7) (pc' := 28) rfl (hb C.hby d1_7) rfl (XT.ii_ge_t (by decide)) (by decide) (by decide) q) ?_
      refine Wk.st (g' := (mkF m 29 #[.val (.ref a), .val (.int (1 : Int32)), .val (.int (3 : Int32))] [(.int (1 : Int32))])) (fun X t q => XS.iloadN X.here C.hx rfl (hb C.hby d1_28) rfl q) ?_
      have e0 : x0.toInt < x1.toInt := cv_pos.mp hb1
      have e1 : ¬ x1.toInt < x2.toInt := fun q => hb2 (cv_pos.mpr q)
      exact Wk.retV C (t := .int) rfl rfl (Or.inl ⟨rfl, by simp, _, rfl⟩) d1_29 (by decide) (by decide) ⟨Or.inr (Or.inl ⟨rfl, by omega, by omega⟩), rfl⟩
  · skip
    refine Wk.st (g' := (mkF m 22 #[.val (.ref a), .val (.int (0 : Int32)), .val (.int (1 : Int32))] [])) (fun X t q => XS.ifYes X.here C.hx rfl (pc0 := 17) (pc' := 22) rfl (hb C.hby d1_17) rfl (XT.i0_le_t hb1) (by decide) (by decide) q) ?_
    refine Wk.st (g' := (mkF m 25 #[.val (.ref a), .val (.int (0 : Int32)), .val (.int (2 : Int32))] [])) (fun X t q => XS.iinc X.here C.hx rfl (hb C.hby d1_22) rfl (l' := #[.val (.ref a), .val (.int (0 : Int32)), .val (.int (2 : Int32))]) rfl q) ?_
    refine Wk.st (g' := (mkF m 4 #[.val (.ref a), .val (.int (0 : Int32)), .val (.int (2 : Int32))] [])) (fun X t q => XS.goto X.here C.hx rfl (pc0 := 25) (pc' := 4) rfl (hb C.hby d1_25) (by decide) (by decide) q) ?_
    refine Wk.st (g' := (mkF m 5 #[.val (.ref a), .val (.int (0 : Int32)), .val (.int (2 : Int32))] [(.int (2 : Int32))])) (fun X t q => XS.iloadN X.here C.hx rfl (hb C.hby d1_4) rfl q) ?_
    refine Wk.st (g' := (mkF m 6 #[.val (.ref a), .val (.int (0 : Int32)), .val (.int (2 : Int32))] [(.ref a), (.int (2 : Int32))])) (fun X t q => XS.aloadN X.here C.hx rfl (hb C.hby d1_5) rfl rfl q) ?_
    refine Wk.fLen C PA (z := (3 : Int32)) (by decide) d1_6 ?_
    show Wk _ p l e _ s m _ below meth c n0 _ h0 0 0 (mkF m 7 #[.val (.ref a), .val (.int (0 : Int32)), .val (.int (2 : Int32))] [(.int (3 : Int32)), (.int (2 : Int32))])
    refine Wk.st (g' := (mkF m 10 #[.val (.ref a), .val (.int (0 : Int32)), .val (.int (2 : Int32))] [])) (fun X t q => XS.icmpNo X.here C.hx rfl (hb C.hby d1_7) rfl (XT.ii_ge_f (by decide)) q) ?_
    refine Wk.st (g' := (mkF m 11 #[.val (.ref a), .val (.int (0 : Int32)), .val (.int (2 : Int32))] [(.ref a)])) (fun X t q => XS.aloadN X.here C.hx rfl (hb C.hby d1_10) rfl rfl q) ?_
    refine Wk.st (g' := (mkF m 12 #[.val (.ref a), .val (.int (0 : Int32)), .val (.int (2 : Int32))] [(.int (2 : Int32)), (.ref a)])) (fun X t q => XS.iloadN X.here C.hx rfl (hb C.hby d1_11) rfl q) ?_
    refine Wk.fLdD C PA (i := 2) (by decide) (by decide) (by decide) (v := (.double (dv x2))) (by simp [up]) d1_12 ?_
    show Wk _ p l e _ s m _ below meth c n0 _ h0 0 0 (mkF m 13 #[.val (.ref a), .val (.int (0 : Int32)), .val (.int (2 : Int32))] [(.double (dv x2))])
    refine Wk.st (g' := (mkF m 14 #[.val (.ref a), .val (.int (0 : Int32)), .val (.int (2 : Int32))] [(.ref a), (.double (dv x2))])) (fun X t q => XS.aloadN X.here C.hx rfl (hb C.hby d1_13) rfl rfl q) ?_
    refine Wk.st (g' := (mkF m 15 #[.val (.ref a), .val (.int (0 : Int32)), .val (.int (2 : Int32))] [(.int (0 : Int32)), (.ref a), (.double (dv x2))])) (fun X t q => XS.iloadN X.here C.hx rfl (hb C.hby d1_14) rfl q) ?_
    refine Wk.fLdD C PA (i := 0) (by decide) (by decide) (by decide) (v := (.double (dv x0))) (by simp [up]) d1_15 ?_
    show Wk _ p l e _ s m _ below meth c n0 _ h0 0 0 (mkF m 16 #[.val (.ref a), .val (.int (0 : Int32)), .val (.int (2 : Int32))] [(.double (dv x0)), (.double (dv x2))])
    refine Wk.st (g' := (mkF m 17 #[.val (.ref a), .val (.int (0 : Int32)), .val (.int (2 : Int32))] [(.int (cv x2 x0))])) (fun X t q => XS.dcmpS X.here C.hx rfl (hb C.hby d1_16) rfl (cmp_l r_x2 r_x0) q) ?_
    by_cases hb3 : (0 : Int32) < (cv x2 x0)
    · skip
      refine Wk.st (g' := (mkF m 20 #[.val (.ref a), .val (.int (0 : Int32)), .val (.int (2 : Int32))] [])) (fun X t q => XS.ifNo X.here C.hx rfl (hb C.hby d1_17) rfl (XT.i0_le_f hb3) q) ?_
      refine Wk.st (g' := (mkF m 21 #[.val (.ref a), .val (.int (0 : Int32)), .val (.int (2 : Int32))] [(.int (2 : Int32))])) (fun X t q => XS.iloadN X.here C.hx rfl (hb C.hby d1_20) rfl q) ?_
      refine Wk.st (g' := (mkF m 22 #[.val (.ref a), .val (.int (2 : Int32)), .val (.int (2 : Int32))] [])) (fun X t q => XS.istoreN X.here C.hx rfl (hb C.hby d1_21) rfl (l' := #[.val (.ref a), .val (.int (2 : Int32)), .val (.int (2 : Int32))]) rfl q) ?_
      refine Wk.st (g' := (mkF m 25 #[.val (.ref a), .val (.int (2 : Int32)), .val (.int (3 : Int32))] [])) (fun X t q => XS.iinc X.here C.hx rfl (hb C.hby d1_22) rfl (l' := #[.val (.ref a), .val (.int (2 : Int32)), .val (.int (3 : Int32))]) rfl q) ?_
      refine Wk.st (g' := (mkF m 4 #[.val (.ref a), .val (.int (2 : Int32)), .val (.int (3 : Int32))] [])) (fun X t q => XS.goto X.here C.hx rfl (pc0 := 25) (pc' := 4) rfl (hb C.hby d1_25) (by decide) (by decide) q) ?_
      refine Wk.st (g' := (mkF m 5 #[.val (.ref a), .val (.int (2 : Int32)), .val (.int (3 : Int32))] [(.int (3 : Int32))])) (fun X t q => XS.iloadN X.here C.hx rfl (hb C.hby d1_4) rfl q) ?_
      refine Wk.st (g' := (mkF m 6 #[.val (.ref a), .val (.int (2 : Int32)), .val (.int (3 : Int32))] [(.ref a), (.int (3 : Int32))])) (fun X t q => XS.aloadN X.here C.hx rfl (hb C.hby d1_5) rfl rfl q) ?_
      refine Wk.fLen C PA (z := (3 : Int32)) (by decide) d1_6 ?_
      show Wk _ p l e _ s m _ below meth c n0 _ h0 0 0 (mkF m 7 #[.val (.ref a), .val (.int (2 : Int32)), .val (.int (3 : Int32))] [(.int (3 : Int32)), (.int (3 : Int32))])
      refine Wk.st (g' := (mkF m 28 #[.val (.ref a), .val (.int (2 : Int32)), .val (.int (3 : Int32))] [])) (fun X t q => XS.icmpYes X.here C.hx rfl (pc0 := 7) (pc' := 28) rfl (hb C.hby d1_7) rfl (XT.ii_ge_t (by decide)) (by decide) (by decide) q) ?_
      refine Wk.st (g' := (mkF m 29 #[.val (.ref a), .val (.int (2 : Int32)), .val (.int (3 : Int32))] [(.int (2 : Int32))])) (fun X t q => XS.iloadN X.here C.hx rfl (hb C.hby d1_28) rfl q) ?_
      have e0 : ¬ x0.toInt < x1.toInt := fun q => hb1 (cv_pos.mpr q)
      have e1 : x0.toInt < x2.toInt := cv_pos.mp hb3
      exact Wk.retV C (t := .int) rfl rfl (Or.inl ⟨rfl, by simp, _, rfl⟩) d1_29 (by decide) (by decide) ⟨Or.inr (Or.inr (⟨rfl, by omega, by omega⟩)), rfl⟩
    · skip
      refine Wk.st (g' := (mkF m 22 #[.val (.ref a), .val (.int (0 : Int32)), .val (.int (2 : Int32))] [])) (fun X t q => XS.ifYes X.here C.hx rfl (pc0 := 17) (pc' := 22) rfl (hb C.hby d1_17) rfl (XT.i0_le_t hb3) (by decide) (by decide) q) ?_
      refine Wk.st (g' := (mkF m 25 #[.val (.ref a), .val (.int (0 : Int32)), .val (.int (3 : Int32))] [])) (fun X t q => XS.iinc X.here C.hx rfl (hb C.hby d1_22) rfl (l' := #[.val (.ref a), .val (.int (0 : Int32)), .val (.int (3 : Int32))]) rfl q) ?_
      refine Wk.st (g' := (mkF m 4 #[.val (.ref a), .val (.int (0 : Int32)), .val (.int (3 : Int32))] [])) (fun X t q => XS.goto X.here C.hx rfl (pc0 := 25) (pc' := 4) rfl (hb C.hby d1_25) (by decide) (by decide) q) ?_
      refine Wk.st (g' := (mkF m 5 #[.val (.ref a), .val (.int (0 : Int32)), .val (.int (3 : Int32))] [(.int (3 : Int32))])) (fun X t q => XS.iloadN X.here C.hx rfl (hb C.hby d1_4) rfl q) ?_
      refine Wk.st (g' := (mkF m 6 #[.val (.ref a), .val (.int (0 : Int32)), .val (.int (3 : Int32))] [(.ref a), (.int (3 : Int32))])) (fun X t q => XS.aloadN X.here C.hx rfl (hb C.hby d1_5) rfl rfl q) ?_
      refine Wk.fLen C PA (z := (3 : Int32)) (by decide) d1_6 ?_
      show Wk _ p l e _ s m _ below meth c n0 _ h0 0 0 (mkF m 7 #[.val (.ref a), .val (.int (0 : Int32)), .val (.int (3 : Int32))] [(.int (3 : Int32)), (.int (3 : Int32))])
      refine Wk.st (g' := (mkF m 28 #[.val (.ref a), .val (.int (0 : Int32)), .val (.int (3 : Int32))] [])) (fun X t q => XS.icmpYes X.here C.hx rfl (pc0 := 7) (pc' := 28) rfl (hb C.hby d1_7) rfl (XT.ii_ge_t (by decide)) (by decide) (by decide) q) ?_
      refine Wk.st (g' := (mkF m 29 #[.val (.ref a), .val (.int (0 : Int32)), .val (.int (3 : Int32))] [(.int (0 : Int32))])) (fun X t q => XS.iloadN X.here C.hx rfl (hb C.hby d1_28) rfl q) ?_
      have e0 : ¬ x0.toInt < x1.toInt := fun q => hb1 (cv_pos.mpr q)
      have e1 : ¬ x0.toInt < x2.toInt := fun q => hb3 (cv_pos.mpr q)
      exact Wk.retV C (t := .int) rfl rfl (Or.inl ⟨rfl, by simp, _, rfl⟩) d1_29 (by decide) (by decide) ⟨Or.inl ⟨rfl, by omega, by omega⟩, rfl⟩
set_option maxRecDepth 65536 in
set_option maxHeartbeats 40000000 in
theorem own_mp4 (l : Launch) (Z : State) (a0 : Array Value) (hw : ∀ d ∈ tables_1, d.before a0 Z = true) (n0 : Nat) (h0 : Heap) (a : Addr) (x0 x1 x2 x3 : Int32) (r_x0 : 0 ≤ x0.toInt ∧ x0.toInt < 8) (r_x1 : 0 ≤ x1.toInt ∧ x1.toInt < 8) (r_x2 : 0 ≤ x2.toInt ∧ x2.toInt < 8) (r_x3 : 0 ≤ x3.toInt ∧ x3.toInt < 8) (PA : Fa Z h0 a .double 4 (up (up (up (up (fun _ => (.double (0 : UInt64))) 0 (.double (dv x0))) 1 (.double (dv x1))) 2 (.double (dv x2))) 3 (.double (dv x3)))) :
    Met false l Z n0 (⟨"com/example/understory/understory/Classifier", "mostProbable", "([D)I"⟩ : MethodName) prog_1_method_4_code 3 (some .int) ({ frames := 0, cells := 0, slots := 0, locals := 0 } : Room) #[(.ref a)] h0 (fun v h => ((v = some (.int (0 : Int32)) ∧ x1.toInt ≤ x0.toInt ∧ x2.toInt ≤ x0.toInt ∧ x3.toInt ≤ x0.toInt) ∨ (v = some (.int (1 : Int32)) ∧ x0.toInt < x1.toInt ∧ x2.toInt ≤ x1.toInt ∧ x3.toInt ≤ x1.toInt) ∨ (v = some (.int (2 : Int32)) ∧ x0.toInt < x2.toInt ∧ x1.toInt < x2.toInt ∧ x3.toInt ≤ x2.toInt) ∨ (v = some (.int (3 : Int32)) ∧ x0.toInt < x3.toInt ∧ x1.toInt < x3.toInt ∧ x2.toInt < x3.toInt)) ∧ h0 = h) := by
  refine Met.of (plainFor_of_name pn_0) #[.val (.ref a), .unset, .unset] (fun m => by first | (simp [entryFrame, mkF, argsToLocals, Value.category]; done) | rfl) ?_
  intro p e s m below meth c C
  refine Wk.st (g' := (mkF m 1 #[.val (.ref a), .unset, .unset] [(.int (0 : Int32))])) (fun X t q => XS.iconst X.here C.hx rfl (hb C.hby d1_0) q) ?_
  refine Wk.st (g' := (mkF m 2 #[.val (.ref a), .val (.int (0 : Int32)), .unset] [])) (fun X t q => XS.istoreN X.here C.hx rfl (hb C.hby d1_1) rfl (l' := #[.val (.ref a), .val (.int (0 : Int32)), .unset]) rfl q) ?_
  refine Wk.st (g' := (mkF m 3 #[.val (.ref a), .val (.int (0 : Int32)), .unset] [(.int (1 : Int32))])) (fun X t q => XS.iconst X.here C.hx rfl (hb C.hby d1_2) q) ?_
  refine Wk.st (g' := (mkF m 4 #[.val (.ref a), .val (.int (0 : Int32)), .val (.int (1 : Int32))] [])) (fun X t q => XS.istoreN X.here C.hx rfl (hb C.hby d1_3) rfl (l' := #[.val (.ref a), .val (.int (0 : Int32)), .val (.int (1 : Int32))]) rfl q) ?_
  refine Wk.st (g' := (mkF m 5 #[.val (.ref a), .val (.int (0 : Int32)), .val (.int (1 : Int32))] [(.int (1 : Int32))])) (fun X t q => XS.iloadN X.here C.hx rfl (hb C.hby d1_4) rfl q) ?_
  refine Wk.st (g' := (mkF m 6 #[.val (.ref a), .val (.int (0 : Int32)), .val (.int (1 : Int32))] [(.ref a), (.int (1 : Int32))])) (fun X t q => XS.aloadN X.here C.hx rfl (hb C.hby d1_5) rfl rfl q) ?_
  refine Wk.fLen C PA (z := (4 : Int32)) (by decide) d1_6 ?_
  show Wk _ p l e _ s m _ below meth c n0 _ h0 0 0 (mkF m 7 #[.val (.ref a), .val (.int (0 : Int32)), .val (.int (1 : Int32))] [(.int (4 : Int32)), (.int (1 : Int32))])
  refine Wk.st (g' := (mkF m 10 #[.val (.ref a), .val (.int (0 : Int32)), .val (.int (1 : Int32))] [])) (fun X t q => XS.icmpNo X.here C.hx rfl (hb C.hby d1_7) rfl (XT.ii_ge_f (by decide)) q) ?_
  refine Wk.st (g' := (mkF m 11 #[.val (.ref a), .val (.int (0 : Int32)), .val (.int (1 : Int32))] [(.ref a)])) (fun X t q => XS.aloadN X.here C.hx rfl (hb C.hby d1_10) rfl rfl q) ?_
  refine Wk.st (g' := (mkF m 12 #[.val (.ref a), .val (.int (0 : Int32)), .val (.int (1 : Int32))] [(.int (1 : Int32)), (.ref a)])) (fun X t q => XS.iloadN X.here C.hx rfl (hb C.hby d1_11) rfl q) ?_
  refine Wk.fLdD C PA (i := 1) (by decide) (by decide) (by decide) (v := (.double (dv x1))) (by simp [up]) d1_12 ?_
  show Wk _ p l e _ s m _ below meth c n0 _ h0 0 0 (mkF m 13 #[.val (.ref a), .val (.int (0 : Int32)), .val (.int (1 : Int32))] [(.double (dv x1))])
  refine Wk.st (g' := (mkF m 14 #[.val (.ref a), .val (.int (0 : Int32)), .val (.int (1 : Int32))] [(.ref a), (.double (dv x1))])) (fun X t q => XS.aloadN X.here C.hx rfl (hb C.hby d1_13) rfl rfl q) ?_
  refine Wk.st (g' := (mkF m 15 #[.val (.ref a), .val (.int (0 : Int32)), .val (.int (1 : Int32))] [(.int (0 : Int32)), (.ref a), (.double (dv x1))])) (fun X t q => XS.iloadN X.here C.hx rfl (hb C.hby d1_14) rfl q) ?_
  refine Wk.fLdD C PA (i := 0) (by decide) (by decide) (by decide) (v := (.double (dv x0))) (by simp [up]) d1_15 ?_
  show Wk _ p l e _ s m _ below meth c n0 _ h0 0 0 (mkF m 16 #[.val (.ref a), .val (.int (0 : Int32)), .val (.int (1 : Int32))] [(.double (dv x0)), (.double (dv x1))])
  refine Wk.st (g' := (mkF m 17 #[.val (.ref a), .val (.int (0 : Int32)), .val (.int (1 : Int32))] [(.int (cv x1 x0))])) (fun X t q => XS.dcmpS X.here C.hx rfl (hb C.hby d1_16) rfl (cmp_l r_x1 r_x0) q) ?_
  by_cases hb1 : (0 : Int32) < (cv x1 x0)
  · skip
    refine Wk.st (g' := (mkF m 20 #[.val (.ref a), .val (.int (0 : Int32)), .val (.int (1 : Int32))] [])) (fun X t q => XS.ifNo X.here C.hx rfl (hb C.hby d1_17) rfl (XT.i0_le_f hb1) q) ?_
    refine Wk.st (g' := (mkF m 21 #[.val (.ref a), .val (.int (0 : Int32)), .val (.int (1 : Int32))] [(.int (1 : Int32))])) (fun X t q => XS.iloadN X.here C.hx rfl (hb C.hby d1_20) rfl q) ?_
    refine Wk.st (g' := (mkF m 22 #[.val (.ref a), .val (.int (1 : Int32)), .val (.int (1 : Int32))] [])) (fun X t q => XS.istoreN X.here C.hx rfl (hb C.hby d1_21) rfl (l' := #[.val (.ref a), .val (.int (1 : Int32)), .val (.int (1 : Int32))]) rfl q) ?_
    refine Wk.st (g' := (mkF m 25 #[.val (.ref a), .val (.int (1 : Int32)), .val (.int (2 : Int32))] [])) (fun X t q => XS.iinc X.here C.hx rfl (hb C.hby d1_22) rfl (l' := #[.val (.ref a), .val (.int (1 : Int32)), .val (.int (2 : Int32))]) rfl q) ?_
    refine Wk.st (g' := (mkF m 4 #[.val (.ref a), .val (.int (1 : Int32)), .val (.int (2 : Int32))] [])) (fun X t q => XS.goto X.here C.hx rfl (pc0 := 25) (pc' := 4) rfl (hb C.hby d1_25) (by decide) (by decide) q) ?_
    refine Wk.st (g' := (mkF m 5 #[.val (.ref a), .val (.int (1 : Int32)), .val (.int (2 : Int32))] [(.int (2 : Int32))])) (fun X t q => XS.iloadN X.here C.hx rfl (hb C.hby d1_4) rfl q) ?_
    refine Wk.st (g' := (mkF m 6 #[.val (.ref a), .val (.int (1 : Int32)), .val (.int (2 : Int32))] [(.ref a), (.int (2 : Int32))])) (fun X t q => XS.aloadN X.here C.hx rfl (hb C.hby d1_5) rfl rfl q) ?_
    refine Wk.fLen C PA (z := (4 : Int32)) (by decide) d1_6 ?_
    show Wk _ p l e _ s m _ below meth c n0 _ h0 0 0 (mkF m 7 #[.val (.ref a), .val (.int (1 : Int32)), .val (.int (2 : Int32))] [(.int (4 : Int32)), (.int (2 : Int32))])
    refine Wk.st (g' := (mkF m 10 #[.val (.ref a), .val (.int (1 : Int32)), .val (.int (2 : Int32))] [])) (fun X t q => XS.icmpNo X.here C.hx rfl (hb C.hby d1_7) rfl (XT.ii_ge_f (by decide)) q) ?_
    refine Wk.st (g' := (mkF m 11 #[.val (.ref a), .val (.int (1 : Int32)), .val (.int (2 : Int32))] [(.ref a)])) (fun X t q => XS.aloadN X.here C.hx rfl (hb C.hby d1_10) rfl rfl q) ?_
    refine Wk.st (g' := (mkF m 12 #[.val (.ref a), .val (.int (1 : Int32)), .val (.int (2 : Int32))] [(.int (2 : Int32)), (.ref a)])) (fun X t q => XS.iloadN X.here C.hx rfl (hb C.hby d1_11) rfl q) ?_
    refine Wk.fLdD C PA (i := 2) (by decide) (by decide) (by decide) (v := (.double (dv x2))) (by simp [up]) d1_12 ?_
    show Wk _ p l e _ s m _ below meth c n0 _ h0 0 0 (mkF m 13 #[.val (.ref a), .val (.int (1 : Int32)), .val (.int (2 : Int32))] [(.double (dv x2))])
    refine Wk.st (g' := (mkF m 14 #[.val (.ref a), .val (.int (1 : Int32)), .val (.int (2 : Int32))] [(.ref a), (.double (dv x2))])) (fun X t q => XS.aloadN X.here C.hx rfl (hb C.hby d1_13) rfl rfl q) ?_
    refine Wk.st (g' := (mkF m 15 #[.val (.ref a), .val (.int (1 : Int32)), .val (.int (2 : Int32))] [(.int (1 : Int32)), (.ref a), (.double (dv x2))])) (fun X t q => XS.iloadN X.here C.hx rfl (hb C.hby d1_14) rfl q) ?_
    refine Wk.fLdD C PA (i := 1) (by decide) (by decide) (by decide) (v := (.double (dv x1))) (by simp [up]) d1_15 ?_
    show Wk _ p l e _ s m _ below meth c n0 _ h0 0 0 (mkF m 16 #[.val (.ref a), .val (.int (1 : Int32)), .val (.int (2 : Int32))] [(.double (dv x1)), (.double (dv x2))])
    refine Wk.st (g' := (mkF m 17 #[.val (.ref a), .val (.int (1 : Int32)), .val (.int (2 : Int32))] [(.int (cv x2 x1))])) (fun X t q => XS.dcmpS X.here C.hx rfl (hb C.hby d1_16) rfl (cmp_l r_x2 r_x1) q) ?_
    by_cases hb2 : (0 : Int32) < (cv x2 x1)
    · skip
      refine Wk.st (g' := (mkF m 20 #[.val (.ref a), .val (.int (1 : Int32)), .val (.int (2 : Int32))] [])) (fun X t q => XS.ifNo X.here C.hx rfl (hb C.hby d1_17) rfl (XT.i0_le_f hb2) q) ?_
      refine Wk.st (g' := (mkF m 21 #[.val (.ref a), .val (.int (1 : Int32)), .val (.int (2 : Int32))] [(.int (2 : Int32))])) (fun X t q => XS.iloadN X.here C.hx rfl (hb C.hby d1_20) rfl q) ?_
      refine Wk.st (g' := (mkF m 22 #[.val (.ref a), .val (.int (2 : Int32)), .val (.int (2 : Int32))] [])) (fun X t q => XS.istoreN X.here C.hx rfl (hb C.hby d1_21) rfl (l' := #[.val (.ref a), .val (.int (2 : Int32)), .val (.int (2 : Int32))]) rfl q) ?_
      refine Wk.st (g' := (mkF m 25 #[.val (.ref a), .val (.int (2 : Int32)), .val (.int (3 : Int32))] [])) (fun X t q => XS.iinc X.here C.hx rfl (hb C.hby d1_22) rfl (l' := #[.val (.ref a), .val (.int (2 : Int32)), .val (.int (3 : Int32))]) rfl q) ?_
      refine Wk.st (g' := (mkF m 4 #[.val (.ref a), .val (.int (2 : Int32)), .val (.int (3 : Int32))] [])) (fun X t q => XS.goto X.here C.hx rfl (pc0 := 25) (pc' := 4) rfl (hb C.hby d1_25) (by decide) (by decide) q) ?_
      refine Wk.st (g' := (mkF m 5 #[.val (.ref a), .val (.int (2 : Int32)), .val (.int (3 : Int32))] [(.int (3 : Int32))])) (fun X t q => XS.iloadN X.here C.hx rfl (hb C.hby d1_4) rfl q) ?_
      refine Wk.st (g' := (mkF m 6 #[.val (.ref a), .val (.int (2 : Int32)), .val (.int (3 : Int32))] [(.ref a), (.int (3 : Int32))])) (fun X t q => XS.aloadN X.here C.hx rfl (hb C.hby d1_5) rfl rfl q) ?_
      refine Wk.fLen C PA (z := (4 : Int32)) (by decide) d1_6 ?_
      show Wk _ p l e _ s m _ below meth c n0 _ h0 0 0 (mkF m 7 #[.val (.ref a), .val (.int (2 : Int32)), .val (.int (3 : Int32))] [(.int (4 : Int32)), (.int (3 : Int32))])
      refine Wk.st (g' := (mkF m 10 #[.val (.ref a), .val (.int (2 : Int32)), .val (.int (3 : Int32))] [])) (fun X t q => XS.icmpNo X.here C.hx rfl (hb C.hby d1_7) rfl (XT.ii_ge_f (by decide)) q) ?_
      refine Wk.st (g' := (mkF m 11 #[.val (.ref a), .val (.int (2 : Int32)), .val (.int (3 : Int32))] [(.ref a)])) (fun X t q => XS.aloadN X.here C.hx rfl (hb C.hby d1_10) rfl rfl q) ?_
      refine Wk.st (g' := (mkF m 12 #[.val (.ref a), .val (.int (2 : Int32)), .val (.int (3 : Int32))] [(.int (3 : Int32)), (.ref a)])) (fun X t q => XS.iloadN X.here C.hx rfl (hb C.hby d1_11) rfl q) ?_
      refine Wk.fLdD C PA (i := 3) (by decide) (by decide) (by decide) (v := (.double (dv x3))) (by simp [up]) d1_12 ?_
      show Wk _ p l e _ s m _ below meth c n0 _ h0 0 0 (mkF m 13 #[.val (.ref a), .val (.int (2 : Int32)), .val (.int (3 : Int32))] [(.double (dv x3))])
      refine Wk.st (g' := (mkF m 14 #[.val (.ref a), .val (.int (2 : Int32)), .val (.int (3 : Int32))] [(.ref a), (.double (dv x3))])) (fun X t q => XS.aloadN X.here C.hx rfl (hb C.hby d1_13) rfl rfl q) ?_
      refine Wk.st (g' := (mkF m 15 #[.val (.ref a), .val (.int (2 : Int32)), .val (.int (3 : Int32))] [(.int (2 : Int32)), (.ref a), (.double (dv x3))])) (fun X t q => XS.iloadN X.here C.hx rfl (hb C.hby d1_14) rfl q) ?_
      refine Wk.fLdD C PA (i := 2) (by decide) (by decide) (by decide) (v := (.double (dv x2))) (by simp [up]) d1_15 ?_
      show Wk _ p l e _ s m _ below meth c n0 _ h0 0 0 (mkF m 16 #[.val (.ref a), .val (.int (2 : Int32)), .val (.int (3 : Int32))] [(.double (dv x2)), (.double (dv x3))])
      refine Wk.st (g' := (mkF m 17 #[.val (.ref a), .val (.int (2 : Int32)), .val (.int (3 : Int32))] [(.int (cv x3 x2))])) (fun X t q => XS.dcmpS X.here C.hx rfl (hb C.hby d1_16) rfl (cmp_l r_x3 r_x2) q) ?_
      by_cases hb3 : (0 : Int32) < (cv x3 x2)
      · skip
        refine Wk.st (g' := (mkF m 20 #[.val (.ref a), .val (.int (2 : Int32)), .val (.int (3 : Int32))] [])) (fun X t q => XS.ifNo X.here C.hx rfl (hb C.hby d1_17) rfl (XT.i0_le_f hb3) q) ?_
        refine Wk.st (g' := (mkF m 21 #[.val (.ref a), .val (.int (2 : Int32)), .val (.int (3 : Int32))] [(.int (3 : Int32))])) (fun X t q => XS.iloadN X.here C.hx rfl (hb C.hby d1_20) rfl q) ?_
        refine Wk.st (g' := (mkF m 22 #[.val (.ref a), .val (.int (3 : Int32)), .val (.int (3 : Int32))] [])) (fun X t q => XS.istoreN X.here C.hx rfl (hb C.hby d1_21) rfl (l' := #[.val (.ref a), .val (.int (3 : Int32)), .val (.int (3 : Int32))]) rfl q) ?_
        refine Wk.st (g' := (mkF m 25 #[.val (.ref a), .val (.int (3 : Int32)), .val (.int (4 : Int32))] [])) (fun X t q => XS.iinc X.here C.hx rfl (hb C.hby d1_22) rfl (l' := #[.val (.ref a), .val (.int (3 : Int32)), .val (.int (4 : Int32))]) rfl q) ?_
        refine Wk.st (g' := (mkF m 4 #[.val (.ref a), .val (.int (3 : Int32)), .val (.int (4 : Int32))] [])) (fun X t q => XS.goto X.here C.hx rfl (pc0 := 25) (pc' := 4) rfl (hb C.hby d1_25) (by decide) (by decide) q) ?_
        refine Wk.st (g' := (mkF m 5 #[.val (.ref a), .val (.int (3 : Int32)), .val (.int (4 : Int32))] [(.int (4 : Int32))])) (fun X t q => XS.iloadN X.here C.hx rfl (hb C.hby d1_4) rfl q) ?_
        refine Wk.st (g' := (mkF m 6 #[.val (.ref a), .val (.int (3 : Int32)), .val (.int (4 : Int32))] [(.ref a), (.int (4 : Int32))])) (fun X t q => XS.aloadN X.here C.hx rfl (hb C.hby d1_5) rfl rfl q) ?_
        refine Wk.fLen C PA (z := (4 : Int32)) (by decide) d1_6 ?_
        show Wk _ p l e _ s m _ below meth c n0 _ h0 0 0 (mkF m 7 #[.val (.ref a), .val (.int (3 : Int32)), .val (.int (4 : Int32))] [(.int (4 : Int32)), (.int (4 : Int32))])
        refine Wk.st (g' := (mkF m 28 #[.val (.ref a), .val (.int (3 : Int32)), .val (.int (4 : Int32))] [])) (fun X t q => XS.icmpYes X.here C.hx rfl (pc0 := 7) (pc' := 28) rfl (hb C.hby d1_7) rfl (XT.ii_ge_t (by decide)) (by decide) (by decide) q) ?_
        refine Wk.st (g' := (mkF m 29 #[.val (.ref a), .val (.int (3 : Int32)), .val (.int (4 : Int32))] [(.int (3 : Int32))])) (fun X t q => XS.iloadN X.here C.hx rfl (hb C.hby d1_28) rfl q) ?_
        have e0 : x0.toInt < x1.toInt := cv_pos.mp hb1
        have e1 : x1.toInt < x2.toInt := cv_pos.mp hb2
        have e2 : x2.toInt < x3.toInt := cv_pos.mp hb3
        exact Wk.retV C (t := .int) rfl rfl (Or.inl ⟨rfl, by simp, _, rfl⟩) d1_29 (by decide) (by decide) ⟨Or.inr (Or.inr (Or.inr (⟨rfl, by omega, by omega, by omega⟩))), rfl⟩
      · skip
        refine Wk.st (g' := (mkF m 22 #[.val (.ref a), .val (.int (2 : Int32)), .val (.int (3 : Int32))] [])) (fun X t q => XS.ifYes X.here C.hx rfl (pc0 := 17) (pc' := 22) rfl (hb C.hby d1_17) rfl (XT.i0_le_t hb3) (by decide) (by decide) q) ?_
        refine Wk.st (g' := (mkF m 25 #[.val (.ref a), .val (.int (2 : Int32)), .val (.int (4 : Int32))] [])) (fun X t q => XS.iinc X.here C.hx rfl (hb C.hby d1_22) rfl (l' := #[.val (.ref a), .val (.int (2 : Int32)), .val (.int (4 : Int32))]) rfl q) ?_
        refine Wk.st (g' := (mkF m 4 #[.val (.ref a), .val (.int (2 : Int32)), .val (.int (4 : Int32))] [])) (fun X t q => XS.goto X.here C.hx rfl (pc0 := 25) (pc' := 4) rfl (hb C.hby d1_25) (by decide) (by decide) q) ?_
        refine Wk.st (g' := (mkF m 5 #[.val (.ref a), .val (.int (2 : Int32)), .val (.int (4 : Int32))] [(.int (4 : Int32))])) (fun X t q => XS.iloadN X.here C.hx rfl (hb C.hby d1_4) rfl q) ?_
        refine Wk.st (g' := (mkF m 6 #[.val (.ref a), .val (.int (2 : Int32)), .val (.int (4 : Int32))] [(.ref a), (.int (4 : Int32))])) (fun X t q => XS.aloadN X.here C.hx rfl (hb C.hby d1_5) rfl rfl q) ?_
        refine Wk.fLen C PA (z := (4 : Int32)) (by decide) d1_6 ?_
        show Wk _ p l e _ s m _ below meth c n0 _ h0 0 0 (mkF m 7 #[.val (.ref a), .val (.int (2 : Int32)), .val (.int (4 : Int32))] [(.int (4 : Int32)), (.int (4 : Int32))])
        refine Wk.st (g' := (mkF m 28 #[.val (.ref a), .val (.int (2 : Int32)), .val (.int (4 : Int32))] [])) (fun X t q => XS.icmpYes X.here C.hx rfl (pc0 := 7) (pc' := 28) rfl (hb C.hby d1_7) rfl (XT.ii_ge_t (by decide)) (by decide) (by decide) q) ?_
        refine Wk.st (g' := (mkF m 29 #[.val (.ref a), .val (.int (2 : Int32)), .val (.int (4 : Int32))] [(.int (2 : Int32))])) (fun X t q => XS.iloadN X.here C.hx rfl (hb C.hby d1_28) rfl q) ?_
        have e0 : x0.toInt < x1.toInt := cv_pos.mp hb1
        have e1 : x1.toInt < x2.toInt := cv_pos.mp hb2
        have e2 : ¬ x2.toInt < x3.toInt := fun q => hb3 (cv_pos.mpr q)
        exact Wk.retV C (t := .int) rfl rfl (Or.inl ⟨rfl, by simp, _, rfl⟩) d1_29 (by decide) (by decide) ⟨Or.inr (Or.inr (Or.inl ⟨rfl, by omega, by omega, by omega⟩)), rfl⟩
    · skip
      refine Wk.st (g' := (mkF m 22 #[.val (.ref a), .val (.int (1 : Int32)), .val (.int (2 : Int32))] [])) (fun X t q => XS.ifYes X.here C.hx rfl (pc0 := 17) (pc' := 22) rfl (hb C.hby d1_17) rfl (XT.i0_le_t hb2) (by decide) (by decide) q) ?_
      refine Wk.st (g' := (mkF m 25 #[.val (.ref a), .val (.int (1 : Int32)), .val (.int (3 : Int32))] [])) (fun X t q => XS.iinc X.here C.hx rfl (hb C.hby d1_22) rfl (l' := #[.val (.ref a), .val (.int (1 : Int32)), .val (.int (3 : Int32))]) rfl q) ?_
      refine Wk.st (g' := (mkF m 4 #[.val (.ref a), .val (.int (1 : Int32)), .val (.int (3 : Int32))] [])) (fun X t q => XS.goto X.here C.hx rfl (pc0 := 25) (pc' := 4) rfl (hb C.hby d1_25) (by decide) (by decide) q) ?_
      refine Wk.st (g' := (mkF m 5 #[.val (.ref a), .val (.int (1 : Int32)), .val (.int (3 : Int32))] [(.int (3 : Int32))])) (fun X t q => XS.iloadN X.here C.hx rfl (hb C.hby d1_4) rfl q) ?_
      refine Wk.st (g' := (mkF m 6 #[.val (.ref a), .val (.int (1 : Int32)), .val (.int (3 : Int32))] [(.ref a), (.int (3 : Int32))])) (fun X t q => XS.aloadN X.here C.hx rfl (hb C.hby d1_5) rfl rfl q) ?_
      refine Wk.fLen C PA (z := (4 : Int32)) (by decide) d1_6 ?_
      show Wk _ p l e _ s m _ below meth c n0 _ h0 0 0 (mkF m 7 #[.val (.ref a), .val (.int (1 : Int32)), .val (.int (3 : Int32))] [(.int (4 : Int32)), (.int (3 : Int32))])
      refine Wk.st (g' := (mkF m 10 #[.val (.ref a), .val (.int (1 : Int32)), .val (.int (3 : Int32))] [])) (fun X t q => XS.icmpNo X.here C.hx rfl (hb C.hby d1_7) rfl (XT.ii_ge_f (by decide)) q) ?_
      refine Wk.st (g' := (mkF m 11 #[.val (.ref a), .val (.int (1 : Int32)), .val (.int (3 : Int32))] [(.ref a)])) (fun X t q => XS.aloadN X.here C.hx rfl (hb C.hby d1_10) rfl rfl q) ?_
      refine Wk.st (g' := (mkF m 12 #[.val (.ref a), .val (.int (1 : Int32)), .val (.int (3 : Int32))] [(.int (3 : Int32)), (.ref a)])) (fun X t q => XS.iloadN X.here C.hx rfl (hb C.hby d1_11) rfl q) ?_
      refine Wk.fLdD C PA (i := 3) (by decide) (by decide) (by decide) (v := (.double (dv x3))) (by simp [up]) d1_12 ?_
      show Wk _ p l e _ s m _ below meth c n0 _ h0 0 0 (mkF m 13 #[.val (.ref a), .val (.int (1 : Int32)), .val (.int (3 : Int32))] [(.double (dv x3))])
      refine Wk.st (g' := (mkF m 14 #[.val (.ref a), .val (.int (1 : Int32)), .val (.int (3 : Int32))] [(.ref a), (.double (dv x3))])) (fun X t q => XS.aloadN X.here C.hx rfl (hb C.hby d1_13) rfl rfl q) ?_
      refine Wk.st (g' := (mkF m 15 #[.val (.ref a), .val (.int (1 : Int32)), .val (.int (3 : Int32))] [(.int (1 : Int32)), (.ref a), (.double (dv x3))])) (fun X t q => XS.iloadN X.here C.hx rfl (hb C.hby d1_14) rfl q) ?_
      refine Wk.fLdD C PA (i := 1) (by decide) (by decide) (by decide) (v := (.double (dv x1))) (by simp [up]) d1_15 ?_
      show Wk _ p l e _ s m _ below meth c n0 _ h0 0 0 (mkF m 16 #[.val (.ref a), .val (.int (1 : Int32)), .val (.int (3 : Int32))] [(.double (dv x1)), (.double (dv x3))])
      refine Wk.st (g' := (mkF m 17 #[.val (.ref a), .val (.int (1 : Int32)), .val (.int (3 : Int32))] [(.int (cv x3 x1))])) (fun X t q => XS.dcmpS X.here C.hx rfl (hb C.hby d1_16) rfl (cmp_l r_x3 r_x1) q) ?_
      by_cases hb4 : (0 : Int32) < (cv x3 x1)
      · skip
        refine Wk.st (g' := (mkF m 20 #[.val (.ref a), .val (.int (1 : Int32)), .val (.int (3 : Int32))] [])) (fun X t q => XS.ifNo X.here C.hx rfl (hb C.hby d1_17) rfl (XT.i0_le_f hb4) q) ?_
        refine Wk.st (g' := (mkF m 21 #[.val (.ref a), .val (.int (1 : Int32)), .val (.int (3 : Int32))] [(.int (3 : Int32))])) (fun X t q => XS.iloadN X.here C.hx rfl (hb C.hby d1_20) rfl q) ?_
        refine Wk.st (g' := (mkF m 22 #[.val (.ref a), .val (.int (3 : Int32)), .val (.int (3 : Int32))] [])) (fun X t q => XS.istoreN X.here C.hx rfl (hb C.hby d1_21) rfl (l' := #[.val (.ref a), .val (.int (3 : Int32)), .val (.int (3 : Int32))]) rfl q) ?_
        refine Wk.st (g' := (mkF m 25 #[.val (.ref a), .val (.int (3 : Int32)), .val (.int (4 : Int32))] [])) (fun X t q => XS.iinc X.here C.hx rfl (hb C.hby d1_22) rfl (l' := #[.val (.ref a), .val (.int (3 : Int32)), .val (.int (4 : Int32))]) rfl q) ?_
        refine Wk.st (g' := (mkF m 4 #[.val (.ref a), .val (.int (3 : Int32)), .val (.int (4 : Int32))] [])) (fun X t q => XS.goto X.here C.hx rfl (pc0 := 25) (pc' := 4) rfl (hb C.hby d1_25) (by decide) (by decide) q) ?_
        refine Wk.st (g' := (mkF m 5 #[.val (.ref a), .val (.int (3 : Int32)), .val (.int (4 : Int32))] [(.int (4 : Int32))])) (fun X t q => XS.iloadN X.here C.hx rfl (hb C.hby d1_4) rfl q) ?_
        refine Wk.st (g' := (mkF m 6 #[.val (.ref a), .val (.int (3 : Int32)), .val (.int (4 : Int32))] [(.ref a), (.int (4 : Int32))])) (fun X t q => XS.aloadN X.here C.hx rfl (hb C.hby d1_5) rfl rfl q) ?_
        refine Wk.fLen C PA (z := (4 : Int32)) (by decide) d1_6 ?_
        show Wk _ p l e _ s m _ below meth c n0 _ h0 0 0 (mkF m 7 #[.val (.ref a), .val (.int (3 : Int32)), .val (.int (4 : Int32))] [(.int (4 : Int32)), (.int (4 : Int32))])
        refine Wk.st (g' := (mkF m 28 #[.val (.ref a), .val (.int (3 : Int32)), .val (.int (4 : Int32))] [])) (fun X t q => XS.icmpYes X.here C.hx rfl (pc0 := 7) (pc' := 28) rfl (hb C.hby d1_7) rfl (XT.ii_ge_t (by decide)) (by decide) (by decide) q) ?_
        refine Wk.st (g' := (mkF m 29 #[.val (.ref a), .val (.int (3 : Int32)), .val (.int (4 : Int32))] [(.int (3 : Int32))])) (fun X t q => XS.iloadN X.here C.hx rfl (hb C.hby d1_28) rfl q) ?_
        have e0 : x0.toInt < x1.toInt := cv_pos.mp hb1
        have e1 : ¬ x1.toInt < x2.toInt := fun q => hb2 (cv_pos.mpr q)
        have e2 : x1.toInt < x3.toInt := cv_pos.mp hb4
        exact Wk.retV C (t := .int) rfl rfl (Or.inl ⟨rfl, by simp, _, rfl⟩) d1_29 (by decide) (by decide) ⟨Or.inr (Or.inr (Or.inr (⟨rfl, by omega, by omega, by omega⟩))), rfl⟩
      · skip
        refine Wk.st (g' := (mkF m 22 #[.val (.ref a), .val (.int (1 : Int32)), .val (.int (3 : Int32))] [])) (fun X t q => XS.ifYes X.here C.hx rfl (pc0 := 17) (pc' := 22) rfl (hb C.hby d1_17) rfl (XT.i0_le_t hb4) (by decide) (by decide) q) ?_
        refine Wk.st (g' := (mkF m 25 #[.val (.ref a), .val (.int (1 : Int32)), .val (.int (4 : Int32))] [])) (fun X t q => XS.iinc X.here C.hx rfl (hb C.hby d1_22) rfl (l' := #[.val (.ref a), .val (.int (1 : Int32)), .val (.int (4 : Int32))]) rfl q) ?_
        refine Wk.st (g' := (mkF m 4 #[.val (.ref a), .val (.int (1 : Int32)), .val (.int (4 : Int32))] [])) (fun X t q => XS.goto X.here C.hx rfl (pc0 := 25) (pc' := 4) rfl (hb C.hby d1_25) (by decide) (by decide) q) ?_
        refine Wk.st (g' := (mkF m 5 #[.val (.ref a), .val (.int (1 : Int32)), .val (.int (4 : Int32))] [(.int (4 : Int32))])) (fun X t q => XS.iloadN X.here C.hx rfl (hb C.hby d1_4) rfl q) ?_
        refine Wk.st (g' := (mkF m 6 #[.val (.ref a), .val (.int (1 : Int32)), .val (.int (4 : Int32))] [(.ref a), (.int (4 : Int32))])) (fun X t q => XS.aloadN X.here C.hx rfl (hb C.hby d1_5) rfl rfl q) ?_
        refine Wk.fLen C PA (z := (4 : Int32)) (by decide) d1_6 ?_
        show Wk _ p l e _ s m _ below meth c n0 _ h0 0 0 (mkF m 7 #[.val (.ref a), .val (.int (1 : Int32)), .val (.int (4 : Int32))] [(.int (4 : Int32)), (.int (4 : Int32))])
        refine Wk.st (g' := (mkF m 28 #[.val (.ref a), .val (.int (1 : Int32)), .val (.int (4 : Int32))] [])) (fun X t q => XS.icmpYes X.here C.hx rfl (pc0 := 7) (pc' := 28) rfl (hb C.hby d1_7) rfl (XT.ii_ge_t (by decide)) (by decide) (by decide) q) ?_
        refine Wk.st (g' := (mkF m 29 #[.val (.ref a), .val (.int (1 : Int32)), .val (.int (4 : Int32))] [(.int (1 : Int32))])) (fun X t q => XS.iloadN X.here C.hx rfl (hb C.hby d1_28) rfl q) ?_
        have e0 : x0.toInt < x1.toInt := cv_pos.mp hb1
        have e1 : ¬ x1.toInt < x2.toInt := fun q => hb2 (cv_pos.mpr q)
        have e2 : ¬ x1.toInt < x3.toInt := fun q => hb4 (cv_pos.mpr q)
        exact Wk.retV C (t := .int) rfl rfl (Or.inl ⟨rfl, by simp, _, rfl⟩) d1_29 (by decide) (by decide) ⟨Or.inr (Or.inl ⟨rfl, by omega, by omega, by omega⟩), rfl⟩
  · skip
    refine Wk.st (g' := (mkF m 22 #[.val (.ref a), .val (.int (0 : Int32)), .val (.int (1 : Int32))] [])) (fun X t q => XS.ifYes X.here C.hx rfl (pc0 := 17) (pc' := 22) rfl (hb C.hby d1_17) rfl (XT.i0_le_t hb1) (by decide) (by decide) q) ?_
    refine Wk.st (g' := (mkF m 25 #[.val (.ref a), .val (.int (0 : Int32)), .val (.int (2 : Int32))] [])) (fun X t q => XS.iinc X.here C.hx rfl (hb C.hby d1_22) rfl (l' := #[.val (.ref a), .val (.int (0 : Int32)), .val (.int (2 : Int32))]) rfl q) ?_
    refine Wk.st (g' := (mkF m 4 #[.val (.ref a), .val (.int (0 : Int32)), .val (.int (2 : Int32))] [])) (fun X t q => XS.goto X.here C.hx rfl (pc0 := 25) (pc' := 4) rfl (hb C.hby d1_25) (by decide) (by decide) q) ?_
    refine Wk.st (g' := (mkF m 5 #[.val (.ref a), .val (.int (0 : Int32)), .val (.int (2 : Int32))] [(.int (2 : Int32))])) (fun X t q => XS.iloadN X.here C.hx rfl (hb C.hby d1_4) rfl q) ?_
    refine Wk.st (g' := (mkF m 6 #[.val (.ref a), .val (.int (0 : Int32)), .val (.int (2 : Int32))] [(.ref a), (.int (2 : Int32))])) (fun X t q => XS.aloadN X.here C.hx rfl (hb C.hby d1_5) rfl rfl q) ?_
    refine Wk.fLen C PA (z := (4 : Int32)) (by decide) d1_6 ?_
    show Wk _ p l e _ s m _ below meth c n0 _ h0 0 0 (mkF m 7 #[.val (.ref a), .val (.int (0 : Int32)), .val (.int (2 : Int32))] [(.int (4 : Int32)), (.int (2 : Int32))])
    refine Wk.st (g' := (mkF m 10 #[.val (.ref a), .val (.int (0 : Int32)), .val (.int (2 : Int32))] [])) (fun X t q => XS.icmpNo X.here C.hx rfl (hb C.hby d1_7) rfl (XT.ii_ge_f (by decide)) q) ?_
    refine Wk.st (g' := (mkF m 11 #[.val (.ref a), .val (.int (0 : Int32)), .val (.int (2 : Int32))] [(.ref a)])) (fun X t q => XS.aloadN X.here C.hx rfl (hb C.hby d1_10) rfl rfl q) ?_
    refine Wk.st (g' := (mkF m 12 #[.val (.ref a), .val (.int (0 : Int32)), .val (.int (2 : Int32))] [(.int (2 : Int32)), (.ref a)])) (fun X t q => XS.iloadN X.here C.hx rfl (hb C.hby d1_11) rfl q) ?_
    refine Wk.fLdD C PA (i := 2) (by decide) (by decide) (by decide) (v := (.double (dv x2))) (by simp [up]) d1_12 ?_
    show Wk _ p l e _ s m _ below meth c n0 _ h0 0 0 (mkF m 13 #[.val (.ref a), .val (.int (0 : Int32)), .val (.int (2 : Int32))] [(.double (dv x2))])
    refine Wk.st (g' := (mkF m 14 #[.val (.ref a), .val (.int (0 : Int32)), .val (.int (2 : Int32))] [(.ref a), (.double (dv x2))])) (fun X t q => XS.aloadN X.here C.hx rfl (hb C.hby d1_13) rfl rfl q) ?_
    refine Wk.st (g' := (mkF m 15 #[.val (.ref a), .val (.int (0 : Int32)), .val (.int (2 : Int32))] [(.int (0 : Int32)), (.ref a), (.double (dv x2))])) (fun X t q => XS.iloadN X.here C.hx rfl (hb C.hby d1_14) rfl q) ?_
    refine Wk.fLdD C PA (i := 0) (by decide) (by decide) (by decide) (v := (.double (dv x0))) (by simp [up]) d1_15 ?_
    show Wk _ p l e _ s m _ below meth c n0 _ h0 0 0 (mkF m 16 #[.val (.ref a), .val (.int (0 : Int32)), .val (.int (2 : Int32))] [(.double (dv x0)), (.double (dv x2))])
    refine Wk.st (g' := (mkF m 17 #[.val (.ref a), .val (.int (0 : Int32)), .val (.int (2 : Int32))] [(.int (cv x2 x0))])) (fun X t q => XS.dcmpS X.here C.hx rfl (hb C.hby d1_16) rfl (cmp_l r_x2 r_x0) q) ?_
    by_cases hb5 : (0 : Int32) < (cv x2 x0)
    · skip
      refine Wk.st (g' := (mkF m 20 #[.val (.ref a), .val (.int (0 : Int32)), .val (.int (2 : Int32))] [])) (fun X t q => XS.ifNo X.here C.hx rfl (hb C.hby d1_17) rfl (XT.i0_le_f hb5) q) ?_
      refine Wk.st (g' := (mkF m 21 #[.val (.ref a), .val (.int (0 : Int32)), .val (.int (2 : Int32))] [(.int (2 : Int32))])) (fun X t q => XS.iloadN X.here C.hx rfl (hb C.hby d1_20) rfl q) ?_
      refine Wk.st (g' := (mkF m 22 #[.val (.ref a), .val (.int (2 : Int32)), .val (.int (2 : Int32))] [])) (fun X t q => XS.istoreN X.here C.hx rfl (hb C.hby d1_21) rfl (l' := #[.val (.ref a), .val (.int (2 : Int32)), .val (.int (2 : Int32))]) rfl q) ?_
      refine Wk.st (g' := (mkF m 25 #[.val (.ref a), .val (.int (2 : Int32)), .val (.int (3 : Int32))] [])) (fun X t q => XS.iinc X.here C.hx rfl (hb C.hby d1_22) rfl (l' := #[.val (.ref a), .val (.int (2 : Int32)), .val (.int (3 : Int32))]) rfl q) ?_
      refine Wk.st (g' := (mkF m 4 #[.val (.ref a), .val (.int (2 : Int32)), .val (.int (3 : Int32))] [])) (fun X t q => XS.goto X.here C.hx rfl (pc0 := 25) (pc' := 4) rfl (hb C.hby d1_25) (by decide) (by decide) q) ?_
      refine Wk.st (g' := (mkF m 5 #[.val (.ref a), .val (.int (2 : Int32)), .val (.int (3 : Int32))] [(.int (3 : Int32))])) (fun X t q => XS.iloadN X.here C.hx rfl (hb C.hby d1_4) rfl q) ?_
      refine Wk.st (g' := (mkF m 6 #[.val (.ref a), .val (.int (2 : Int32)), .val (.int (3 : Int32))] [(.ref a), (.int (3 : Int32))])) (fun X t q => XS.aloadN X.here C.hx rfl (hb C.hby d1_5) rfl rfl q) ?_
      refine Wk.fLen C PA (z := (4 : Int32)) (by decide) d1_6 ?_
      show Wk _ p l e _ s m _ below meth c n0 _ h0 0 0 (mkF m 7 #[.val (.ref a), .val (.int (2 : Int32)), .val (.int (3 : Int32))] [(.int (4 : Int32)), (.int (3 : Int32))])
      refine Wk.st (g' := (mkF m 10 #[.val (.ref a), .val (.int (2 : Int32)), .val (.int (3 : Int32))] [])) (fun X t q => XS.icmpNo X.here C.hx rfl (hb C.hby d1_7) rfl (XT.ii_ge_f (by decide)) q) ?_
      refine Wk.st (g' := (mkF m 11 #[.val (.ref a), .val (.int (2 : Int32)), .val (.int (3 : Int32))] [(.ref a)])) (fun X t q => XS.aloadN X.here C.hx rfl (hb C.hby d1_10) rfl rfl q) ?_
      refine Wk.st (g' := (mkF m 12 #[.val (.ref a), .val (.int (2 : Int32)), .val (.int (3 : Int32))] [(.int (3 : Int32)), (.ref a)])) (fun X t q => XS.iloadN X.here C.hx rfl (hb C.hby d1_11) rfl q) ?_
      refine Wk.fLdD C PA (i := 3) (by decide) (by decide) (by decide) (v := (.double (dv x3))) (by simp [up]) d1_12 ?_
      show Wk _ p l e _ s m _ below meth c n0 _ h0 0 0 (mkF m 13 #[.val (.ref a), .val (.int (2 : Int32)), .val (.int (3 : Int32))] [(.double (dv x3))])
      refine Wk.st (g' := (mkF m 14 #[.val (.ref a), .val (.int (2 : Int32)), .val (.int (3 : Int32))] [(.ref a), (.double (dv x3))])) (fun X t q => XS.aloadN X.here C.hx rfl (hb C.hby d1_13) rfl rfl q) ?_
      refine Wk.st (g' := (mkF m 15 #[.val (.ref a), .val (.int (2 : Int32)), .val (.int (3 : Int32))] [(.int (2 : Int32)), (.ref a), (.double (dv x3))])) (fun X t q => XS.iloadN X.here C.hx rfl (hb C.hby d1_14) rfl q) ?_
      refine Wk.fLdD C PA (i := 2) (by decide) (by decide) (by decide) (v := (.double (dv x2))) (by simp [up]) d1_15 ?_
      show Wk _ p l e _ s m _ below meth c n0 _ h0 0 0 (mkF m 16 #[.val (.ref a), .val (.int (2 : Int32)), .val (.int (3 : Int32))] [(.double (dv x2)), (.double (dv x3))])
      refine Wk.st (g' := (mkF m 17 #[.val (.ref a), .val (.int (2 : Int32)), .val (.int (3 : Int32))] [(.int (cv x3 x2))])) (fun X t q => XS.dcmpS X.here C.hx rfl (hb C.hby d1_16) rfl (cmp_l r_x3 r_x2) q) ?_
      by_cases hb6 : (0 : Int32) < (cv x3 x2)
      · skip
        refine Wk.st (g' := (mkF m 20 #[.val (.ref a), .val (.int (2 : Int32)), .val (.int (3 : Int32))] [])) (fun X t q => XS.ifNo X.here C.hx rfl (hb C.hby d1_17) rfl (XT.i0_le_f hb6) q) ?_
        refine Wk.st (g' := (mkF m 21 #[.val (.ref a), .val (.int (2 : Int32)), .val (.int (3 : Int32))] [(.int (3 : Int32))])) (fun X t q => XS.iloadN X.here C.hx rfl (hb C.hby d1_20) rfl q) ?_
        refine Wk.st (g' := (mkF m 22 #[.val (.ref a), .val (.int (3 : Int32)), .val (.int (3 : Int32))] [])) (fun X t q => XS.istoreN X.here C.hx rfl (hb C.hby d1_21) rfl (l' := #[.val (.ref a), .val (.int (3 : Int32)), .val (.int (3 : Int32))]) rfl q) ?_
        refine Wk.st (g' := (mkF m 25 #[.val (.ref a), .val (.int (3 : Int32)), .val (.int (4 : Int32))] [])) (fun X t q => XS.iinc X.here C.hx rfl (hb C.hby d1_22) rfl (l' := #[.val (.ref a), .val (.int (3 : Int32)), .val (.int (4 : Int32))]) rfl q) ?_
        refine Wk.st (g' := (mkF m 4 #[.val (.ref a), .val (.int (3 : Int32)), .val (.int (4 : Int32))] [])) (fun X t q => XS.goto X.here C.hx rfl (pc0 := 25) (pc' := 4) rfl (hb C.hby d1_25) (by decide) (by decide) q) ?_
        refine Wk.st (g' := (mkF m 5 #[.val (.ref a), .val (.int (3 : Int32)), .val (.int (4 : Int32))] [(.int (4 : Int32))])) (fun X t q => XS.iloadN X.here C.hx rfl (hb C.hby d1_4) rfl q) ?_
        refine Wk.st (g' := (mkF m 6 #[.val (.ref a), .val (.int (3 : Int32)), .val (.int (4 : Int32))] [(.ref a), (.int (4 : Int32))])) (fun X t q => XS.aloadN X.here C.hx rfl (hb C.hby d1_5) rfl rfl q) ?_
        refine Wk.fLen C PA (z := (4 : Int32)) (by decide) d1_6 ?_
        show Wk _ p l e _ s m _ below meth c n0 _ h0 0 0 (mkF m 7 #[.val (.ref a), .val (.int (3 : Int32)), .val (.int (4 : Int32))] [(.int (4 : Int32)), (.int (4 : Int32))])
        refine Wk.st (g' := (mkF m 28 #[.val (.ref a), .val (.int (3 : Int32)), .val (.int (4 : Int32))] [])) (fun X t q => XS.icmpYes X.here C.hx rfl (pc0 := 7) (pc' := 28) rfl (hb C.hby d1_7) rfl (XT.ii_ge_t (by decide)) (by decide) (by decide) q) ?_
        refine Wk.st (g' := (mkF m 29 #[.val (.ref a), .val (.int (3 : Int32)), .val (.int (4 : Int32))] [(.int (3 : Int32))])) (fun X t q => XS.iloadN X.here C.hx rfl (hb C.hby d1_28) rfl q) ?_
        have e0 : ¬ x0.toInt < x1.toInt := fun q => hb1 (cv_pos.mpr q)
        have e1 : x0.toInt < x2.toInt := cv_pos.mp hb5
        have e2 : x2.toInt < x3.toInt := cv_pos.mp hb6
        exact Wk.retV C (t := .int) rfl rfl (Or.inl ⟨rfl, by simp, _, rfl⟩) d1_29 (by decide) (by decide) ⟨Or.inr (Or.inr (Or.inr (⟨rfl, by omega, by omega, by omega⟩))), rfl⟩
      · skip
        refine Wk.st (g' := (mkF m 22 #[.val (.ref a), .val (.int (2 : Int32)), .val (.int (3 : Int32))] [])) (fun X t q => XS.ifYes X.here C.hx rfl (pc0 := 17) (pc' := 22) rfl (hb C.hby d1_17) rfl (XT.i0_le_t hb6) (by decide) (by decide) q) ?_
        refine Wk.st (g' := (mkF m 25 #[.val (.ref a), .val (.int (2 : Int32)), .val (.int (4 : Int32))] [])) (fun X t q => XS.iinc X.here C.hx rfl (hb C.hby d1_22) rfl (l' := #[.val (.ref a), .val (.int (2 : Int32)), .val (.int (4 : Int32))]) rfl q) ?_
        refine Wk.st (g' := (mkF m 4 #[.val (.ref a), .val (.int (2 : Int32)), .val (.int (4 : Int32))] [])) (fun X t q => XS.goto X.here C.hx rfl (pc0 := 25) (pc' := 4) rfl (hb C.hby d1_25) (by decide) (by decide) q) ?_
        refine Wk.st (g' := (mkF m 5 #[.val (.ref a), .val (.int (2 : Int32)), .val (.int (4 : Int32))] [(.int (4 : Int32))])) (fun X t q => XS.iloadN X.here C.hx rfl (hb C.hby d1_4) rfl q) ?_
        refine Wk.st (g' := (mkF m 6 #[.val (.ref a), .val (.int (2 : Int32)), .val (.int (4 : Int32))] [(.ref a), (.int (4 : Int32))])) (fun X t q => XS.aloadN X.here C.hx rfl (hb C.hby d1_5) rfl rfl q) ?_
        refine Wk.fLen C PA (z := (4 : Int32)) (by decide) d1_6 ?_
        show Wk _ p l e _ s m _ below meth c n0 _ h0 0 0 (mkF m 7 #[.val (.ref a), .val (.int (2 : Int32)), .val (.int (4 : Int32))] [(.int (4 : Int32)), (.int (4 : Int32))])
        refine Wk.st (g' := (mkF m 28 #[.val (.ref a), .val (.int (2 : Int32)), .val (.int (4 : Int32))] [])) (fun X t q => XS.icmpYes X.here C.hx rfl (pc0 := 7) (pc' := 28) rfl (hb C.hby d1_7) rfl (XT.ii_ge_t (by decide)) (by decide) (by decide) q) ?_
        refine Wk.st (g' := (mkF m 29 #[.val (.ref a), .val (.int (2 : Int32)), .val (.int (4 : Int32))] [(.int (2 : Int32))])) (fun X t q => XS.iloadN X.here C.hx rfl (hb C.hby d1_28) rfl q) ?_
        have e0 : ¬ x0.toInt < x1.toInt := fun q => hb1 (cv_pos.mpr q)
        have e1 : x0.toInt < x2.toInt := cv_pos.mp hb5
        have e2 : ¬ x2.toInt < x3.toInt := fun q => hb6 (cv_pos.mpr q)
        exact Wk.retV C (t := .int) rfl rfl (Or.inl ⟨rfl, by simp, _, rfl⟩) d1_29 (by decide) (by decide) ⟨Or.inr (Or.inr (Or.inl ⟨rfl, by omega, by omega, by omega⟩)), rfl⟩
    · skip
      refine Wk.st (g' := (mkF m 22 #[.val (.ref a), .val (.int (0 : Int32)), .val (.int (2 : Int32))] [])) (fun X t q => XS.ifYes X.here C.hx rfl (pc0 := 17) (pc' := 22) rfl (hb C.hby d1_17) rfl (XT.i0_le_t hb5) (by decide) (by decide) q) ?_
      refine Wk.st (g' := (mkF m 25 #[.val (.ref a), .val (.int (0 : Int32)), .val (.int (3 : Int32))] [])) (fun X t q => XS.iinc X.here C.hx rfl (hb C.hby d1_22) rfl (l' := #[.val (.ref a), .val (.int (0 : Int32)), .val (.int (3 : Int32))]) rfl q) ?_
      refine Wk.st (g' := (mkF m 4 #[.val (.ref a), .val (.int (0 : Int32)), .val (.int (3 : Int32))] [])) (fun X t q => XS.goto X.here C.hx rfl (pc0 := 25) (pc' := 4) rfl (hb C.hby d1_25) (by decide) (by decide) q) ?_
      refine Wk.st (g' := (mkF m 5 #[.val (.ref a), .val (.int (0 : Int32)), .val (.int (3 : Int32))] [(.int (3 : Int32))])) (fun X t q => XS.iloadN X.here C.hx rfl (hb C.hby d1_4) rfl q) ?_
      refine Wk.st (g' := (mkF m 6 #[.val (.ref a), .val (.int (0 : Int32)), .val (.int (3 : Int32))] [(.ref a), (.int (3 : Int32))])) (fun X t q => XS.aloadN X.here C.hx rfl (hb C.hby d1_5) rfl rfl q) ?_
      refine Wk.fLen C PA (z := (4 : Int32)) (by decide) d1_6 ?_
      show Wk _ p l e _ s m _ below meth c n0 _ h0 0 0 (mkF m 7 #[.val (.ref a), .val (.int (0 : Int32)), .val (.int (3 : Int32))] [(.int (4 : Int32)), (.int (3 : Int32))])
      refine Wk.st (g' := (mkF m 10 #[.val (.ref a), .val (.int (0 : Int32)), .val (.int (3 : Int32))] [])) (fun X t q => XS.icmpNo X.here C.hx rfl (hb C.hby d1_7) rfl (XT.ii_ge_f (by decide)) q) ?_
      refine Wk.st (g' := (mkF m 11 #[.val (.ref a), .val (.int (0 : Int32)), .val (.int (3 : Int32))] [(.ref a)])) (fun X t q => XS.aloadN X.here C.hx rfl (hb C.hby d1_10) rfl rfl q) ?_
      refine Wk.st (g' := (mkF m 12 #[.val (.ref a), .val (.int (0 : Int32)), .val (.int (3 : Int32))] [(.int (3 : Int32)), (.ref a)])) (fun X t q => XS.iloadN X.here C.hx rfl (hb C.hby d1_11) rfl q) ?_
      refine Wk.fLdD C PA (i := 3) (by decide) (by decide) (by decide) (v := (.double (dv x3))) (by simp [up]) d1_12 ?_
      show Wk _ p l e _ s m _ below meth c n0 _ h0 0 0 (mkF m 13 #[.val (.ref a), .val (.int (0 : Int32)), .val (.int (3 : Int32))] [(.double (dv x3))])
      refine Wk.st (g' := (mkF m 14 #[.val (.ref a), .val (.int (0 : Int32)), .val (.int (3 : Int32))] [(.ref a), (.double (dv x3))])) (fun X t q => XS.aloadN X.here C.hx rfl (hb C.hby d1_13) rfl rfl q) ?_
      refine Wk.st (g' := (mkF m 15 #[.val (.ref a), .val (.int (0 : Int32)), .val (.int (3 : Int32))] [(.int (0 : Int32)), (.ref a), (.double (dv x3))])) (fun X t q => XS.iloadN X.here C.hx rfl (hb C.hby d1_14) rfl q) ?_
      refine Wk.fLdD C PA (i := 0) (by decide) (by decide) (by decide) (v := (.double (dv x0))) (by simp [up]) d1_15 ?_
      show Wk _ p l e _ s m _ below meth c n0 _ h0 0 0 (mkF m 16 #[.val (.ref a), .val (.int (0 : Int32)), .val (.int (3 : Int32))] [(.double (dv x0)), (.double (dv x3))])
      refine Wk.st (g' := (mkF m 17 #[.val (.ref a), .val (.int (0 : Int32)), .val (.int (3 : Int32))] [(.int (cv x3 x0))])) (fun X t q => XS.dcmpS X.here C.hx rfl (hb C.hby d1_16) rfl (cmp_l r_x3 r_x0) q) ?_
      by_cases hb7 : (0 : Int32) < (cv x3 x0)
      · skip
        refine Wk.st (g' := (mkF m 20 #[.val (.ref a), .val (.int (0 : Int32)), .val (.int (3 : Int32))] [])) (fun X t q => XS.ifNo X.here C.hx rfl (hb C.hby d1_17) rfl (XT.i0_le_f hb7) q) ?_
        refine Wk.st (g' := (mkF m 21 #[.val (.ref a), .val (.int (0 : Int32)), .val (.int (3 : Int32))] [(.int (3 : Int32))])) (fun X t q => XS.iloadN X.here C.hx rfl (hb C.hby d1_20) rfl q) ?_
        refine Wk.st (g' := (mkF m 22 #[.val (.ref a), .val (.int (3 : Int32)), .val (.int (3 : Int32))] [])) (fun X t q => XS.istoreN X.here C.hx rfl (hb C.hby d1_21) rfl (l' := #[.val (.ref a), .val (.int (3 : Int32)), .val (.int (3 : Int32))]) rfl q) ?_
        refine Wk.st (g' := (mkF m 25 #[.val (.ref a), .val (.int (3 : Int32)), .val (.int (4 : Int32))] [])) (fun X t q => XS.iinc X.here C.hx rfl (hb C.hby d1_22) rfl (l' := #[.val (.ref a), .val (.int (3 : Int32)), .val (.int (4 : Int32))]) rfl q) ?_
        refine Wk.st (g' := (mkF m 4 #[.val (.ref a), .val (.int (3 : Int32)), .val (.int (4 : Int32))] [])) (fun X t q => XS.goto X.here C.hx rfl (pc0 := 25) (pc' := 4) rfl (hb C.hby d1_25) (by decide) (by decide) q) ?_
        refine Wk.st (g' := (mkF m 5 #[.val (.ref a), .val (.int (3 : Int32)), .val (.int (4 : Int32))] [(.int (4 : Int32))])) (fun X t q => XS.iloadN X.here C.hx rfl (hb C.hby d1_4) rfl q) ?_
        refine Wk.st (g' := (mkF m 6 #[.val (.ref a), .val (.int (3 : Int32)), .val (.int (4 : Int32))] [(.ref a), (.int (4 : Int32))])) (fun X t q => XS.aloadN X.here C.hx rfl (hb C.hby d1_5) rfl rfl q) ?_
        refine Wk.fLen C PA (z := (4 : Int32)) (by decide) d1_6 ?_
        show Wk _ p l e _ s m _ below meth c n0 _ h0 0 0 (mkF m 7 #[.val (.ref a), .val (.int (3 : Int32)), .val (.int (4 : Int32))] [(.int (4 : Int32)), (.int (4 : Int32))])
        refine Wk.st (g' := (mkF m 28 #[.val (.ref a), .val (.int (3 : Int32)), .val (.int (4 : Int32))] [])) (fun X t q => XS.icmpYes X.here C.hx rfl (pc0 := 7) (pc' := 28) rfl (hb C.hby d1_7) rfl (XT.ii_ge_t (by decide)) (by decide) (by decide) q) ?_
        refine Wk.st (g' := (mkF m 29 #[.val (.ref a), .val (.int (3 : Int32)), .val (.int (4 : Int32))] [(.int (3 : Int32))])) (fun X t q => XS.iloadN X.here C.hx rfl (hb C.hby d1_28) rfl q) ?_
        have e0 : ¬ x0.toInt < x1.toInt := fun q => hb1 (cv_pos.mpr q)
        have e1 : ¬ x0.toInt < x2.toInt := fun q => hb5 (cv_pos.mpr q)
        have e2 : x0.toInt < x3.toInt := cv_pos.mp hb7
        exact Wk.retV C (t := .int) rfl rfl (Or.inl ⟨rfl, by simp, _, rfl⟩) d1_29 (by decide) (by decide) ⟨Or.inr (Or.inr (Or.inr (⟨rfl, by omega, by omega, by omega⟩))), rfl⟩
      · skip
        refine Wk.st (g' := (mkF m 22 #[.val (.ref a), .val (.int (0 : Int32)), .val (.int (3 : Int32))] [])) (fun X t q => XS.ifYes X.here C.hx rfl (pc0 := 17) (pc' := 22) rfl (hb C.hby d1_17) rfl (XT.i0_le_t hb7) (by decide) (by decide) q) ?_
        refine Wk.st (g' := (mkF m 25 #[.val (.ref a), .val (.int (0 : Int32)), .val (.int (4 : Int32))] [])) (fun X t q => XS.iinc X.here C.hx rfl (hb C.hby d1_22) rfl (l' := #[.val (.ref a), .val (.int (0 : Int32)), .val (.int (4 : Int32))]) rfl q) ?_
        refine Wk.st (g' := (mkF m 4 #[.val (.ref a), .val (.int (0 : Int32)), .val (.int (4 : Int32))] [])) (fun X t q => XS.goto X.here C.hx rfl (pc0 := 25) (pc' := 4) rfl (hb C.hby d1_25) (by decide) (by decide) q) ?_
        refine Wk.st (g' := (mkF m 5 #[.val (.ref a), .val (.int (0 : Int32)), .val (.int (4 : Int32))] [(.int (4 : Int32))])) (fun X t q => XS.iloadN X.here C.hx rfl (hb C.hby d1_4) rfl q) ?_
        refine Wk.st (g' := (mkF m 6 #[.val (.ref a), .val (.int (0 : Int32)), .val (.int (4 : Int32))] [(.ref a), (.int (4 : Int32))])) (fun X t q => XS.aloadN X.here C.hx rfl (hb C.hby d1_5) rfl rfl q) ?_
        refine Wk.fLen C PA (z := (4 : Int32)) (by decide) d1_6 ?_
        show Wk _ p l e _ s m _ below meth c n0 _ h0 0 0 (mkF m 7 #[.val (.ref a), .val (.int (0 : Int32)), .val (.int (4 : Int32))] [(.int (4 : Int32)), (.int (4 : Int32))])
        refine Wk.st (g' := (mkF m 28 #[.val (.ref a), .val (.int (0 : Int32)), .val (.int (4 : Int32))] [])) (fun X t q => XS.icmpYes X.here C.hx rfl (pc0 := 7) (pc' := 28) rfl (hb C.hby d1_7) rfl (XT.ii_ge_t (by decide)) (by decide) (by decide) q) ?_
        refine Wk.st (g' := (mkF m 29 #[.val (.ref a), .val (.int (0 : Int32)), .val (.int (4 : Int32))] [(.int (0 : Int32))])) (fun X t q => XS.iloadN X.here C.hx rfl (hb C.hby d1_28) rfl q) ?_
        have e0 : ¬ x0.toInt < x1.toInt := fun q => hb1 (cv_pos.mpr q)
        have e1 : ¬ x0.toInt < x2.toInt := fun q => hb5 (cv_pos.mpr q)
        have e2 : ¬ x0.toInt < x3.toInt := fun q => hb7 (cv_pos.mpr q)
        exact Wk.retV C (t := .int) rfl rfl (Or.inl ⟨rfl, by simp, _, rfl⟩) d1_29 (by decide) (by decide) ⟨Or.inl ⟨rfl, by omega, by omega, by omega⟩, rfl⟩
theorem d2_0 : decode method_3_code 0 = .ok (.iload_n 3, 1) := by decide +kernel
theorem d2_1 : decode method_3_code 1 = .ok (.iload_n 1, 1) := by decide +kernel
theorem d2_2 : decode method_3_code 2 = .ok (.if_icmp .lt 5, 3) := by decide +kernel
theorem d2_5 : decode method_3_code 5 = .ok (.iconst 1, 1) := by decide +kernel
theorem d2_6 : decode method_3_code 6 = .ok (.ireturn, 1) := by decide +kernel
theorem d2_7 : decode method_3_code 7 = .ok (.iload_n 3, 1) := by decide +kernel
theorem d2_8 : decode method_3_code 8 = .ok (.iload_n 2, 1) := by decide +kernel
theorem d2_9 : decode method_3_code 9 = .ok (.if_icmp .ge 18, 3) := by decide +kernel
theorem d2_12 : decode method_3_code 12 = .ok (.aload_n 0, 1) := by decide +kernel
theorem d2_13 : decode method_3_code 13 = .ok (.iload_n 3, 1) := by decide +kernel
theorem d2_14 : decode method_3_code 14 = .ok (.daload, 1) := by decide +kernel
theorem d2_15 : decode method_3_code 15 = .ok (.dload 4, 2) := by decide +kernel
theorem d2_17 : decode method_3_code 17 = .ok (.dcmp .g, 1) := by decide +kernel
theorem d2_18 : decode method_3_code 18 = .ok (.ifCond .ge 7, 3) := by decide +kernel
theorem d2_21 : decode method_3_code 21 = .ok (.iconst 1, 1) := by decide +kernel
theorem d2_22 : decode method_3_code 22 = .ok (.goto 4, 3) := by decide +kernel
theorem d2_25 : decode method_3_code 25 = .ok (.iconst 0, 1) := by decide +kernel
theorem d2_26 : decode method_3_code 26 = .ok (.ireturn, 1) := by decide +kernel
theorem d2_27 : decode method_3_code 27 = .ok (.aload_n 0, 1) := by decide +kernel
theorem d2_28 : decode method_3_code 28 = .ok (.iload_n 3, 1) := by decide +kernel
theorem d2_29 : decode method_3_code 29 = .ok (.daload, 1) := by decide +kernel
theorem d2_30 : decode method_3_code 30 = .ok (.dload 4, 2) := by decide +kernel
theorem d2_32 : decode method_3_code 32 = .ok (.dcmp .g, 1) := by decide +kernel
theorem d2_33 : decode method_3_code 33 = .ok (.ifCond .gt 7, 3) := by decide +kernel
theorem d2_36 : decode method_3_code 36 = .ok (.iconst 1, 1) := by decide +kernel
theorem d2_37 : decode method_3_code 37 = .ok (.goto 4, 3) := by decide +kernel
theorem d2_40 : decode method_3_code 40 = .ok (.iconst 0, 1) := by decide +kernel
theorem d2_41 : decode method_3_code 41 = .ok (.ireturn, 1) := by decide +kernel
set_option maxRecDepth 65536 in
set_option maxHeartbeats 40000000 in
theorem own_ok_1_0_0 (l : Launch) (Z : State) (a0 : Array Value) (hw : ∀ d ∈ tables_1, d.before a0 Z = true) (n0 : Nat) (h0 : Heap) (a : Addr) (x0 x1 x2 x3 : Int32) (r_x0 : 0 ≤ x0.toInt ∧ x0.toInt < 8) (r_x1 : 0 ≤ x1.toInt ∧ x1.toInt < 8) (r_x2 : 0 ≤ x2.toInt ∧ x2.toInt < 8) (r_x3 : 0 ≤ x3.toInt ∧ x3.toInt < 8) (PA : Fa Z h0 a .double 4 (up (up (up (up (fun _ => (.double (0 : UInt64))) 0 (.double (dv x0))) 1 (.double (dv x1))) 2 (.double (dv x2))) 3 (.double (dv x3)))) (hr : x0.toInt ≤ x0.toInt) :
    Met false l Z n0 (⟨"com/example/understory/understory/ClassifierMostProbablePinLaw", "ok", "([DIIID)Z"⟩ : MethodName) method_3_code 6 (some .boolean) ({ frames := 0, cells := 0, slots := 0, locals := 0 } : Room) #[(.ref a), (.int (1 : Int32)), (.int (0 : Int32)), (.int (0 : Int32)), (.double (dv x0))] h0 (fun v h => v = some (.int 1) ∧ h0 = h) := by
  refine Met.of (plainFor_of_name pn_1) #[.val (.ref a), .val (.int (1 : Int32)), .val (.int (0 : Int32)), .val (.int (0 : Int32)), .val (.double (dv x0)), .second] (fun m => by first | (simp [entryFrame, mkF, argsToLocals, Value.category]; done) | rfl) ?_
  intro p e s m below meth c C
  refine Wk.st (g' := (mkF m 1 #[.val (.ref a), .val (.int (1 : Int32)), .val (.int (0 : Int32)), .val (.int (0 : Int32)), .val (.double (dv x0)), .second] [(.int (0 : Int32))])) (fun X t q => XS.iloadN X.here C.hx rfl (hb C.hby d2_0) rfl q) ?_
  refine Wk.st (g' := (mkF m 2 #[.val (.ref a), .val (.int (1 : Int32)), .val (.int (0 : Int32)), .val (.int (0 : Int32)), .val (.double (dv x0)), .second] [(.int (1 : Int32)), (.int (0 : Int32))])) (fun X t q => XS.iloadN X.here C.hx rfl (hb C.hby d2_1) rfl q) ?_
  refine Wk.st (g' := (mkF m 7 #[.val (.ref a), .val (.int (1 : Int32)), .val (.int (0 : Int32)), .val (.int (0 : Int32)), .val (.double (dv x0)), .second] [])) (fun X t q => XS.icmpYes X.here C.hx rfl (pc0 := 2) (pc' := 7) rfl (hb C.hby d2_2) rfl (XT.ii_lt_t (by decide)) (by decide) (by decide) q) ?_
  refine Wk.st (g' := (mkF m 8 #[.val (.ref a), .val (.int (1 : Int32)), .val (.int (0 : Int32)), .val (.int (0 : Int32)), .val (.double (dv x0)), .second] [(.int (0 : Int32))])) (fun X t q => XS.iloadN X.here C.hx rfl (hb C.hby d2_7) rfl q) ?_
  refine Wk.st (g' := (mkF m 9 #[.val (.ref a), .val (.int (1 : Int32)), .val (.int (0 : Int32)), .val (.int (0 : Int32)), .val (.double (dv x0)), .second] [(.int (0 : Int32)), (.int (0 : Int32))])) (fun X t q => XS.iloadN X.here C.hx rfl (hb C.hby d2_8) rfl q) ?_
  refine Wk.st (g' := (mkF m 27 #[.val (.ref a), .val (.int (1 : Int32)), .val (.int (0 : Int32)), .val (.int (0 : Int32)), .val (.double (dv x0)), .second] [])) (fun X t q => XS.icmpYes X.here C.hx rfl (pc0 := 9) (pc' := 27) rfl (hb C.hby d2_9) rfl (XT.ii_ge_t (by decide)) (by decide) (by decide) q) ?_
  refine Wk.st (g' := (mkF m 28 #[.val (.ref a), .val (.int (1 : Int32)), .val (.int (0 : Int32)), .val (.int (0 : Int32)), .val (.double (dv x0)), .second] [(.ref a)])) (fun X t q => XS.aloadN X.here C.hx rfl (hb C.hby d2_27) rfl rfl q) ?_
  refine Wk.st (g' := (mkF m 29 #[.val (.ref a), .val (.int (1 : Int32)), .val (.int (0 : Int32)), .val (.int (0 : Int32)), .val (.double (dv x0)), .second] [(.int (0 : Int32)), (.ref a)])) (fun X t q => XS.iloadN X.here C.hx rfl (hb C.hby d2_28) rfl q) ?_
  refine Wk.fLdD C PA (i := 0) (by decide) (by decide) (by decide) (v := (.double (dv x0))) (by simp [up]) d2_29 ?_
  show Wk _ p l e _ s m _ below meth c n0 _ h0 0 0 (mkF m 30 #[.val (.ref a), .val (.int (1 : Int32)), .val (.int (0 : Int32)), .val (.int (0 : Int32)), .val (.double (dv x0)), .second] [(.double (dv x0))])
  refine Wk.st (g' := (mkF m 32 #[.val (.ref a), .val (.int (1 : Int32)), .val (.int (0 : Int32)), .val (.int (0 : Int32)), .val (.double (dv x0)), .second] [(.double (dv x0)), (.double (dv x0))])) (fun X t q => XS.dload X.here C.hx rfl (hb C.hby d2_30) rfl q) ?_
  refine Wk.st (g' := (mkF m 33 #[.val (.ref a), .val (.int (1 : Int32)), .val (.int (0 : Int32)), .val (.int (0 : Int32)), .val (.double (dv x0)), .second] [(.int (cv x0 x0))])) (fun X t q => XS.dcmpS X.here C.hx rfl (hb C.hby d2_32) rfl (cmp_g r_x0 r_x0) q) ?_
  refine Wk.st (g' := (mkF m 36 #[.val (.ref a), .val (.int (1 : Int32)), .val (.int (0 : Int32)), .val (.int (0 : Int32)), .val (.double (dv x0)), .second] [])) (fun X t q => XS.ifNo X.here C.hx rfl (hb C.hby d2_33) rfl (XT.i0_gt_f (fun q => absurd (cv_pos.mp q) (by omega))) q) ?_
  refine Wk.st (g' := (mkF m 37 #[.val (.ref a), .val (.int (1 : Int32)), .val (.int (0 : Int32)), .val (.int (0 : Int32)), .val (.double (dv x0)), .second] [(.int (1 : Int32))])) (fun X t q => XS.iconst X.here C.hx rfl (hb C.hby d2_36) q) ?_
  refine Wk.st (g' := (mkF m 41 #[.val (.ref a), .val (.int (1 : Int32)), .val (.int (0 : Int32)), .val (.int (0 : Int32)), .val (.double (dv x0)), .second] [(.int (1 : Int32))])) (fun X t q => XS.goto X.here C.hx rfl (pc0 := 37) (pc' := 41) rfl (hb C.hby d2_37) (by decide) (by decide) q) ?_
  exact Wk.retV C (t := .boolean) rfl rfl (Or.inl ⟨rfl, by simp, _, rfl⟩) d2_41 (by decide) (by decide) ⟨rfl, rfl⟩
set_option maxRecDepth 65536 in
set_option maxHeartbeats 40000000 in
theorem own_ok_1_0_1 (l : Launch) (Z : State) (a0 : Array Value) (hw : ∀ d ∈ tables_1, d.before a0 Z = true) (n0 : Nat) (h0 : Heap) (a : Addr) (x0 x1 x2 x3 : Int32) (r_x0 : 0 ≤ x0.toInt ∧ x0.toInt < 8) (r_x1 : 0 ≤ x1.toInt ∧ x1.toInt < 8) (r_x2 : 0 ≤ x2.toInt ∧ x2.toInt < 8) (r_x3 : 0 ≤ x3.toInt ∧ x3.toInt < 8) (PA : Fa Z h0 a .double 4 (up (up (up (up (fun _ => (.double (0 : UInt64))) 0 (.double (dv x0))) 1 (.double (dv x1))) 2 (.double (dv x2))) 3 (.double (dv x3)))) :
    Met false l Z n0 (⟨"com/example/understory/understory/ClassifierMostProbablePinLaw", "ok", "([DIIID)Z"⟩ : MethodName) method_3_code 6 (some .boolean) ({ frames := 0, cells := 0, slots := 0, locals := 0 } : Room) #[(.ref a), (.int (1 : Int32)), (.int (0 : Int32)), (.int (1 : Int32)), (.double (dv x0))] h0 (fun v h => v = some (.int 1) ∧ h0 = h) := by
  refine Met.of (plainFor_of_name pn_1) #[.val (.ref a), .val (.int (1 : Int32)), .val (.int (0 : Int32)), .val (.int (1 : Int32)), .val (.double (dv x0)), .second] (fun m => by first | (simp [entryFrame, mkF, argsToLocals, Value.category]; done) | rfl) ?_
  intro p e s m below meth c C
  refine Wk.st (g' := (mkF m 1 #[.val (.ref a), .val (.int (1 : Int32)), .val (.int (0 : Int32)), .val (.int (1 : Int32)), .val (.double (dv x0)), .second] [(.int (1 : Int32))])) (fun X t q => XS.iloadN X.here C.hx rfl (hb C.hby d2_0) rfl q) ?_
  refine Wk.st (g' := (mkF m 2 #[.val (.ref a), .val (.int (1 : Int32)), .val (.int (0 : Int32)), .val (.int (1 : Int32)), .val (.double (dv x0)), .second] [(.int (1 : Int32)), (.int (1 : Int32))])) (fun X t q => XS.iloadN X.here C.hx rfl (hb C.hby d2_1) rfl q) ?_
  refine Wk.st (g' := (mkF m 5 #[.val (.ref a), .val (.int (1 : Int32)), .val (.int (0 : Int32)), .val (.int (1 : Int32)), .val (.double (dv x0)), .second] [])) (fun X t q => XS.icmpNo X.here C.hx rfl (hb C.hby d2_2) rfl (XT.ii_lt_f (by decide)) q) ?_
  refine Wk.st (g' := (mkF m 6 #[.val (.ref a), .val (.int (1 : Int32)), .val (.int (0 : Int32)), .val (.int (1 : Int32)), .val (.double (dv x0)), .second] [(.int (1 : Int32))])) (fun X t q => XS.iconst X.here C.hx rfl (hb C.hby d2_5) q) ?_
  exact Wk.retV C (t := .boolean) rfl rfl (Or.inl ⟨rfl, by simp, _, rfl⟩) d2_6 (by decide) (by decide) ⟨rfl, rfl⟩
set_option maxRecDepth 65536 in
set_option maxHeartbeats 40000000 in
theorem own_ok_1_0_2 (l : Launch) (Z : State) (a0 : Array Value) (hw : ∀ d ∈ tables_1, d.before a0 Z = true) (n0 : Nat) (h0 : Heap) (a : Addr) (x0 x1 x2 x3 : Int32) (r_x0 : 0 ≤ x0.toInt ∧ x0.toInt < 8) (r_x1 : 0 ≤ x1.toInt ∧ x1.toInt < 8) (r_x2 : 0 ≤ x2.toInt ∧ x2.toInt < 8) (r_x3 : 0 ≤ x3.toInt ∧ x3.toInt < 8) (PA : Fa Z h0 a .double 4 (up (up (up (up (fun _ => (.double (0 : UInt64))) 0 (.double (dv x0))) 1 (.double (dv x1))) 2 (.double (dv x2))) 3 (.double (dv x3)))) :
    Met false l Z n0 (⟨"com/example/understory/understory/ClassifierMostProbablePinLaw", "ok", "([DIIID)Z"⟩ : MethodName) method_3_code 6 (some .boolean) ({ frames := 0, cells := 0, slots := 0, locals := 0 } : Room) #[(.ref a), (.int (1 : Int32)), (.int (0 : Int32)), (.int (2 : Int32)), (.double (dv x0))] h0 (fun v h => v = some (.int 1) ∧ h0 = h) := by
  refine Met.of (plainFor_of_name pn_1) #[.val (.ref a), .val (.int (1 : Int32)), .val (.int (0 : Int32)), .val (.int (2 : Int32)), .val (.double (dv x0)), .second] (fun m => by first | (simp [entryFrame, mkF, argsToLocals, Value.category]; done) | rfl) ?_
  intro p e s m below meth c C
  refine Wk.st (g' := (mkF m 1 #[.val (.ref a), .val (.int (1 : Int32)), .val (.int (0 : Int32)), .val (.int (2 : Int32)), .val (.double (dv x0)), .second] [(.int (2 : Int32))])) (fun X t q => XS.iloadN X.here C.hx rfl (hb C.hby d2_0) rfl q) ?_
  refine Wk.st (g' := (mkF m 2 #[.val (.ref a), .val (.int (1 : Int32)), .val (.int (0 : Int32)), .val (.int (2 : Int32)), .val (.double (dv x0)), .second] [(.int (1 : Int32)), (.int (2 : Int32))])) (fun X t q => XS.iloadN X.here C.hx rfl (hb C.hby d2_1) rfl q) ?_
  refine Wk.st (g' := (mkF m 5 #[.val (.ref a), .val (.int (1 : Int32)), .val (.int (0 : Int32)), .val (.int (2 : Int32)), .val (.double (dv x0)), .second] [])) (fun X t q => XS.icmpNo X.here C.hx rfl (hb C.hby d2_2) rfl (XT.ii_lt_f (by decide)) q) ?_
  refine Wk.st (g' := (mkF m 6 #[.val (.ref a), .val (.int (1 : Int32)), .val (.int (0 : Int32)), .val (.int (2 : Int32)), .val (.double (dv x0)), .second] [(.int (1 : Int32))])) (fun X t q => XS.iconst X.here C.hx rfl (hb C.hby d2_5) q) ?_
  exact Wk.retV C (t := .boolean) rfl rfl (Or.inl ⟨rfl, by simp, _, rfl⟩) d2_6 (by decide) (by decide) ⟨rfl, rfl⟩
set_option maxRecDepth 65536 in
set_option maxHeartbeats 40000000 in
theorem own_ok_1_0_3 (l : Launch) (Z : State) (a0 : Array Value) (hw : ∀ d ∈ tables_1, d.before a0 Z = true) (n0 : Nat) (h0 : Heap) (a : Addr) (x0 x1 x2 x3 : Int32) (r_x0 : 0 ≤ x0.toInt ∧ x0.toInt < 8) (r_x1 : 0 ≤ x1.toInt ∧ x1.toInt < 8) (r_x2 : 0 ≤ x2.toInt ∧ x2.toInt < 8) (r_x3 : 0 ≤ x3.toInt ∧ x3.toInt < 8) (PA : Fa Z h0 a .double 4 (up (up (up (up (fun _ => (.double (0 : UInt64))) 0 (.double (dv x0))) 1 (.double (dv x1))) 2 (.double (dv x2))) 3 (.double (dv x3)))) :
    Met false l Z n0 (⟨"com/example/understory/understory/ClassifierMostProbablePinLaw", "ok", "([DIIID)Z"⟩ : MethodName) method_3_code 6 (some .boolean) ({ frames := 0, cells := 0, slots := 0, locals := 0 } : Room) #[(.ref a), (.int (1 : Int32)), (.int (0 : Int32)), (.int (3 : Int32)), (.double (dv x0))] h0 (fun v h => v = some (.int 1) ∧ h0 = h) := by
  refine Met.of (plainFor_of_name pn_1) #[.val (.ref a), .val (.int (1 : Int32)), .val (.int (0 : Int32)), .val (.int (3 : Int32)), .val (.double (dv x0)), .second] (fun m => by first | (simp [entryFrame, mkF, argsToLocals, Value.category]; done) | rfl) ?_
  intro p e s m below meth c C
  refine Wk.st (g' := (mkF m 1 #[.val (.ref a), .val (.int (1 : Int32)), .val (.int (0 : Int32)), .val (.int (3 : Int32)), .val (.double (dv x0)), .second] [(.int (3 : Int32))])) (fun X t q => XS.iloadN X.here C.hx rfl (hb C.hby d2_0) rfl q) ?_
  refine Wk.st (g' := (mkF m 2 #[.val (.ref a), .val (.int (1 : Int32)), .val (.int (0 : Int32)), .val (.int (3 : Int32)), .val (.double (dv x0)), .second] [(.int (1 : Int32)), (.int (3 : Int32))])) (fun X t q => XS.iloadN X.here C.hx rfl (hb C.hby d2_1) rfl q) ?_
  refine Wk.st (g' := (mkF m 5 #[.val (.ref a), .val (.int (1 : Int32)), .val (.int (0 : Int32)), .val (.int (3 : Int32)), .val (.double (dv x0)), .second] [])) (fun X t q => XS.icmpNo X.here C.hx rfl (hb C.hby d2_2) rfl (XT.ii_lt_f (by decide)) q) ?_
  refine Wk.st (g' := (mkF m 6 #[.val (.ref a), .val (.int (1 : Int32)), .val (.int (0 : Int32)), .val (.int (3 : Int32)), .val (.double (dv x0)), .second] [(.int (1 : Int32))])) (fun X t q => XS.iconst X.here C.hx rfl (hb C.hby d2_5) q) ?_
  exact Wk.retV C (t := .boolean) rfl rfl (Or.inl ⟨rfl, by simp, _, rfl⟩) d2_6 (by decide) (by decide) ⟨rfl, rfl⟩
set_option maxRecDepth 65536 in
set_option maxHeartbeats 40000000 in
theorem own_ok_2_0_0 (l : Launch) (Z : State) (a0 : Array Value) (hw : ∀ d ∈ tables_1, d.before a0 Z = true) (n0 : Nat) (h0 : Heap) (a : Addr) (x0 x1 x2 x3 : Int32) (r_x0 : 0 ≤ x0.toInt ∧ x0.toInt < 8) (r_x1 : 0 ≤ x1.toInt ∧ x1.toInt < 8) (r_x2 : 0 ≤ x2.toInt ∧ x2.toInt < 8) (r_x3 : 0 ≤ x3.toInt ∧ x3.toInt < 8) (PA : Fa Z h0 a .double 4 (up (up (up (up (fun _ => (.double (0 : UInt64))) 0 (.double (dv x0))) 1 (.double (dv x1))) 2 (.double (dv x2))) 3 (.double (dv x3)))) (hr : x0.toInt ≤ x0.toInt) :
    Met false l Z n0 (⟨"com/example/understory/understory/ClassifierMostProbablePinLaw", "ok", "([DIIID)Z"⟩ : MethodName) method_3_code 6 (some .boolean) ({ frames := 0, cells := 0, slots := 0, locals := 0 } : Room) #[(.ref a), (.int (2 : Int32)), (.int (0 : Int32)), (.int (0 : Int32)), (.double (dv x0))] h0 (fun v h => v = some (.int 1) ∧ h0 = h) := by
  refine Met.of (plainFor_of_name pn_1) #[.val (.ref a), .val (.int (2 : Int32)), .val (.int (0 : Int32)), .val (.int (0 : Int32)), .val (.double (dv x0)), .second] (fun m => by first | (simp [entryFrame, mkF, argsToLocals, Value.category]; done) | rfl) ?_
  intro p e s m below meth c C
  refine Wk.st (g' := (mkF m 1 #[.val (.ref a), .val (.int (2 : Int32)), .val (.int (0 : Int32)), .val (.int (0 : Int32)), .val (.double (dv x0)), .second] [(.int (0 : Int32))])) (fun X t q => XS.iloadN X.here C.hx rfl (hb C.hby d2_0) rfl q) ?_
  refine Wk.st (g' := (mkF m 2 #[.val (.ref a), .val (.int (2 : Int32)), .val (.int (0 : Int32)), .val (.int (0 : Int32)), .val (.double (dv x0)), .second] [(.int (2 : Int32)), (.int (0 : Int32))])) (fun X t q => XS.iloadN X.here C.hx rfl (hb C.hby d2_1) rfl q) ?_
  refine Wk.st (g' := (mkF m 7 #[.val (.ref a), .val (.int (2 : Int32)), .val (.int (0 : Int32)), .val (.int (0 : Int32)), .val (.double (dv x0)), .second] [])) (fun X t q => XS.icmpYes X.here C.hx rfl (pc0 := 2) (pc' := 7) rfl (hb C.hby d2_2) rfl (XT.ii_lt_t (by decide)) (by decide) (by decide) q) ?_
  refine Wk.st (g' := (mkF m 8 #[.val (.ref a), .val (.int (2 : Int32)), .val (.int (0 : Int32)), .val (.int (0 : Int32)), .val (.double (dv x0)), .second] [(.int (0 : Int32))])) (fun X t q => XS.iloadN X.here C.hx rfl (hb C.hby d2_7) rfl q) ?_
  refine Wk.st (g' := (mkF m 9 #[.val (.ref a), .val (.int (2 : Int32)), .val (.int (0 : Int32)), .val (.int (0 : Int32)), .val (.double (dv x0)), .second] [(.int (0 : Int32)), (.int (0 : Int32))])) (fun X t q => XS.iloadN X.here C.hx rfl (hb C.hby d2_8) rfl q) ?_
  refine Wk.st (g' := (mkF m 27 #[.val (.ref a), .val (.int (2 : Int32)), .val (.int (0 : Int32)), .val (.int (0 : Int32)), .val (.double (dv x0)), .second] [])) (fun X t q => XS.icmpYes X.here C.hx rfl (pc0 := 9) (pc' := 27) rfl (hb C.hby d2_9) rfl (XT.ii_ge_t (by decide)) (by decide) (by decide) q) ?_
  refine Wk.st (g' := (mkF m 28 #[.val (.ref a), .val (.int (2 : Int32)), .val (.int (0 : Int32)), .val (.int (0 : Int32)), .val (.double (dv x0)), .second] [(.ref a)])) (fun X t q => XS.aloadN X.here C.hx rfl (hb C.hby d2_27) rfl rfl q) ?_
  refine Wk.st (g' := (mkF m 29 #[.val (.ref a), .val (.int (2 : Int32)), .val (.int (0 : Int32)), .val (.int (0 : Int32)), .val (.double (dv x0)), .second] [(.int (0 : Int32)), (.ref a)])) (fun X t q => XS.iloadN X.here C.hx rfl (hb C.hby d2_28) rfl q) ?_
  refine Wk.fLdD C PA (i := 0) (by decide) (by decide) (by decide) (v := (.double (dv x0))) (by simp [up]) d2_29 ?_
  show Wk _ p l e _ s m _ below meth c n0 _ h0 0 0 (mkF m 30 #[.val (.ref a), .val (.int (2 : Int32)), .val (.int (0 : Int32)), .val (.int (0 : Int32)), .val (.double (dv x0)), .second] [(.double (dv x0))])
  refine Wk.st (g' := (mkF m 32 #[.val (.ref a), .val (.int (2 : Int32)), .val (.int (0 : Int32)), .val (.int (0 : Int32)), .val (.double (dv x0)), .second] [(.double (dv x0)), (.double (dv x0))])) (fun X t q => XS.dload X.here C.hx rfl (hb C.hby d2_30) rfl q) ?_
  refine Wk.st (g' := (mkF m 33 #[.val (.ref a), .val (.int (2 : Int32)), .val (.int (0 : Int32)), .val (.int (0 : Int32)), .val (.double (dv x0)), .second] [(.int (cv x0 x0))])) (fun X t q => XS.dcmpS X.here C.hx rfl (hb C.hby d2_32) rfl (cmp_g r_x0 r_x0) q) ?_
  refine Wk.st (g' := (mkF m 36 #[.val (.ref a), .val (.int (2 : Int32)), .val (.int (0 : Int32)), .val (.int (0 : Int32)), .val (.double (dv x0)), .second] [])) (fun X t q => XS.ifNo X.here C.hx rfl (hb C.hby d2_33) rfl (XT.i0_gt_f (fun q => absurd (cv_pos.mp q) (by omega))) q) ?_
  refine Wk.st (g' := (mkF m 37 #[.val (.ref a), .val (.int (2 : Int32)), .val (.int (0 : Int32)), .val (.int (0 : Int32)), .val (.double (dv x0)), .second] [(.int (1 : Int32))])) (fun X t q => XS.iconst X.here C.hx rfl (hb C.hby d2_36) q) ?_
  refine Wk.st (g' := (mkF m 41 #[.val (.ref a), .val (.int (2 : Int32)), .val (.int (0 : Int32)), .val (.int (0 : Int32)), .val (.double (dv x0)), .second] [(.int (1 : Int32))])) (fun X t q => XS.goto X.here C.hx rfl (pc0 := 37) (pc' := 41) rfl (hb C.hby d2_37) (by decide) (by decide) q) ?_
  exact Wk.retV C (t := .boolean) rfl rfl (Or.inl ⟨rfl, by simp, _, rfl⟩) d2_41 (by decide) (by decide) ⟨rfl, rfl⟩
set_option maxRecDepth 65536 in
set_option maxHeartbeats 40000000 in
theorem own_ok_2_0_1 (l : Launch) (Z : State) (a0 : Array Value) (hw : ∀ d ∈ tables_1, d.before a0 Z = true) (n0 : Nat) (h0 : Heap) (a : Addr) (x0 x1 x2 x3 : Int32) (r_x0 : 0 ≤ x0.toInt ∧ x0.toInt < 8) (r_x1 : 0 ≤ x1.toInt ∧ x1.toInt < 8) (r_x2 : 0 ≤ x2.toInt ∧ x2.toInt < 8) (r_x3 : 0 ≤ x3.toInt ∧ x3.toInt < 8) (PA : Fa Z h0 a .double 4 (up (up (up (up (fun _ => (.double (0 : UInt64))) 0 (.double (dv x0))) 1 (.double (dv x1))) 2 (.double (dv x2))) 3 (.double (dv x3)))) (hr : x1.toInt ≤ x0.toInt) :
    Met false l Z n0 (⟨"com/example/understory/understory/ClassifierMostProbablePinLaw", "ok", "([DIIID)Z"⟩ : MethodName) method_3_code 6 (some .boolean) ({ frames := 0, cells := 0, slots := 0, locals := 0 } : Room) #[(.ref a), (.int (2 : Int32)), (.int (0 : Int32)), (.int (1 : Int32)), (.double (dv x0))] h0 (fun v h => v = some (.int 1) ∧ h0 = h) := by
  refine Met.of (plainFor_of_name pn_1) #[.val (.ref a), .val (.int (2 : Int32)), .val (.int (0 : Int32)), .val (.int (1 : Int32)), .val (.double (dv x0)), .second] (fun m => by first | (simp [entryFrame, mkF, argsToLocals, Value.category]; done) | rfl) ?_
  intro p e s m below meth c C
  refine Wk.st (g' := (mkF m 1 #[.val (.ref a), .val (.int (2 : Int32)), .val (.int (0 : Int32)), .val (.int (1 : Int32)), .val (.double (dv x0)), .second] [(.int (1 : Int32))])) (fun X t q => XS.iloadN X.here C.hx rfl (hb C.hby d2_0) rfl q) ?_
  refine Wk.st (g' := (mkF m 2 #[.val (.ref a), .val (.int (2 : Int32)), .val (.int (0 : Int32)), .val (.int (1 : Int32)), .val (.double (dv x0)), .second] [(.int (2 : Int32)), (.int (1 : Int32))])) (fun X t q => XS.iloadN X.here C.hx rfl (hb C.hby d2_1) rfl q) ?_
  refine Wk.st (g' := (mkF m 7 #[.val (.ref a), .val (.int (2 : Int32)), .val (.int (0 : Int32)), .val (.int (1 : Int32)), .val (.double (dv x0)), .second] [])) (fun X t q => XS.icmpYes X.here C.hx rfl (pc0 := 2) (pc' := 7) rfl (hb C.hby d2_2) rfl (XT.ii_lt_t (by decide)) (by decide) (by decide) q) ?_
  refine Wk.st (g' := (mkF m 8 #[.val (.ref a), .val (.int (2 : Int32)), .val (.int (0 : Int32)), .val (.int (1 : Int32)), .val (.double (dv x0)), .second] [(.int (1 : Int32))])) (fun X t q => XS.iloadN X.here C.hx rfl (hb C.hby d2_7) rfl q) ?_
  refine Wk.st (g' := (mkF m 9 #[.val (.ref a), .val (.int (2 : Int32)), .val (.int (0 : Int32)), .val (.int (1 : Int32)), .val (.double (dv x0)), .second] [(.int (0 : Int32)), (.int (1 : Int32))])) (fun X t q => XS.iloadN X.here C.hx rfl (hb C.hby d2_8) rfl q) ?_
  refine Wk.st (g' := (mkF m 27 #[.val (.ref a), .val (.int (2 : Int32)), .val (.int (0 : Int32)), .val (.int (1 : Int32)), .val (.double (dv x0)), .second] [])) (fun X t q => XS.icmpYes X.here C.hx rfl (pc0 := 9) (pc' := 27) rfl (hb C.hby d2_9) rfl (XT.ii_ge_t (by decide)) (by decide) (by decide) q) ?_
  refine Wk.st (g' := (mkF m 28 #[.val (.ref a), .val (.int (2 : Int32)), .val (.int (0 : Int32)), .val (.int (1 : Int32)), .val (.double (dv x0)), .second] [(.ref a)])) (fun X t q => XS.aloadN X.here C.hx rfl (hb C.hby d2_27) rfl rfl q) ?_
  refine Wk.st (g' := (mkF m 29 #[.val (.ref a), .val (.int (2 : Int32)), .val (.int (0 : Int32)), .val (.int (1 : Int32)), .val (.double (dv x0)), .second] [(.int (1 : Int32)), (.ref a)])) (fun X t q => XS.iloadN X.here C.hx rfl (hb C.hby d2_28) rfl q) ?_
  refine Wk.fLdD C PA (i := 1) (by decide) (by decide) (by decide) (v := (.double (dv x1))) (by simp [up]) d2_29 ?_
  show Wk _ p l e _ s m _ below meth c n0 _ h0 0 0 (mkF m 30 #[.val (.ref a), .val (.int (2 : Int32)), .val (.int (0 : Int32)), .val (.int (1 : Int32)), .val (.double (dv x0)), .second] [(.double (dv x1))])
  refine Wk.st (g' := (mkF m 32 #[.val (.ref a), .val (.int (2 : Int32)), .val (.int (0 : Int32)), .val (.int (1 : Int32)), .val (.double (dv x0)), .second] [(.double (dv x0)), (.double (dv x1))])) (fun X t q => XS.dload X.here C.hx rfl (hb C.hby d2_30) rfl q) ?_
  refine Wk.st (g' := (mkF m 33 #[.val (.ref a), .val (.int (2 : Int32)), .val (.int (0 : Int32)), .val (.int (1 : Int32)), .val (.double (dv x0)), .second] [(.int (cv x1 x0))])) (fun X t q => XS.dcmpS X.here C.hx rfl (hb C.hby d2_32) rfl (cmp_g r_x1 r_x0) q) ?_
  refine Wk.st (g' := (mkF m 36 #[.val (.ref a), .val (.int (2 : Int32)), .val (.int (0 : Int32)), .val (.int (1 : Int32)), .val (.double (dv x0)), .second] [])) (fun X t q => XS.ifNo X.here C.hx rfl (hb C.hby d2_33) rfl (XT.i0_gt_f (fun q => absurd (cv_pos.mp q) (by omega))) q) ?_
  refine Wk.st (g' := (mkF m 37 #[.val (.ref a), .val (.int (2 : Int32)), .val (.int (0 : Int32)), .val (.int (1 : Int32)), .val (.double (dv x0)), .second] [(.int (1 : Int32))])) (fun X t q => XS.iconst X.here C.hx rfl (hb C.hby d2_36) q) ?_
  refine Wk.st (g' := (mkF m 41 #[.val (.ref a), .val (.int (2 : Int32)), .val (.int (0 : Int32)), .val (.int (1 : Int32)), .val (.double (dv x0)), .second] [(.int (1 : Int32))])) (fun X t q => XS.goto X.here C.hx rfl (pc0 := 37) (pc' := 41) rfl (hb C.hby d2_37) (by decide) (by decide) q) ?_
  exact Wk.retV C (t := .boolean) rfl rfl (Or.inl ⟨rfl, by simp, _, rfl⟩) d2_41 (by decide) (by decide) ⟨rfl, rfl⟩
set_option maxRecDepth 65536 in
set_option maxHeartbeats 40000000 in
theorem own_ok_2_0_2 (l : Launch) (Z : State) (a0 : Array Value) (hw : ∀ d ∈ tables_1, d.before a0 Z = true) (n0 : Nat) (h0 : Heap) (a : Addr) (x0 x1 x2 x3 : Int32) (r_x0 : 0 ≤ x0.toInt ∧ x0.toInt < 8) (r_x1 : 0 ≤ x1.toInt ∧ x1.toInt < 8) (r_x2 : 0 ≤ x2.toInt ∧ x2.toInt < 8) (r_x3 : 0 ≤ x3.toInt ∧ x3.toInt < 8) (PA : Fa Z h0 a .double 4 (up (up (up (up (fun _ => (.double (0 : UInt64))) 0 (.double (dv x0))) 1 (.double (dv x1))) 2 (.double (dv x2))) 3 (.double (dv x3)))) :
    Met false l Z n0 (⟨"com/example/understory/understory/ClassifierMostProbablePinLaw", "ok", "([DIIID)Z"⟩ : MethodName) method_3_code 6 (some .boolean) ({ frames := 0, cells := 0, slots := 0, locals := 0 } : Room) #[(.ref a), (.int (2 : Int32)), (.int (0 : Int32)), (.int (2 : Int32)), (.double (dv x0))] h0 (fun v h => v = some (.int 1) ∧ h0 = h) := by
  refine Met.of (plainFor_of_name pn_1) #[.val (.ref a), .val (.int (2 : Int32)), .val (.int (0 : Int32)), .val (.int (2 : Int32)), .val (.double (dv x0)), .second] (fun m => by first | (simp [entryFrame, mkF, argsToLocals, Value.category]; done) | rfl) ?_
  intro p e s m below meth c C
  refine Wk.st (g' := (mkF m 1 #[.val (.ref a), .val (.int (2 : Int32)), .val (.int (0 : Int32)), .val (.int (2 : Int32)), .val (.double (dv x0)), .second] [(.int (2 : Int32))])) (fun X t q => XS.iloadN X.here C.hx rfl (hb C.hby d2_0) rfl q) ?_
  refine Wk.st (g' := (mkF m 2 #[.val (.ref a), .val (.int (2 : Int32)), .val (.int (0 : Int32)), .val (.int (2 : Int32)), .val (.double (dv x0)), .second] [(.int (2 : Int32)), (.int (2 : Int32))])) (fun X t q => XS.iloadN X.here C.hx rfl (hb C.hby d2_1) rfl q) ?_
  refine Wk.st (g' := (mkF m 5 #[.val (.ref a), .val (.int (2 : Int32)), .val (.int (0 : Int32)), .val (.int (2 : Int32)), .val (.double (dv x0)), .second] [])) (fun X t q => XS.icmpNo X.here C.hx rfl (hb C.hby d2_2) rfl (XT.ii_lt_f (by decide)) q) ?_
  refine Wk.st (g' := (mkF m 6 #[.val (.ref a), .val (.int (2 : Int32)), .val (.int (0 : Int32)), .val (.int (2 : Int32)), .val (.double (dv x0)), .second] [(.int (1 : Int32))])) (fun X t q => XS.iconst X.here C.hx rfl (hb C.hby d2_5) q) ?_
  exact Wk.retV C (t := .boolean) rfl rfl (Or.inl ⟨rfl, by simp, _, rfl⟩) d2_6 (by decide) (by decide) ⟨rfl, rfl⟩
set_option maxRecDepth 65536 in
set_option maxHeartbeats 40000000 in
theorem own_ok_2_0_3 (l : Launch) (Z : State) (a0 : Array Value) (hw : ∀ d ∈ tables_1, d.before a0 Z = true) (n0 : Nat) (h0 : Heap) (a : Addr) (x0 x1 x2 x3 : Int32) (r_x0 : 0 ≤ x0.toInt ∧ x0.toInt < 8) (r_x1 : 0 ≤ x1.toInt ∧ x1.toInt < 8) (r_x2 : 0 ≤ x2.toInt ∧ x2.toInt < 8) (r_x3 : 0 ≤ x3.toInt ∧ x3.toInt < 8) (PA : Fa Z h0 a .double 4 (up (up (up (up (fun _ => (.double (0 : UInt64))) 0 (.double (dv x0))) 1 (.double (dv x1))) 2 (.double (dv x2))) 3 (.double (dv x3)))) :
    Met false l Z n0 (⟨"com/example/understory/understory/ClassifierMostProbablePinLaw", "ok", "([DIIID)Z"⟩ : MethodName) method_3_code 6 (some .boolean) ({ frames := 0, cells := 0, slots := 0, locals := 0 } : Room) #[(.ref a), (.int (2 : Int32)), (.int (0 : Int32)), (.int (3 : Int32)), (.double (dv x0))] h0 (fun v h => v = some (.int 1) ∧ h0 = h) := by
  refine Met.of (plainFor_of_name pn_1) #[.val (.ref a), .val (.int (2 : Int32)), .val (.int (0 : Int32)), .val (.int (3 : Int32)), .val (.double (dv x0)), .second] (fun m => by first | (simp [entryFrame, mkF, argsToLocals, Value.category]; done) | rfl) ?_
  intro p e s m below meth c C
  refine Wk.st (g' := (mkF m 1 #[.val (.ref a), .val (.int (2 : Int32)), .val (.int (0 : Int32)), .val (.int (3 : Int32)), .val (.double (dv x0)), .second] [(.int (3 : Int32))])) (fun X t q => XS.iloadN X.here C.hx rfl (hb C.hby d2_0) rfl q) ?_
  refine Wk.st (g' := (mkF m 2 #[.val (.ref a), .val (.int (2 : Int32)), .val (.int (0 : Int32)), .val (.int (3 : Int32)), .val (.double (dv x0)), .second] [(.int (2 : Int32)), (.int (3 : Int32))])) (fun X t q => XS.iloadN X.here C.hx rfl (hb C.hby d2_1) rfl q) ?_
  refine Wk.st (g' := (mkF m 5 #[.val (.ref a), .val (.int (2 : Int32)), .val (.int (0 : Int32)), .val (.int (3 : Int32)), .val (.double (dv x0)), .second] [])) (fun X t q => XS.icmpNo X.here C.hx rfl (hb C.hby d2_2) rfl (XT.ii_lt_f (by decide)) q) ?_
  refine Wk.st (g' := (mkF m 6 #[.val (.ref a), .val (.int (2 : Int32)), .val (.int (0 : Int32)), .val (.int (3 : Int32)), .val (.double (dv x0)), .second] [(.int (1 : Int32))])) (fun X t q => XS.iconst X.here C.hx rfl (hb C.hby d2_5) q) ?_
  exact Wk.retV C (t := .boolean) rfl rfl (Or.inl ⟨rfl, by simp, _, rfl⟩) d2_6 (by decide) (by decide) ⟨rfl, rfl⟩
set_option maxRecDepth 65536 in
set_option maxHeartbeats 40000000 in
theorem own_ok_2_1_0 (l : Launch) (Z : State) (a0 : Array Value) (hw : ∀ d ∈ tables_1, d.before a0 Z = true) (n0 : Nat) (h0 : Heap) (a : Addr) (x0 x1 x2 x3 : Int32) (r_x0 : 0 ≤ x0.toInt ∧ x0.toInt < 8) (r_x1 : 0 ≤ x1.toInt ∧ x1.toInt < 8) (r_x2 : 0 ≤ x2.toInt ∧ x2.toInt < 8) (r_x3 : 0 ≤ x3.toInt ∧ x3.toInt < 8) (PA : Fa Z h0 a .double 4 (up (up (up (up (fun _ => (.double (0 : UInt64))) 0 (.double (dv x0))) 1 (.double (dv x1))) 2 (.double (dv x2))) 3 (.double (dv x3)))) (hr : x0.toInt < x1.toInt) :
    Met false l Z n0 (⟨"com/example/understory/understory/ClassifierMostProbablePinLaw", "ok", "([DIIID)Z"⟩ : MethodName) method_3_code 6 (some .boolean) ({ frames := 0, cells := 0, slots := 0, locals := 0 } : Room) #[(.ref a), (.int (2 : Int32)), (.int (1 : Int32)), (.int (0 : Int32)), (.double (dv x1))] h0 (fun v h => v = some (.int 1) ∧ h0 = h) := by
  refine Met.of (plainFor_of_name pn_1) #[.val (.ref a), .val (.int (2 : Int32)), .val (.int (1 : Int32)), .val (.int (0 : Int32)), .val (.double (dv x1)), .second] (fun m => by first | (simp [entryFrame, mkF, argsToLocals, Value.category]; done) | rfl) ?_
  intro p e s m below meth c C
  refine Wk.st (g' := (mkF m 1 #[.val (.ref a), .val (.int (2 : Int32)), .val (.int (1 : Int32)), .val (.int (0 : Int32)), .val (.double (dv x1)), .second] [(.int (0 : Int32))])) (fun X t q => XS.iloadN X.here C.hx rfl (hb C.hby d2_0) rfl q) ?_
  refine Wk.st (g' := (mkF m 2 #[.val (.ref a), .val (.int (2 : Int32)), .val (.int (1 : Int32)), .val (.int (0 : Int32)), .val (.double (dv x1)), .second] [(.int (2 : Int32)), (.int (0 : Int32))])) (fun X t q => XS.iloadN X.here C.hx rfl (hb C.hby d2_1) rfl q) ?_
  refine Wk.st (g' := (mkF m 7 #[.val (.ref a), .val (.int (2 : Int32)), .val (.int (1 : Int32)), .val (.int (0 : Int32)), .val (.double (dv x1)), .second] [])) (fun X t q => XS.icmpYes X.here C.hx rfl (pc0 := 2) (pc' := 7) rfl (hb C.hby d2_2) rfl (XT.ii_lt_t (by decide)) (by decide) (by decide) q) ?_
  refine Wk.st (g' := (mkF m 8 #[.val (.ref a), .val (.int (2 : Int32)), .val (.int (1 : Int32)), .val (.int (0 : Int32)), .val (.double (dv x1)), .second] [(.int (0 : Int32))])) (fun X t q => XS.iloadN X.here C.hx rfl (hb C.hby d2_7) rfl q) ?_
  refine Wk.st (g' := (mkF m 9 #[.val (.ref a), .val (.int (2 : Int32)), .val (.int (1 : Int32)), .val (.int (0 : Int32)), .val (.double (dv x1)), .second] [(.int (1 : Int32)), (.int (0 : Int32))])) (fun X t q => XS.iloadN X.here C.hx rfl (hb C.hby d2_8) rfl q) ?_
  refine Wk.st (g' := (mkF m 12 #[.val (.ref a), .val (.int (2 : Int32)), .val (.int (1 : Int32)), .val (.int (0 : Int32)), .val (.double (dv x1)), .second] [])) (fun X t q => XS.icmpNo X.here C.hx rfl (hb C.hby d2_9) rfl (XT.ii_ge_f (by decide)) q) ?_
  refine Wk.st (g' := (mkF m 13 #[.val (.ref a), .val (.int (2 : Int32)), .val (.int (1 : Int32)), .val (.int (0 : Int32)), .val (.double (dv x1)), .second] [(.ref a)])) (fun X t q => XS.aloadN X.here C.hx rfl (hb C.hby d2_12) rfl rfl q) ?_
  refine Wk.st (g' := (mkF m 14 #[.val (.ref a), .val (.int (2 : Int32)), .val (.int (1 : Int32)), .val (.int (0 : Int32)), .val (.double (dv x1)), .second] [(.int (0 : Int32)), (.ref a)])) (fun X t q => XS.iloadN X.here C.hx rfl (hb C.hby d2_13) rfl q) ?_
  refine Wk.fLdD C PA (i := 0) (by decide) (by decide) (by decide) (v := (.double (dv x0))) (by simp [up]) d2_14 ?_
  show Wk _ p l e _ s m _ below meth c n0 _ h0 0 0 (mkF m 15 #[.val (.ref a), .val (.int (2 : Int32)), .val (.int (1 : Int32)), .val (.int (0 : Int32)), .val (.double (dv x1)), .second] [(.double (dv x0))])
  refine Wk.st (g' := (mkF m 17 #[.val (.ref a), .val (.int (2 : Int32)), .val (.int (1 : Int32)), .val (.int (0 : Int32)), .val (.double (dv x1)), .second] [(.double (dv x1)), (.double (dv x0))])) (fun X t q => XS.dload X.here C.hx rfl (hb C.hby d2_15) rfl q) ?_
  refine Wk.st (g' := (mkF m 18 #[.val (.ref a), .val (.int (2 : Int32)), .val (.int (1 : Int32)), .val (.int (0 : Int32)), .val (.double (dv x1)), .second] [(.int (cv x0 x1))])) (fun X t q => XS.dcmpS X.here C.hx rfl (hb C.hby d2_17) rfl (cmp_g r_x0 r_x1) q) ?_
  refine Wk.st (g' := (mkF m 21 #[.val (.ref a), .val (.int (2 : Int32)), .val (.int (1 : Int32)), .val (.int (0 : Int32)), .val (.double (dv x1)), .second] [])) (fun X t q => XS.ifNo X.here C.hx rfl (hb C.hby d2_18) rfl (XT.i0_ge_f (cv_neg.mpr hr)) q) ?_
  refine Wk.st (g' := (mkF m 22 #[.val (.ref a), .val (.int (2 : Int32)), .val (.int (1 : Int32)), .val (.int (0 : Int32)), .val (.double (dv x1)), .second] [(.int (1 : Int32))])) (fun X t q => XS.iconst X.here C.hx rfl (hb C.hby d2_21) q) ?_
  refine Wk.st (g' := (mkF m 26 #[.val (.ref a), .val (.int (2 : Int32)), .val (.int (1 : Int32)), .val (.int (0 : Int32)), .val (.double (dv x1)), .second] [(.int (1 : Int32))])) (fun X t q => XS.goto X.here C.hx rfl (pc0 := 22) (pc' := 26) rfl (hb C.hby d2_22) (by decide) (by decide) q) ?_
  exact Wk.retV C (t := .boolean) rfl rfl (Or.inl ⟨rfl, by simp, _, rfl⟩) d2_26 (by decide) (by decide) ⟨rfl, rfl⟩
set_option maxRecDepth 65536 in
set_option maxHeartbeats 40000000 in
theorem own_ok_2_1_1 (l : Launch) (Z : State) (a0 : Array Value) (hw : ∀ d ∈ tables_1, d.before a0 Z = true) (n0 : Nat) (h0 : Heap) (a : Addr) (x0 x1 x2 x3 : Int32) (r_x0 : 0 ≤ x0.toInt ∧ x0.toInt < 8) (r_x1 : 0 ≤ x1.toInt ∧ x1.toInt < 8) (r_x2 : 0 ≤ x2.toInt ∧ x2.toInt < 8) (r_x3 : 0 ≤ x3.toInt ∧ x3.toInt < 8) (PA : Fa Z h0 a .double 4 (up (up (up (up (fun _ => (.double (0 : UInt64))) 0 (.double (dv x0))) 1 (.double (dv x1))) 2 (.double (dv x2))) 3 (.double (dv x3)))) (hr : x1.toInt ≤ x1.toInt) :
    Met false l Z n0 (⟨"com/example/understory/understory/ClassifierMostProbablePinLaw", "ok", "([DIIID)Z"⟩ : MethodName) method_3_code 6 (some .boolean) ({ frames := 0, cells := 0, slots := 0, locals := 0 } : Room) #[(.ref a), (.int (2 : Int32)), (.int (1 : Int32)), (.int (1 : Int32)), (.double (dv x1))] h0 (fun v h => v = some (.int 1) ∧ h0 = h) := by
  refine Met.of (plainFor_of_name pn_1) #[.val (.ref a), .val (.int (2 : Int32)), .val (.int (1 : Int32)), .val (.int (1 : Int32)), .val (.double (dv x1)), .second] (fun m => by first | (simp [entryFrame, mkF, argsToLocals, Value.category]; done) | rfl) ?_
  intro p e s m below meth c C
  refine Wk.st (g' := (mkF m 1 #[.val (.ref a), .val (.int (2 : Int32)), .val (.int (1 : Int32)), .val (.int (1 : Int32)), .val (.double (dv x1)), .second] [(.int (1 : Int32))])) (fun X t q => XS.iloadN X.here C.hx rfl (hb C.hby d2_0) rfl q) ?_
  refine Wk.st (g' := (mkF m 2 #[.val (.ref a), .val (.int (2 : Int32)), .val (.int (1 : Int32)), .val (.int (1 : Int32)), .val (.double (dv x1)), .second] [(.int (2 : Int32)), (.int (1 : Int32))])) (fun X t q => XS.iloadN X.here C.hx rfl (hb C.hby d2_1) rfl q) ?_
  refine Wk.st (g' := (mkF m 7 #[.val (.ref a), .val (.int (2 : Int32)), .val (.int (1 : Int32)), .val (.int (1 : Int32)), .val (.double (dv x1)), .second] [])) (fun X t q => XS.icmpYes X.here C.hx rfl (pc0 := 2) (pc' := 7) rfl (hb C.hby d2_2) rfl (XT.ii_lt_t (by decide)) (by decide) (by decide) q) ?_
  refine Wk.st (g' := (mkF m 8 #[.val (.ref a), .val (.int (2 : Int32)), .val (.int (1 : Int32)), .val (.int (1 : Int32)), .val (.double (dv x1)), .second] [(.int (1 : Int32))])) (fun X t q => XS.iloadN X.here C.hx rfl (hb C.hby d2_7) rfl q) ?_
  refine Wk.st (g' := (mkF m 9 #[.val (.ref a), .val (.int (2 : Int32)), .val (.int (1 : Int32)), .val (.int (1 : Int32)), .val (.double (dv x1)), .second] [(.int (1 : Int32)), (.int (1 : Int32))])) (fun X t q => XS.iloadN X.here C.hx rfl (hb C.hby d2_8) rfl q) ?_
  refine Wk.st (g' := (mkF m 27 #[.val (.ref a), .val (.int (2 : Int32)), .val (.int (1 : Int32)), .val (.int (1 : Int32)), .val (.double (dv x1)), .second] [])) (fun X t q => XS.icmpYes X.here C.hx rfl (pc0 := 9) (pc' := 27) rfl (hb C.hby d2_9) rfl (XT.ii_ge_t (by decide)) (by decide) (by decide) q) ?_
  refine Wk.st (g' := (mkF m 28 #[.val (.ref a), .val (.int (2 : Int32)), .val (.int (1 : Int32)), .val (.int (1 : Int32)), .val (.double (dv x1)), .second] [(.ref a)])) (fun X t q => XS.aloadN X.here C.hx rfl (hb C.hby d2_27) rfl rfl q) ?_
  refine Wk.st (g' := (mkF m 29 #[.val (.ref a), .val (.int (2 : Int32)), .val (.int (1 : Int32)), .val (.int (1 : Int32)), .val (.double (dv x1)), .second] [(.int (1 : Int32)), (.ref a)])) (fun X t q => XS.iloadN X.here C.hx rfl (hb C.hby d2_28) rfl q) ?_
  refine Wk.fLdD C PA (i := 1) (by decide) (by decide) (by decide) (v := (.double (dv x1))) (by simp [up]) d2_29 ?_
  show Wk _ p l e _ s m _ below meth c n0 _ h0 0 0 (mkF m 30 #[.val (.ref a), .val (.int (2 : Int32)), .val (.int (1 : Int32)), .val (.int (1 : Int32)), .val (.double (dv x1)), .second] [(.double (dv x1))])
  refine Wk.st (g' := (mkF m 32 #[.val (.ref a), .val (.int (2 : Int32)), .val (.int (1 : Int32)), .val (.int (1 : Int32)), .val (.double (dv x1)), .second] [(.double (dv x1)), (.double (dv x1))])) (fun X t q => XS.dload X.here C.hx rfl (hb C.hby d2_30) rfl q) ?_
  refine Wk.st (g' := (mkF m 33 #[.val (.ref a), .val (.int (2 : Int32)), .val (.int (1 : Int32)), .val (.int (1 : Int32)), .val (.double (dv x1)), .second] [(.int (cv x1 x1))])) (fun X t q => XS.dcmpS X.here C.hx rfl (hb C.hby d2_32) rfl (cmp_g r_x1 r_x1) q) ?_
  refine Wk.st (g' := (mkF m 36 #[.val (.ref a), .val (.int (2 : Int32)), .val (.int (1 : Int32)), .val (.int (1 : Int32)), .val (.double (dv x1)), .second] [])) (fun X t q => XS.ifNo X.here C.hx rfl (hb C.hby d2_33) rfl (XT.i0_gt_f (fun q => absurd (cv_pos.mp q) (by omega))) q) ?_
  refine Wk.st (g' := (mkF m 37 #[.val (.ref a), .val (.int (2 : Int32)), .val (.int (1 : Int32)), .val (.int (1 : Int32)), .val (.double (dv x1)), .second] [(.int (1 : Int32))])) (fun X t q => XS.iconst X.here C.hx rfl (hb C.hby d2_36) q) ?_
  refine Wk.st (g' := (mkF m 41 #[.val (.ref a), .val (.int (2 : Int32)), .val (.int (1 : Int32)), .val (.int (1 : Int32)), .val (.double (dv x1)), .second] [(.int (1 : Int32))])) (fun X t q => XS.goto X.here C.hx rfl (pc0 := 37) (pc' := 41) rfl (hb C.hby d2_37) (by decide) (by decide) q) ?_
  exact Wk.retV C (t := .boolean) rfl rfl (Or.inl ⟨rfl, by simp, _, rfl⟩) d2_41 (by decide) (by decide) ⟨rfl, rfl⟩
set_option maxRecDepth 65536 in
set_option maxHeartbeats 40000000 in
theorem own_ok_2_1_2 (l : Launch) (Z : State) (a0 : Array Value) (hw : ∀ d ∈ tables_1, d.before a0 Z = true) (n0 : Nat) (h0 : Heap) (a : Addr) (x0 x1 x2 x3 : Int32) (r_x0 : 0 ≤ x0.toInt ∧ x0.toInt < 8) (r_x1 : 0 ≤ x1.toInt ∧ x1.toInt < 8) (r_x2 : 0 ≤ x2.toInt ∧ x2.toInt < 8) (r_x3 : 0 ≤ x3.toInt ∧ x3.toInt < 8) (PA : Fa Z h0 a .double 4 (up (up (up (up (fun _ => (.double (0 : UInt64))) 0 (.double (dv x0))) 1 (.double (dv x1))) 2 (.double (dv x2))) 3 (.double (dv x3)))) :
    Met false l Z n0 (⟨"com/example/understory/understory/ClassifierMostProbablePinLaw", "ok", "([DIIID)Z"⟩ : MethodName) method_3_code 6 (some .boolean) ({ frames := 0, cells := 0, slots := 0, locals := 0 } : Room) #[(.ref a), (.int (2 : Int32)), (.int (1 : Int32)), (.int (2 : Int32)), (.double (dv x1))] h0 (fun v h => v = some (.int 1) ∧ h0 = h) := by
  refine Met.of (plainFor_of_name pn_1) #[.val (.ref a), .val (.int (2 : Int32)), .val (.int (1 : Int32)), .val (.int (2 : Int32)), .val (.double (dv x1)), .second] (fun m => by first | (simp [entryFrame, mkF, argsToLocals, Value.category]; done) | rfl) ?_
  intro p e s m below meth c C
  refine Wk.st (g' := (mkF m 1 #[.val (.ref a), .val (.int (2 : Int32)), .val (.int (1 : Int32)), .val (.int (2 : Int32)), .val (.double (dv x1)), .second] [(.int (2 : Int32))])) (fun X t q => XS.iloadN X.here C.hx rfl (hb C.hby d2_0) rfl q) ?_
  refine Wk.st (g' := (mkF m 2 #[.val (.ref a), .val (.int (2 : Int32)), .val (.int (1 : Int32)), .val (.int (2 : Int32)), .val (.double (dv x1)), .second] [(.int (2 : Int32)), (.int (2 : Int32))])) (fun X t q => XS.iloadN X.here C.hx rfl (hb C.hby d2_1) rfl q) ?_
  refine Wk.st (g' := (mkF m 5 #[.val (.ref a), .val (.int (2 : Int32)), .val (.int (1 : Int32)), .val (.int (2 : Int32)), .val (.double (dv x1)), .second] [])) (fun X t q => XS.icmpNo X.here C.hx rfl (hb C.hby d2_2) rfl (XT.ii_lt_f (by decide)) q) ?_
  refine Wk.st (g' := (mkF m 6 #[.val (.ref a), .val (.int (2 : Int32)), .val (.int (1 : Int32)), .val (.int (2 : Int32)), .val (.double (dv x1)), .second] [(.int (1 : Int32))])) (fun X t q => XS.iconst X.here C.hx rfl (hb C.hby d2_5) q) ?_
  exact Wk.retV C (t := .boolean) rfl rfl (Or.inl ⟨rfl, by simp, _, rfl⟩) d2_6 (by decide) (by decide) ⟨rfl, rfl⟩
set_option maxRecDepth 65536 in
set_option maxHeartbeats 40000000 in
theorem own_ok_2_1_3 (l : Launch) (Z : State) (a0 : Array Value) (hw : ∀ d ∈ tables_1, d.before a0 Z = true) (n0 : Nat) (h0 : Heap) (a : Addr) (x0 x1 x2 x3 : Int32) (r_x0 : 0 ≤ x0.toInt ∧ x0.toInt < 8) (r_x1 : 0 ≤ x1.toInt ∧ x1.toInt < 8) (r_x2 : 0 ≤ x2.toInt ∧ x2.toInt < 8) (r_x3 : 0 ≤ x3.toInt ∧ x3.toInt < 8) (PA : Fa Z h0 a .double 4 (up (up (up (up (fun _ => (.double (0 : UInt64))) 0 (.double (dv x0))) 1 (.double (dv x1))) 2 (.double (dv x2))) 3 (.double (dv x3)))) :
    Met false l Z n0 (⟨"com/example/understory/understory/ClassifierMostProbablePinLaw", "ok", "([DIIID)Z"⟩ : MethodName) method_3_code 6 (some .boolean) ({ frames := 0, cells := 0, slots := 0, locals := 0 } : Room) #[(.ref a), (.int (2 : Int32)), (.int (1 : Int32)), (.int (3 : Int32)), (.double (dv x1))] h0 (fun v h => v = some (.int 1) ∧ h0 = h) := by
  refine Met.of (plainFor_of_name pn_1) #[.val (.ref a), .val (.int (2 : Int32)), .val (.int (1 : Int32)), .val (.int (3 : Int32)), .val (.double (dv x1)), .second] (fun m => by first | (simp [entryFrame, mkF, argsToLocals, Value.category]; done) | rfl) ?_
  intro p e s m below meth c C
  refine Wk.st (g' := (mkF m 1 #[.val (.ref a), .val (.int (2 : Int32)), .val (.int (1 : Int32)), .val (.int (3 : Int32)), .val (.double (dv x1)), .second] [(.int (3 : Int32))])) (fun X t q => XS.iloadN X.here C.hx rfl (hb C.hby d2_0) rfl q) ?_
  refine Wk.st (g' := (mkF m 2 #[.val (.ref a), .val (.int (2 : Int32)), .val (.int (1 : Int32)), .val (.int (3 : Int32)), .val (.double (dv x1)), .second] [(.int (2 : Int32)), (.int (3 : Int32))])) (fun X t q => XS.iloadN X.here C.hx rfl (hb C.hby d2_1) rfl q) ?_
  refine Wk.st (g' := (mkF m 5 #[.val (.ref a), .val (.int (2 : Int32)), .val (.int (1 : Int32)), .val (.int (3 : Int32)), .val (.double (dv x1)), .second] [])) (fun X t q => XS.icmpNo X.here C.hx rfl (hb C.hby d2_2) rfl (XT.ii_lt_f (by decide)) q) ?_
  refine Wk.st (g' := (mkF m 6 #[.val (.ref a), .val (.int (2 : Int32)), .val (.int (1 : Int32)), .val (.int (3 : Int32)), .val (.double (dv x1)), .second] [(.int (1 : Int32))])) (fun X t q => XS.iconst X.here C.hx rfl (hb C.hby d2_5) q) ?_
  exact Wk.retV C (t := .boolean) rfl rfl (Or.inl ⟨rfl, by simp, _, rfl⟩) d2_6 (by decide) (by decide) ⟨rfl, rfl⟩
set_option maxRecDepth 65536 in
set_option maxHeartbeats 40000000 in
theorem own_ok_3_0_0 (l : Launch) (Z : State) (a0 : Array Value) (hw : ∀ d ∈ tables_1, d.before a0 Z = true) (n0 : Nat) (h0 : Heap) (a : Addr) (x0 x1 x2 x3 : Int32) (r_x0 : 0 ≤ x0.toInt ∧ x0.toInt < 8) (r_x1 : 0 ≤ x1.toInt ∧ x1.toInt < 8) (r_x2 : 0 ≤ x2.toInt ∧ x2.toInt < 8) (r_x3 : 0 ≤ x3.toInt ∧ x3.toInt < 8) (PA : Fa Z h0 a .double 4 (up (up (up (up (fun _ => (.double (0 : UInt64))) 0 (.double (dv x0))) 1 (.double (dv x1))) 2 (.double (dv x2))) 3 (.double (dv x3)))) (hr : x0.toInt ≤ x0.toInt) :
    Met false l Z n0 (⟨"com/example/understory/understory/ClassifierMostProbablePinLaw", "ok", "([DIIID)Z"⟩ : MethodName) method_3_code 6 (some .boolean) ({ frames := 0, cells := 0, slots := 0, locals := 0 } : Room) #[(.ref a), (.int (3 : Int32)), (.int (0 : Int32)), (.int (0 : Int32)), (.double (dv x0))] h0 (fun v h => v = some (.int 1) ∧ h0 = h) := by
  refine Met.of (plainFor_of_name pn_1) #[.val (.ref a), .val (.int (3 : Int32)), .val (.int (0 : Int32)), .val (.int (0 : Int32)), .val (.double (dv x0)), .second] (fun m => by first | (simp [entryFrame, mkF, argsToLocals, Value.category]; done) | rfl) ?_
  intro p e s m below meth c C
  refine Wk.st (g' := (mkF m 1 #[.val (.ref a), .val (.int (3 : Int32)), .val (.int (0 : Int32)), .val (.int (0 : Int32)), .val (.double (dv x0)), .second] [(.int (0 : Int32))])) (fun X t q => XS.iloadN X.here C.hx rfl (hb C.hby d2_0) rfl q) ?_
  refine Wk.st (g' := (mkF m 2 #[.val (.ref a), .val (.int (3 : Int32)), .val (.int (0 : Int32)), .val (.int (0 : Int32)), .val (.double (dv x0)), .second] [(.int (3 : Int32)), (.int (0 : Int32))])) (fun X t q => XS.iloadN X.here C.hx rfl (hb C.hby d2_1) rfl q) ?_
  refine Wk.st (g' := (mkF m 7 #[.val (.ref a), .val (.int (3 : Int32)), .val (.int (0 : Int32)), .val (.int (0 : Int32)), .val (.double (dv x0)), .second] [])) (fun X t q => XS.icmpYes X.here C.hx rfl (pc0 := 2) (pc' := 7) rfl (hb C.hby d2_2) rfl (XT.ii_lt_t (by decide)) (by decide) (by decide) q) ?_
  refine Wk.st (g' := (mkF m 8 #[.val (.ref a), .val (.int (3 : Int32)), .val (.int (0 : Int32)), .val (.int (0 : Int32)), .val (.double (dv x0)), .second] [(.int (0 : Int32))])) (fun X t q => XS.iloadN X.here C.hx rfl (hb C.hby d2_7) rfl q) ?_
  refine Wk.st (g' := (mkF m 9 #[.val (.ref a), .val (.int (3 : Int32)), .val (.int (0 : Int32)), .val (.int (0 : Int32)), .val (.double (dv x0)), .second] [(.int (0 : Int32)), (.int (0 : Int32))])) (fun X t q => XS.iloadN X.here C.hx rfl (hb C.hby d2_8) rfl q) ?_
  refine Wk.st (g' := (mkF m 27 #[.val (.ref a), .val (.int (3 : Int32)), .val (.int (0 : Int32)), .val (.int (0 : Int32)), .val (.double (dv x0)), .second] [])) (fun X t q => XS.icmpYes X.here C.hx rfl (pc0 := 9) (pc' := 27) rfl (hb C.hby d2_9) rfl (XT.ii_ge_t (by decide)) (by decide) (by decide) q) ?_
  refine Wk.st (g' := (mkF m 28 #[.val (.ref a), .val (.int (3 : Int32)), .val (.int (0 : Int32)), .val (.int (0 : Int32)), .val (.double (dv x0)), .second] [(.ref a)])) (fun X t q => XS.aloadN X.here C.hx rfl (hb C.hby d2_27) rfl rfl q) ?_
  refine Wk.st (g' := (mkF m 29 #[.val (.ref a), .val (.int (3 : Int32)), .val (.int (0 : Int32)), .val (.int (0 : Int32)), .val (.double (dv x0)), .second] [(.int (0 : Int32)), (.ref a)])) (fun X t q => XS.iloadN X.here C.hx rfl (hb C.hby d2_28) rfl q) ?_
  refine Wk.fLdD C PA (i := 0) (by decide) (by decide) (by decide) (v := (.double (dv x0))) (by simp [up]) d2_29 ?_
  show Wk _ p l e _ s m _ below meth c n0 _ h0 0 0 (mkF m 30 #[.val (.ref a), .val (.int (3 : Int32)), .val (.int (0 : Int32)), .val (.int (0 : Int32)), .val (.double (dv x0)), .second] [(.double (dv x0))])
  refine Wk.st (g' := (mkF m 32 #[.val (.ref a), .val (.int (3 : Int32)), .val (.int (0 : Int32)), .val (.int (0 : Int32)), .val (.double (dv x0)), .second] [(.double (dv x0)), (.double (dv x0))])) (fun X t q => XS.dload X.here C.hx rfl (hb C.hby d2_30) rfl q) ?_
  refine Wk.st (g' := (mkF m 33 #[.val (.ref a), .val (.int (3 : Int32)), .val (.int (0 : Int32)), .val (.int (0 : Int32)), .val (.double (dv x0)), .second] [(.int (cv x0 x0))])) (fun X t q => XS.dcmpS X.here C.hx rfl (hb C.hby d2_32) rfl (cmp_g r_x0 r_x0) q) ?_
  refine Wk.st (g' := (mkF m 36 #[.val (.ref a), .val (.int (3 : Int32)), .val (.int (0 : Int32)), .val (.int (0 : Int32)), .val (.double (dv x0)), .second] [])) (fun X t q => XS.ifNo X.here C.hx rfl (hb C.hby d2_33) rfl (XT.i0_gt_f (fun q => absurd (cv_pos.mp q) (by omega))) q) ?_
  refine Wk.st (g' := (mkF m 37 #[.val (.ref a), .val (.int (3 : Int32)), .val (.int (0 : Int32)), .val (.int (0 : Int32)), .val (.double (dv x0)), .second] [(.int (1 : Int32))])) (fun X t q => XS.iconst X.here C.hx rfl (hb C.hby d2_36) q) ?_
  refine Wk.st (g' := (mkF m 41 #[.val (.ref a), .val (.int (3 : Int32)), .val (.int (0 : Int32)), .val (.int (0 : Int32)), .val (.double (dv x0)), .second] [(.int (1 : Int32))])) (fun X t q => XS.goto X.here C.hx rfl (pc0 := 37) (pc' := 41) rfl (hb C.hby d2_37) (by decide) (by decide) q) ?_
  exact Wk.retV C (t := .boolean) rfl rfl (Or.inl ⟨rfl, by simp, _, rfl⟩) d2_41 (by decide) (by decide) ⟨rfl, rfl⟩
set_option maxRecDepth 65536 in
set_option maxHeartbeats 40000000 in
theorem own_ok_3_0_1 (l : Launch) (Z : State) (a0 : Array Value) (hw : ∀ d ∈ tables_1, d.before a0 Z = true) (n0 : Nat) (h0 : Heap) (a : Addr) (x0 x1 x2 x3 : Int32) (r_x0 : 0 ≤ x0.toInt ∧ x0.toInt < 8) (r_x1 : 0 ≤ x1.toInt ∧ x1.toInt < 8) (r_x2 : 0 ≤ x2.toInt ∧ x2.toInt < 8) (r_x3 : 0 ≤ x3.toInt ∧ x3.toInt < 8) (PA : Fa Z h0 a .double 4 (up (up (up (up (fun _ => (.double (0 : UInt64))) 0 (.double (dv x0))) 1 (.double (dv x1))) 2 (.double (dv x2))) 3 (.double (dv x3)))) (hr : x1.toInt ≤ x0.toInt) :
    Met false l Z n0 (⟨"com/example/understory/understory/ClassifierMostProbablePinLaw", "ok", "([DIIID)Z"⟩ : MethodName) method_3_code 6 (some .boolean) ({ frames := 0, cells := 0, slots := 0, locals := 0 } : Room) #[(.ref a), (.int (3 : Int32)), (.int (0 : Int32)), (.int (1 : Int32)), (.double (dv x0))] h0 (fun v h => v = some (.int 1) ∧ h0 = h) := by
  refine Met.of (plainFor_of_name pn_1) #[.val (.ref a), .val (.int (3 : Int32)), .val (.int (0 : Int32)), .val (.int (1 : Int32)), .val (.double (dv x0)), .second] (fun m => by first | (simp [entryFrame, mkF, argsToLocals, Value.category]; done) | rfl) ?_
  intro p e s m below meth c C
  refine Wk.st (g' := (mkF m 1 #[.val (.ref a), .val (.int (3 : Int32)), .val (.int (0 : Int32)), .val (.int (1 : Int32)), .val (.double (dv x0)), .second] [(.int (1 : Int32))])) (fun X t q => XS.iloadN X.here C.hx rfl (hb C.hby d2_0) rfl q) ?_
  refine Wk.st (g' := (mkF m 2 #[.val (.ref a), .val (.int (3 : Int32)), .val (.int (0 : Int32)), .val (.int (1 : Int32)), .val (.double (dv x0)), .second] [(.int (3 : Int32)), (.int (1 : Int32))])) (fun X t q => XS.iloadN X.here C.hx rfl (hb C.hby d2_1) rfl q) ?_
  refine Wk.st (g' := (mkF m 7 #[.val (.ref a), .val (.int (3 : Int32)), .val (.int (0 : Int32)), .val (.int (1 : Int32)), .val (.double (dv x0)), .second] [])) (fun X t q => XS.icmpYes X.here C.hx rfl (pc0 := 2) (pc' := 7) rfl (hb C.hby d2_2) rfl (XT.ii_lt_t (by decide)) (by decide) (by decide) q) ?_
  refine Wk.st (g' := (mkF m 8 #[.val (.ref a), .val (.int (3 : Int32)), .val (.int (0 : Int32)), .val (.int (1 : Int32)), .val (.double (dv x0)), .second] [(.int (1 : Int32))])) (fun X t q => XS.iloadN X.here C.hx rfl (hb C.hby d2_7) rfl q) ?_
  refine Wk.st (g' := (mkF m 9 #[.val (.ref a), .val (.int (3 : Int32)), .val (.int (0 : Int32)), .val (.int (1 : Int32)), .val (.double (dv x0)), .second] [(.int (0 : Int32)), (.int (1 : Int32))])) (fun X t q => XS.iloadN X.here C.hx rfl (hb C.hby d2_8) rfl q) ?_
  refine Wk.st (g' := (mkF m 27 #[.val (.ref a), .val (.int (3 : Int32)), .val (.int (0 : Int32)), .val (.int (1 : Int32)), .val (.double (dv x0)), .second] [])) (fun X t q => XS.icmpYes X.here C.hx rfl (pc0 := 9) (pc' := 27) rfl (hb C.hby d2_9) rfl (XT.ii_ge_t (by decide)) (by decide) (by decide) q) ?_
  refine Wk.st (g' := (mkF m 28 #[.val (.ref a), .val (.int (3 : Int32)), .val (.int (0 : Int32)), .val (.int (1 : Int32)), .val (.double (dv x0)), .second] [(.ref a)])) (fun X t q => XS.aloadN X.here C.hx rfl (hb C.hby d2_27) rfl rfl q) ?_
  refine Wk.st (g' := (mkF m 29 #[.val (.ref a), .val (.int (3 : Int32)), .val (.int (0 : Int32)), .val (.int (1 : Int32)), .val (.double (dv x0)), .second] [(.int (1 : Int32)), (.ref a)])) (fun X t q => XS.iloadN X.here C.hx rfl (hb C.hby d2_28) rfl q) ?_
  refine Wk.fLdD C PA (i := 1) (by decide) (by decide) (by decide) (v := (.double (dv x1))) (by simp [up]) d2_29 ?_
  show Wk _ p l e _ s m _ below meth c n0 _ h0 0 0 (mkF m 30 #[.val (.ref a), .val (.int (3 : Int32)), .val (.int (0 : Int32)), .val (.int (1 : Int32)), .val (.double (dv x0)), .second] [(.double (dv x1))])
  refine Wk.st (g' := (mkF m 32 #[.val (.ref a), .val (.int (3 : Int32)), .val (.int (0 : Int32)), .val (.int (1 : Int32)), .val (.double (dv x0)), .second] [(.double (dv x0)), (.double (dv x1))])) (fun X t q => XS.dload X.here C.hx rfl (hb C.hby d2_30) rfl q) ?_
  refine Wk.st (g' := (mkF m 33 #[.val (.ref a), .val (.int (3 : Int32)), .val (.int (0 : Int32)), .val (.int (1 : Int32)), .val (.double (dv x0)), .second] [(.int (cv x1 x0))])) (fun X t q => XS.dcmpS X.here C.hx rfl (hb C.hby d2_32) rfl (cmp_g r_x1 r_x0) q) ?_
  refine Wk.st (g' := (mkF m 36 #[.val (.ref a), .val (.int (3 : Int32)), .val (.int (0 : Int32)), .val (.int (1 : Int32)), .val (.double (dv x0)), .second] [])) (fun X t q => XS.ifNo X.here C.hx rfl (hb C.hby d2_33) rfl (XT.i0_gt_f (fun q => absurd (cv_pos.mp q) (by omega))) q) ?_
  refine Wk.st (g' := (mkF m 37 #[.val (.ref a), .val (.int (3 : Int32)), .val (.int (0 : Int32)), .val (.int (1 : Int32)), .val (.double (dv x0)), .second] [(.int (1 : Int32))])) (fun X t q => XS.iconst X.here C.hx rfl (hb C.hby d2_36) q) ?_
  refine Wk.st (g' := (mkF m 41 #[.val (.ref a), .val (.int (3 : Int32)), .val (.int (0 : Int32)), .val (.int (1 : Int32)), .val (.double (dv x0)), .second] [(.int (1 : Int32))])) (fun X t q => XS.goto X.here C.hx rfl (pc0 := 37) (pc' := 41) rfl (hb C.hby d2_37) (by decide) (by decide) q) ?_
  exact Wk.retV C (t := .boolean) rfl rfl (Or.inl ⟨rfl, by simp, _, rfl⟩) d2_41 (by decide) (by decide) ⟨rfl, rfl⟩
set_option maxRecDepth 65536 in
set_option maxHeartbeats 40000000 in
theorem own_ok_3_0_2 (l : Launch) (Z : State) (a0 : Array Value) (hw : ∀ d ∈ tables_1, d.before a0 Z = true) (n0 : Nat) (h0 : Heap) (a : Addr) (x0 x1 x2 x3 : Int32) (r_x0 : 0 ≤ x0.toInt ∧ x0.toInt < 8) (r_x1 : 0 ≤ x1.toInt ∧ x1.toInt < 8) (r_x2 : 0 ≤ x2.toInt ∧ x2.toInt < 8) (r_x3 : 0 ≤ x3.toInt ∧ x3.toInt < 8) (PA : Fa Z h0 a .double 4 (up (up (up (up (fun _ => (.double (0 : UInt64))) 0 (.double (dv x0))) 1 (.double (dv x1))) 2 (.double (dv x2))) 3 (.double (dv x3)))) (hr : x2.toInt ≤ x0.toInt) :
    Met false l Z n0 (⟨"com/example/understory/understory/ClassifierMostProbablePinLaw", "ok", "([DIIID)Z"⟩ : MethodName) method_3_code 6 (some .boolean) ({ frames := 0, cells := 0, slots := 0, locals := 0 } : Room) #[(.ref a), (.int (3 : Int32)), (.int (0 : Int32)), (.int (2 : Int32)), (.double (dv x0))] h0 (fun v h => v = some (.int 1) ∧ h0 = h) := by
  refine Met.of (plainFor_of_name pn_1) #[.val (.ref a), .val (.int (3 : Int32)), .val (.int (0 : Int32)), .val (.int (2 : Int32)), .val (.double (dv x0)), .second] (fun m => by first | (simp [entryFrame, mkF, argsToLocals, Value.category]; done) | rfl) ?_
  intro p e s m below meth c C
  refine Wk.st (g' := (mkF m 1 #[.val (.ref a), .val (.int (3 : Int32)), .val (.int (0 : Int32)), .val (.int (2 : Int32)), .val (.double (dv x0)), .second] [(.int (2 : Int32))])) (fun X t q => XS.iloadN X.here C.hx rfl (hb C.hby d2_0) rfl q) ?_
  refine Wk.st (g' := (mkF m 2 #[.val (.ref a), .val (.int (3 : Int32)), .val (.int (0 : Int32)), .val (.int (2 : Int32)), .val (.double (dv x0)), .second] [(.int (3 : Int32)), (.int (2 : Int32))])) (fun X t q => XS.iloadN X.here C.hx rfl (hb C.hby d2_1) rfl q) ?_
  refine Wk.st (g' := (mkF m 7 #[.val (.ref a), .val (.int (3 : Int32)), .val (.int (0 : Int32)), .val (.int (2 : Int32)), .val (.double (dv x0)), .second] [])) (fun X t q => XS.icmpYes X.here C.hx rfl (pc0 := 2) (pc' := 7) rfl (hb C.hby d2_2) rfl (XT.ii_lt_t (by decide)) (by decide) (by decide) q) ?_
  refine Wk.st (g' := (mkF m 8 #[.val (.ref a), .val (.int (3 : Int32)), .val (.int (0 : Int32)), .val (.int (2 : Int32)), .val (.double (dv x0)), .second] [(.int (2 : Int32))])) (fun X t q => XS.iloadN X.here C.hx rfl (hb C.hby d2_7) rfl q) ?_
  refine Wk.st (g' := (mkF m 9 #[.val (.ref a), .val (.int (3 : Int32)), .val (.int (0 : Int32)), .val (.int (2 : Int32)), .val (.double (dv x0)), .second] [(.int (0 : Int32)), (.int (2 : Int32))])) (fun X t q => XS.iloadN X.here C.hx rfl (hb C.hby d2_8) rfl q) ?_
  refine Wk.st (g' := (mkF m 27 #[.val (.ref a), .val (.int (3 : Int32)), .val (.int (0 : Int32)), .val (.int (2 : Int32)), .val (.double (dv x0)), .second] [])) (fun X t q => XS.icmpYes X.here C.hx rfl (pc0 := 9) (pc' := 27) rfl (hb C.hby d2_9) rfl (XT.ii_ge_t (by decide)) (by decide) (by decide) q) ?_
  refine Wk.st (g' := (mkF m 28 #[.val (.ref a), .val (.int (3 : Int32)), .val (.int (0 : Int32)), .val (.int (2 : Int32)), .val (.double (dv x0)), .second] [(.ref a)])) (fun X t q => XS.aloadN X.here C.hx rfl (hb C.hby d2_27) rfl rfl q) ?_
  refine Wk.st (g' := (mkF m 29 #[.val (.ref a), .val (.int (3 : Int32)), .val (.int (0 : Int32)), .val (.int (2 : Int32)), .val (.double (dv x0)), .second] [(.int (2 : Int32)), (.ref a)])) (fun X t q => XS.iloadN X.here C.hx rfl (hb C.hby d2_28) rfl q) ?_
  refine Wk.fLdD C PA (i := 2) (by decide) (by decide) (by decide) (v := (.double (dv x2))) (by simp [up]) d2_29 ?_
  show Wk _ p l e _ s m _ below meth c n0 _ h0 0 0 (mkF m 30 #[.val (.ref a), .val (.int (3 : Int32)), .val (.int (0 : Int32)), .val (.int (2 : Int32)), .val (.double (dv x0)), .second] [(.double (dv x2))])
  refine Wk.st (g' := (mkF m 32 #[.val (.ref a), .val (.int (3 : Int32)), .val (.int (0 : Int32)), .val (.int (2 : Int32)), .val (.double (dv x0)), .second] [(.double (dv x0)), (.double (dv x2))])) (fun X t q => XS.dload X.here C.hx rfl (hb C.hby d2_30) rfl q) ?_
  refine Wk.st (g' := (mkF m 33 #[.val (.ref a), .val (.int (3 : Int32)), .val (.int (0 : Int32)), .val (.int (2 : Int32)), .val (.double (dv x0)), .second] [(.int (cv x2 x0))])) (fun X t q => XS.dcmpS X.here C.hx rfl (hb C.hby d2_32) rfl (cmp_g r_x2 r_x0) q) ?_
  refine Wk.st (g' := (mkF m 36 #[.val (.ref a), .val (.int (3 : Int32)), .val (.int (0 : Int32)), .val (.int (2 : Int32)), .val (.double (dv x0)), .second] [])) (fun X t q => XS.ifNo X.here C.hx rfl (hb C.hby d2_33) rfl (XT.i0_gt_f (fun q => absurd (cv_pos.mp q) (by omega))) q) ?_
  refine Wk.st (g' := (mkF m 37 #[.val (.ref a), .val (.int (3 : Int32)), .val (.int (0 : Int32)), .val (.int (2 : Int32)), .val (.double (dv x0)), .second] [(.int (1 : Int32))])) (fun X t q => XS.iconst X.here C.hx rfl (hb C.hby d2_36) q) ?_
  refine Wk.st (g' := (mkF m 41 #[.val (.ref a), .val (.int (3 : Int32)), .val (.int (0 : Int32)), .val (.int (2 : Int32)), .val (.double (dv x0)), .second] [(.int (1 : Int32))])) (fun X t q => XS.goto X.here C.hx rfl (pc0 := 37) (pc' := 41) rfl (hb C.hby d2_37) (by decide) (by decide) q) ?_
  exact Wk.retV C (t := .boolean) rfl rfl (Or.inl ⟨rfl, by simp, _, rfl⟩) d2_41 (by decide) (by decide) ⟨rfl, rfl⟩
set_option maxRecDepth 65536 in
set_option maxHeartbeats 40000000 in
theorem own_ok_3_0_3 (l : Launch) (Z : State) (a0 : Array Value) (hw : ∀ d ∈ tables_1, d.before a0 Z = true) (n0 : Nat) (h0 : Heap) (a : Addr) (x0 x1 x2 x3 : Int32) (r_x0 : 0 ≤ x0.toInt ∧ x0.toInt < 8) (r_x1 : 0 ≤ x1.toInt ∧ x1.toInt < 8) (r_x2 : 0 ≤ x2.toInt ∧ x2.toInt < 8) (r_x3 : 0 ≤ x3.toInt ∧ x3.toInt < 8) (PA : Fa Z h0 a .double 4 (up (up (up (up (fun _ => (.double (0 : UInt64))) 0 (.double (dv x0))) 1 (.double (dv x1))) 2 (.double (dv x2))) 3 (.double (dv x3)))) :
    Met false l Z n0 (⟨"com/example/understory/understory/ClassifierMostProbablePinLaw", "ok", "([DIIID)Z"⟩ : MethodName) method_3_code 6 (some .boolean) ({ frames := 0, cells := 0, slots := 0, locals := 0 } : Room) #[(.ref a), (.int (3 : Int32)), (.int (0 : Int32)), (.int (3 : Int32)), (.double (dv x0))] h0 (fun v h => v = some (.int 1) ∧ h0 = h) := by
  refine Met.of (plainFor_of_name pn_1) #[.val (.ref a), .val (.int (3 : Int32)), .val (.int (0 : Int32)), .val (.int (3 : Int32)), .val (.double (dv x0)), .second] (fun m => by first | (simp [entryFrame, mkF, argsToLocals, Value.category]; done) | rfl) ?_
  intro p e s m below meth c C
  refine Wk.st (g' := (mkF m 1 #[.val (.ref a), .val (.int (3 : Int32)), .val (.int (0 : Int32)), .val (.int (3 : Int32)), .val (.double (dv x0)), .second] [(.int (3 : Int32))])) (fun X t q => XS.iloadN X.here C.hx rfl (hb C.hby d2_0) rfl q) ?_
  refine Wk.st (g' := (mkF m 2 #[.val (.ref a), .val (.int (3 : Int32)), .val (.int (0 : Int32)), .val (.int (3 : Int32)), .val (.double (dv x0)), .second] [(.int (3 : Int32)), (.int (3 : Int32))])) (fun X t q => XS.iloadN X.here C.hx rfl (hb C.hby d2_1) rfl q) ?_
  refine Wk.st (g' := (mkF m 5 #[.val (.ref a), .val (.int (3 : Int32)), .val (.int (0 : Int32)), .val (.int (3 : Int32)), .val (.double (dv x0)), .second] [])) (fun X t q => XS.icmpNo X.here C.hx rfl (hb C.hby d2_2) rfl (XT.ii_lt_f (by decide)) q) ?_
  refine Wk.st (g' := (mkF m 6 #[.val (.ref a), .val (.int (3 : Int32)), .val (.int (0 : Int32)), .val (.int (3 : Int32)), .val (.double (dv x0)), .second] [(.int (1 : Int32))])) (fun X t q => XS.iconst X.here C.hx rfl (hb C.hby d2_5) q) ?_
  exact Wk.retV C (t := .boolean) rfl rfl (Or.inl ⟨rfl, by simp, _, rfl⟩) d2_6 (by decide) (by decide) ⟨rfl, rfl⟩
set_option maxRecDepth 65536 in
set_option maxHeartbeats 40000000 in
theorem own_ok_3_1_0 (l : Launch) (Z : State) (a0 : Array Value) (hw : ∀ d ∈ tables_1, d.before a0 Z = true) (n0 : Nat) (h0 : Heap) (a : Addr) (x0 x1 x2 x3 : Int32) (r_x0 : 0 ≤ x0.toInt ∧ x0.toInt < 8) (r_x1 : 0 ≤ x1.toInt ∧ x1.toInt < 8) (r_x2 : 0 ≤ x2.toInt ∧ x2.toInt < 8) (r_x3 : 0 ≤ x3.toInt ∧ x3.toInt < 8) (PA : Fa Z h0 a .double 4 (up (up (up (up (fun _ => (.double (0 : UInt64))) 0 (.double (dv x0))) 1 (.double (dv x1))) 2 (.double (dv x2))) 3 (.double (dv x3)))) (hr : x0.toInt < x1.toInt) :
    Met false l Z n0 (⟨"com/example/understory/understory/ClassifierMostProbablePinLaw", "ok", "([DIIID)Z"⟩ : MethodName) method_3_code 6 (some .boolean) ({ frames := 0, cells := 0, slots := 0, locals := 0 } : Room) #[(.ref a), (.int (3 : Int32)), (.int (1 : Int32)), (.int (0 : Int32)), (.double (dv x1))] h0 (fun v h => v = some (.int 1) ∧ h0 = h) := by
  refine Met.of (plainFor_of_name pn_1) #[.val (.ref a), .val (.int (3 : Int32)), .val (.int (1 : Int32)), .val (.int (0 : Int32)), .val (.double (dv x1)), .second] (fun m => by first | (simp [entryFrame, mkF, argsToLocals, Value.category]; done) | rfl) ?_
  intro p e s m below meth c C
  refine Wk.st (g' := (mkF m 1 #[.val (.ref a), .val (.int (3 : Int32)), .val (.int (1 : Int32)), .val (.int (0 : Int32)), .val (.double (dv x1)), .second] [(.int (0 : Int32))])) (fun X t q => XS.iloadN X.here C.hx rfl (hb C.hby d2_0) rfl q) ?_
  refine Wk.st (g' := (mkF m 2 #[.val (.ref a), .val (.int (3 : Int32)), .val (.int (1 : Int32)), .val (.int (0 : Int32)), .val (.double (dv x1)), .second] [(.int (3 : Int32)), (.int (0 : Int32))])) (fun X t q => XS.iloadN X.here C.hx rfl (hb C.hby d2_1) rfl q) ?_
  refine Wk.st (g' := (mkF m 7 #[.val (.ref a), .val (.int (3 : Int32)), .val (.int (1 : Int32)), .val (.int (0 : Int32)), .val (.double (dv x1)), .second] [])) (fun X t q => XS.icmpYes X.here C.hx rfl (pc0 := 2) (pc' := 7) rfl (hb C.hby d2_2) rfl (XT.ii_lt_t (by decide)) (by decide) (by decide) q) ?_
  refine Wk.st (g' := (mkF m 8 #[.val (.ref a), .val (.int (3 : Int32)), .val (.int (1 : Int32)), .val (.int (0 : Int32)), .val (.double (dv x1)), .second] [(.int (0 : Int32))])) (fun X t q => XS.iloadN X.here C.hx rfl (hb C.hby d2_7) rfl q) ?_
  refine Wk.st (g' := (mkF m 9 #[.val (.ref a), .val (.int (3 : Int32)), .val (.int (1 : Int32)), .val (.int (0 : Int32)), .val (.double (dv x1)), .second] [(.int (1 : Int32)), (.int (0 : Int32))])) (fun X t q => XS.iloadN X.here C.hx rfl (hb C.hby d2_8) rfl q) ?_
  refine Wk.st (g' := (mkF m 12 #[.val (.ref a), .val (.int (3 : Int32)), .val (.int (1 : Int32)), .val (.int (0 : Int32)), .val (.double (dv x1)), .second] [])) (fun X t q => XS.icmpNo X.here C.hx rfl (hb C.hby d2_9) rfl (XT.ii_ge_f (by decide)) q) ?_
  refine Wk.st (g' := (mkF m 13 #[.val (.ref a), .val (.int (3 : Int32)), .val (.int (1 : Int32)), .val (.int (0 : Int32)), .val (.double (dv x1)), .second] [(.ref a)])) (fun X t q => XS.aloadN X.here C.hx rfl (hb C.hby d2_12) rfl rfl q) ?_
  refine Wk.st (g' := (mkF m 14 #[.val (.ref a), .val (.int (3 : Int32)), .val (.int (1 : Int32)), .val (.int (0 : Int32)), .val (.double (dv x1)), .second] [(.int (0 : Int32)), (.ref a)])) (fun X t q => XS.iloadN X.here C.hx rfl (hb C.hby d2_13) rfl q) ?_
  refine Wk.fLdD C PA (i := 0) (by decide) (by decide) (by decide) (v := (.double (dv x0))) (by simp [up]) d2_14 ?_
  show Wk _ p l e _ s m _ below meth c n0 _ h0 0 0 (mkF m 15 #[.val (.ref a), .val (.int (3 : Int32)), .val (.int (1 : Int32)), .val (.int (0 : Int32)), .val (.double (dv x1)), .second] [(.double (dv x0))])
  refine Wk.st (g' := (mkF m 17 #[.val (.ref a), .val (.int (3 : Int32)), .val (.int (1 : Int32)), .val (.int (0 : Int32)), .val (.double (dv x1)), .second] [(.double (dv x1)), (.double (dv x0))])) (fun X t q => XS.dload X.here C.hx rfl (hb C.hby d2_15) rfl q) ?_
  refine Wk.st (g' := (mkF m 18 #[.val (.ref a), .val (.int (3 : Int32)), .val (.int (1 : Int32)), .val (.int (0 : Int32)), .val (.double (dv x1)), .second] [(.int (cv x0 x1))])) (fun X t q => XS.dcmpS X.here C.hx rfl (hb C.hby d2_17) rfl (cmp_g r_x0 r_x1) q) ?_
  refine Wk.st (g' := (mkF m 21 #[.val (.ref a), .val (.int (3 : Int32)), .val (.int (1 : Int32)), .val (.int (0 : Int32)), .val (.double (dv x1)), .second] [])) (fun X t q => XS.ifNo X.here C.hx rfl (hb C.hby d2_18) rfl (XT.i0_ge_f (cv_neg.mpr hr)) q) ?_
  refine Wk.st (g' := (mkF m 22 #[.val (.ref a), .val (.int (3 : Int32)), .val (.int (1 : Int32)), .val (.int (0 : Int32)), .val (.double (dv x1)), .second] [(.int (1 : Int32))])) (fun X t q => XS.iconst X.here C.hx rfl (hb C.hby d2_21) q) ?_
  refine Wk.st (g' := (mkF m 26 #[.val (.ref a), .val (.int (3 : Int32)), .val (.int (1 : Int32)), .val (.int (0 : Int32)), .val (.double (dv x1)), .second] [(.int (1 : Int32))])) (fun X t q => XS.goto X.here C.hx rfl (pc0 := 22) (pc' := 26) rfl (hb C.hby d2_22) (by decide) (by decide) q) ?_
  exact Wk.retV C (t := .boolean) rfl rfl (Or.inl ⟨rfl, by simp, _, rfl⟩) d2_26 (by decide) (by decide) ⟨rfl, rfl⟩
set_option maxRecDepth 65536 in
set_option maxHeartbeats 40000000 in
theorem own_ok_3_1_1 (l : Launch) (Z : State) (a0 : Array Value) (hw : ∀ d ∈ tables_1, d.before a0 Z = true) (n0 : Nat) (h0 : Heap) (a : Addr) (x0 x1 x2 x3 : Int32) (r_x0 : 0 ≤ x0.toInt ∧ x0.toInt < 8) (r_x1 : 0 ≤ x1.toInt ∧ x1.toInt < 8) (r_x2 : 0 ≤ x2.toInt ∧ x2.toInt < 8) (r_x3 : 0 ≤ x3.toInt ∧ x3.toInt < 8) (PA : Fa Z h0 a .double 4 (up (up (up (up (fun _ => (.double (0 : UInt64))) 0 (.double (dv x0))) 1 (.double (dv x1))) 2 (.double (dv x2))) 3 (.double (dv x3)))) (hr : x1.toInt ≤ x1.toInt) :
    Met false l Z n0 (⟨"com/example/understory/understory/ClassifierMostProbablePinLaw", "ok", "([DIIID)Z"⟩ : MethodName) method_3_code 6 (some .boolean) ({ frames := 0, cells := 0, slots := 0, locals := 0 } : Room) #[(.ref a), (.int (3 : Int32)), (.int (1 : Int32)), (.int (1 : Int32)), (.double (dv x1))] h0 (fun v h => v = some (.int 1) ∧ h0 = h) := by
  refine Met.of (plainFor_of_name pn_1) #[.val (.ref a), .val (.int (3 : Int32)), .val (.int (1 : Int32)), .val (.int (1 : Int32)), .val (.double (dv x1)), .second] (fun m => by first | (simp [entryFrame, mkF, argsToLocals, Value.category]; done) | rfl) ?_
  intro p e s m below meth c C
  refine Wk.st (g' := (mkF m 1 #[.val (.ref a), .val (.int (3 : Int32)), .val (.int (1 : Int32)), .val (.int (1 : Int32)), .val (.double (dv x1)), .second] [(.int (1 : Int32))])) (fun X t q => XS.iloadN X.here C.hx rfl (hb C.hby d2_0) rfl q) ?_
  refine Wk.st (g' := (mkF m 2 #[.val (.ref a), .val (.int (3 : Int32)), .val (.int (1 : Int32)), .val (.int (1 : Int32)), .val (.double (dv x1)), .second] [(.int (3 : Int32)), (.int (1 : Int32))])) (fun X t q => XS.iloadN X.here C.hx rfl (hb C.hby d2_1) rfl q) ?_
  refine Wk.st (g' := (mkF m 7 #[.val (.ref a), .val (.int (3 : Int32)), .val (.int (1 : Int32)), .val (.int (1 : Int32)), .val (.double (dv x1)), .second] [])) (fun X t q => XS.icmpYes X.here C.hx rfl (pc0 := 2) (pc' := 7) rfl (hb C.hby d2_2) rfl (XT.ii_lt_t (by decide)) (by decide) (by decide) q) ?_
  refine Wk.st (g' := (mkF m 8 #[.val (.ref a), .val (.int (3 : Int32)), .val (.int (1 : Int32)), .val (.int (1 : Int32)), .val (.double (dv x1)), .second] [(.int (1 : Int32))])) (fun X t q => XS.iloadN X.here C.hx rfl (hb C.hby d2_7) rfl q) ?_
  refine Wk.st (g' := (mkF m 9 #[.val (.ref a), .val (.int (3 : Int32)), .val (.int (1 : Int32)), .val (.int (1 : Int32)), .val (.double (dv x1)), .second] [(.int (1 : Int32)), (.int (1 : Int32))])) (fun X t q => XS.iloadN X.here C.hx rfl (hb C.hby d2_8) rfl q) ?_
  refine Wk.st (g' := (mkF m 27 #[.val (.ref a), .val (.int (3 : Int32)), .val (.int (1 : Int32)), .val (.int (1 : Int32)), .val (.double (dv x1)), .second] [])) (fun X t q => XS.icmpYes X.here C.hx rfl (pc0 := 9) (pc' := 27) rfl (hb C.hby d2_9) rfl (XT.ii_ge_t (by decide)) (by decide) (by decide) q) ?_
  refine Wk.st (g' := (mkF m 28 #[.val (.ref a), .val (.int (3 : Int32)), .val (.int (1 : Int32)), .val (.int (1 : Int32)), .val (.double (dv x1)), .second] [(.ref a)])) (fun X t q => XS.aloadN X.here C.hx rfl (hb C.hby d2_27) rfl rfl q) ?_
  refine Wk.st (g' := (mkF m 29 #[.val (.ref a), .val (.int (3 : Int32)), .val (.int (1 : Int32)), .val (.int (1 : Int32)), .val (.double (dv x1)), .second] [(.int (1 : Int32)), (.ref a)])) (fun X t q => XS.iloadN X.here C.hx rfl (hb C.hby d2_28) rfl q) ?_
  refine Wk.fLdD C PA (i := 1) (by decide) (by decide) (by decide) (v := (.double (dv x1))) (by simp [up]) d2_29 ?_
  show Wk _ p l e _ s m _ below meth c n0 _ h0 0 0 (mkF m 30 #[.val (.ref a), .val (.int (3 : Int32)), .val (.int (1 : Int32)), .val (.int (1 : Int32)), .val (.double (dv x1)), .second] [(.double (dv x1))])
  refine Wk.st (g' := (mkF m 32 #[.val (.ref a), .val (.int (3 : Int32)), .val (.int (1 : Int32)), .val (.int (1 : Int32)), .val (.double (dv x1)), .second] [(.double (dv x1)), (.double (dv x1))])) (fun X t q => XS.dload X.here C.hx rfl (hb C.hby d2_30) rfl q) ?_
  refine Wk.st (g' := (mkF m 33 #[.val (.ref a), .val (.int (3 : Int32)), .val (.int (1 : Int32)), .val (.int (1 : Int32)), .val (.double (dv x1)), .second] [(.int (cv x1 x1))])) (fun X t q => XS.dcmpS X.here C.hx rfl (hb C.hby d2_32) rfl (cmp_g r_x1 r_x1) q) ?_
  refine Wk.st (g' := (mkF m 36 #[.val (.ref a), .val (.int (3 : Int32)), .val (.int (1 : Int32)), .val (.int (1 : Int32)), .val (.double (dv x1)), .second] [])) (fun X t q => XS.ifNo X.here C.hx rfl (hb C.hby d2_33) rfl (XT.i0_gt_f (fun q => absurd (cv_pos.mp q) (by omega))) q) ?_
  refine Wk.st (g' := (mkF m 37 #[.val (.ref a), .val (.int (3 : Int32)), .val (.int (1 : Int32)), .val (.int (1 : Int32)), .val (.double (dv x1)), .second] [(.int (1 : Int32))])) (fun X t q => XS.iconst X.here C.hx rfl (hb C.hby d2_36) q) ?_
  refine Wk.st (g' := (mkF m 41 #[.val (.ref a), .val (.int (3 : Int32)), .val (.int (1 : Int32)), .val (.int (1 : Int32)), .val (.double (dv x1)), .second] [(.int (1 : Int32))])) (fun X t q => XS.goto X.here C.hx rfl (pc0 := 37) (pc' := 41) rfl (hb C.hby d2_37) (by decide) (by decide) q) ?_
  exact Wk.retV C (t := .boolean) rfl rfl (Or.inl ⟨rfl, by simp, _, rfl⟩) d2_41 (by decide) (by decide) ⟨rfl, rfl⟩
set_option maxRecDepth 65536 in
set_option maxHeartbeats 40000000 in
theorem own_ok_3_1_2 (l : Launch) (Z : State) (a0 : Array Value) (hw : ∀ d ∈ tables_1, d.before a0 Z = true) (n0 : Nat) (h0 : Heap) (a : Addr) (x0 x1 x2 x3 : Int32) (r_x0 : 0 ≤ x0.toInt ∧ x0.toInt < 8) (r_x1 : 0 ≤ x1.toInt ∧ x1.toInt < 8) (r_x2 : 0 ≤ x2.toInt ∧ x2.toInt < 8) (r_x3 : 0 ≤ x3.toInt ∧ x3.toInt < 8) (PA : Fa Z h0 a .double 4 (up (up (up (up (fun _ => (.double (0 : UInt64))) 0 (.double (dv x0))) 1 (.double (dv x1))) 2 (.double (dv x2))) 3 (.double (dv x3)))) (hr : x2.toInt ≤ x1.toInt) :
    Met false l Z n0 (⟨"com/example/understory/understory/ClassifierMostProbablePinLaw", "ok", "([DIIID)Z"⟩ : MethodName) method_3_code 6 (some .boolean) ({ frames := 0, cells := 0, slots := 0, locals := 0 } : Room) #[(.ref a), (.int (3 : Int32)), (.int (1 : Int32)), (.int (2 : Int32)), (.double (dv x1))] h0 (fun v h => v = some (.int 1) ∧ h0 = h) := by
  refine Met.of (plainFor_of_name pn_1) #[.val (.ref a), .val (.int (3 : Int32)), .val (.int (1 : Int32)), .val (.int (2 : Int32)), .val (.double (dv x1)), .second] (fun m => by first | (simp [entryFrame, mkF, argsToLocals, Value.category]; done) | rfl) ?_
  intro p e s m below meth c C
  refine Wk.st (g' := (mkF m 1 #[.val (.ref a), .val (.int (3 : Int32)), .val (.int (1 : Int32)), .val (.int (2 : Int32)), .val (.double (dv x1)), .second] [(.int (2 : Int32))])) (fun X t q => XS.iloadN X.here C.hx rfl (hb C.hby d2_0) rfl q) ?_
  refine Wk.st (g' := (mkF m 2 #[.val (.ref a), .val (.int (3 : Int32)), .val (.int (1 : Int32)), .val (.int (2 : Int32)), .val (.double (dv x1)), .second] [(.int (3 : Int32)), (.int (2 : Int32))])) (fun X t q => XS.iloadN X.here C.hx rfl (hb C.hby d2_1) rfl q) ?_
  refine Wk.st (g' := (mkF m 7 #[.val (.ref a), .val (.int (3 : Int32)), .val (.int (1 : Int32)), .val (.int (2 : Int32)), .val (.double (dv x1)), .second] [])) (fun X t q => XS.icmpYes X.here C.hx rfl (pc0 := 2) (pc' := 7) rfl (hb C.hby d2_2) rfl (XT.ii_lt_t (by decide)) (by decide) (by decide) q) ?_
  refine Wk.st (g' := (mkF m 8 #[.val (.ref a), .val (.int (3 : Int32)), .val (.int (1 : Int32)), .val (.int (2 : Int32)), .val (.double (dv x1)), .second] [(.int (2 : Int32))])) (fun X t q => XS.iloadN X.here C.hx rfl (hb C.hby d2_7) rfl q) ?_
  refine Wk.st (g' := (mkF m 9 #[.val (.ref a), .val (.int (3 : Int32)), .val (.int (1 : Int32)), .val (.int (2 : Int32)), .val (.double (dv x1)), .second] [(.int (1 : Int32)), (.int (2 : Int32))])) (fun X t q => XS.iloadN X.here C.hx rfl (hb C.hby d2_8) rfl q) ?_
  refine Wk.st (g' := (mkF m 27 #[.val (.ref a), .val (.int (3 : Int32)), .val (.int (1 : Int32)), .val (.int (2 : Int32)), .val (.double (dv x1)), .second] [])) (fun X t q => XS.icmpYes X.here C.hx rfl (pc0 := 9) (pc' := 27) rfl (hb C.hby d2_9) rfl (XT.ii_ge_t (by decide)) (by decide) (by decide) q) ?_
  refine Wk.st (g' := (mkF m 28 #[.val (.ref a), .val (.int (3 : Int32)), .val (.int (1 : Int32)), .val (.int (2 : Int32)), .val (.double (dv x1)), .second] [(.ref a)])) (fun X t q => XS.aloadN X.here C.hx rfl (hb C.hby d2_27) rfl rfl q) ?_
  refine Wk.st (g' := (mkF m 29 #[.val (.ref a), .val (.int (3 : Int32)), .val (.int (1 : Int32)), .val (.int (2 : Int32)), .val (.double (dv x1)), .second] [(.int (2 : Int32)), (.ref a)])) (fun X t q => XS.iloadN X.here C.hx rfl (hb C.hby d2_28) rfl q) ?_
  refine Wk.fLdD C PA (i := 2) (by decide) (by decide) (by decide) (v := (.double (dv x2))) (by simp [up]) d2_29 ?_
  show Wk _ p l e _ s m _ below meth c n0 _ h0 0 0 (mkF m 30 #[.val (.ref a), .val (.int (3 : Int32)), .val (.int (1 : Int32)), .val (.int (2 : Int32)), .val (.double (dv x1)), .second] [(.double (dv x2))])
  refine Wk.st (g' := (mkF m 32 #[.val (.ref a), .val (.int (3 : Int32)), .val (.int (1 : Int32)), .val (.int (2 : Int32)), .val (.double (dv x1)), .second] [(.double (dv x1)), (.double (dv x2))])) (fun X t q => XS.dload X.here C.hx rfl (hb C.hby d2_30) rfl q) ?_
  refine Wk.st (g' := (mkF m 33 #[.val (.ref a), .val (.int (3 : Int32)), .val (.int (1 : Int32)), .val (.int (2 : Int32)), .val (.double (dv x1)), .second] [(.int (cv x2 x1))])) (fun X t q => XS.dcmpS X.here C.hx rfl (hb C.hby d2_32) rfl (cmp_g r_x2 r_x1) q) ?_
  refine Wk.st (g' := (mkF m 36 #[.val (.ref a), .val (.int (3 : Int32)), .val (.int (1 : Int32)), .val (.int (2 : Int32)), .val (.double (dv x1)), .second] [])) (fun X t q => XS.ifNo X.here C.hx rfl (hb C.hby d2_33) rfl (XT.i0_gt_f (fun q => absurd (cv_pos.mp q) (by omega))) q) ?_
  refine Wk.st (g' := (mkF m 37 #[.val (.ref a), .val (.int (3 : Int32)), .val (.int (1 : Int32)), .val (.int (2 : Int32)), .val (.double (dv x1)), .second] [(.int (1 : Int32))])) (fun X t q => XS.iconst X.here C.hx rfl (hb C.hby d2_36) q) ?_
  refine Wk.st (g' := (mkF m 41 #[.val (.ref a), .val (.int (3 : Int32)), .val (.int (1 : Int32)), .val (.int (2 : Int32)), .val (.double (dv x1)), .second] [(.int (1 : Int32))])) (fun X t q => XS.goto X.here C.hx rfl (pc0 := 37) (pc' := 41) rfl (hb C.hby d2_37) (by decide) (by decide) q) ?_
  exact Wk.retV C (t := .boolean) rfl rfl (Or.inl ⟨rfl, by simp, _, rfl⟩) d2_41 (by decide) (by decide) ⟨rfl, rfl⟩
set_option maxRecDepth 65536 in
set_option maxHeartbeats 40000000 in
theorem own_ok_3_1_3 (l : Launch) (Z : State) (a0 : Array Value) (hw : ∀ d ∈ tables_1, d.before a0 Z = true) (n0 : Nat) (h0 : Heap) (a : Addr) (x0 x1 x2 x3 : Int32) (r_x0 : 0 ≤ x0.toInt ∧ x0.toInt < 8) (r_x1 : 0 ≤ x1.toInt ∧ x1.toInt < 8) (r_x2 : 0 ≤ x2.toInt ∧ x2.toInt < 8) (r_x3 : 0 ≤ x3.toInt ∧ x3.toInt < 8) (PA : Fa Z h0 a .double 4 (up (up (up (up (fun _ => (.double (0 : UInt64))) 0 (.double (dv x0))) 1 (.double (dv x1))) 2 (.double (dv x2))) 3 (.double (dv x3)))) :
    Met false l Z n0 (⟨"com/example/understory/understory/ClassifierMostProbablePinLaw", "ok", "([DIIID)Z"⟩ : MethodName) method_3_code 6 (some .boolean) ({ frames := 0, cells := 0, slots := 0, locals := 0 } : Room) #[(.ref a), (.int (3 : Int32)), (.int (1 : Int32)), (.int (3 : Int32)), (.double (dv x1))] h0 (fun v h => v = some (.int 1) ∧ h0 = h) := by
  refine Met.of (plainFor_of_name pn_1) #[.val (.ref a), .val (.int (3 : Int32)), .val (.int (1 : Int32)), .val (.int (3 : Int32)), .val (.double (dv x1)), .second] (fun m => by first | (simp [entryFrame, mkF, argsToLocals, Value.category]; done) | rfl) ?_
  intro p e s m below meth c C
  refine Wk.st (g' := (mkF m 1 #[.val (.ref a), .val (.int (3 : Int32)), .val (.int (1 : Int32)), .val (.int (3 : Int32)), .val (.double (dv x1)), .second] [(.int (3 : Int32))])) (fun X t q => XS.iloadN X.here C.hx rfl (hb C.hby d2_0) rfl q) ?_
  refine Wk.st (g' := (mkF m 2 #[.val (.ref a), .val (.int (3 : Int32)), .val (.int (1 : Int32)), .val (.int (3 : Int32)), .val (.double (dv x1)), .second] [(.int (3 : Int32)), (.int (3 : Int32))])) (fun X t q => XS.iloadN X.here C.hx rfl (hb C.hby d2_1) rfl q) ?_
  refine Wk.st (g' := (mkF m 5 #[.val (.ref a), .val (.int (3 : Int32)), .val (.int (1 : Int32)), .val (.int (3 : Int32)), .val (.double (dv x1)), .second] [])) (fun X t q => XS.icmpNo X.here C.hx rfl (hb C.hby d2_2) rfl (XT.ii_lt_f (by decide)) q) ?_
  refine Wk.st (g' := (mkF m 6 #[.val (.ref a), .val (.int (3 : Int32)), .val (.int (1 : Int32)), .val (.int (3 : Int32)), .val (.double (dv x1)), .second] [(.int (1 : Int32))])) (fun X t q => XS.iconst X.here C.hx rfl (hb C.hby d2_5) q) ?_
  exact Wk.retV C (t := .boolean) rfl rfl (Or.inl ⟨rfl, by simp, _, rfl⟩) d2_6 (by decide) (by decide) ⟨rfl, rfl⟩
set_option maxRecDepth 65536 in
set_option maxHeartbeats 40000000 in
theorem own_ok_3_2_0 (l : Launch) (Z : State) (a0 : Array Value) (hw : ∀ d ∈ tables_1, d.before a0 Z = true) (n0 : Nat) (h0 : Heap) (a : Addr) (x0 x1 x2 x3 : Int32) (r_x0 : 0 ≤ x0.toInt ∧ x0.toInt < 8) (r_x1 : 0 ≤ x1.toInt ∧ x1.toInt < 8) (r_x2 : 0 ≤ x2.toInt ∧ x2.toInt < 8) (r_x3 : 0 ≤ x3.toInt ∧ x3.toInt < 8) (PA : Fa Z h0 a .double 4 (up (up (up (up (fun _ => (.double (0 : UInt64))) 0 (.double (dv x0))) 1 (.double (dv x1))) 2 (.double (dv x2))) 3 (.double (dv x3)))) (hr : x0.toInt < x2.toInt) :
    Met false l Z n0 (⟨"com/example/understory/understory/ClassifierMostProbablePinLaw", "ok", "([DIIID)Z"⟩ : MethodName) method_3_code 6 (some .boolean) ({ frames := 0, cells := 0, slots := 0, locals := 0 } : Room) #[(.ref a), (.int (3 : Int32)), (.int (2 : Int32)), (.int (0 : Int32)), (.double (dv x2))] h0 (fun v h => v = some (.int 1) ∧ h0 = h) := by
  refine Met.of (plainFor_of_name pn_1) #[.val (.ref a), .val (.int (3 : Int32)), .val (.int (2 : Int32)), .val (.int (0 : Int32)), .val (.double (dv x2)), .second] (fun m => by first | (simp [entryFrame, mkF, argsToLocals, Value.category]; done) | rfl) ?_
  intro p e s m below meth c C
  refine Wk.st (g' := (mkF m 1 #[.val (.ref a), .val (.int (3 : Int32)), .val (.int (2 : Int32)), .val (.int (0 : Int32)), .val (.double (dv x2)), .second] [(.int (0 : Int32))])) (fun X t q => XS.iloadN X.here C.hx rfl (hb C.hby d2_0) rfl q) ?_
  refine Wk.st (g' := (mkF m 2 #[.val (.ref a), .val (.int (3 : Int32)), .val (.int (2 : Int32)), .val (.int (0 : Int32)), .val (.double (dv x2)), .second] [(.int (3 : Int32)), (.int (0 : Int32))])) (fun X t q => XS.iloadN X.here C.hx rfl (hb C.hby d2_1) rfl q) ?_
  refine Wk.st (g' := (mkF m 7 #[.val (.ref a), .val (.int (3 : Int32)), .val (.int (2 : Int32)), .val (.int (0 : Int32)), .val (.double (dv x2)), .second] [])) (fun X t q => XS.icmpYes X.here C.hx rfl (pc0 := 2) (pc' := 7) rfl (hb C.hby d2_2) rfl (XT.ii_lt_t (by decide)) (by decide) (by decide) q) ?_
  refine Wk.st (g' := (mkF m 8 #[.val (.ref a), .val (.int (3 : Int32)), .val (.int (2 : Int32)), .val (.int (0 : Int32)), .val (.double (dv x2)), .second] [(.int (0 : Int32))])) (fun X t q => XS.iloadN X.here C.hx rfl (hb C.hby d2_7) rfl q) ?_
  refine Wk.st (g' := (mkF m 9 #[.val (.ref a), .val (.int (3 : Int32)), .val (.int (2 : Int32)), .val (.int (0 : Int32)), .val (.double (dv x2)), .second] [(.int (2 : Int32)), (.int (0 : Int32))])) (fun X t q => XS.iloadN X.here C.hx rfl (hb C.hby d2_8) rfl q) ?_
  refine Wk.st (g' := (mkF m 12 #[.val (.ref a), .val (.int (3 : Int32)), .val (.int (2 : Int32)), .val (.int (0 : Int32)), .val (.double (dv x2)), .second] [])) (fun X t q => XS.icmpNo X.here C.hx rfl (hb C.hby d2_9) rfl (XT.ii_ge_f (by decide)) q) ?_
  refine Wk.st (g' := (mkF m 13 #[.val (.ref a), .val (.int (3 : Int32)), .val (.int (2 : Int32)), .val (.int (0 : Int32)), .val (.double (dv x2)), .second] [(.ref a)])) (fun X t q => XS.aloadN X.here C.hx rfl (hb C.hby d2_12) rfl rfl q) ?_
  refine Wk.st (g' := (mkF m 14 #[.val (.ref a), .val (.int (3 : Int32)), .val (.int (2 : Int32)), .val (.int (0 : Int32)), .val (.double (dv x2)), .second] [(.int (0 : Int32)), (.ref a)])) (fun X t q => XS.iloadN X.here C.hx rfl (hb C.hby d2_13) rfl q) ?_
  refine Wk.fLdD C PA (i := 0) (by decide) (by decide) (by decide) (v := (.double (dv x0))) (by simp [up]) d2_14 ?_
  show Wk _ p l e _ s m _ below meth c n0 _ h0 0 0 (mkF m 15 #[.val (.ref a), .val (.int (3 : Int32)), .val (.int (2 : Int32)), .val (.int (0 : Int32)), .val (.double (dv x2)), .second] [(.double (dv x0))])
  refine Wk.st (g' := (mkF m 17 #[.val (.ref a), .val (.int (3 : Int32)), .val (.int (2 : Int32)), .val (.int (0 : Int32)), .val (.double (dv x2)), .second] [(.double (dv x2)), (.double (dv x0))])) (fun X t q => XS.dload X.here C.hx rfl (hb C.hby d2_15) rfl q) ?_
  refine Wk.st (g' := (mkF m 18 #[.val (.ref a), .val (.int (3 : Int32)), .val (.int (2 : Int32)), .val (.int (0 : Int32)), .val (.double (dv x2)), .second] [(.int (cv x0 x2))])) (fun X t q => XS.dcmpS X.here C.hx rfl (hb C.hby d2_17) rfl (cmp_g r_x0 r_x2) q) ?_
  refine Wk.st (g' := (mkF m 21 #[.val (.ref a), .val (.int (3 : Int32)), .val (.int (2 : Int32)), .val (.int (0 : Int32)), .val (.double (dv x2)), .second] [])) (fun X t q => XS.ifNo X.here C.hx rfl (hb C.hby d2_18) rfl (XT.i0_ge_f (cv_neg.mpr hr)) q) ?_
  refine Wk.st (g' := (mkF m 22 #[.val (.ref a), .val (.int (3 : Int32)), .val (.int (2 : Int32)), .val (.int (0 : Int32)), .val (.double (dv x2)), .second] [(.int (1 : Int32))])) (fun X t q => XS.iconst X.here C.hx rfl (hb C.hby d2_21) q) ?_
  refine Wk.st (g' := (mkF m 26 #[.val (.ref a), .val (.int (3 : Int32)), .val (.int (2 : Int32)), .val (.int (0 : Int32)), .val (.double (dv x2)), .second] [(.int (1 : Int32))])) (fun X t q => XS.goto X.here C.hx rfl (pc0 := 22) (pc' := 26) rfl (hb C.hby d2_22) (by decide) (by decide) q) ?_
  exact Wk.retV C (t := .boolean) rfl rfl (Or.inl ⟨rfl, by simp, _, rfl⟩) d2_26 (by decide) (by decide) ⟨rfl, rfl⟩
set_option maxRecDepth 65536 in
set_option maxHeartbeats 40000000 in
theorem own_ok_3_2_1 (l : Launch) (Z : State) (a0 : Array Value) (hw : ∀ d ∈ tables_1, d.before a0 Z = true) (n0 : Nat) (h0 : Heap) (a : Addr) (x0 x1 x2 x3 : Int32) (r_x0 : 0 ≤ x0.toInt ∧ x0.toInt < 8) (r_x1 : 0 ≤ x1.toInt ∧ x1.toInt < 8) (r_x2 : 0 ≤ x2.toInt ∧ x2.toInt < 8) (r_x3 : 0 ≤ x3.toInt ∧ x3.toInt < 8) (PA : Fa Z h0 a .double 4 (up (up (up (up (fun _ => (.double (0 : UInt64))) 0 (.double (dv x0))) 1 (.double (dv x1))) 2 (.double (dv x2))) 3 (.double (dv x3)))) (hr : x1.toInt < x2.toInt) :
    Met false l Z n0 (⟨"com/example/understory/understory/ClassifierMostProbablePinLaw", "ok", "([DIIID)Z"⟩ : MethodName) method_3_code 6 (some .boolean) ({ frames := 0, cells := 0, slots := 0, locals := 0 } : Room) #[(.ref a), (.int (3 : Int32)), (.int (2 : Int32)), (.int (1 : Int32)), (.double (dv x2))] h0 (fun v h => v = some (.int 1) ∧ h0 = h) := by
  refine Met.of (plainFor_of_name pn_1) #[.val (.ref a), .val (.int (3 : Int32)), .val (.int (2 : Int32)), .val (.int (1 : Int32)), .val (.double (dv x2)), .second] (fun m => by first | (simp [entryFrame, mkF, argsToLocals, Value.category]; done) | rfl) ?_
  intro p e s m below meth c C
  refine Wk.st (g' := (mkF m 1 #[.val (.ref a), .val (.int (3 : Int32)), .val (.int (2 : Int32)), .val (.int (1 : Int32)), .val (.double (dv x2)), .second] [(.int (1 : Int32))])) (fun X t q => XS.iloadN X.here C.hx rfl (hb C.hby d2_0) rfl q) ?_
  refine Wk.st (g' := (mkF m 2 #[.val (.ref a), .val (.int (3 : Int32)), .val (.int (2 : Int32)), .val (.int (1 : Int32)), .val (.double (dv x2)), .second] [(.int (3 : Int32)), (.int (1 : Int32))])) (fun X t q => XS.iloadN X.here C.hx rfl (hb C.hby d2_1) rfl q) ?_
  refine Wk.st (g' := (mkF m 7 #[.val (.ref a), .val (.int (3 : Int32)), .val (.int (2 : Int32)), .val (.int (1 : Int32)), .val (.double (dv x2)), .second] [])) (fun X t q => XS.icmpYes X.here C.hx rfl (pc0 := 2) (pc' := 7) rfl (hb C.hby d2_2) rfl (XT.ii_lt_t (by decide)) (by decide) (by decide) q) ?_
  refine Wk.st (g' := (mkF m 8 #[.val (.ref a), .val (.int (3 : Int32)), .val (.int (2 : Int32)), .val (.int (1 : Int32)), .val (.double (dv x2)), .second] [(.int (1 : Int32))])) (fun X t q => XS.iloadN X.here C.hx rfl (hb C.hby d2_7) rfl q) ?_
  refine Wk.st (g' := (mkF m 9 #[.val (.ref a), .val (.int (3 : Int32)), .val (.int (2 : Int32)), .val (.int (1 : Int32)), .val (.double (dv x2)), .second] [(.int (2 : Int32)), (.int (1 : Int32))])) (fun X t q => XS.iloadN X.here C.hx rfl (hb C.hby d2_8) rfl q) ?_
  refine Wk.st (g' := (mkF m 12 #[.val (.ref a), .val (.int (3 : Int32)), .val (.int (2 : Int32)), .val (.int (1 : Int32)), .val (.double (dv x2)), .second] [])) (fun X t q => XS.icmpNo X.here C.hx rfl (hb C.hby d2_9) rfl (XT.ii_ge_f (by decide)) q) ?_
  refine Wk.st (g' := (mkF m 13 #[.val (.ref a), .val (.int (3 : Int32)), .val (.int (2 : Int32)), .val (.int (1 : Int32)), .val (.double (dv x2)), .second] [(.ref a)])) (fun X t q => XS.aloadN X.here C.hx rfl (hb C.hby d2_12) rfl rfl q) ?_
  refine Wk.st (g' := (mkF m 14 #[.val (.ref a), .val (.int (3 : Int32)), .val (.int (2 : Int32)), .val (.int (1 : Int32)), .val (.double (dv x2)), .second] [(.int (1 : Int32)), (.ref a)])) (fun X t q => XS.iloadN X.here C.hx rfl (hb C.hby d2_13) rfl q) ?_
  refine Wk.fLdD C PA (i := 1) (by decide) (by decide) (by decide) (v := (.double (dv x1))) (by simp [up]) d2_14 ?_
  show Wk _ p l e _ s m _ below meth c n0 _ h0 0 0 (mkF m 15 #[.val (.ref a), .val (.int (3 : Int32)), .val (.int (2 : Int32)), .val (.int (1 : Int32)), .val (.double (dv x2)), .second] [(.double (dv x1))])
  refine Wk.st (g' := (mkF m 17 #[.val (.ref a), .val (.int (3 : Int32)), .val (.int (2 : Int32)), .val (.int (1 : Int32)), .val (.double (dv x2)), .second] [(.double (dv x2)), (.double (dv x1))])) (fun X t q => XS.dload X.here C.hx rfl (hb C.hby d2_15) rfl q) ?_
  refine Wk.st (g' := (mkF m 18 #[.val (.ref a), .val (.int (3 : Int32)), .val (.int (2 : Int32)), .val (.int (1 : Int32)), .val (.double (dv x2)), .second] [(.int (cv x1 x2))])) (fun X t q => XS.dcmpS X.here C.hx rfl (hb C.hby d2_17) rfl (cmp_g r_x1 r_x2) q) ?_
  refine Wk.st (g' := (mkF m 21 #[.val (.ref a), .val (.int (3 : Int32)), .val (.int (2 : Int32)), .val (.int (1 : Int32)), .val (.double (dv x2)), .second] [])) (fun X t q => XS.ifNo X.here C.hx rfl (hb C.hby d2_18) rfl (XT.i0_ge_f (cv_neg.mpr hr)) q) ?_
  refine Wk.st (g' := (mkF m 22 #[.val (.ref a), .val (.int (3 : Int32)), .val (.int (2 : Int32)), .val (.int (1 : Int32)), .val (.double (dv x2)), .second] [(.int (1 : Int32))])) (fun X t q => XS.iconst X.here C.hx rfl (hb C.hby d2_21) q) ?_
  refine Wk.st (g' := (mkF m 26 #[.val (.ref a), .val (.int (3 : Int32)), .val (.int (2 : Int32)), .val (.int (1 : Int32)), .val (.double (dv x2)), .second] [(.int (1 : Int32))])) (fun X t q => XS.goto X.here C.hx rfl (pc0 := 22) (pc' := 26) rfl (hb C.hby d2_22) (by decide) (by decide) q) ?_
  exact Wk.retV C (t := .boolean) rfl rfl (Or.inl ⟨rfl, by simp, _, rfl⟩) d2_26 (by decide) (by decide) ⟨rfl, rfl⟩
set_option maxRecDepth 65536 in
set_option maxHeartbeats 40000000 in
theorem own_ok_3_2_2 (l : Launch) (Z : State) (a0 : Array Value) (hw : ∀ d ∈ tables_1, d.before a0 Z = true) (n0 : Nat) (h0 : Heap) (a : Addr) (x0 x1 x2 x3 : Int32) (r_x0 : 0 ≤ x0.toInt ∧ x0.toInt < 8) (r_x1 : 0 ≤ x1.toInt ∧ x1.toInt < 8) (r_x2 : 0 ≤ x2.toInt ∧ x2.toInt < 8) (r_x3 : 0 ≤ x3.toInt ∧ x3.toInt < 8) (PA : Fa Z h0 a .double 4 (up (up (up (up (fun _ => (.double (0 : UInt64))) 0 (.double (dv x0))) 1 (.double (dv x1))) 2 (.double (dv x2))) 3 (.double (dv x3)))) (hr : x2.toInt ≤ x2.toInt) :
    Met false l Z n0 (⟨"com/example/understory/understory/ClassifierMostProbablePinLaw", "ok", "([DIIID)Z"⟩ : MethodName) method_3_code 6 (some .boolean) ({ frames := 0, cells := 0, slots := 0, locals := 0 } : Room) #[(.ref a), (.int (3 : Int32)), (.int (2 : Int32)), (.int (2 : Int32)), (.double (dv x2))] h0 (fun v h => v = some (.int 1) ∧ h0 = h) := by
  refine Met.of (plainFor_of_name pn_1) #[.val (.ref a), .val (.int (3 : Int32)), .val (.int (2 : Int32)), .val (.int (2 : Int32)), .val (.double (dv x2)), .second] (fun m => by first | (simp [entryFrame, mkF, argsToLocals, Value.category]; done) | rfl) ?_
  intro p e s m below meth c C
  refine Wk.st (g' := (mkF m 1 #[.val (.ref a), .val (.int (3 : Int32)), .val (.int (2 : Int32)), .val (.int (2 : Int32)), .val (.double (dv x2)), .second] [(.int (2 : Int32))])) (fun X t q => XS.iloadN X.here C.hx rfl (hb C.hby d2_0) rfl q) ?_
  refine Wk.st (g' := (mkF m 2 #[.val (.ref a), .val (.int (3 : Int32)), .val (.int (2 : Int32)), .val (.int (2 : Int32)), .val (.double (dv x2)), .second] [(.int (3 : Int32)), (.int (2 : Int32))])) (fun X t q => XS.iloadN X.here C.hx rfl (hb C.hby d2_1) rfl q) ?_
  refine Wk.st (g' := (mkF m 7 #[.val (.ref a), .val (.int (3 : Int32)), .val (.int (2 : Int32)), .val (.int (2 : Int32)), .val (.double (dv x2)), .second] [])) (fun X t q => XS.icmpYes X.here C.hx rfl (pc0 := 2) (pc' := 7) rfl (hb C.hby d2_2) rfl (XT.ii_lt_t (by decide)) (by decide) (by decide) q) ?_
  refine Wk.st (g' := (mkF m 8 #[.val (.ref a), .val (.int (3 : Int32)), .val (.int (2 : Int32)), .val (.int (2 : Int32)), .val (.double (dv x2)), .second] [(.int (2 : Int32))])) (fun X t q => XS.iloadN X.here C.hx rfl (hb C.hby d2_7) rfl q) ?_
  refine Wk.st (g' := (mkF m 9 #[.val (.ref a), .val (.int (3 : Int32)), .val (.int (2 : Int32)), .val (.int (2 : Int32)), .val (.double (dv x2)), .second] [(.int (2 : Int32)), (.int (2 : Int32))])) (fun X t q => XS.iloadN X.here C.hx rfl (hb C.hby d2_8) rfl q) ?_
  refine Wk.st (g' := (mkF m 27 #[.val (.ref a), .val (.int (3 : Int32)), .val (.int (2 : Int32)), .val (.int (2 : Int32)), .val (.double (dv x2)), .second] [])) (fun X t q => XS.icmpYes X.here C.hx rfl (pc0 := 9) (pc' := 27) rfl (hb C.hby d2_9) rfl (XT.ii_ge_t (by decide)) (by decide) (by decide) q) ?_
  refine Wk.st (g' := (mkF m 28 #[.val (.ref a), .val (.int (3 : Int32)), .val (.int (2 : Int32)), .val (.int (2 : Int32)), .val (.double (dv x2)), .second] [(.ref a)])) (fun X t q => XS.aloadN X.here C.hx rfl (hb C.hby d2_27) rfl rfl q) ?_
  refine Wk.st (g' := (mkF m 29 #[.val (.ref a), .val (.int (3 : Int32)), .val (.int (2 : Int32)), .val (.int (2 : Int32)), .val (.double (dv x2)), .second] [(.int (2 : Int32)), (.ref a)])) (fun X t q => XS.iloadN X.here C.hx rfl (hb C.hby d2_28) rfl q) ?_
  refine Wk.fLdD C PA (i := 2) (by decide) (by decide) (by decide) (v := (.double (dv x2))) (by simp [up]) d2_29 ?_
  show Wk _ p l e _ s m _ below meth c n0 _ h0 0 0 (mkF m 30 #[.val (.ref a), .val (.int (3 : Int32)), .val (.int (2 : Int32)), .val (.int (2 : Int32)), .val (.double (dv x2)), .second] [(.double (dv x2))])
  refine Wk.st (g' := (mkF m 32 #[.val (.ref a), .val (.int (3 : Int32)), .val (.int (2 : Int32)), .val (.int (2 : Int32)), .val (.double (dv x2)), .second] [(.double (dv x2)), (.double (dv x2))])) (fun X t q => XS.dload X.here C.hx rfl (hb C.hby d2_30) rfl q) ?_
  refine Wk.st (g' := (mkF m 33 #[.val (.ref a), .val (.int (3 : Int32)), .val (.int (2 : Int32)), .val (.int (2 : Int32)), .val (.double (dv x2)), .second] [(.int (cv x2 x2))])) (fun X t q => XS.dcmpS X.here C.hx rfl (hb C.hby d2_32) rfl (cmp_g r_x2 r_x2) q) ?_
  refine Wk.st (g' := (mkF m 36 #[.val (.ref a), .val (.int (3 : Int32)), .val (.int (2 : Int32)), .val (.int (2 : Int32)), .val (.double (dv x2)), .second] [])) (fun X t q => XS.ifNo X.here C.hx rfl (hb C.hby d2_33) rfl (XT.i0_gt_f (fun q => absurd (cv_pos.mp q) (by omega))) q) ?_
  refine Wk.st (g' := (mkF m 37 #[.val (.ref a), .val (.int (3 : Int32)), .val (.int (2 : Int32)), .val (.int (2 : Int32)), .val (.double (dv x2)), .second] [(.int (1 : Int32))])) (fun X t q => XS.iconst X.here C.hx rfl (hb C.hby d2_36) q) ?_
  refine Wk.st (g' := (mkF m 41 #[.val (.ref a), .val (.int (3 : Int32)), .val (.int (2 : Int32)), .val (.int (2 : Int32)), .val (.double (dv x2)), .second] [(.int (1 : Int32))])) (fun X t q => XS.goto X.here C.hx rfl (pc0 := 37) (pc' := 41) rfl (hb C.hby d2_37) (by decide) (by decide) q) ?_
  exact Wk.retV C (t := .boolean) rfl rfl (Or.inl ⟨rfl, by simp, _, rfl⟩) d2_41 (by decide) (by decide) ⟨rfl, rfl⟩
set_option maxRecDepth 65536 in
set_option maxHeartbeats 40000000 in
theorem own_ok_3_2_3 (l : Launch) (Z : State) (a0 : Array Value) (hw : ∀ d ∈ tables_1, d.before a0 Z = true) (n0 : Nat) (h0 : Heap) (a : Addr) (x0 x1 x2 x3 : Int32) (r_x0 : 0 ≤ x0.toInt ∧ x0.toInt < 8) (r_x1 : 0 ≤ x1.toInt ∧ x1.toInt < 8) (r_x2 : 0 ≤ x2.toInt ∧ x2.toInt < 8) (r_x3 : 0 ≤ x3.toInt ∧ x3.toInt < 8) (PA : Fa Z h0 a .double 4 (up (up (up (up (fun _ => (.double (0 : UInt64))) 0 (.double (dv x0))) 1 (.double (dv x1))) 2 (.double (dv x2))) 3 (.double (dv x3)))) :
    Met false l Z n0 (⟨"com/example/understory/understory/ClassifierMostProbablePinLaw", "ok", "([DIIID)Z"⟩ : MethodName) method_3_code 6 (some .boolean) ({ frames := 0, cells := 0, slots := 0, locals := 0 } : Room) #[(.ref a), (.int (3 : Int32)), (.int (2 : Int32)), (.int (3 : Int32)), (.double (dv x2))] h0 (fun v h => v = some (.int 1) ∧ h0 = h) := by
  refine Met.of (plainFor_of_name pn_1) #[.val (.ref a), .val (.int (3 : Int32)), .val (.int (2 : Int32)), .val (.int (3 : Int32)), .val (.double (dv x2)), .second] (fun m => by first | (simp [entryFrame, mkF, argsToLocals, Value.category]; done) | rfl) ?_
  intro p e s m below meth c C
  refine Wk.st (g' := (mkF m 1 #[.val (.ref a), .val (.int (3 : Int32)), .val (.int (2 : Int32)), .val (.int (3 : Int32)), .val (.double (dv x2)), .second] [(.int (3 : Int32))])) (fun X t q => XS.iloadN X.here C.hx rfl (hb C.hby d2_0) rfl q) ?_
  refine Wk.st (g' := (mkF m 2 #[.val (.ref a), .val (.int (3 : Int32)), .val (.int (2 : Int32)), .val (.int (3 : Int32)), .val (.double (dv x2)), .second] [(.int (3 : Int32)), (.int (3 : Int32))])) (fun X t q => XS.iloadN X.here C.hx rfl (hb C.hby d2_1) rfl q) ?_
  refine Wk.st (g' := (mkF m 5 #[.val (.ref a), .val (.int (3 : Int32)), .val (.int (2 : Int32)), .val (.int (3 : Int32)), .val (.double (dv x2)), .second] [])) (fun X t q => XS.icmpNo X.here C.hx rfl (hb C.hby d2_2) rfl (XT.ii_lt_f (by decide)) q) ?_
  refine Wk.st (g' := (mkF m 6 #[.val (.ref a), .val (.int (3 : Int32)), .val (.int (2 : Int32)), .val (.int (3 : Int32)), .val (.double (dv x2)), .second] [(.int (1 : Int32))])) (fun X t q => XS.iconst X.here C.hx rfl (hb C.hby d2_5) q) ?_
  exact Wk.retV C (t := .boolean) rfl rfl (Or.inl ⟨rfl, by simp, _, rfl⟩) d2_6 (by decide) (by decide) ⟨rfl, rfl⟩
set_option maxRecDepth 65536 in
set_option maxHeartbeats 40000000 in
theorem own_ok_4_0_0 (l : Launch) (Z : State) (a0 : Array Value) (hw : ∀ d ∈ tables_1, d.before a0 Z = true) (n0 : Nat) (h0 : Heap) (a : Addr) (x0 x1 x2 x3 : Int32) (r_x0 : 0 ≤ x0.toInt ∧ x0.toInt < 8) (r_x1 : 0 ≤ x1.toInt ∧ x1.toInt < 8) (r_x2 : 0 ≤ x2.toInt ∧ x2.toInt < 8) (r_x3 : 0 ≤ x3.toInt ∧ x3.toInt < 8) (PA : Fa Z h0 a .double 4 (up (up (up (up (fun _ => (.double (0 : UInt64))) 0 (.double (dv x0))) 1 (.double (dv x1))) 2 (.double (dv x2))) 3 (.double (dv x3)))) (hr : x0.toInt ≤ x0.toInt) :
    Met false l Z n0 (⟨"com/example/understory/understory/ClassifierMostProbablePinLaw", "ok", "([DIIID)Z"⟩ : MethodName) method_3_code 6 (some .boolean) ({ frames := 0, cells := 0, slots := 0, locals := 0 } : Room) #[(.ref a), (.int (4 : Int32)), (.int (0 : Int32)), (.int (0 : Int32)), (.double (dv x0))] h0 (fun v h => v = some (.int 1) ∧ h0 = h) := by
  refine Met.of (plainFor_of_name pn_1) #[.val (.ref a), .val (.int (4 : Int32)), .val (.int (0 : Int32)), .val (.int (0 : Int32)), .val (.double (dv x0)), .second] (fun m => by first | (simp [entryFrame, mkF, argsToLocals, Value.category]; done) | rfl) ?_
  intro p e s m below meth c C
  refine Wk.st (g' := (mkF m 1 #[.val (.ref a), .val (.int (4 : Int32)), .val (.int (0 : Int32)), .val (.int (0 : Int32)), .val (.double (dv x0)), .second] [(.int (0 : Int32))])) (fun X t q => XS.iloadN X.here C.hx rfl (hb C.hby d2_0) rfl q) ?_
  refine Wk.st (g' := (mkF m 2 #[.val (.ref a), .val (.int (4 : Int32)), .val (.int (0 : Int32)), .val (.int (0 : Int32)), .val (.double (dv x0)), .second] [(.int (4 : Int32)), (.int (0 : Int32))])) (fun X t q => XS.iloadN X.here C.hx rfl (hb C.hby d2_1) rfl q) ?_
  refine Wk.st (g' := (mkF m 7 #[.val (.ref a), .val (.int (4 : Int32)), .val (.int (0 : Int32)), .val (.int (0 : Int32)), .val (.double (dv x0)), .second] [])) (fun X t q => XS.icmpYes X.here C.hx rfl (pc0 := 2) (pc' := 7) rfl (hb C.hby d2_2) rfl (XT.ii_lt_t (by decide)) (by decide) (by decide) q) ?_
  refine Wk.st (g' := (mkF m 8 #[.val (.ref a), .val (.int (4 : Int32)), .val (.int (0 : Int32)), .val (.int (0 : Int32)), .val (.double (dv x0)), .second] [(.int (0 : Int32))])) (fun X t q => XS.iloadN X.here C.hx rfl (hb C.hby d2_7) rfl q) ?_
  refine Wk.st (g' := (mkF m 9 #[.val (.ref a), .val (.int (4 : Int32)), .val (.int (0 : Int32)), .val (.int (0 : Int32)), .val (.double (dv x0)), .second] [(.int (0 : Int32)), (.int (0 : Int32))])) (fun X t q => XS.iloadN X.here C.hx rfl (hb C.hby d2_8) rfl q) ?_
  refine Wk.st (g' := (mkF m 27 #[.val (.ref a), .val (.int (4 : Int32)), .val (.int (0 : Int32)), .val (.int (0 : Int32)), .val (.double (dv x0)), .second] [])) (fun X t q => XS.icmpYes X.here C.hx rfl (pc0 := 9) (pc' := 27) rfl (hb C.hby d2_9) rfl (XT.ii_ge_t (by decide)) (by decide) (by decide) q) ?_
  refine Wk.st (g' := (mkF m 28 #[.val (.ref a), .val (.int (4 : Int32)), .val (.int (0 : Int32)), .val (.int (0 : Int32)), .val (.double (dv x0)), .second] [(.ref a)])) (fun X t q => XS.aloadN X.here C.hx rfl (hb C.hby d2_27) rfl rfl q) ?_
  refine Wk.st (g' := (mkF m 29 #[.val (.ref a), .val (.int (4 : Int32)), .val (.int (0 : Int32)), .val (.int (0 : Int32)), .val (.double (dv x0)), .second] [(.int (0 : Int32)), (.ref a)])) (fun X t q => XS.iloadN X.here C.hx rfl (hb C.hby d2_28) rfl q) ?_
  refine Wk.fLdD C PA (i := 0) (by decide) (by decide) (by decide) (v := (.double (dv x0))) (by simp [up]) d2_29 ?_
  show Wk _ p l e _ s m _ below meth c n0 _ h0 0 0 (mkF m 30 #[.val (.ref a), .val (.int (4 : Int32)), .val (.int (0 : Int32)), .val (.int (0 : Int32)), .val (.double (dv x0)), .second] [(.double (dv x0))])
  refine Wk.st (g' := (mkF m 32 #[.val (.ref a), .val (.int (4 : Int32)), .val (.int (0 : Int32)), .val (.int (0 : Int32)), .val (.double (dv x0)), .second] [(.double (dv x0)), (.double (dv x0))])) (fun X t q => XS.dload X.here C.hx rfl (hb C.hby d2_30) rfl q) ?_
  refine Wk.st (g' := (mkF m 33 #[.val (.ref a), .val (.int (4 : Int32)), .val (.int (0 : Int32)), .val (.int (0 : Int32)), .val (.double (dv x0)), .second] [(.int (cv x0 x0))])) (fun X t q => XS.dcmpS X.here C.hx rfl (hb C.hby d2_32) rfl (cmp_g r_x0 r_x0) q) ?_
  refine Wk.st (g' := (mkF m 36 #[.val (.ref a), .val (.int (4 : Int32)), .val (.int (0 : Int32)), .val (.int (0 : Int32)), .val (.double (dv x0)), .second] [])) (fun X t q => XS.ifNo X.here C.hx rfl (hb C.hby d2_33) rfl (XT.i0_gt_f (fun q => absurd (cv_pos.mp q) (by omega))) q) ?_
  refine Wk.st (g' := (mkF m 37 #[.val (.ref a), .val (.int (4 : Int32)), .val (.int (0 : Int32)), .val (.int (0 : Int32)), .val (.double (dv x0)), .second] [(.int (1 : Int32))])) (fun X t q => XS.iconst X.here C.hx rfl (hb C.hby d2_36) q) ?_
  refine Wk.st (g' := (mkF m 41 #[.val (.ref a), .val (.int (4 : Int32)), .val (.int (0 : Int32)), .val (.int (0 : Int32)), .val (.double (dv x0)), .second] [(.int (1 : Int32))])) (fun X t q => XS.goto X.here C.hx rfl (pc0 := 37) (pc' := 41) rfl (hb C.hby d2_37) (by decide) (by decide) q) ?_
  exact Wk.retV C (t := .boolean) rfl rfl (Or.inl ⟨rfl, by simp, _, rfl⟩) d2_41 (by decide) (by decide) ⟨rfl, rfl⟩
set_option maxRecDepth 65536 in
set_option maxHeartbeats 40000000 in
theorem own_ok_4_0_1 (l : Launch) (Z : State) (a0 : Array Value) (hw : ∀ d ∈ tables_1, d.before a0 Z = true) (n0 : Nat) (h0 : Heap) (a : Addr) (x0 x1 x2 x3 : Int32) (r_x0 : 0 ≤ x0.toInt ∧ x0.toInt < 8) (r_x1 : 0 ≤ x1.toInt ∧ x1.toInt < 8) (r_x2 : 0 ≤ x2.toInt ∧ x2.toInt < 8) (r_x3 : 0 ≤ x3.toInt ∧ x3.toInt < 8) (PA : Fa Z h0 a .double 4 (up (up (up (up (fun _ => (.double (0 : UInt64))) 0 (.double (dv x0))) 1 (.double (dv x1))) 2 (.double (dv x2))) 3 (.double (dv x3)))) (hr : x1.toInt ≤ x0.toInt) :
    Met false l Z n0 (⟨"com/example/understory/understory/ClassifierMostProbablePinLaw", "ok", "([DIIID)Z"⟩ : MethodName) method_3_code 6 (some .boolean) ({ frames := 0, cells := 0, slots := 0, locals := 0 } : Room) #[(.ref a), (.int (4 : Int32)), (.int (0 : Int32)), (.int (1 : Int32)), (.double (dv x0))] h0 (fun v h => v = some (.int 1) ∧ h0 = h) := by
  refine Met.of (plainFor_of_name pn_1) #[.val (.ref a), .val (.int (4 : Int32)), .val (.int (0 : Int32)), .val (.int (1 : Int32)), .val (.double (dv x0)), .second] (fun m => by first | (simp [entryFrame, mkF, argsToLocals, Value.category]; done) | rfl) ?_
  intro p e s m below meth c C
  refine Wk.st (g' := (mkF m 1 #[.val (.ref a), .val (.int (4 : Int32)), .val (.int (0 : Int32)), .val (.int (1 : Int32)), .val (.double (dv x0)), .second] [(.int (1 : Int32))])) (fun X t q => XS.iloadN X.here C.hx rfl (hb C.hby d2_0) rfl q) ?_
  refine Wk.st (g' := (mkF m 2 #[.val (.ref a), .val (.int (4 : Int32)), .val (.int (0 : Int32)), .val (.int (1 : Int32)), .val (.double (dv x0)), .second] [(.int (4 : Int32)), (.int (1 : Int32))])) (fun X t q => XS.iloadN X.here C.hx rfl (hb C.hby d2_1) rfl q) ?_
  refine Wk.st (g' := (mkF m 7 #[.val (.ref a), .val (.int (4 : Int32)), .val (.int (0 : Int32)), .val (.int (1 : Int32)), .val (.double (dv x0)), .second] [])) (fun X t q => XS.icmpYes X.here C.hx rfl (pc0 := 2) (pc' := 7) rfl (hb C.hby d2_2) rfl (XT.ii_lt_t (by decide)) (by decide) (by decide) q) ?_
  refine Wk.st (g' := (mkF m 8 #[.val (.ref a), .val (.int (4 : Int32)), .val (.int (0 : Int32)), .val (.int (1 : Int32)), .val (.double (dv x0)), .second] [(.int (1 : Int32))])) (fun X t q => XS.iloadN X.here C.hx rfl (hb C.hby d2_7) rfl q) ?_
  refine Wk.st (g' := (mkF m 9 #[.val (.ref a), .val (.int (4 : Int32)), .val (.int (0 : Int32)), .val (.int (1 : Int32)), .val (.double (dv x0)), .second] [(.int (0 : Int32)), (.int (1 : Int32))])) (fun X t q => XS.iloadN X.here C.hx rfl (hb C.hby d2_8) rfl q) ?_
  refine Wk.st (g' := (mkF m 27 #[.val (.ref a), .val (.int (4 : Int32)), .val (.int (0 : Int32)), .val (.int (1 : Int32)), .val (.double (dv x0)), .second] [])) (fun X t q => XS.icmpYes X.here C.hx rfl (pc0 := 9) (pc' := 27) rfl (hb C.hby d2_9) rfl (XT.ii_ge_t (by decide)) (by decide) (by decide) q) ?_
  refine Wk.st (g' := (mkF m 28 #[.val (.ref a), .val (.int (4 : Int32)), .val (.int (0 : Int32)), .val (.int (1 : Int32)), .val (.double (dv x0)), .second] [(.ref a)])) (fun X t q => XS.aloadN X.here C.hx rfl (hb C.hby d2_27) rfl rfl q) ?_
  refine Wk.st (g' := (mkF m 29 #[.val (.ref a), .val (.int (4 : Int32)), .val (.int (0 : Int32)), .val (.int (1 : Int32)), .val (.double (dv x0)), .second] [(.int (1 : Int32)), (.ref a)])) (fun X t q => XS.iloadN X.here C.hx rfl (hb C.hby d2_28) rfl q) ?_
  refine Wk.fLdD C PA (i := 1) (by decide) (by decide) (by decide) (v := (.double (dv x1))) (by simp [up]) d2_29 ?_
  show Wk _ p l e _ s m _ below meth c n0 _ h0 0 0 (mkF m 30 #[.val (.ref a), .val (.int (4 : Int32)), .val (.int (0 : Int32)), .val (.int (1 : Int32)), .val (.double (dv x0)), .second] [(.double (dv x1))])
  refine Wk.st (g' := (mkF m 32 #[.val (.ref a), .val (.int (4 : Int32)), .val (.int (0 : Int32)), .val (.int (1 : Int32)), .val (.double (dv x0)), .second] [(.double (dv x0)), (.double (dv x1))])) (fun X t q => XS.dload X.here C.hx rfl (hb C.hby d2_30) rfl q) ?_
  refine Wk.st (g' := (mkF m 33 #[.val (.ref a), .val (.int (4 : Int32)), .val (.int (0 : Int32)), .val (.int (1 : Int32)), .val (.double (dv x0)), .second] [(.int (cv x1 x0))])) (fun X t q => XS.dcmpS X.here C.hx rfl (hb C.hby d2_32) rfl (cmp_g r_x1 r_x0) q) ?_
  refine Wk.st (g' := (mkF m 36 #[.val (.ref a), .val (.int (4 : Int32)), .val (.int (0 : Int32)), .val (.int (1 : Int32)), .val (.double (dv x0)), .second] [])) (fun X t q => XS.ifNo X.here C.hx rfl (hb C.hby d2_33) rfl (XT.i0_gt_f (fun q => absurd (cv_pos.mp q) (by omega))) q) ?_
  refine Wk.st (g' := (mkF m 37 #[.val (.ref a), .val (.int (4 : Int32)), .val (.int (0 : Int32)), .val (.int (1 : Int32)), .val (.double (dv x0)), .second] [(.int (1 : Int32))])) (fun X t q => XS.iconst X.here C.hx rfl (hb C.hby d2_36) q) ?_
  refine Wk.st (g' := (mkF m 41 #[.val (.ref a), .val (.int (4 : Int32)), .val (.int (0 : Int32)), .val (.int (1 : Int32)), .val (.double (dv x0)), .second] [(.int (1 : Int32))])) (fun X t q => XS.goto X.here C.hx rfl (pc0 := 37) (pc' := 41) rfl (hb C.hby d2_37) (by decide) (by decide) q) ?_
  exact Wk.retV C (t := .boolean) rfl rfl (Or.inl ⟨rfl, by simp, _, rfl⟩) d2_41 (by decide) (by decide) ⟨rfl, rfl⟩
set_option maxRecDepth 65536 in
set_option maxHeartbeats 40000000 in
theorem own_ok_4_0_2 (l : Launch) (Z : State) (a0 : Array Value) (hw : ∀ d ∈ tables_1, d.before a0 Z = true) (n0 : Nat) (h0 : Heap) (a : Addr) (x0 x1 x2 x3 : Int32) (r_x0 : 0 ≤ x0.toInt ∧ x0.toInt < 8) (r_x1 : 0 ≤ x1.toInt ∧ x1.toInt < 8) (r_x2 : 0 ≤ x2.toInt ∧ x2.toInt < 8) (r_x3 : 0 ≤ x3.toInt ∧ x3.toInt < 8) (PA : Fa Z h0 a .double 4 (up (up (up (up (fun _ => (.double (0 : UInt64))) 0 (.double (dv x0))) 1 (.double (dv x1))) 2 (.double (dv x2))) 3 (.double (dv x3)))) (hr : x2.toInt ≤ x0.toInt) :
    Met false l Z n0 (⟨"com/example/understory/understory/ClassifierMostProbablePinLaw", "ok", "([DIIID)Z"⟩ : MethodName) method_3_code 6 (some .boolean) ({ frames := 0, cells := 0, slots := 0, locals := 0 } : Room) #[(.ref a), (.int (4 : Int32)), (.int (0 : Int32)), (.int (2 : Int32)), (.double (dv x0))] h0 (fun v h => v = some (.int 1) ∧ h0 = h) := by
  refine Met.of (plainFor_of_name pn_1) #[.val (.ref a), .val (.int (4 : Int32)), .val (.int (0 : Int32)), .val (.int (2 : Int32)), .val (.double (dv x0)), .second] (fun m => by first | (simp [entryFrame, mkF, argsToLocals, Value.category]; done) | rfl) ?_
  intro p e s m below meth c C
  refine Wk.st (g' := (mkF m 1 #[.val (.ref a), .val (.int (4 : Int32)), .val (.int (0 : Int32)), .val (.int (2 : Int32)), .val (.double (dv x0)), .second] [(.int (2 : Int32))])) (fun X t q => XS.iloadN X.here C.hx rfl (hb C.hby d2_0) rfl q) ?_
  refine Wk.st (g' := (mkF m 2 #[.val (.ref a), .val (.int (4 : Int32)), .val (.int (0 : Int32)), .val (.int (2 : Int32)), .val (.double (dv x0)), .second] [(.int (4 : Int32)), (.int (2 : Int32))])) (fun X t q => XS.iloadN X.here C.hx rfl (hb C.hby d2_1) rfl q) ?_
  refine Wk.st (g' := (mkF m 7 #[.val (.ref a), .val (.int (4 : Int32)), .val (.int (0 : Int32)), .val (.int (2 : Int32)), .val (.double (dv x0)), .second] [])) (fun X t q => XS.icmpYes X.here C.hx rfl (pc0 := 2) (pc' := 7) rfl (hb C.hby d2_2) rfl (XT.ii_lt_t (by decide)) (by decide) (by decide) q) ?_
  refine Wk.st (g' := (mkF m 8 #[.val (.ref a), .val (.int (4 : Int32)), .val (.int (0 : Int32)), .val (.int (2 : Int32)), .val (.double (dv x0)), .second] [(.int (2 : Int32))])) (fun X t q => XS.iloadN X.here C.hx rfl (hb C.hby d2_7) rfl q) ?_
  refine Wk.st (g' := (mkF m 9 #[.val (.ref a), .val (.int (4 : Int32)), .val (.int (0 : Int32)), .val (.int (2 : Int32)), .val (.double (dv x0)), .second] [(.int (0 : Int32)), (.int (2 : Int32))])) (fun X t q => XS.iloadN X.here C.hx rfl (hb C.hby d2_8) rfl q) ?_
  refine Wk.st (g' := (mkF m 27 #[.val (.ref a), .val (.int (4 : Int32)), .val (.int (0 : Int32)), .val (.int (2 : Int32)), .val (.double (dv x0)), .second] [])) (fun X t q => XS.icmpYes X.here C.hx rfl (pc0 := 9) (pc' := 27) rfl (hb C.hby d2_9) rfl (XT.ii_ge_t (by decide)) (by decide) (by decide) q) ?_
  refine Wk.st (g' := (mkF m 28 #[.val (.ref a), .val (.int (4 : Int32)), .val (.int (0 : Int32)), .val (.int (2 : Int32)), .val (.double (dv x0)), .second] [(.ref a)])) (fun X t q => XS.aloadN X.here C.hx rfl (hb C.hby d2_27) rfl rfl q) ?_
  refine Wk.st (g' := (mkF m 29 #[.val (.ref a), .val (.int (4 : Int32)), .val (.int (0 : Int32)), .val (.int (2 : Int32)), .val (.double (dv x0)), .second] [(.int (2 : Int32)), (.ref a)])) (fun X t q => XS.iloadN X.here C.hx rfl (hb C.hby d2_28) rfl q) ?_
  refine Wk.fLdD C PA (i := 2) (by decide) (by decide) (by decide) (v := (.double (dv x2))) (by simp [up]) d2_29 ?_
  show Wk _ p l e _ s m _ below meth c n0 _ h0 0 0 (mkF m 30 #[.val (.ref a), .val (.int (4 : Int32)), .val (.int (0 : Int32)), .val (.int (2 : Int32)), .val (.double (dv x0)), .second] [(.double (dv x2))])
  refine Wk.st (g' := (mkF m 32 #[.val (.ref a), .val (.int (4 : Int32)), .val (.int (0 : Int32)), .val (.int (2 : Int32)), .val (.double (dv x0)), .second] [(.double (dv x0)), (.double (dv x2))])) (fun X t q => XS.dload X.here C.hx rfl (hb C.hby d2_30) rfl q) ?_
  refine Wk.st (g' := (mkF m 33 #[.val (.ref a), .val (.int (4 : Int32)), .val (.int (0 : Int32)), .val (.int (2 : Int32)), .val (.double (dv x0)), .second] [(.int (cv x2 x0))])) (fun X t q => XS.dcmpS X.here C.hx rfl (hb C.hby d2_32) rfl (cmp_g r_x2 r_x0) q) ?_
  refine Wk.st (g' := (mkF m 36 #[.val (.ref a), .val (.int (4 : Int32)), .val (.int (0 : Int32)), .val (.int (2 : Int32)), .val (.double (dv x0)), .second] [])) (fun X t q => XS.ifNo X.here C.hx rfl (hb C.hby d2_33) rfl (XT.i0_gt_f (fun q => absurd (cv_pos.mp q) (by omega))) q) ?_
  refine Wk.st (g' := (mkF m 37 #[.val (.ref a), .val (.int (4 : Int32)), .val (.int (0 : Int32)), .val (.int (2 : Int32)), .val (.double (dv x0)), .second] [(.int (1 : Int32))])) (fun X t q => XS.iconst X.here C.hx rfl (hb C.hby d2_36) q) ?_
  refine Wk.st (g' := (mkF m 41 #[.val (.ref a), .val (.int (4 : Int32)), .val (.int (0 : Int32)), .val (.int (2 : Int32)), .val (.double (dv x0)), .second] [(.int (1 : Int32))])) (fun X t q => XS.goto X.here C.hx rfl (pc0 := 37) (pc' := 41) rfl (hb C.hby d2_37) (by decide) (by decide) q) ?_
  exact Wk.retV C (t := .boolean) rfl rfl (Or.inl ⟨rfl, by simp, _, rfl⟩) d2_41 (by decide) (by decide) ⟨rfl, rfl⟩
set_option maxRecDepth 65536 in
set_option maxHeartbeats 40000000 in
theorem own_ok_4_0_3 (l : Launch) (Z : State) (a0 : Array Value) (hw : ∀ d ∈ tables_1, d.before a0 Z = true) (n0 : Nat) (h0 : Heap) (a : Addr) (x0 x1 x2 x3 : Int32) (r_x0 : 0 ≤ x0.toInt ∧ x0.toInt < 8) (r_x1 : 0 ≤ x1.toInt ∧ x1.toInt < 8) (r_x2 : 0 ≤ x2.toInt ∧ x2.toInt < 8) (r_x3 : 0 ≤ x3.toInt ∧ x3.toInt < 8) (PA : Fa Z h0 a .double 4 (up (up (up (up (fun _ => (.double (0 : UInt64))) 0 (.double (dv x0))) 1 (.double (dv x1))) 2 (.double (dv x2))) 3 (.double (dv x3)))) (hr : x3.toInt ≤ x0.toInt) :
    Met false l Z n0 (⟨"com/example/understory/understory/ClassifierMostProbablePinLaw", "ok", "([DIIID)Z"⟩ : MethodName) method_3_code 6 (some .boolean) ({ frames := 0, cells := 0, slots := 0, locals := 0 } : Room) #[(.ref a), (.int (4 : Int32)), (.int (0 : Int32)), (.int (3 : Int32)), (.double (dv x0))] h0 (fun v h => v = some (.int 1) ∧ h0 = h) := by
  refine Met.of (plainFor_of_name pn_1) #[.val (.ref a), .val (.int (4 : Int32)), .val (.int (0 : Int32)), .val (.int (3 : Int32)), .val (.double (dv x0)), .second] (fun m => by first | (simp [entryFrame, mkF, argsToLocals, Value.category]; done) | rfl) ?_
  intro p e s m below meth c C
  refine Wk.st (g' := (mkF m 1 #[.val (.ref a), .val (.int (4 : Int32)), .val (.int (0 : Int32)), .val (.int (3 : Int32)), .val (.double (dv x0)), .second] [(.int (3 : Int32))])) (fun X t q => XS.iloadN X.here C.hx rfl (hb C.hby d2_0) rfl q) ?_
  refine Wk.st (g' := (mkF m 2 #[.val (.ref a), .val (.int (4 : Int32)), .val (.int (0 : Int32)), .val (.int (3 : Int32)), .val (.double (dv x0)), .second] [(.int (4 : Int32)), (.int (3 : Int32))])) (fun X t q => XS.iloadN X.here C.hx rfl (hb C.hby d2_1) rfl q) ?_
  refine Wk.st (g' := (mkF m 7 #[.val (.ref a), .val (.int (4 : Int32)), .val (.int (0 : Int32)), .val (.int (3 : Int32)), .val (.double (dv x0)), .second] [])) (fun X t q => XS.icmpYes X.here C.hx rfl (pc0 := 2) (pc' := 7) rfl (hb C.hby d2_2) rfl (XT.ii_lt_t (by decide)) (by decide) (by decide) q) ?_
  refine Wk.st (g' := (mkF m 8 #[.val (.ref a), .val (.int (4 : Int32)), .val (.int (0 : Int32)), .val (.int (3 : Int32)), .val (.double (dv x0)), .second] [(.int (3 : Int32))])) (fun X t q => XS.iloadN X.here C.hx rfl (hb C.hby d2_7) rfl q) ?_
  refine Wk.st (g' := (mkF m 9 #[.val (.ref a), .val (.int (4 : Int32)), .val (.int (0 : Int32)), .val (.int (3 : Int32)), .val (.double (dv x0)), .second] [(.int (0 : Int32)), (.int (3 : Int32))])) (fun X t q => XS.iloadN X.here C.hx rfl (hb C.hby d2_8) rfl q) ?_
  refine Wk.st (g' := (mkF m 27 #[.val (.ref a), .val (.int (4 : Int32)), .val (.int (0 : Int32)), .val (.int (3 : Int32)), .val (.double (dv x0)), .second] [])) (fun X t q => XS.icmpYes X.here C.hx rfl (pc0 := 9) (pc' := 27) rfl (hb C.hby d2_9) rfl (XT.ii_ge_t (by decide)) (by decide) (by decide) q) ?_
  refine Wk.st (g' := (mkF m 28 #[.val (.ref a), .val (.int (4 : Int32)), .val (.int (0 : Int32)), .val (.int (3 : Int32)), .val (.double (dv x0)), .second] [(.ref a)])) (fun X t q => XS.aloadN X.here C.hx rfl (hb C.hby d2_27) rfl rfl q) ?_
  refine Wk.st (g' := (mkF m 29 #[.val (.ref a), .val (.int (4 : Int32)), .val (.int (0 : Int32)), .val (.int (3 : Int32)), .val (.double (dv x0)), .second] [(.int (3 : Int32)), (.ref a)])) (fun X t q => XS.iloadN X.here C.hx rfl (hb C.hby d2_28) rfl q) ?_
  refine Wk.fLdD C PA (i := 3) (by decide) (by decide) (by decide) (v := (.double (dv x3))) (by simp [up]) d2_29 ?_
  show Wk _ p l e _ s m _ below meth c n0 _ h0 0 0 (mkF m 30 #[.val (.ref a), .val (.int (4 : Int32)), .val (.int (0 : Int32)), .val (.int (3 : Int32)), .val (.double (dv x0)), .second] [(.double (dv x3))])
  refine Wk.st (g' := (mkF m 32 #[.val (.ref a), .val (.int (4 : Int32)), .val (.int (0 : Int32)), .val (.int (3 : Int32)), .val (.double (dv x0)), .second] [(.double (dv x0)), (.double (dv x3))])) (fun X t q => XS.dload X.here C.hx rfl (hb C.hby d2_30) rfl q) ?_
  refine Wk.st (g' := (mkF m 33 #[.val (.ref a), .val (.int (4 : Int32)), .val (.int (0 : Int32)), .val (.int (3 : Int32)), .val (.double (dv x0)), .second] [(.int (cv x3 x0))])) (fun X t q => XS.dcmpS X.here C.hx rfl (hb C.hby d2_32) rfl (cmp_g r_x3 r_x0) q) ?_
  refine Wk.st (g' := (mkF m 36 #[.val (.ref a), .val (.int (4 : Int32)), .val (.int (0 : Int32)), .val (.int (3 : Int32)), .val (.double (dv x0)), .second] [])) (fun X t q => XS.ifNo X.here C.hx rfl (hb C.hby d2_33) rfl (XT.i0_gt_f (fun q => absurd (cv_pos.mp q) (by omega))) q) ?_
  refine Wk.st (g' := (mkF m 37 #[.val (.ref a), .val (.int (4 : Int32)), .val (.int (0 : Int32)), .val (.int (3 : Int32)), .val (.double (dv x0)), .second] [(.int (1 : Int32))])) (fun X t q => XS.iconst X.here C.hx rfl (hb C.hby d2_36) q) ?_
  refine Wk.st (g' := (mkF m 41 #[.val (.ref a), .val (.int (4 : Int32)), .val (.int (0 : Int32)), .val (.int (3 : Int32)), .val (.double (dv x0)), .second] [(.int (1 : Int32))])) (fun X t q => XS.goto X.here C.hx rfl (pc0 := 37) (pc' := 41) rfl (hb C.hby d2_37) (by decide) (by decide) q) ?_
  exact Wk.retV C (t := .boolean) rfl rfl (Or.inl ⟨rfl, by simp, _, rfl⟩) d2_41 (by decide) (by decide) ⟨rfl, rfl⟩
set_option maxRecDepth 65536 in
set_option maxHeartbeats 40000000 in
theorem own_ok_4_1_0 (l : Launch) (Z : State) (a0 : Array Value) (hw : ∀ d ∈ tables_1, d.before a0 Z = true) (n0 : Nat) (h0 : Heap) (a : Addr) (x0 x1 x2 x3 : Int32) (r_x0 : 0 ≤ x0.toInt ∧ x0.toInt < 8) (r_x1 : 0 ≤ x1.toInt ∧ x1.toInt < 8) (r_x2 : 0 ≤ x2.toInt ∧ x2.toInt < 8) (r_x3 : 0 ≤ x3.toInt ∧ x3.toInt < 8) (PA : Fa Z h0 a .double 4 (up (up (up (up (fun _ => (.double (0 : UInt64))) 0 (.double (dv x0))) 1 (.double (dv x1))) 2 (.double (dv x2))) 3 (.double (dv x3)))) (hr : x0.toInt < x1.toInt) :
    Met false l Z n0 (⟨"com/example/understory/understory/ClassifierMostProbablePinLaw", "ok", "([DIIID)Z"⟩ : MethodName) method_3_code 6 (some .boolean) ({ frames := 0, cells := 0, slots := 0, locals := 0 } : Room) #[(.ref a), (.int (4 : Int32)), (.int (1 : Int32)), (.int (0 : Int32)), (.double (dv x1))] h0 (fun v h => v = some (.int 1) ∧ h0 = h) := by
  refine Met.of (plainFor_of_name pn_1) #[.val (.ref a), .val (.int (4 : Int32)), .val (.int (1 : Int32)), .val (.int (0 : Int32)), .val (.double (dv x1)), .second] (fun m => by first | (simp [entryFrame, mkF, argsToLocals, Value.category]; done) | rfl) ?_
  intro p e s m below meth c C
  refine Wk.st (g' := (mkF m 1 #[.val (.ref a), .val (.int (4 : Int32)), .val (.int (1 : Int32)), .val (.int (0 : Int32)), .val (.double (dv x1)), .second] [(.int (0 : Int32))])) (fun X t q => XS.iloadN X.here C.hx rfl (hb C.hby d2_0) rfl q) ?_
  refine Wk.st (g' := (mkF m 2 #[.val (.ref a), .val (.int (4 : Int32)), .val (.int (1 : Int32)), .val (.int (0 : Int32)), .val (.double (dv x1)), .second] [(.int (4 : Int32)), (.int (0 : Int32))])) (fun X t q => XS.iloadN X.here C.hx rfl (hb C.hby d2_1) rfl q) ?_
  refine Wk.st (g' := (mkF m 7 #[.val (.ref a), .val (.int (4 : Int32)), .val (.int (1 : Int32)), .val (.int (0 : Int32)), .val (.double (dv x1)), .second] [])) (fun X t q => XS.icmpYes X.here C.hx rfl (pc0 := 2) (pc' := 7) rfl (hb C.hby d2_2) rfl (XT.ii_lt_t (by decide)) (by decide) (by decide) q) ?_
  refine Wk.st (g' := (mkF m 8 #[.val (.ref a), .val (.int (4 : Int32)), .val (.int (1 : Int32)), .val (.int (0 : Int32)), .val (.double (dv x1)), .second] [(.int (0 : Int32))])) (fun X t q => XS.iloadN X.here C.hx rfl (hb C.hby d2_7) rfl q) ?_
  refine Wk.st (g' := (mkF m 9 #[.val (.ref a), .val (.int (4 : Int32)), .val (.int (1 : Int32)), .val (.int (0 : Int32)), .val (.double (dv x1)), .second] [(.int (1 : Int32)), (.int (0 : Int32))])) (fun X t q => XS.iloadN X.here C.hx rfl (hb C.hby d2_8) rfl q) ?_
  refine Wk.st (g' := (mkF m 12 #[.val (.ref a), .val (.int (4 : Int32)), .val (.int (1 : Int32)), .val (.int (0 : Int32)), .val (.double (dv x1)), .second] [])) (fun X t q => XS.icmpNo X.here C.hx rfl (hb C.hby d2_9) rfl (XT.ii_ge_f (by decide)) q) ?_
  refine Wk.st (g' := (mkF m 13 #[.val (.ref a), .val (.int (4 : Int32)), .val (.int (1 : Int32)), .val (.int (0 : Int32)), .val (.double (dv x1)), .second] [(.ref a)])) (fun X t q => XS.aloadN X.here C.hx rfl (hb C.hby d2_12) rfl rfl q) ?_
  refine Wk.st (g' := (mkF m 14 #[.val (.ref a), .val (.int (4 : Int32)), .val (.int (1 : Int32)), .val (.int (0 : Int32)), .val (.double (dv x1)), .second] [(.int (0 : Int32)), (.ref a)])) (fun X t q => XS.iloadN X.here C.hx rfl (hb C.hby d2_13) rfl q) ?_
  refine Wk.fLdD C PA (i := 0) (by decide) (by decide) (by decide) (v := (.double (dv x0))) (by simp [up]) d2_14 ?_
  show Wk _ p l e _ s m _ below meth c n0 _ h0 0 0 (mkF m 15 #[.val (.ref a), .val (.int (4 : Int32)), .val (.int (1 : Int32)), .val (.int (0 : Int32)), .val (.double (dv x1)), .second] [(.double (dv x0))])
  refine Wk.st (g' := (mkF m 17 #[.val (.ref a), .val (.int (4 : Int32)), .val (.int (1 : Int32)), .val (.int (0 : Int32)), .val (.double (dv x1)), .second] [(.double (dv x1)), (.double (dv x0))])) (fun X t q => XS.dload X.here C.hx rfl (hb C.hby d2_15) rfl q) ?_
  refine Wk.st (g' := (mkF m 18 #[.val (.ref a), .val (.int (4 : Int32)), .val (.int (1 : Int32)), .val (.int (0 : Int32)), .val (.double (dv x1)), .second] [(.int (cv x0 x1))])) (fun X t q => XS.dcmpS X.here C.hx rfl (hb C.hby d2_17) rfl (cmp_g r_x0 r_x1) q) ?_
  refine Wk.st (g' := (mkF m 21 #[.val (.ref a), .val (.int (4 : Int32)), .val (.int (1 : Int32)), .val (.int (0 : Int32)), .val (.double (dv x1)), .second] [])) (fun X t q => XS.ifNo X.here C.hx rfl (hb C.hby d2_18) rfl (XT.i0_ge_f (cv_neg.mpr hr)) q) ?_
  refine Wk.st (g' := (mkF m 22 #[.val (.ref a), .val (.int (4 : Int32)), .val (.int (1 : Int32)), .val (.int (0 : Int32)), .val (.double (dv x1)), .second] [(.int (1 : Int32))])) (fun X t q => XS.iconst X.here C.hx rfl (hb C.hby d2_21) q) ?_
  refine Wk.st (g' := (mkF m 26 #[.val (.ref a), .val (.int (4 : Int32)), .val (.int (1 : Int32)), .val (.int (0 : Int32)), .val (.double (dv x1)), .second] [(.int (1 : Int32))])) (fun X t q => XS.goto X.here C.hx rfl (pc0 := 22) (pc' := 26) rfl (hb C.hby d2_22) (by decide) (by decide) q) ?_
  exact Wk.retV C (t := .boolean) rfl rfl (Or.inl ⟨rfl, by simp, _, rfl⟩) d2_26 (by decide) (by decide) ⟨rfl, rfl⟩
set_option maxRecDepth 65536 in
set_option maxHeartbeats 40000000 in
theorem own_ok_4_1_1 (l : Launch) (Z : State) (a0 : Array Value) (hw : ∀ d ∈ tables_1, d.before a0 Z = true) (n0 : Nat) (h0 : Heap) (a : Addr) (x0 x1 x2 x3 : Int32) (r_x0 : 0 ≤ x0.toInt ∧ x0.toInt < 8) (r_x1 : 0 ≤ x1.toInt ∧ x1.toInt < 8) (r_x2 : 0 ≤ x2.toInt ∧ x2.toInt < 8) (r_x3 : 0 ≤ x3.toInt ∧ x3.toInt < 8) (PA : Fa Z h0 a .double 4 (up (up (up (up (fun _ => (.double (0 : UInt64))) 0 (.double (dv x0))) 1 (.double (dv x1))) 2 (.double (dv x2))) 3 (.double (dv x3)))) (hr : x1.toInt ≤ x1.toInt) :
    Met false l Z n0 (⟨"com/example/understory/understory/ClassifierMostProbablePinLaw", "ok", "([DIIID)Z"⟩ : MethodName) method_3_code 6 (some .boolean) ({ frames := 0, cells := 0, slots := 0, locals := 0 } : Room) #[(.ref a), (.int (4 : Int32)), (.int (1 : Int32)), (.int (1 : Int32)), (.double (dv x1))] h0 (fun v h => v = some (.int 1) ∧ h0 = h) := by
  refine Met.of (plainFor_of_name pn_1) #[.val (.ref a), .val (.int (4 : Int32)), .val (.int (1 : Int32)), .val (.int (1 : Int32)), .val (.double (dv x1)), .second] (fun m => by first | (simp [entryFrame, mkF, argsToLocals, Value.category]; done) | rfl) ?_
  intro p e s m below meth c C
  refine Wk.st (g' := (mkF m 1 #[.val (.ref a), .val (.int (4 : Int32)), .val (.int (1 : Int32)), .val (.int (1 : Int32)), .val (.double (dv x1)), .second] [(.int (1 : Int32))])) (fun X t q => XS.iloadN X.here C.hx rfl (hb C.hby d2_0) rfl q) ?_
  refine Wk.st (g' := (mkF m 2 #[.val (.ref a), .val (.int (4 : Int32)), .val (.int (1 : Int32)), .val (.int (1 : Int32)), .val (.double (dv x1)), .second] [(.int (4 : Int32)), (.int (1 : Int32))])) (fun X t q => XS.iloadN X.here C.hx rfl (hb C.hby d2_1) rfl q) ?_
  refine Wk.st (g' := (mkF m 7 #[.val (.ref a), .val (.int (4 : Int32)), .val (.int (1 : Int32)), .val (.int (1 : Int32)), .val (.double (dv x1)), .second] [])) (fun X t q => XS.icmpYes X.here C.hx rfl (pc0 := 2) (pc' := 7) rfl (hb C.hby d2_2) rfl (XT.ii_lt_t (by decide)) (by decide) (by decide) q) ?_
  refine Wk.st (g' := (mkF m 8 #[.val (.ref a), .val (.int (4 : Int32)), .val (.int (1 : Int32)), .val (.int (1 : Int32)), .val (.double (dv x1)), .second] [(.int (1 : Int32))])) (fun X t q => XS.iloadN X.here C.hx rfl (hb C.hby d2_7) rfl q) ?_
  refine Wk.st (g' := (mkF m 9 #[.val (.ref a), .val (.int (4 : Int32)), .val (.int (1 : Int32)), .val (.int (1 : Int32)), .val (.double (dv x1)), .second] [(.int (1 : Int32)), (.int (1 : Int32))])) (fun X t q => XS.iloadN X.here C.hx rfl (hb C.hby d2_8) rfl q) ?_
  refine Wk.st (g' := (mkF m 27 #[.val (.ref a), .val (.int (4 : Int32)), .val (.int (1 : Int32)), .val (.int (1 : Int32)), .val (.double (dv x1)), .second] [])) (fun X t q => XS.icmpYes X.here C.hx rfl (pc0 := 9) (pc' := 27) rfl (hb C.hby d2_9) rfl (XT.ii_ge_t (by decide)) (by decide) (by decide) q) ?_
  refine Wk.st (g' := (mkF m 28 #[.val (.ref a), .val (.int (4 : Int32)), .val (.int (1 : Int32)), .val (.int (1 : Int32)), .val (.double (dv x1)), .second] [(.ref a)])) (fun X t q => XS.aloadN X.here C.hx rfl (hb C.hby d2_27) rfl rfl q) ?_
  refine Wk.st (g' := (mkF m 29 #[.val (.ref a), .val (.int (4 : Int32)), .val (.int (1 : Int32)), .val (.int (1 : Int32)), .val (.double (dv x1)), .second] [(.int (1 : Int32)), (.ref a)])) (fun X t q => XS.iloadN X.here C.hx rfl (hb C.hby d2_28) rfl q) ?_
  refine Wk.fLdD C PA (i := 1) (by decide) (by decide) (by decide) (v := (.double (dv x1))) (by simp [up]) d2_29 ?_
  show Wk _ p l e _ s m _ below meth c n0 _ h0 0 0 (mkF m 30 #[.val (.ref a), .val (.int (4 : Int32)), .val (.int (1 : Int32)), .val (.int (1 : Int32)), .val (.double (dv x1)), .second] [(.double (dv x1))])
  refine Wk.st (g' := (mkF m 32 #[.val (.ref a), .val (.int (4 : Int32)), .val (.int (1 : Int32)), .val (.int (1 : Int32)), .val (.double (dv x1)), .second] [(.double (dv x1)), (.double (dv x1))])) (fun X t q => XS.dload X.here C.hx rfl (hb C.hby d2_30) rfl q) ?_
  refine Wk.st (g' := (mkF m 33 #[.val (.ref a), .val (.int (4 : Int32)), .val (.int (1 : Int32)), .val (.int (1 : Int32)), .val (.double (dv x1)), .second] [(.int (cv x1 x1))])) (fun X t q => XS.dcmpS X.here C.hx rfl (hb C.hby d2_32) rfl (cmp_g r_x1 r_x1) q) ?_
  refine Wk.st (g' := (mkF m 36 #[.val (.ref a), .val (.int (4 : Int32)), .val (.int (1 : Int32)), .val (.int (1 : Int32)), .val (.double (dv x1)), .second] [])) (fun X t q => XS.ifNo X.here C.hx rfl (hb C.hby d2_33) rfl (XT.i0_gt_f (fun q => absurd (cv_pos.mp q) (by omega))) q) ?_
  refine Wk.st (g' := (mkF m 37 #[.val (.ref a), .val (.int (4 : Int32)), .val (.int (1 : Int32)), .val (.int (1 : Int32)), .val (.double (dv x1)), .second] [(.int (1 : Int32))])) (fun X t q => XS.iconst X.here C.hx rfl (hb C.hby d2_36) q) ?_
  refine Wk.st (g' := (mkF m 41 #[.val (.ref a), .val (.int (4 : Int32)), .val (.int (1 : Int32)), .val (.int (1 : Int32)), .val (.double (dv x1)), .second] [(.int (1 : Int32))])) (fun X t q => XS.goto X.here C.hx rfl (pc0 := 37) (pc' := 41) rfl (hb C.hby d2_37) (by decide) (by decide) q) ?_
  exact Wk.retV C (t := .boolean) rfl rfl (Or.inl ⟨rfl, by simp, _, rfl⟩) d2_41 (by decide) (by decide) ⟨rfl, rfl⟩
set_option maxRecDepth 65536 in
set_option maxHeartbeats 40000000 in
theorem own_ok_4_1_2 (l : Launch) (Z : State) (a0 : Array Value) (hw : ∀ d ∈ tables_1, d.before a0 Z = true) (n0 : Nat) (h0 : Heap) (a : Addr) (x0 x1 x2 x3 : Int32) (r_x0 : 0 ≤ x0.toInt ∧ x0.toInt < 8) (r_x1 : 0 ≤ x1.toInt ∧ x1.toInt < 8) (r_x2 : 0 ≤ x2.toInt ∧ x2.toInt < 8) (r_x3 : 0 ≤ x3.toInt ∧ x3.toInt < 8) (PA : Fa Z h0 a .double 4 (up (up (up (up (fun _ => (.double (0 : UInt64))) 0 (.double (dv x0))) 1 (.double (dv x1))) 2 (.double (dv x2))) 3 (.double (dv x3)))) (hr : x2.toInt ≤ x1.toInt) :
    Met false l Z n0 (⟨"com/example/understory/understory/ClassifierMostProbablePinLaw", "ok", "([DIIID)Z"⟩ : MethodName) method_3_code 6 (some .boolean) ({ frames := 0, cells := 0, slots := 0, locals := 0 } : Room) #[(.ref a), (.int (4 : Int32)), (.int (1 : Int32)), (.int (2 : Int32)), (.double (dv x1))] h0 (fun v h => v = some (.int 1) ∧ h0 = h) := by
  refine Met.of (plainFor_of_name pn_1) #[.val (.ref a), .val (.int (4 : Int32)), .val (.int (1 : Int32)), .val (.int (2 : Int32)), .val (.double (dv x1)), .second] (fun m => by first | (simp [entryFrame, mkF, argsToLocals, Value.category]; done) | rfl) ?_
  intro p e s m below meth c C
  refine Wk.st (g' := (mkF m 1 #[.val (.ref a), .val (.int (4 : Int32)), .val (.int (1 : Int32)), .val (.int (2 : Int32)), .val (.double (dv x1)), .second] [(.int (2 : Int32))])) (fun X t q => XS.iloadN X.here C.hx rfl (hb C.hby d2_0) rfl q) ?_
  refine Wk.st (g' := (mkF m 2 #[.val (.ref a), .val (.int (4 : Int32)), .val (.int (1 : Int32)), .val (.int (2 : Int32)), .val (.double (dv x1)), .second] [(.int (4 : Int32)), (.int (2 : Int32))])) (fun X t q => XS.iloadN X.here C.hx rfl (hb C.hby d2_1) rfl q) ?_
  refine Wk.st (g' := (mkF m 7 #[.val (.ref a), .val (.int (4 : Int32)), .val (.int (1 : Int32)), .val (.int (2 : Int32)), .val (.double (dv x1)), .second] [])) (fun X t q => XS.icmpYes X.here C.hx rfl (pc0 := 2) (pc' := 7) rfl (hb C.hby d2_2) rfl (XT.ii_lt_t (by decide)) (by decide) (by decide) q) ?_
  refine Wk.st (g' := (mkF m 8 #[.val (.ref a), .val (.int (4 : Int32)), .val (.int (1 : Int32)), .val (.int (2 : Int32)), .val (.double (dv x1)), .second] [(.int (2 : Int32))])) (fun X t q => XS.iloadN X.here C.hx rfl (hb C.hby d2_7) rfl q) ?_
  refine Wk.st (g' := (mkF m 9 #[.val (.ref a), .val (.int (4 : Int32)), .val (.int (1 : Int32)), .val (.int (2 : Int32)), .val (.double (dv x1)), .second] [(.int (1 : Int32)), (.int (2 : Int32))])) (fun X t q => XS.iloadN X.here C.hx rfl (hb C.hby d2_8) rfl q) ?_
  refine Wk.st (g' := (mkF m 27 #[.val (.ref a), .val (.int (4 : Int32)), .val (.int (1 : Int32)), .val (.int (2 : Int32)), .val (.double (dv x1)), .second] [])) (fun X t q => XS.icmpYes X.here C.hx rfl (pc0 := 9) (pc' := 27) rfl (hb C.hby d2_9) rfl (XT.ii_ge_t (by decide)) (by decide) (by decide) q) ?_
  refine Wk.st (g' := (mkF m 28 #[.val (.ref a), .val (.int (4 : Int32)), .val (.int (1 : Int32)), .val (.int (2 : Int32)), .val (.double (dv x1)), .second] [(.ref a)])) (fun X t q => XS.aloadN X.here C.hx rfl (hb C.hby d2_27) rfl rfl q) ?_
  refine Wk.st (g' := (mkF m 29 #[.val (.ref a), .val (.int (4 : Int32)), .val (.int (1 : Int32)), .val (.int (2 : Int32)), .val (.double (dv x1)), .second] [(.int (2 : Int32)), (.ref a)])) (fun X t q => XS.iloadN X.here C.hx rfl (hb C.hby d2_28) rfl q) ?_
  refine Wk.fLdD C PA (i := 2) (by decide) (by decide) (by decide) (v := (.double (dv x2))) (by simp [up]) d2_29 ?_
  show Wk _ p l e _ s m _ below meth c n0 _ h0 0 0 (mkF m 30 #[.val (.ref a), .val (.int (4 : Int32)), .val (.int (1 : Int32)), .val (.int (2 : Int32)), .val (.double (dv x1)), .second] [(.double (dv x2))])
  refine Wk.st (g' := (mkF m 32 #[.val (.ref a), .val (.int (4 : Int32)), .val (.int (1 : Int32)), .val (.int (2 : Int32)), .val (.double (dv x1)), .second] [(.double (dv x1)), (.double (dv x2))])) (fun X t q => XS.dload X.here C.hx rfl (hb C.hby d2_30) rfl q) ?_
  refine Wk.st (g' := (mkF m 33 #[.val (.ref a), .val (.int (4 : Int32)), .val (.int (1 : Int32)), .val (.int (2 : Int32)), .val (.double (dv x1)), .second] [(.int (cv x2 x1))])) (fun X t q => XS.dcmpS X.here C.hx rfl (hb C.hby d2_32) rfl (cmp_g r_x2 r_x1) q) ?_
  refine Wk.st (g' := (mkF m 36 #[.val (.ref a), .val (.int (4 : Int32)), .val (.int (1 : Int32)), .val (.int (2 : Int32)), .val (.double (dv x1)), .second] [])) (fun X t q => XS.ifNo X.here C.hx rfl (hb C.hby d2_33) rfl (XT.i0_gt_f (fun q => absurd (cv_pos.mp q) (by omega))) q) ?_
  refine Wk.st (g' := (mkF m 37 #[.val (.ref a), .val (.int (4 : Int32)), .val (.int (1 : Int32)), .val (.int (2 : Int32)), .val (.double (dv x1)), .second] [(.int (1 : Int32))])) (fun X t q => XS.iconst X.here C.hx rfl (hb C.hby d2_36) q) ?_
  refine Wk.st (g' := (mkF m 41 #[.val (.ref a), .val (.int (4 : Int32)), .val (.int (1 : Int32)), .val (.int (2 : Int32)), .val (.double (dv x1)), .second] [(.int (1 : Int32))])) (fun X t q => XS.goto X.here C.hx rfl (pc0 := 37) (pc' := 41) rfl (hb C.hby d2_37) (by decide) (by decide) q) ?_
  exact Wk.retV C (t := .boolean) rfl rfl (Or.inl ⟨rfl, by simp, _, rfl⟩) d2_41 (by decide) (by decide) ⟨rfl, rfl⟩
set_option maxRecDepth 65536 in
set_option maxHeartbeats 40000000 in
theorem own_ok_4_1_3 (l : Launch) (Z : State) (a0 : Array Value) (hw : ∀ d ∈ tables_1, d.before a0 Z = true) (n0 : Nat) (h0 : Heap) (a : Addr) (x0 x1 x2 x3 : Int32) (r_x0 : 0 ≤ x0.toInt ∧ x0.toInt < 8) (r_x1 : 0 ≤ x1.toInt ∧ x1.toInt < 8) (r_x2 : 0 ≤ x2.toInt ∧ x2.toInt < 8) (r_x3 : 0 ≤ x3.toInt ∧ x3.toInt < 8) (PA : Fa Z h0 a .double 4 (up (up (up (up (fun _ => (.double (0 : UInt64))) 0 (.double (dv x0))) 1 (.double (dv x1))) 2 (.double (dv x2))) 3 (.double (dv x3)))) (hr : x3.toInt ≤ x1.toInt) :
    Met false l Z n0 (⟨"com/example/understory/understory/ClassifierMostProbablePinLaw", "ok", "([DIIID)Z"⟩ : MethodName) method_3_code 6 (some .boolean) ({ frames := 0, cells := 0, slots := 0, locals := 0 } : Room) #[(.ref a), (.int (4 : Int32)), (.int (1 : Int32)), (.int (3 : Int32)), (.double (dv x1))] h0 (fun v h => v = some (.int 1) ∧ h0 = h) := by
  refine Met.of (plainFor_of_name pn_1) #[.val (.ref a), .val (.int (4 : Int32)), .val (.int (1 : Int32)), .val (.int (3 : Int32)), .val (.double (dv x1)), .second] (fun m => by first | (simp [entryFrame, mkF, argsToLocals, Value.category]; done) | rfl) ?_
  intro p e s m below meth c C
  refine Wk.st (g' := (mkF m 1 #[.val (.ref a), .val (.int (4 : Int32)), .val (.int (1 : Int32)), .val (.int (3 : Int32)), .val (.double (dv x1)), .second] [(.int (3 : Int32))])) (fun X t q => XS.iloadN X.here C.hx rfl (hb C.hby d2_0) rfl q) ?_
  refine Wk.st (g' := (mkF m 2 #[.val (.ref a), .val (.int (4 : Int32)), .val (.int (1 : Int32)), .val (.int (3 : Int32)), .val (.double (dv x1)), .second] [(.int (4 : Int32)), (.int (3 : Int32))])) (fun X t q => XS.iloadN X.here C.hx rfl (hb C.hby d2_1) rfl q) ?_
  refine Wk.st (g' := (mkF m 7 #[.val (.ref a), .val (.int (4 : Int32)), .val (.int (1 : Int32)), .val (.int (3 : Int32)), .val (.double (dv x1)), .second] [])) (fun X t q => XS.icmpYes X.here C.hx rfl (pc0 := 2) (pc' := 7) rfl (hb C.hby d2_2) rfl (XT.ii_lt_t (by decide)) (by decide) (by decide) q) ?_
  refine Wk.st (g' := (mkF m 8 #[.val (.ref a), .val (.int (4 : Int32)), .val (.int (1 : Int32)), .val (.int (3 : Int32)), .val (.double (dv x1)), .second] [(.int (3 : Int32))])) (fun X t q => XS.iloadN X.here C.hx rfl (hb C.hby d2_7) rfl q) ?_
  refine Wk.st (g' := (mkF m 9 #[.val (.ref a), .val (.int (4 : Int32)), .val (.int (1 : Int32)), .val (.int (3 : Int32)), .val (.double (dv x1)), .second] [(.int (1 : Int32)), (.int (3 : Int32))])) (fun X t q => XS.iloadN X.here C.hx rfl (hb C.hby d2_8) rfl q) ?_
  refine Wk.st (g' := (mkF m 27 #[.val (.ref a), .val (.int (4 : Int32)), .val (.int (1 : Int32)), .val (.int (3 : Int32)), .val (.double (dv x1)), .second] [])) (fun X t q => XS.icmpYes X.here C.hx rfl (pc0 := 9) (pc' := 27) rfl (hb C.hby d2_9) rfl (XT.ii_ge_t (by decide)) (by decide) (by decide) q) ?_
  refine Wk.st (g' := (mkF m 28 #[.val (.ref a), .val (.int (4 : Int32)), .val (.int (1 : Int32)), .val (.int (3 : Int32)), .val (.double (dv x1)), .second] [(.ref a)])) (fun X t q => XS.aloadN X.here C.hx rfl (hb C.hby d2_27) rfl rfl q) ?_
  refine Wk.st (g' := (mkF m 29 #[.val (.ref a), .val (.int (4 : Int32)), .val (.int (1 : Int32)), .val (.int (3 : Int32)), .val (.double (dv x1)), .second] [(.int (3 : Int32)), (.ref a)])) (fun X t q => XS.iloadN X.here C.hx rfl (hb C.hby d2_28) rfl q) ?_
  refine Wk.fLdD C PA (i := 3) (by decide) (by decide) (by decide) (v := (.double (dv x3))) (by simp [up]) d2_29 ?_
  show Wk _ p l e _ s m _ below meth c n0 _ h0 0 0 (mkF m 30 #[.val (.ref a), .val (.int (4 : Int32)), .val (.int (1 : Int32)), .val (.int (3 : Int32)), .val (.double (dv x1)), .second] [(.double (dv x3))])
  refine Wk.st (g' := (mkF m 32 #[.val (.ref a), .val (.int (4 : Int32)), .val (.int (1 : Int32)), .val (.int (3 : Int32)), .val (.double (dv x1)), .second] [(.double (dv x1)), (.double (dv x3))])) (fun X t q => XS.dload X.here C.hx rfl (hb C.hby d2_30) rfl q) ?_
  refine Wk.st (g' := (mkF m 33 #[.val (.ref a), .val (.int (4 : Int32)), .val (.int (1 : Int32)), .val (.int (3 : Int32)), .val (.double (dv x1)), .second] [(.int (cv x3 x1))])) (fun X t q => XS.dcmpS X.here C.hx rfl (hb C.hby d2_32) rfl (cmp_g r_x3 r_x1) q) ?_
  refine Wk.st (g' := (mkF m 36 #[.val (.ref a), .val (.int (4 : Int32)), .val (.int (1 : Int32)), .val (.int (3 : Int32)), .val (.double (dv x1)), .second] [])) (fun X t q => XS.ifNo X.here C.hx rfl (hb C.hby d2_33) rfl (XT.i0_gt_f (fun q => absurd (cv_pos.mp q) (by omega))) q) ?_
  refine Wk.st (g' := (mkF m 37 #[.val (.ref a), .val (.int (4 : Int32)), .val (.int (1 : Int32)), .val (.int (3 : Int32)), .val (.double (dv x1)), .second] [(.int (1 : Int32))])) (fun X t q => XS.iconst X.here C.hx rfl (hb C.hby d2_36) q) ?_
  refine Wk.st (g' := (mkF m 41 #[.val (.ref a), .val (.int (4 : Int32)), .val (.int (1 : Int32)), .val (.int (3 : Int32)), .val (.double (dv x1)), .second] [(.int (1 : Int32))])) (fun X t q => XS.goto X.here C.hx rfl (pc0 := 37) (pc' := 41) rfl (hb C.hby d2_37) (by decide) (by decide) q) ?_
  exact Wk.retV C (t := .boolean) rfl rfl (Or.inl ⟨rfl, by simp, _, rfl⟩) d2_41 (by decide) (by decide) ⟨rfl, rfl⟩
set_option maxRecDepth 65536 in
set_option maxHeartbeats 40000000 in
theorem own_ok_4_2_0 (l : Launch) (Z : State) (a0 : Array Value) (hw : ∀ d ∈ tables_1, d.before a0 Z = true) (n0 : Nat) (h0 : Heap) (a : Addr) (x0 x1 x2 x3 : Int32) (r_x0 : 0 ≤ x0.toInt ∧ x0.toInt < 8) (r_x1 : 0 ≤ x1.toInt ∧ x1.toInt < 8) (r_x2 : 0 ≤ x2.toInt ∧ x2.toInt < 8) (r_x3 : 0 ≤ x3.toInt ∧ x3.toInt < 8) (PA : Fa Z h0 a .double 4 (up (up (up (up (fun _ => (.double (0 : UInt64))) 0 (.double (dv x0))) 1 (.double (dv x1))) 2 (.double (dv x2))) 3 (.double (dv x3)))) (hr : x0.toInt < x2.toInt) :
    Met false l Z n0 (⟨"com/example/understory/understory/ClassifierMostProbablePinLaw", "ok", "([DIIID)Z"⟩ : MethodName) method_3_code 6 (some .boolean) ({ frames := 0, cells := 0, slots := 0, locals := 0 } : Room) #[(.ref a), (.int (4 : Int32)), (.int (2 : Int32)), (.int (0 : Int32)), (.double (dv x2))] h0 (fun v h => v = some (.int 1) ∧ h0 = h) := by
  refine Met.of (plainFor_of_name pn_1) #[.val (.ref a), .val (.int (4 : Int32)), .val (.int (2 : Int32)), .val (.int (0 : Int32)), .val (.double (dv x2)), .second] (fun m => by first | (simp [entryFrame, mkF, argsToLocals, Value.category]; done) | rfl) ?_
  intro p e s m below meth c C
  refine Wk.st (g' := (mkF m 1 #[.val (.ref a), .val (.int (4 : Int32)), .val (.int (2 : Int32)), .val (.int (0 : Int32)), .val (.double (dv x2)), .second] [(.int (0 : Int32))])) (fun X t q => XS.iloadN X.here C.hx rfl (hb C.hby d2_0) rfl q) ?_
  refine Wk.st (g' := (mkF m 2 #[.val (.ref a), .val (.int (4 : Int32)), .val (.int (2 : Int32)), .val (.int (0 : Int32)), .val (.double (dv x2)), .second] [(.int (4 : Int32)), (.int (0 : Int32))])) (fun X t q => XS.iloadN X.here C.hx rfl (hb C.hby d2_1) rfl q) ?_
  refine Wk.st (g' := (mkF m 7 #[.val (.ref a), .val (.int (4 : Int32)), .val (.int (2 : Int32)), .val (.int (0 : Int32)), .val (.double (dv x2)), .second] [])) (fun X t q => XS.icmpYes X.here C.hx rfl (pc0 := 2) (pc' := 7) rfl (hb C.hby d2_2) rfl (XT.ii_lt_t (by decide)) (by decide) (by decide) q) ?_
  refine Wk.st (g' := (mkF m 8 #[.val (.ref a), .val (.int (4 : Int32)), .val (.int (2 : Int32)), .val (.int (0 : Int32)), .val (.double (dv x2)), .second] [(.int (0 : Int32))])) (fun X t q => XS.iloadN X.here C.hx rfl (hb C.hby d2_7) rfl q) ?_
  refine Wk.st (g' := (mkF m 9 #[.val (.ref a), .val (.int (4 : Int32)), .val (.int (2 : Int32)), .val (.int (0 : Int32)), .val (.double (dv x2)), .second] [(.int (2 : Int32)), (.int (0 : Int32))])) (fun X t q => XS.iloadN X.here C.hx rfl (hb C.hby d2_8) rfl q) ?_
  refine Wk.st (g' := (mkF m 12 #[.val (.ref a), .val (.int (4 : Int32)), .val (.int (2 : Int32)), .val (.int (0 : Int32)), .val (.double (dv x2)), .second] [])) (fun X t q => XS.icmpNo X.here C.hx rfl (hb C.hby d2_9) rfl (XT.ii_ge_f (by decide)) q) ?_
  refine Wk.st (g' := (mkF m 13 #[.val (.ref a), .val (.int (4 : Int32)), .val (.int (2 : Int32)), .val (.int (0 : Int32)), .val (.double (dv x2)), .second] [(.ref a)])) (fun X t q => XS.aloadN X.here C.hx rfl (hb C.hby d2_12) rfl rfl q) ?_
  refine Wk.st (g' := (mkF m 14 #[.val (.ref a), .val (.int (4 : Int32)), .val (.int (2 : Int32)), .val (.int (0 : Int32)), .val (.double (dv x2)), .second] [(.int (0 : Int32)), (.ref a)])) (fun X t q => XS.iloadN X.here C.hx rfl (hb C.hby d2_13) rfl q) ?_
  refine Wk.fLdD C PA (i := 0) (by decide) (by decide) (by decide) (v := (.double (dv x0))) (by simp [up]) d2_14 ?_
  show Wk _ p l e _ s m _ below meth c n0 _ h0 0 0 (mkF m 15 #[.val (.ref a), .val (.int (4 : Int32)), .val (.int (2 : Int32)), .val (.int (0 : Int32)), .val (.double (dv x2)), .second] [(.double (dv x0))])
  refine Wk.st (g' := (mkF m 17 #[.val (.ref a), .val (.int (4 : Int32)), .val (.int (2 : Int32)), .val (.int (0 : Int32)), .val (.double (dv x2)), .second] [(.double (dv x2)), (.double (dv x0))])) (fun X t q => XS.dload X.here C.hx rfl (hb C.hby d2_15) rfl q) ?_
  refine Wk.st (g' := (mkF m 18 #[.val (.ref a), .val (.int (4 : Int32)), .val (.int (2 : Int32)), .val (.int (0 : Int32)), .val (.double (dv x2)), .second] [(.int (cv x0 x2))])) (fun X t q => XS.dcmpS X.here C.hx rfl (hb C.hby d2_17) rfl (cmp_g r_x0 r_x2) q) ?_
  refine Wk.st (g' := (mkF m 21 #[.val (.ref a), .val (.int (4 : Int32)), .val (.int (2 : Int32)), .val (.int (0 : Int32)), .val (.double (dv x2)), .second] [])) (fun X t q => XS.ifNo X.here C.hx rfl (hb C.hby d2_18) rfl (XT.i0_ge_f (cv_neg.mpr hr)) q) ?_
  refine Wk.st (g' := (mkF m 22 #[.val (.ref a), .val (.int (4 : Int32)), .val (.int (2 : Int32)), .val (.int (0 : Int32)), .val (.double (dv x2)), .second] [(.int (1 : Int32))])) (fun X t q => XS.iconst X.here C.hx rfl (hb C.hby d2_21) q) ?_
  refine Wk.st (g' := (mkF m 26 #[.val (.ref a), .val (.int (4 : Int32)), .val (.int (2 : Int32)), .val (.int (0 : Int32)), .val (.double (dv x2)), .second] [(.int (1 : Int32))])) (fun X t q => XS.goto X.here C.hx rfl (pc0 := 22) (pc' := 26) rfl (hb C.hby d2_22) (by decide) (by decide) q) ?_
  exact Wk.retV C (t := .boolean) rfl rfl (Or.inl ⟨rfl, by simp, _, rfl⟩) d2_26 (by decide) (by decide) ⟨rfl, rfl⟩
set_option maxRecDepth 65536 in
set_option maxHeartbeats 40000000 in
theorem own_ok_4_2_1 (l : Launch) (Z : State) (a0 : Array Value) (hw : ∀ d ∈ tables_1, d.before a0 Z = true) (n0 : Nat) (h0 : Heap) (a : Addr) (x0 x1 x2 x3 : Int32) (r_x0 : 0 ≤ x0.toInt ∧ x0.toInt < 8) (r_x1 : 0 ≤ x1.toInt ∧ x1.toInt < 8) (r_x2 : 0 ≤ x2.toInt ∧ x2.toInt < 8) (r_x3 : 0 ≤ x3.toInt ∧ x3.toInt < 8) (PA : Fa Z h0 a .double 4 (up (up (up (up (fun _ => (.double (0 : UInt64))) 0 (.double (dv x0))) 1 (.double (dv x1))) 2 (.double (dv x2))) 3 (.double (dv x3)))) (hr : x1.toInt < x2.toInt) :
    Met false l Z n0 (⟨"com/example/understory/understory/ClassifierMostProbablePinLaw", "ok", "([DIIID)Z"⟩ : MethodName) method_3_code 6 (some .boolean) ({ frames := 0, cells := 0, slots := 0, locals := 0 } : Room) #[(.ref a), (.int (4 : Int32)), (.int (2 : Int32)), (.int (1 : Int32)), (.double (dv x2))] h0 (fun v h => v = some (.int 1) ∧ h0 = h) := by
  refine Met.of (plainFor_of_name pn_1) #[.val (.ref a), .val (.int (4 : Int32)), .val (.int (2 : Int32)), .val (.int (1 : Int32)), .val (.double (dv x2)), .second] (fun m => by first | (simp [entryFrame, mkF, argsToLocals, Value.category]; done) | rfl) ?_
  intro p e s m below meth c C
  refine Wk.st (g' := (mkF m 1 #[.val (.ref a), .val (.int (4 : Int32)), .val (.int (2 : Int32)), .val (.int (1 : Int32)), .val (.double (dv x2)), .second] [(.int (1 : Int32))])) (fun X t q => XS.iloadN X.here C.hx rfl (hb C.hby d2_0) rfl q) ?_
  refine Wk.st (g' := (mkF m 2 #[.val (.ref a), .val (.int (4 : Int32)), .val (.int (2 : Int32)), .val (.int (1 : Int32)), .val (.double (dv x2)), .second] [(.int (4 : Int32)), (.int (1 : Int32))])) (fun X t q => XS.iloadN X.here C.hx rfl (hb C.hby d2_1) rfl q) ?_
  refine Wk.st (g' := (mkF m 7 #[.val (.ref a), .val (.int (4 : Int32)), .val (.int (2 : Int32)), .val (.int (1 : Int32)), .val (.double (dv x2)), .second] [])) (fun X t q => XS.icmpYes X.here C.hx rfl (pc0 := 2) (pc' := 7) rfl (hb C.hby d2_2) rfl (XT.ii_lt_t (by decide)) (by decide) (by decide) q) ?_
  refine Wk.st (g' := (mkF m 8 #[.val (.ref a), .val (.int (4 : Int32)), .val (.int (2 : Int32)), .val (.int (1 : Int32)), .val (.double (dv x2)), .second] [(.int (1 : Int32))])) (fun X t q => XS.iloadN X.here C.hx rfl (hb C.hby d2_7) rfl q) ?_
  refine Wk.st (g' := (mkF m 9 #[.val (.ref a), .val (.int (4 : Int32)), .val (.int (2 : Int32)), .val (.int (1 : Int32)), .val (.double (dv x2)), .second] [(.int (2 : Int32)), (.int (1 : Int32))])) (fun X t q => XS.iloadN X.here C.hx rfl (hb C.hby d2_8) rfl q) ?_
  refine Wk.st (g' := (mkF m 12 #[.val (.ref a), .val (.int (4 : Int32)), .val (.int (2 : Int32)), .val (.int (1 : Int32)), .val (.double (dv x2)), .second] [])) (fun X t q => XS.icmpNo X.here C.hx rfl (hb C.hby d2_9) rfl (XT.ii_ge_f (by decide)) q) ?_
  refine Wk.st (g' := (mkF m 13 #[.val (.ref a), .val (.int (4 : Int32)), .val (.int (2 : Int32)), .val (.int (1 : Int32)), .val (.double (dv x2)), .second] [(.ref a)])) (fun X t q => XS.aloadN X.here C.hx rfl (hb C.hby d2_12) rfl rfl q) ?_
  refine Wk.st (g' := (mkF m 14 #[.val (.ref a), .val (.int (4 : Int32)), .val (.int (2 : Int32)), .val (.int (1 : Int32)), .val (.double (dv x2)), .second] [(.int (1 : Int32)), (.ref a)])) (fun X t q => XS.iloadN X.here C.hx rfl (hb C.hby d2_13) rfl q) ?_
  refine Wk.fLdD C PA (i := 1) (by decide) (by decide) (by decide) (v := (.double (dv x1))) (by simp [up]) d2_14 ?_
  show Wk _ p l e _ s m _ below meth c n0 _ h0 0 0 (mkF m 15 #[.val (.ref a), .val (.int (4 : Int32)), .val (.int (2 : Int32)), .val (.int (1 : Int32)), .val (.double (dv x2)), .second] [(.double (dv x1))])
  refine Wk.st (g' := (mkF m 17 #[.val (.ref a), .val (.int (4 : Int32)), .val (.int (2 : Int32)), .val (.int (1 : Int32)), .val (.double (dv x2)), .second] [(.double (dv x2)), (.double (dv x1))])) (fun X t q => XS.dload X.here C.hx rfl (hb C.hby d2_15) rfl q) ?_
  refine Wk.st (g' := (mkF m 18 #[.val (.ref a), .val (.int (4 : Int32)), .val (.int (2 : Int32)), .val (.int (1 : Int32)), .val (.double (dv x2)), .second] [(.int (cv x1 x2))])) (fun X t q => XS.dcmpS X.here C.hx rfl (hb C.hby d2_17) rfl (cmp_g r_x1 r_x2) q) ?_
  refine Wk.st (g' := (mkF m 21 #[.val (.ref a), .val (.int (4 : Int32)), .val (.int (2 : Int32)), .val (.int (1 : Int32)), .val (.double (dv x2)), .second] [])) (fun X t q => XS.ifNo X.here C.hx rfl (hb C.hby d2_18) rfl (XT.i0_ge_f (cv_neg.mpr hr)) q) ?_
  refine Wk.st (g' := (mkF m 22 #[.val (.ref a), .val (.int (4 : Int32)), .val (.int (2 : Int32)), .val (.int (1 : Int32)), .val (.double (dv x2)), .second] [(.int (1 : Int32))])) (fun X t q => XS.iconst X.here C.hx rfl (hb C.hby d2_21) q) ?_
  refine Wk.st (g' := (mkF m 26 #[.val (.ref a), .val (.int (4 : Int32)), .val (.int (2 : Int32)), .val (.int (1 : Int32)), .val (.double (dv x2)), .second] [(.int (1 : Int32))])) (fun X t q => XS.goto X.here C.hx rfl (pc0 := 22) (pc' := 26) rfl (hb C.hby d2_22) (by decide) (by decide) q) ?_
  exact Wk.retV C (t := .boolean) rfl rfl (Or.inl ⟨rfl, by simp, _, rfl⟩) d2_26 (by decide) (by decide) ⟨rfl, rfl⟩
set_option maxRecDepth 65536 in
set_option maxHeartbeats 40000000 in
theorem own_ok_4_2_2 (l : Launch) (Z : State) (a0 : Array Value) (hw : ∀ d ∈ tables_1, d.before a0 Z = true) (n0 : Nat) (h0 : Heap) (a : Addr) (x0 x1 x2 x3 : Int32) (r_x0 : 0 ≤ x0.toInt ∧ x0.toInt < 8) (r_x1 : 0 ≤ x1.toInt ∧ x1.toInt < 8) (r_x2 : 0 ≤ x2.toInt ∧ x2.toInt < 8) (r_x3 : 0 ≤ x3.toInt ∧ x3.toInt < 8) (PA : Fa Z h0 a .double 4 (up (up (up (up (fun _ => (.double (0 : UInt64))) 0 (.double (dv x0))) 1 (.double (dv x1))) 2 (.double (dv x2))) 3 (.double (dv x3)))) (hr : x2.toInt ≤ x2.toInt) :
    Met false l Z n0 (⟨"com/example/understory/understory/ClassifierMostProbablePinLaw", "ok", "([DIIID)Z"⟩ : MethodName) method_3_code 6 (some .boolean) ({ frames := 0, cells := 0, slots := 0, locals := 0 } : Room) #[(.ref a), (.int (4 : Int32)), (.int (2 : Int32)), (.int (2 : Int32)), (.double (dv x2))] h0 (fun v h => v = some (.int 1) ∧ h0 = h) := by
  refine Met.of (plainFor_of_name pn_1) #[.val (.ref a), .val (.int (4 : Int32)), .val (.int (2 : Int32)), .val (.int (2 : Int32)), .val (.double (dv x2)), .second] (fun m => by first | (simp [entryFrame, mkF, argsToLocals, Value.category]; done) | rfl) ?_
  intro p e s m below meth c C
  refine Wk.st (g' := (mkF m 1 #[.val (.ref a), .val (.int (4 : Int32)), .val (.int (2 : Int32)), .val (.int (2 : Int32)), .val (.double (dv x2)), .second] [(.int (2 : Int32))])) (fun X t q => XS.iloadN X.here C.hx rfl (hb C.hby d2_0) rfl q) ?_
  refine Wk.st (g' := (mkF m 2 #[.val (.ref a), .val (.int (4 : Int32)), .val (.int (2 : Int32)), .val (.int (2 : Int32)), .val (.double (dv x2)), .second] [(.int (4 : Int32)), (.int (2 : Int32))])) (fun X t q => XS.iloadN X.here C.hx rfl (hb C.hby d2_1) rfl q) ?_
  refine Wk.st (g' := (mkF m 7 #[.val (.ref a), .val (.int (4 : Int32)), .val (.int (2 : Int32)), .val (.int (2 : Int32)), .val (.double (dv x2)), .second] [])) (fun X t q => XS.icmpYes X.here C.hx rfl (pc0 := 2) (pc' := 7) rfl (hb C.hby d2_2) rfl (XT.ii_lt_t (by decide)) (by decide) (by decide) q) ?_
  refine Wk.st (g' := (mkF m 8 #[.val (.ref a), .val (.int (4 : Int32)), .val (.int (2 : Int32)), .val (.int (2 : Int32)), .val (.double (dv x2)), .second] [(.int (2 : Int32))])) (fun X t q => XS.iloadN X.here C.hx rfl (hb C.hby d2_7) rfl q) ?_
  refine Wk.st (g' := (mkF m 9 #[.val (.ref a), .val (.int (4 : Int32)), .val (.int (2 : Int32)), .val (.int (2 : Int32)), .val (.double (dv x2)), .second] [(.int (2 : Int32)), (.int (2 : Int32))])) (fun X t q => XS.iloadN X.here C.hx rfl (hb C.hby d2_8) rfl q) ?_
  refine Wk.st (g' := (mkF m 27 #[.val (.ref a), .val (.int (4 : Int32)), .val (.int (2 : Int32)), .val (.int (2 : Int32)), .val (.double (dv x2)), .second] [])) (fun X t q => XS.icmpYes X.here C.hx rfl (pc0 := 9) (pc' := 27) rfl (hb C.hby d2_9) rfl (XT.ii_ge_t (by decide)) (by decide) (by decide) q) ?_
  refine Wk.st (g' := (mkF m 28 #[.val (.ref a), .val (.int (4 : Int32)), .val (.int (2 : Int32)), .val (.int (2 : Int32)), .val (.double (dv x2)), .second] [(.ref a)])) (fun X t q => XS.aloadN X.here C.hx rfl (hb C.hby d2_27) rfl rfl q) ?_
  refine Wk.st (g' := (mkF m 29 #[.val (.ref a), .val (.int (4 : Int32)), .val (.int (2 : Int32)), .val (.int (2 : Int32)), .val (.double (dv x2)), .second] [(.int (2 : Int32)), (.ref a)])) (fun X t q => XS.iloadN X.here C.hx rfl (hb C.hby d2_28) rfl q) ?_
  refine Wk.fLdD C PA (i := 2) (by decide) (by decide) (by decide) (v := (.double (dv x2))) (by simp [up]) d2_29 ?_
  show Wk _ p l e _ s m _ below meth c n0 _ h0 0 0 (mkF m 30 #[.val (.ref a), .val (.int (4 : Int32)), .val (.int (2 : Int32)), .val (.int (2 : Int32)), .val (.double (dv x2)), .second] [(.double (dv x2))])
  refine Wk.st (g' := (mkF m 32 #[.val (.ref a), .val (.int (4 : Int32)), .val (.int (2 : Int32)), .val (.int (2 : Int32)), .val (.double (dv x2)), .second] [(.double (dv x2)), (.double (dv x2))])) (fun X t q => XS.dload X.here C.hx rfl (hb C.hby d2_30) rfl q) ?_
  refine Wk.st (g' := (mkF m 33 #[.val (.ref a), .val (.int (4 : Int32)), .val (.int (2 : Int32)), .val (.int (2 : Int32)), .val (.double (dv x2)), .second] [(.int (cv x2 x2))])) (fun X t q => XS.dcmpS X.here C.hx rfl (hb C.hby d2_32) rfl (cmp_g r_x2 r_x2) q) ?_
  refine Wk.st (g' := (mkF m 36 #[.val (.ref a), .val (.int (4 : Int32)), .val (.int (2 : Int32)), .val (.int (2 : Int32)), .val (.double (dv x2)), .second] [])) (fun X t q => XS.ifNo X.here C.hx rfl (hb C.hby d2_33) rfl (XT.i0_gt_f (fun q => absurd (cv_pos.mp q) (by omega))) q) ?_
  refine Wk.st (g' := (mkF m 37 #[.val (.ref a), .val (.int (4 : Int32)), .val (.int (2 : Int32)), .val (.int (2 : Int32)), .val (.double (dv x2)), .second] [(.int (1 : Int32))])) (fun X t q => XS.iconst X.here C.hx rfl (hb C.hby d2_36) q) ?_
  refine Wk.st (g' := (mkF m 41 #[.val (.ref a), .val (.int (4 : Int32)), .val (.int (2 : Int32)), .val (.int (2 : Int32)), .val (.double (dv x2)), .second] [(.int (1 : Int32))])) (fun X t q => XS.goto X.here C.hx rfl (pc0 := 37) (pc' := 41) rfl (hb C.hby d2_37) (by decide) (by decide) q) ?_
  exact Wk.retV C (t := .boolean) rfl rfl (Or.inl ⟨rfl, by simp, _, rfl⟩) d2_41 (by decide) (by decide) ⟨rfl, rfl⟩
set_option maxRecDepth 65536 in
set_option maxHeartbeats 40000000 in
theorem own_ok_4_2_3 (l : Launch) (Z : State) (a0 : Array Value) (hw : ∀ d ∈ tables_1, d.before a0 Z = true) (n0 : Nat) (h0 : Heap) (a : Addr) (x0 x1 x2 x3 : Int32) (r_x0 : 0 ≤ x0.toInt ∧ x0.toInt < 8) (r_x1 : 0 ≤ x1.toInt ∧ x1.toInt < 8) (r_x2 : 0 ≤ x2.toInt ∧ x2.toInt < 8) (r_x3 : 0 ≤ x3.toInt ∧ x3.toInt < 8) (PA : Fa Z h0 a .double 4 (up (up (up (up (fun _ => (.double (0 : UInt64))) 0 (.double (dv x0))) 1 (.double (dv x1))) 2 (.double (dv x2))) 3 (.double (dv x3)))) (hr : x3.toInt ≤ x2.toInt) :
    Met false l Z n0 (⟨"com/example/understory/understory/ClassifierMostProbablePinLaw", "ok", "([DIIID)Z"⟩ : MethodName) method_3_code 6 (some .boolean) ({ frames := 0, cells := 0, slots := 0, locals := 0 } : Room) #[(.ref a), (.int (4 : Int32)), (.int (2 : Int32)), (.int (3 : Int32)), (.double (dv x2))] h0 (fun v h => v = some (.int 1) ∧ h0 = h) := by
  refine Met.of (plainFor_of_name pn_1) #[.val (.ref a), .val (.int (4 : Int32)), .val (.int (2 : Int32)), .val (.int (3 : Int32)), .val (.double (dv x2)), .second] (fun m => by first | (simp [entryFrame, mkF, argsToLocals, Value.category]; done) | rfl) ?_
  intro p e s m below meth c C
  refine Wk.st (g' := (mkF m 1 #[.val (.ref a), .val (.int (4 : Int32)), .val (.int (2 : Int32)), .val (.int (3 : Int32)), .val (.double (dv x2)), .second] [(.int (3 : Int32))])) (fun X t q => XS.iloadN X.here C.hx rfl (hb C.hby d2_0) rfl q) ?_
  refine Wk.st (g' := (mkF m 2 #[.val (.ref a), .val (.int (4 : Int32)), .val (.int (2 : Int32)), .val (.int (3 : Int32)), .val (.double (dv x2)), .second] [(.int (4 : Int32)), (.int (3 : Int32))])) (fun X t q => XS.iloadN X.here C.hx rfl (hb C.hby d2_1) rfl q) ?_
  refine Wk.st (g' := (mkF m 7 #[.val (.ref a), .val (.int (4 : Int32)), .val (.int (2 : Int32)), .val (.int (3 : Int32)), .val (.double (dv x2)), .second] [])) (fun X t q => XS.icmpYes X.here C.hx rfl (pc0 := 2) (pc' := 7) rfl (hb C.hby d2_2) rfl (XT.ii_lt_t (by decide)) (by decide) (by decide) q) ?_
  refine Wk.st (g' := (mkF m 8 #[.val (.ref a), .val (.int (4 : Int32)), .val (.int (2 : Int32)), .val (.int (3 : Int32)), .val (.double (dv x2)), .second] [(.int (3 : Int32))])) (fun X t q => XS.iloadN X.here C.hx rfl (hb C.hby d2_7) rfl q) ?_
  refine Wk.st (g' := (mkF m 9 #[.val (.ref a), .val (.int (4 : Int32)), .val (.int (2 : Int32)), .val (.int (3 : Int32)), .val (.double (dv x2)), .second] [(.int (2 : Int32)), (.int (3 : Int32))])) (fun X t q => XS.iloadN X.here C.hx rfl (hb C.hby d2_8) rfl q) ?_
  refine Wk.st (g' := (mkF m 27 #[.val (.ref a), .val (.int (4 : Int32)), .val (.int (2 : Int32)), .val (.int (3 : Int32)), .val (.double (dv x2)), .second] [])) (fun X t q => XS.icmpYes X.here C.hx rfl (pc0 := 9) (pc' := 27) rfl (hb C.hby d2_9) rfl (XT.ii_ge_t (by decide)) (by decide) (by decide) q) ?_
  refine Wk.st (g' := (mkF m 28 #[.val (.ref a), .val (.int (4 : Int32)), .val (.int (2 : Int32)), .val (.int (3 : Int32)), .val (.double (dv x2)), .second] [(.ref a)])) (fun X t q => XS.aloadN X.here C.hx rfl (hb C.hby d2_27) rfl rfl q) ?_
  refine Wk.st (g' := (mkF m 29 #[.val (.ref a), .val (.int (4 : Int32)), .val (.int (2 : Int32)), .val (.int (3 : Int32)), .val (.double (dv x2)), .second] [(.int (3 : Int32)), (.ref a)])) (fun X t q => XS.iloadN X.here C.hx rfl (hb C.hby d2_28) rfl q) ?_
  refine Wk.fLdD C PA (i := 3) (by decide) (by decide) (by decide) (v := (.double (dv x3))) (by simp [up]) d2_29 ?_
  show Wk _ p l e _ s m _ below meth c n0 _ h0 0 0 (mkF m 30 #[.val (.ref a), .val (.int (4 : Int32)), .val (.int (2 : Int32)), .val (.int (3 : Int32)), .val (.double (dv x2)), .second] [(.double (dv x3))])
  refine Wk.st (g' := (mkF m 32 #[.val (.ref a), .val (.int (4 : Int32)), .val (.int (2 : Int32)), .val (.int (3 : Int32)), .val (.double (dv x2)), .second] [(.double (dv x2)), (.double (dv x3))])) (fun X t q => XS.dload X.here C.hx rfl (hb C.hby d2_30) rfl q) ?_
  refine Wk.st (g' := (mkF m 33 #[.val (.ref a), .val (.int (4 : Int32)), .val (.int (2 : Int32)), .val (.int (3 : Int32)), .val (.double (dv x2)), .second] [(.int (cv x3 x2))])) (fun X t q => XS.dcmpS X.here C.hx rfl (hb C.hby d2_32) rfl (cmp_g r_x3 r_x2) q) ?_
  refine Wk.st (g' := (mkF m 36 #[.val (.ref a), .val (.int (4 : Int32)), .val (.int (2 : Int32)), .val (.int (3 : Int32)), .val (.double (dv x2)), .second] [])) (fun X t q => XS.ifNo X.here C.hx rfl (hb C.hby d2_33) rfl (XT.i0_gt_f (fun q => absurd (cv_pos.mp q) (by omega))) q) ?_
  refine Wk.st (g' := (mkF m 37 #[.val (.ref a), .val (.int (4 : Int32)), .val (.int (2 : Int32)), .val (.int (3 : Int32)), .val (.double (dv x2)), .second] [(.int (1 : Int32))])) (fun X t q => XS.iconst X.here C.hx rfl (hb C.hby d2_36) q) ?_
  refine Wk.st (g' := (mkF m 41 #[.val (.ref a), .val (.int (4 : Int32)), .val (.int (2 : Int32)), .val (.int (3 : Int32)), .val (.double (dv x2)), .second] [(.int (1 : Int32))])) (fun X t q => XS.goto X.here C.hx rfl (pc0 := 37) (pc' := 41) rfl (hb C.hby d2_37) (by decide) (by decide) q) ?_
  exact Wk.retV C (t := .boolean) rfl rfl (Or.inl ⟨rfl, by simp, _, rfl⟩) d2_41 (by decide) (by decide) ⟨rfl, rfl⟩
set_option maxRecDepth 65536 in
set_option maxHeartbeats 40000000 in
theorem own_ok_4_3_0 (l : Launch) (Z : State) (a0 : Array Value) (hw : ∀ d ∈ tables_1, d.before a0 Z = true) (n0 : Nat) (h0 : Heap) (a : Addr) (x0 x1 x2 x3 : Int32) (r_x0 : 0 ≤ x0.toInt ∧ x0.toInt < 8) (r_x1 : 0 ≤ x1.toInt ∧ x1.toInt < 8) (r_x2 : 0 ≤ x2.toInt ∧ x2.toInt < 8) (r_x3 : 0 ≤ x3.toInt ∧ x3.toInt < 8) (PA : Fa Z h0 a .double 4 (up (up (up (up (fun _ => (.double (0 : UInt64))) 0 (.double (dv x0))) 1 (.double (dv x1))) 2 (.double (dv x2))) 3 (.double (dv x3)))) (hr : x0.toInt < x3.toInt) :
    Met false l Z n0 (⟨"com/example/understory/understory/ClassifierMostProbablePinLaw", "ok", "([DIIID)Z"⟩ : MethodName) method_3_code 6 (some .boolean) ({ frames := 0, cells := 0, slots := 0, locals := 0 } : Room) #[(.ref a), (.int (4 : Int32)), (.int (3 : Int32)), (.int (0 : Int32)), (.double (dv x3))] h0 (fun v h => v = some (.int 1) ∧ h0 = h) := by
  refine Met.of (plainFor_of_name pn_1) #[.val (.ref a), .val (.int (4 : Int32)), .val (.int (3 : Int32)), .val (.int (0 : Int32)), .val (.double (dv x3)), .second] (fun m => by first | (simp [entryFrame, mkF, argsToLocals, Value.category]; done) | rfl) ?_
  intro p e s m below meth c C
  refine Wk.st (g' := (mkF m 1 #[.val (.ref a), .val (.int (4 : Int32)), .val (.int (3 : Int32)), .val (.int (0 : Int32)), .val (.double (dv x3)), .second] [(.int (0 : Int32))])) (fun X t q => XS.iloadN X.here C.hx rfl (hb C.hby d2_0) rfl q) ?_
  refine Wk.st (g' := (mkF m 2 #[.val (.ref a), .val (.int (4 : Int32)), .val (.int (3 : Int32)), .val (.int (0 : Int32)), .val (.double (dv x3)), .second] [(.int (4 : Int32)), (.int (0 : Int32))])) (fun X t q => XS.iloadN X.here C.hx rfl (hb C.hby d2_1) rfl q) ?_
  refine Wk.st (g' := (mkF m 7 #[.val (.ref a), .val (.int (4 : Int32)), .val (.int (3 : Int32)), .val (.int (0 : Int32)), .val (.double (dv x3)), .second] [])) (fun X t q => XS.icmpYes X.here C.hx rfl (pc0 := 2) (pc' := 7) rfl (hb C.hby d2_2) rfl (XT.ii_lt_t (by decide)) (by decide) (by decide) q) ?_
  refine Wk.st (g' := (mkF m 8 #[.val (.ref a), .val (.int (4 : Int32)), .val (.int (3 : Int32)), .val (.int (0 : Int32)), .val (.double (dv x3)), .second] [(.int (0 : Int32))])) (fun X t q => XS.iloadN X.here C.hx rfl (hb C.hby d2_7) rfl q) ?_
  refine Wk.st (g' := (mkF m 9 #[.val (.ref a), .val (.int (4 : Int32)), .val (.int (3 : Int32)), .val (.int (0 : Int32)), .val (.double (dv x3)), .second] [(.int (3 : Int32)), (.int (0 : Int32))])) (fun X t q => XS.iloadN X.here C.hx rfl (hb C.hby d2_8) rfl q) ?_
  refine Wk.st (g' := (mkF m 12 #[.val (.ref a), .val (.int (4 : Int32)), .val (.int (3 : Int32)), .val (.int (0 : Int32)), .val (.double (dv x3)), .second] [])) (fun X t q => XS.icmpNo X.here C.hx rfl (hb C.hby d2_9) rfl (XT.ii_ge_f (by decide)) q) ?_
  refine Wk.st (g' := (mkF m 13 #[.val (.ref a), .val (.int (4 : Int32)), .val (.int (3 : Int32)), .val (.int (0 : Int32)), .val (.double (dv x3)), .second] [(.ref a)])) (fun X t q => XS.aloadN X.here C.hx rfl (hb C.hby d2_12) rfl rfl q) ?_
  refine Wk.st (g' := (mkF m 14 #[.val (.ref a), .val (.int (4 : Int32)), .val (.int (3 : Int32)), .val (.int (0 : Int32)), .val (.double (dv x3)), .second] [(.int (0 : Int32)), (.ref a)])) (fun X t q => XS.iloadN X.here C.hx rfl (hb C.hby d2_13) rfl q) ?_
  refine Wk.fLdD C PA (i := 0) (by decide) (by decide) (by decide) (v := (.double (dv x0))) (by simp [up]) d2_14 ?_
  show Wk _ p l e _ s m _ below meth c n0 _ h0 0 0 (mkF m 15 #[.val (.ref a), .val (.int (4 : Int32)), .val (.int (3 : Int32)), .val (.int (0 : Int32)), .val (.double (dv x3)), .second] [(.double (dv x0))])
  refine Wk.st (g' := (mkF m 17 #[.val (.ref a), .val (.int (4 : Int32)), .val (.int (3 : Int32)), .val (.int (0 : Int32)), .val (.double (dv x3)), .second] [(.double (dv x3)), (.double (dv x0))])) (fun X t q => XS.dload X.here C.hx rfl (hb C.hby d2_15) rfl q) ?_
  refine Wk.st (g' := (mkF m 18 #[.val (.ref a), .val (.int (4 : Int32)), .val (.int (3 : Int32)), .val (.int (0 : Int32)), .val (.double (dv x3)), .second] [(.int (cv x0 x3))])) (fun X t q => XS.dcmpS X.here C.hx rfl (hb C.hby d2_17) rfl (cmp_g r_x0 r_x3) q) ?_
  refine Wk.st (g' := (mkF m 21 #[.val (.ref a), .val (.int (4 : Int32)), .val (.int (3 : Int32)), .val (.int (0 : Int32)), .val (.double (dv x3)), .second] [])) (fun X t q => XS.ifNo X.here C.hx rfl (hb C.hby d2_18) rfl (XT.i0_ge_f (cv_neg.mpr hr)) q) ?_
  refine Wk.st (g' := (mkF m 22 #[.val (.ref a), .val (.int (4 : Int32)), .val (.int (3 : Int32)), .val (.int (0 : Int32)), .val (.double (dv x3)), .second] [(.int (1 : Int32))])) (fun X t q => XS.iconst X.here C.hx rfl (hb C.hby d2_21) q) ?_
  refine Wk.st (g' := (mkF m 26 #[.val (.ref a), .val (.int (4 : Int32)), .val (.int (3 : Int32)), .val (.int (0 : Int32)), .val (.double (dv x3)), .second] [(.int (1 : Int32))])) (fun X t q => XS.goto X.here C.hx rfl (pc0 := 22) (pc' := 26) rfl (hb C.hby d2_22) (by decide) (by decide) q) ?_
  exact Wk.retV C (t := .boolean) rfl rfl (Or.inl ⟨rfl, by simp, _, rfl⟩) d2_26 (by decide) (by decide) ⟨rfl, rfl⟩
set_option maxRecDepth 65536 in
set_option maxHeartbeats 40000000 in
theorem own_ok_4_3_1 (l : Launch) (Z : State) (a0 : Array Value) (hw : ∀ d ∈ tables_1, d.before a0 Z = true) (n0 : Nat) (h0 : Heap) (a : Addr) (x0 x1 x2 x3 : Int32) (r_x0 : 0 ≤ x0.toInt ∧ x0.toInt < 8) (r_x1 : 0 ≤ x1.toInt ∧ x1.toInt < 8) (r_x2 : 0 ≤ x2.toInt ∧ x2.toInt < 8) (r_x3 : 0 ≤ x3.toInt ∧ x3.toInt < 8) (PA : Fa Z h0 a .double 4 (up (up (up (up (fun _ => (.double (0 : UInt64))) 0 (.double (dv x0))) 1 (.double (dv x1))) 2 (.double (dv x2))) 3 (.double (dv x3)))) (hr : x1.toInt < x3.toInt) :
    Met false l Z n0 (⟨"com/example/understory/understory/ClassifierMostProbablePinLaw", "ok", "([DIIID)Z"⟩ : MethodName) method_3_code 6 (some .boolean) ({ frames := 0, cells := 0, slots := 0, locals := 0 } : Room) #[(.ref a), (.int (4 : Int32)), (.int (3 : Int32)), (.int (1 : Int32)), (.double (dv x3))] h0 (fun v h => v = some (.int 1) ∧ h0 = h) := by
  refine Met.of (plainFor_of_name pn_1) #[.val (.ref a), .val (.int (4 : Int32)), .val (.int (3 : Int32)), .val (.int (1 : Int32)), .val (.double (dv x3)), .second] (fun m => by first | (simp [entryFrame, mkF, argsToLocals, Value.category]; done) | rfl) ?_
  intro p e s m below meth c C
  refine Wk.st (g' := (mkF m 1 #[.val (.ref a), .val (.int (4 : Int32)), .val (.int (3 : Int32)), .val (.int (1 : Int32)), .val (.double (dv x3)), .second] [(.int (1 : Int32))])) (fun X t q => XS.iloadN X.here C.hx rfl (hb C.hby d2_0) rfl q) ?_
  refine Wk.st (g' := (mkF m 2 #[.val (.ref a), .val (.int (4 : Int32)), .val (.int (3 : Int32)), .val (.int (1 : Int32)), .val (.double (dv x3)), .second] [(.int (4 : Int32)), (.int (1 : Int32))])) (fun X t q => XS.iloadN X.here C.hx rfl (hb C.hby d2_1) rfl q) ?_
  refine Wk.st (g' := (mkF m 7 #[.val (.ref a), .val (.int (4 : Int32)), .val (.int (3 : Int32)), .val (.int (1 : Int32)), .val (.double (dv x3)), .second] [])) (fun X t q => XS.icmpYes X.here C.hx rfl (pc0 := 2) (pc' := 7) rfl (hb C.hby d2_2) rfl (XT.ii_lt_t (by decide)) (by decide) (by decide) q) ?_
  refine Wk.st (g' := (mkF m 8 #[.val (.ref a), .val (.int (4 : Int32)), .val (.int (3 : Int32)), .val (.int (1 : Int32)), .val (.double (dv x3)), .second] [(.int (1 : Int32))])) (fun X t q => XS.iloadN X.here C.hx rfl (hb C.hby d2_7) rfl q) ?_
  refine Wk.st (g' := (mkF m 9 #[.val (.ref a), .val (.int (4 : Int32)), .val (.int (3 : Int32)), .val (.int (1 : Int32)), .val (.double (dv x3)), .second] [(.int (3 : Int32)), (.int (1 : Int32))])) (fun X t q => XS.iloadN X.here C.hx rfl (hb C.hby d2_8) rfl q) ?_
  refine Wk.st (g' := (mkF m 12 #[.val (.ref a), .val (.int (4 : Int32)), .val (.int (3 : Int32)), .val (.int (1 : Int32)), .val (.double (dv x3)), .second] [])) (fun X t q => XS.icmpNo X.here C.hx rfl (hb C.hby d2_9) rfl (XT.ii_ge_f (by decide)) q) ?_
  refine Wk.st (g' := (mkF m 13 #[.val (.ref a), .val (.int (4 : Int32)), .val (.int (3 : Int32)), .val (.int (1 : Int32)), .val (.double (dv x3)), .second] [(.ref a)])) (fun X t q => XS.aloadN X.here C.hx rfl (hb C.hby d2_12) rfl rfl q) ?_
  refine Wk.st (g' := (mkF m 14 #[.val (.ref a), .val (.int (4 : Int32)), .val (.int (3 : Int32)), .val (.int (1 : Int32)), .val (.double (dv x3)), .second] [(.int (1 : Int32)), (.ref a)])) (fun X t q => XS.iloadN X.here C.hx rfl (hb C.hby d2_13) rfl q) ?_
  refine Wk.fLdD C PA (i := 1) (by decide) (by decide) (by decide) (v := (.double (dv x1))) (by simp [up]) d2_14 ?_
  show Wk _ p l e _ s m _ below meth c n0 _ h0 0 0 (mkF m 15 #[.val (.ref a), .val (.int (4 : Int32)), .val (.int (3 : Int32)), .val (.int (1 : Int32)), .val (.double (dv x3)), .second] [(.double (dv x1))])
  refine Wk.st (g' := (mkF m 17 #[.val (.ref a), .val (.int (4 : Int32)), .val (.int (3 : Int32)), .val (.int (1 : Int32)), .val (.double (dv x3)), .second] [(.double (dv x3)), (.double (dv x1))])) (fun X t q => XS.dload X.here C.hx rfl (hb C.hby d2_15) rfl q) ?_
  refine Wk.st (g' := (mkF m 18 #[.val (.ref a), .val (.int (4 : Int32)), .val (.int (3 : Int32)), .val (.int (1 : Int32)), .val (.double (dv x3)), .second] [(.int (cv x1 x3))])) (fun X t q => XS.dcmpS X.here C.hx rfl (hb C.hby d2_17) rfl (cmp_g r_x1 r_x3) q) ?_
  refine Wk.st (g' := (mkF m 21 #[.val (.ref a), .val (.int (4 : Int32)), .val (.int (3 : Int32)), .val (.int (1 : Int32)), .val (.double (dv x3)), .second] [])) (fun X t q => XS.ifNo X.here C.hx rfl (hb C.hby d2_18) rfl (XT.i0_ge_f (cv_neg.mpr hr)) q) ?_
  refine Wk.st (g' := (mkF m 22 #[.val (.ref a), .val (.int (4 : Int32)), .val (.int (3 : Int32)), .val (.int (1 : Int32)), .val (.double (dv x3)), .second] [(.int (1 : Int32))])) (fun X t q => XS.iconst X.here C.hx rfl (hb C.hby d2_21) q) ?_
  refine Wk.st (g' := (mkF m 26 #[.val (.ref a), .val (.int (4 : Int32)), .val (.int (3 : Int32)), .val (.int (1 : Int32)), .val (.double (dv x3)), .second] [(.int (1 : Int32))])) (fun X t q => XS.goto X.here C.hx rfl (pc0 := 22) (pc' := 26) rfl (hb C.hby d2_22) (by decide) (by decide) q) ?_
  exact Wk.retV C (t := .boolean) rfl rfl (Or.inl ⟨rfl, by simp, _, rfl⟩) d2_26 (by decide) (by decide) ⟨rfl, rfl⟩
set_option maxRecDepth 65536 in
set_option maxHeartbeats 40000000 in
theorem own_ok_4_3_2 (l : Launch) (Z : State) (a0 : Array Value) (hw : ∀ d ∈ tables_1, d.before a0 Z = true) (n0 : Nat) (h0 : Heap) (a : Addr) (x0 x1 x2 x3 : Int32) (r_x0 : 0 ≤ x0.toInt ∧ x0.toInt < 8) (r_x1 : 0 ≤ x1.toInt ∧ x1.toInt < 8) (r_x2 : 0 ≤ x2.toInt ∧ x2.toInt < 8) (r_x3 : 0 ≤ x3.toInt ∧ x3.toInt < 8) (PA : Fa Z h0 a .double 4 (up (up (up (up (fun _ => (.double (0 : UInt64))) 0 (.double (dv x0))) 1 (.double (dv x1))) 2 (.double (dv x2))) 3 (.double (dv x3)))) (hr : x2.toInt < x3.toInt) :
    Met false l Z n0 (⟨"com/example/understory/understory/ClassifierMostProbablePinLaw", "ok", "([DIIID)Z"⟩ : MethodName) method_3_code 6 (some .boolean) ({ frames := 0, cells := 0, slots := 0, locals := 0 } : Room) #[(.ref a), (.int (4 : Int32)), (.int (3 : Int32)), (.int (2 : Int32)), (.double (dv x3))] h0 (fun v h => v = some (.int 1) ∧ h0 = h) := by
  refine Met.of (plainFor_of_name pn_1) #[.val (.ref a), .val (.int (4 : Int32)), .val (.int (3 : Int32)), .val (.int (2 : Int32)), .val (.double (dv x3)), .second] (fun m => by first | (simp [entryFrame, mkF, argsToLocals, Value.category]; done) | rfl) ?_
  intro p e s m below meth c C
  refine Wk.st (g' := (mkF m 1 #[.val (.ref a), .val (.int (4 : Int32)), .val (.int (3 : Int32)), .val (.int (2 : Int32)), .val (.double (dv x3)), .second] [(.int (2 : Int32))])) (fun X t q => XS.iloadN X.here C.hx rfl (hb C.hby d2_0) rfl q) ?_
  refine Wk.st (g' := (mkF m 2 #[.val (.ref a), .val (.int (4 : Int32)), .val (.int (3 : Int32)), .val (.int (2 : Int32)), .val (.double (dv x3)), .second] [(.int (4 : Int32)), (.int (2 : Int32))])) (fun X t q => XS.iloadN X.here C.hx rfl (hb C.hby d2_1) rfl q) ?_
  refine Wk.st (g' := (mkF m 7 #[.val (.ref a), .val (.int (4 : Int32)), .val (.int (3 : Int32)), .val (.int (2 : Int32)), .val (.double (dv x3)), .second] [])) (fun X t q => XS.icmpYes X.here C.hx rfl (pc0 := 2) (pc' := 7) rfl (hb C.hby d2_2) rfl (XT.ii_lt_t (by decide)) (by decide) (by decide) q) ?_
  refine Wk.st (g' := (mkF m 8 #[.val (.ref a), .val (.int (4 : Int32)), .val (.int (3 : Int32)), .val (.int (2 : Int32)), .val (.double (dv x3)), .second] [(.int (2 : Int32))])) (fun X t q => XS.iloadN X.here C.hx rfl (hb C.hby d2_7) rfl q) ?_
  refine Wk.st (g' := (mkF m 9 #[.val (.ref a), .val (.int (4 : Int32)), .val (.int (3 : Int32)), .val (.int (2 : Int32)), .val (.double (dv x3)), .second] [(.int (3 : Int32)), (.int (2 : Int32))])) (fun X t q => XS.iloadN X.here C.hx rfl (hb C.hby d2_8) rfl q) ?_
  refine Wk.st (g' := (mkF m 12 #[.val (.ref a), .val (.int (4 : Int32)), .val (.int (3 : Int32)), .val (.int (2 : Int32)), .val (.double (dv x3)), .second] [])) (fun X t q => XS.icmpNo X.here C.hx rfl (hb C.hby d2_9) rfl (XT.ii_ge_f (by decide)) q) ?_
  refine Wk.st (g' := (mkF m 13 #[.val (.ref a), .val (.int (4 : Int32)), .val (.int (3 : Int32)), .val (.int (2 : Int32)), .val (.double (dv x3)), .second] [(.ref a)])) (fun X t q => XS.aloadN X.here C.hx rfl (hb C.hby d2_12) rfl rfl q) ?_
  refine Wk.st (g' := (mkF m 14 #[.val (.ref a), .val (.int (4 : Int32)), .val (.int (3 : Int32)), .val (.int (2 : Int32)), .val (.double (dv x3)), .second] [(.int (2 : Int32)), (.ref a)])) (fun X t q => XS.iloadN X.here C.hx rfl (hb C.hby d2_13) rfl q) ?_
  refine Wk.fLdD C PA (i := 2) (by decide) (by decide) (by decide) (v := (.double (dv x2))) (by simp [up]) d2_14 ?_
  show Wk _ p l e _ s m _ below meth c n0 _ h0 0 0 (mkF m 15 #[.val (.ref a), .val (.int (4 : Int32)), .val (.int (3 : Int32)), .val (.int (2 : Int32)), .val (.double (dv x3)), .second] [(.double (dv x2))])
  refine Wk.st (g' := (mkF m 17 #[.val (.ref a), .val (.int (4 : Int32)), .val (.int (3 : Int32)), .val (.int (2 : Int32)), .val (.double (dv x3)), .second] [(.double (dv x3)), (.double (dv x2))])) (fun X t q => XS.dload X.here C.hx rfl (hb C.hby d2_15) rfl q) ?_
  refine Wk.st (g' := (mkF m 18 #[.val (.ref a), .val (.int (4 : Int32)), .val (.int (3 : Int32)), .val (.int (2 : Int32)), .val (.double (dv x3)), .second] [(.int (cv x2 x3))])) (fun X t q => XS.dcmpS X.here C.hx rfl (hb C.hby d2_17) rfl (cmp_g r_x2 r_x3) q) ?_
  refine Wk.st (g' := (mkF m 21 #[.val (.ref a), .val (.int (4 : Int32)), .val (.int (3 : Int32)), .val (.int (2 : Int32)), .val (.double (dv x3)), .second] [])) (fun X t q => XS.ifNo X.here C.hx rfl (hb C.hby d2_18) rfl (XT.i0_ge_f (cv_neg.mpr hr)) q) ?_
  refine Wk.st (g' := (mkF m 22 #[.val (.ref a), .val (.int (4 : Int32)), .val (.int (3 : Int32)), .val (.int (2 : Int32)), .val (.double (dv x3)), .second] [(.int (1 : Int32))])) (fun X t q => XS.iconst X.here C.hx rfl (hb C.hby d2_21) q) ?_
  refine Wk.st (g' := (mkF m 26 #[.val (.ref a), .val (.int (4 : Int32)), .val (.int (3 : Int32)), .val (.int (2 : Int32)), .val (.double (dv x3)), .second] [(.int (1 : Int32))])) (fun X t q => XS.goto X.here C.hx rfl (pc0 := 22) (pc' := 26) rfl (hb C.hby d2_22) (by decide) (by decide) q) ?_
  exact Wk.retV C (t := .boolean) rfl rfl (Or.inl ⟨rfl, by simp, _, rfl⟩) d2_26 (by decide) (by decide) ⟨rfl, rfl⟩
set_option maxRecDepth 65536 in
set_option maxHeartbeats 40000000 in
theorem own_ok_4_3_3 (l : Launch) (Z : State) (a0 : Array Value) (hw : ∀ d ∈ tables_1, d.before a0 Z = true) (n0 : Nat) (h0 : Heap) (a : Addr) (x0 x1 x2 x3 : Int32) (r_x0 : 0 ≤ x0.toInt ∧ x0.toInt < 8) (r_x1 : 0 ≤ x1.toInt ∧ x1.toInt < 8) (r_x2 : 0 ≤ x2.toInt ∧ x2.toInt < 8) (r_x3 : 0 ≤ x3.toInt ∧ x3.toInt < 8) (PA : Fa Z h0 a .double 4 (up (up (up (up (fun _ => (.double (0 : UInt64))) 0 (.double (dv x0))) 1 (.double (dv x1))) 2 (.double (dv x2))) 3 (.double (dv x3)))) (hr : x3.toInt ≤ x3.toInt) :
    Met false l Z n0 (⟨"com/example/understory/understory/ClassifierMostProbablePinLaw", "ok", "([DIIID)Z"⟩ : MethodName) method_3_code 6 (some .boolean) ({ frames := 0, cells := 0, slots := 0, locals := 0 } : Room) #[(.ref a), (.int (4 : Int32)), (.int (3 : Int32)), (.int (3 : Int32)), (.double (dv x3))] h0 (fun v h => v = some (.int 1) ∧ h0 = h) := by
  refine Met.of (plainFor_of_name pn_1) #[.val (.ref a), .val (.int (4 : Int32)), .val (.int (3 : Int32)), .val (.int (3 : Int32)), .val (.double (dv x3)), .second] (fun m => by first | (simp [entryFrame, mkF, argsToLocals, Value.category]; done) | rfl) ?_
  intro p e s m below meth c C
  refine Wk.st (g' := (mkF m 1 #[.val (.ref a), .val (.int (4 : Int32)), .val (.int (3 : Int32)), .val (.int (3 : Int32)), .val (.double (dv x3)), .second] [(.int (3 : Int32))])) (fun X t q => XS.iloadN X.here C.hx rfl (hb C.hby d2_0) rfl q) ?_
  refine Wk.st (g' := (mkF m 2 #[.val (.ref a), .val (.int (4 : Int32)), .val (.int (3 : Int32)), .val (.int (3 : Int32)), .val (.double (dv x3)), .second] [(.int (4 : Int32)), (.int (3 : Int32))])) (fun X t q => XS.iloadN X.here C.hx rfl (hb C.hby d2_1) rfl q) ?_
  refine Wk.st (g' := (mkF m 7 #[.val (.ref a), .val (.int (4 : Int32)), .val (.int (3 : Int32)), .val (.int (3 : Int32)), .val (.double (dv x3)), .second] [])) (fun X t q => XS.icmpYes X.here C.hx rfl (pc0 := 2) (pc' := 7) rfl (hb C.hby d2_2) rfl (XT.ii_lt_t (by decide)) (by decide) (by decide) q) ?_
  refine Wk.st (g' := (mkF m 8 #[.val (.ref a), .val (.int (4 : Int32)), .val (.int (3 : Int32)), .val (.int (3 : Int32)), .val (.double (dv x3)), .second] [(.int (3 : Int32))])) (fun X t q => XS.iloadN X.here C.hx rfl (hb C.hby d2_7) rfl q) ?_
  refine Wk.st (g' := (mkF m 9 #[.val (.ref a), .val (.int (4 : Int32)), .val (.int (3 : Int32)), .val (.int (3 : Int32)), .val (.double (dv x3)), .second] [(.int (3 : Int32)), (.int (3 : Int32))])) (fun X t q => XS.iloadN X.here C.hx rfl (hb C.hby d2_8) rfl q) ?_
  refine Wk.st (g' := (mkF m 27 #[.val (.ref a), .val (.int (4 : Int32)), .val (.int (3 : Int32)), .val (.int (3 : Int32)), .val (.double (dv x3)), .second] [])) (fun X t q => XS.icmpYes X.here C.hx rfl (pc0 := 9) (pc' := 27) rfl (hb C.hby d2_9) rfl (XT.ii_ge_t (by decide)) (by decide) (by decide) q) ?_
  refine Wk.st (g' := (mkF m 28 #[.val (.ref a), .val (.int (4 : Int32)), .val (.int (3 : Int32)), .val (.int (3 : Int32)), .val (.double (dv x3)), .second] [(.ref a)])) (fun X t q => XS.aloadN X.here C.hx rfl (hb C.hby d2_27) rfl rfl q) ?_
  refine Wk.st (g' := (mkF m 29 #[.val (.ref a), .val (.int (4 : Int32)), .val (.int (3 : Int32)), .val (.int (3 : Int32)), .val (.double (dv x3)), .second] [(.int (3 : Int32)), (.ref a)])) (fun X t q => XS.iloadN X.here C.hx rfl (hb C.hby d2_28) rfl q) ?_
  refine Wk.fLdD C PA (i := 3) (by decide) (by decide) (by decide) (v := (.double (dv x3))) (by simp [up]) d2_29 ?_
  show Wk _ p l e _ s m _ below meth c n0 _ h0 0 0 (mkF m 30 #[.val (.ref a), .val (.int (4 : Int32)), .val (.int (3 : Int32)), .val (.int (3 : Int32)), .val (.double (dv x3)), .second] [(.double (dv x3))])
  refine Wk.st (g' := (mkF m 32 #[.val (.ref a), .val (.int (4 : Int32)), .val (.int (3 : Int32)), .val (.int (3 : Int32)), .val (.double (dv x3)), .second] [(.double (dv x3)), (.double (dv x3))])) (fun X t q => XS.dload X.here C.hx rfl (hb C.hby d2_30) rfl q) ?_
  refine Wk.st (g' := (mkF m 33 #[.val (.ref a), .val (.int (4 : Int32)), .val (.int (3 : Int32)), .val (.int (3 : Int32)), .val (.double (dv x3)), .second] [(.int (cv x3 x3))])) (fun X t q => XS.dcmpS X.here C.hx rfl (hb C.hby d2_32) rfl (cmp_g r_x3 r_x3) q) ?_
  refine Wk.st (g' := (mkF m 36 #[.val (.ref a), .val (.int (4 : Int32)), .val (.int (3 : Int32)), .val (.int (3 : Int32)), .val (.double (dv x3)), .second] [])) (fun X t q => XS.ifNo X.here C.hx rfl (hb C.hby d2_33) rfl (XT.i0_gt_f (fun q => absurd (cv_pos.mp q) (by omega))) q) ?_
  refine Wk.st (g' := (mkF m 37 #[.val (.ref a), .val (.int (4 : Int32)), .val (.int (3 : Int32)), .val (.int (3 : Int32)), .val (.double (dv x3)), .second] [(.int (1 : Int32))])) (fun X t q => XS.iconst X.here C.hx rfl (hb C.hby d2_36) q) ?_
  refine Wk.st (g' := (mkF m 41 #[.val (.ref a), .val (.int (4 : Int32)), .val (.int (3 : Int32)), .val (.int (3 : Int32)), .val (.double (dv x3)), .second] [(.int (1 : Int32))])) (fun X t q => XS.goto X.here C.hx rfl (pc0 := 37) (pc' := 41) rfl (hb C.hby d2_37) (by decide) (by decide) q) ?_
  exact Wk.retV C (t := .boolean) rfl rfl (Or.inl ⟨rfl, by simp, _, rfl⟩) d2_41 (by decide) (by decide) ⟨rfl, rfl⟩
set_option maxRecDepth 65536 in
set_option maxHeartbeats 40000000 in
theorem law_met (l : Launch) (Z : State) (a0 : Array Value) (hw : ∀ d ∈ tables_1, d.before a0 Z = true) (n0 : Nat) (h0 : Heap) (hsz : n0 ≤ h0.size) (i0 i1 i2 i3 i4 : Int32) :
    Met false l Z n0 x code maxLocals ret room_1 #[(.int i0), (.int i1), (.int i2), (.int i3), (.int i4)] h0 (fun v _ => v = some (.int 1) ∧ True) := by
  refine Met.of (plainFor_of_name pn_1) #[.val (.int i0), .val (.int i1), .val (.int i2), .val (.int i3), .val (.int i4), .unset, .unset, .unset, .unset, .unset, .unset] (fun m => by first | (simp [entryFrame, mkF, argsToLocals, Value.category, maxLocals]; done) | rfl) ?_
  intro p e s m below meth c C
  refine Wk.st (g' := (mkF m 1 #[.val (.int i0), .val (.int i1), .val (.int i2), .val (.int i3), .val (.int i4), .unset, .unset, .unset, .unset, .unset, .unset] [(.int i0)])) (fun X t q => XS.iloadN X.here C.hx rfl (hb C.hby at_0) rfl q) ?_
  refine Wk.ldcI C (hw _ (List.mem_of_getElem? (i := 0) rfl)) at_1 ?_
  show Wk _ p l e _ s m _ below meth c n0 _ h0 0 0 (mkF m 3 #[.val (.int i0), .val (.int i1), .val (.int i2), .val (.int i3), .val (.int i4), .unset, .unset, .unset, .unset, .unset, .unset] [(.int (2147483647 : Int32)), (.int i0)])
  refine Wk.st (g' := (mkF m 4 #[.val (.int i0), .val (.int i1), .val (.int i2), .val (.int i3), .val (.int i4), .unset, .unset, .unset, .unset, .unset, .unset] [(.int (i0 &&& (2147483647 : Int32)))])) (fun X t q => XS.iand X.here C.hx rfl (hb C.hby at_3) rfl q) ?_
  refine Wk.st (g' := (mkF m 5 #[.val (.int i0), .val (.int i1), .val (.int i2), .val (.int i3), .val (.int i4), .unset, .unset, .unset, .unset, .unset, .unset] [(.int (5 : Int32)), (.int (i0 &&& (2147483647 : Int32)))])) (fun X t q => XS.iconst X.here C.hx rfl (hb C.hby at_4) q) ?_
  refine Wk.st (g' := (mkF m 6 #[.val (.int i0), .val (.int i1), .val (.int i2), .val (.int i3), .val (.int i4), .unset, .unset, .unset, .unset, .unset, .unset] [(.int ((i0 &&& (2147483647 : Int32)) % (5 : Int32)))])) (fun X t q => iremM X C.hx rfl (hb C.hby at_5) rfl (by decide) q) ?_
  refine Wk.st (g' := (mkF m 8 #[.val (.int i0), .val (.int i1), .val (.int i2), .val (.int i3), .val (.int i4), .val (.int ((i0 &&& (2147483647 : Int32)) % (5 : Int32))), .unset, .unset, .unset, .unset, .unset] [])) (fun X t q => XS.istore X.here C.hx rfl (hb C.hby at_6) rfl (l' := #[.val (.int i0), .val (.int i1), .val (.int i2), .val (.int i3), .val (.int i4), .val (.int ((i0 &&& (2147483647 : Int32)) % (5 : Int32))), .unset, .unset, .unset, .unset, .unset]) rfl q) ?_
  rcases mod5 i0 with hi | hi | hi | hi | hi <;> rw [hi]
  · skip
    show Wk _ p l e _ s m _ below meth c n0 _ h0 0 0 (mkF m 8 #[.val (.int i0), .val (.int i1), .val (.int i2), .val (.int i3), .val (.int i4), .val (.int (0 : Int32)), .unset, .unset, .unset, .unset, .unset] [])
    refine Wk.st (g' := (mkF m 9 #[.val (.int i0), .val (.int i1), .val (.int i2), .val (.int i3), .val (.int i4), .val (.int (0 : Int32)), .unset, .unset, .unset, .unset, .unset] [(.int (4 : Int32))])) (fun X t q => XS.iconst X.here C.hx rfl (hb C.hby at_8) q) ?_
    refine Wk.fNewP C (hw _ (List.mem_of_getElem? (i := 1) rfl)) (ty := .double) (dv := (.double (0 : UInt64))) (N := 4) (ad := "[D") rfl rfl (by decide) (by decide) (by decide) (cap := 4) (by decide) (by decide) at_9 (by decide) (by decide) ?_
    intro h1 b2 g3 E4 A5 F6
    have ge7 : n0 ≤ b2 := Nat.le_trans hsz (Nat.le_of_eq g3.symm)
    have gz8 : h0.size ≤ b2 := Nat.le_trans (Nat.le_refl h0.size) (Nat.le_of_eq g3.symm)
    have sz9 : n0 ≤ h1.size := Nat.le_trans hsz E4.1
    have sy10 : h0.size ≤ h1.size := Nat.le_trans (Nat.le_refl h0.size) E4.1
    show Wk _ p l e _ s m _ below meth c n0 _ h1 1 4 (mkF m 11 #[.val (.int i0), .val (.int i1), .val (.int i2), .val (.int i3), .val (.int i4), .val (.int (0 : Int32)), .unset, .unset, .unset, .unset, .unset] [(.ref b2)])
    refine Wk.st (g' := (mkF m 13 #[.val (.int i0), .val (.int i1), .val (.int i2), .val (.int i3), .val (.int i4), .val (.int (0 : Int32)), .val (.ref b2), .unset, .unset, .unset, .unset] [])) (fun X t q => XS.astore X.here C.hx rfl (hb C.hby at_11) rfl rfl (l' := #[.val (.int i0), .val (.int i1), .val (.int i2), .val (.int i3), .val (.int i4), .val (.int (0 : Int32)), .val (.ref b2), .unset, .unset, .unset, .unset]) rfl q) ?_
    refine Wk.st (g' := (mkF m 15 #[.val (.int i0), .val (.int i1), .val (.int i2), .val (.int i3), .val (.int i4), .val (.int (0 : Int32)), .val (.ref b2), .unset, .unset, .unset, .unset] [(.ref b2)])) (fun X t q => XS.aload X.here C.hx rfl (hb C.hby at_13) rfl rfl q) ?_
    refine Wk.st (g' := (mkF m 16 #[.val (.int i0), .val (.int i1), .val (.int i2), .val (.int i3), .val (.int i4), .val (.int (0 : Int32)), .val (.ref b2), .unset, .unset, .unset, .unset] [(.int (0 : Int32)), (.ref b2)])) (fun X t q => XS.iconst X.here C.hx rfl (hb C.hby at_15) q) ?_
    refine Wk.st (g' := (mkF m 17 #[.val (.int i0), .val (.int i1), .val (.int i2), .val (.int i3), .val (.int i4), .val (.int (0 : Int32)), .val (.ref b2), .unset, .unset, .unset, .unset] [(.int i1), (.int (0 : Int32)), (.ref b2)])) (fun X t q => XS.iloadN X.here C.hx rfl (hb C.hby at_16) rfl q) ?_
    refine Wk.st (g' := (mkF m 19 #[.val (.int i0), .val (.int i1), .val (.int i2), .val (.int i3), .val (.int i4), .val (.int (0 : Int32)), .val (.ref b2), .unset, .unset, .unset, .unset] [(.int (7 : Int32)), (.int i1), (.int (0 : Int32)), (.ref b2)])) (fun X t q => XS.bipush X.here C.hx rfl (hb C.hby at_17) q) ?_
    refine Wk.st (g' := (mkF m 20 #[.val (.int i0), .val (.int i1), .val (.int i2), .val (.int i3), .val (.int i4), .val (.int (0 : Int32)), .val (.ref b2), .unset, .unset, .unset, .unset] [(.int (i1 &&& (7 : Int32))), (.int (0 : Int32)), (.ref b2)])) (fun X t q => XS.iand X.here C.hx rfl (hb C.hby at_19) rfl q) ?_
    obtain ⟨x0, hx0⟩ : ∃ z, z = (i1 &&& (7 : Int32)) := ⟨_, rfl⟩
    rw [← hx0]
    have r_x0 := and7 i1
    rw [← hx0] at r_x0
    show Wk _ p l e _ s m _ below meth c n0 _ h1 1 4 (mkF m 20 #[.val (.int i0), .val (.int i1), .val (.int i2), .val (.int i3), .val (.int i4), .val (.int (0 : Int32)), .val (.ref b2), .unset, .unset, .unset, .unset] [(.int x0), (.int (0 : Int32)), (.ref b2)])
    refine Wk.st (g' := (mkF m 21 #[.val (.int i0), .val (.int i1), .val (.int i2), .val (.int i3), .val (.int i4), .val (.int (0 : Int32)), .val (.ref b2), .unset, .unset, .unset, .unset] [(.double (FP.i2d x0)), (.int (0 : Int32)), (.ref b2)])) (fun X t q => XS.i2dS X.here C.hx rfl (hb C.hby at_20) rfl rfl q) ?_
    refine Wk.ldc2D C (hw _ (List.mem_of_getElem? (i := 2) rfl)) at_21 ?_
    show Wk _ p l e _ s m _ below meth c n0 _ h1 1 4 (mkF m 24 #[.val (.int i0), .val (.int i1), .val (.int i2), .val (.int i3), .val (.int i4), .val (.int (0 : Int32)), .val (.ref b2), .unset, .unset, .unset, .unset] [(.double (4620693217682128896 : UInt64)), (.double (FP.i2d x0)), (.int (0 : Int32)), (.ref b2)])
    refine Wk.st (g' := (mkF m 25 #[.val (.int i0), .val (.int i1), .val (.int i2), .val (.int i3), .val (.int i4), .val (.int (0 : Int32)), .val (.ref b2), .unset, .unset, .unset, .unset] [(.double (dv x0)), (.int (0 : Int32)), (.ref b2)])) (fun X t q => XS.ddivS X.here C.hx rfl (hb C.hby at_24) rfl (dv_nan r_x0) rfl q) ?_
    refine Wk.fStD C F6 (i := 0) (by decide) (by decide) (by decide) ge7 at_25 ?_
    intro h11 W12 F13
    have F14 : Exa Z h11 b2 "[D" := A5.wr W12
    have sz15 : n0 ≤ h11.size := Nat.le_trans sz9 (Nat.le_of_eq W12.size.symm)
    have sy16 : h0.size ≤ h11.size := Nat.le_trans sy10 (Nat.le_of_eq W12.size.symm)
    show Wk _ p l e _ s m _ below meth c n0 _ h11 1 4 (mkF m 26 #[.val (.int i0), .val (.int i1), .val (.int i2), .val (.int i3), .val (.int i4), .val (.int (0 : Int32)), .val (.ref b2), .unset, .unset, .unset, .unset] [])
    refine Wk.st (g' := (mkF m 28 #[.val (.int i0), .val (.int i1), .val (.int i2), .val (.int i3), .val (.int i4), .val (.int (0 : Int32)), .val (.ref b2), .unset, .unset, .unset, .unset] [(.ref b2)])) (fun X t q => XS.aload X.here C.hx rfl (hb C.hby at_26) rfl rfl q) ?_
    refine Wk.st (g' := (mkF m 29 #[.val (.int i0), .val (.int i1), .val (.int i2), .val (.int i3), .val (.int i4), .val (.int (0 : Int32)), .val (.ref b2), .unset, .unset, .unset, .unset] [(.int (1 : Int32)), (.ref b2)])) (fun X t q => XS.iconst X.here C.hx rfl (hb C.hby at_28) q) ?_
    refine Wk.st (g' := (mkF m 30 #[.val (.int i0), .val (.int i1), .val (.int i2), .val (.int i3), .val (.int i4), .val (.int (0 : Int32)), .val (.ref b2), .unset, .unset, .unset, .unset] [(.int i2), (.int (1 : Int32)), (.ref b2)])) (fun X t q => XS.iloadN X.here C.hx rfl (hb C.hby at_29) rfl q) ?_
    refine Wk.st (g' := (mkF m 32 #[.val (.int i0), .val (.int i1), .val (.int i2), .val (.int i3), .val (.int i4), .val (.int (0 : Int32)), .val (.ref b2), .unset, .unset, .unset, .unset] [(.int (7 : Int32)), (.int i2), (.int (1 : Int32)), (.ref b2)])) (fun X t q => XS.bipush X.here C.hx rfl (hb C.hby at_30) q) ?_
    refine Wk.st (g' := (mkF m 33 #[.val (.int i0), .val (.int i1), .val (.int i2), .val (.int i3), .val (.int i4), .val (.int (0 : Int32)), .val (.ref b2), .unset, .unset, .unset, .unset] [(.int (i2 &&& (7 : Int32))), (.int (1 : Int32)), (.ref b2)])) (fun X t q => XS.iand X.here C.hx rfl (hb C.hby at_32) rfl q) ?_
    obtain ⟨x1, hx1⟩ : ∃ z, z = (i2 &&& (7 : Int32)) := ⟨_, rfl⟩
    rw [← hx1]
    have r_x1 := and7 i2
    rw [← hx1] at r_x1
    show Wk _ p l e _ s m _ below meth c n0 _ h11 1 4 (mkF m 33 #[.val (.int i0), .val (.int i1), .val (.int i2), .val (.int i3), .val (.int i4), .val (.int (0 : Int32)), .val (.ref b2), .unset, .unset, .unset, .unset] [(.int x1), (.int (1 : Int32)), (.ref b2)])
    refine Wk.st (g' := (mkF m 34 #[.val (.int i0), .val (.int i1), .val (.int i2), .val (.int i3), .val (.int i4), .val (.int (0 : Int32)), .val (.ref b2), .unset, .unset, .unset, .unset] [(.double (FP.i2d x1)), (.int (1 : Int32)), (.ref b2)])) (fun X t q => XS.i2dS X.here C.hx rfl (hb C.hby at_33) rfl rfl q) ?_
    refine Wk.ldc2D C (hw _ (List.mem_of_getElem? (i := 2) rfl)) at_34 ?_
    show Wk _ p l e _ s m _ below meth c n0 _ h11 1 4 (mkF m 37 #[.val (.int i0), .val (.int i1), .val (.int i2), .val (.int i3), .val (.int i4), .val (.int (0 : Int32)), .val (.ref b2), .unset, .unset, .unset, .unset] [(.double (4620693217682128896 : UInt64)), (.double (FP.i2d x1)), (.int (1 : Int32)), (.ref b2)])
    refine Wk.st (g' := (mkF m 38 #[.val (.int i0), .val (.int i1), .val (.int i2), .val (.int i3), .val (.int i4), .val (.int (0 : Int32)), .val (.ref b2), .unset, .unset, .unset, .unset] [(.double (dv x1)), (.int (1 : Int32)), (.ref b2)])) (fun X t q => XS.ddivS X.here C.hx rfl (hb C.hby at_37) rfl (dv_nan r_x1) rfl q) ?_
    refine Wk.fStD C F13 (i := 1) (by decide) (by decide) (by decide) ge7 at_38 ?_
    intro h17 W18 F19
    have F20 : Exa Z h17 b2 "[D" := F14.wr W18
    have sz21 : n0 ≤ h17.size := Nat.le_trans sz15 (Nat.le_of_eq W18.size.symm)
    have sy22 : h0.size ≤ h17.size := Nat.le_trans sy16 (Nat.le_of_eq W18.size.symm)
    show Wk _ p l e _ s m _ below meth c n0 _ h17 1 4 (mkF m 39 #[.val (.int i0), .val (.int i1), .val (.int i2), .val (.int i3), .val (.int i4), .val (.int (0 : Int32)), .val (.ref b2), .unset, .unset, .unset, .unset] [])
    refine Wk.st (g' := (mkF m 41 #[.val (.int i0), .val (.int i1), .val (.int i2), .val (.int i3), .val (.int i4), .val (.int (0 : Int32)), .val (.ref b2), .unset, .unset, .unset, .unset] [(.ref b2)])) (fun X t q => XS.aload X.here C.hx rfl (hb C.hby at_39) rfl rfl q) ?_
    refine Wk.st (g' := (mkF m 42 #[.val (.int i0), .val (.int i1), .val (.int i2), .val (.int i3), .val (.int i4), .val (.int (0 : Int32)), .val (.ref b2), .unset, .unset, .unset, .unset] [(.int (2 : Int32)), (.ref b2)])) (fun X t q => XS.iconst X.here C.hx rfl (hb C.hby at_41) q) ?_
    refine Wk.st (g' := (mkF m 43 #[.val (.int i0), .val (.int i1), .val (.int i2), .val (.int i3), .val (.int i4), .val (.int (0 : Int32)), .val (.ref b2), .unset, .unset, .unset, .unset] [(.int i3), (.int (2 : Int32)), (.ref b2)])) (fun X t q => XS.iloadN X.here C.hx rfl (hb C.hby at_42) rfl q) ?_
    refine Wk.st (g' := (mkF m 45 #[.val (.int i0), .val (.int i1), .val (.int i2), .val (.int i3), .val (.int i4), .val (.int (0 : Int32)), .val (.ref b2), .unset, .unset, .unset, .unset] [(.int (7 : Int32)), (.int i3), (.int (2 : Int32)), (.ref b2)])) (fun X t q => XS.bipush X.here C.hx rfl (hb C.hby at_43) q) ?_
    refine Wk.st (g' := (mkF m 46 #[.val (.int i0), .val (.int i1), .val (.int i2), .val (.int i3), .val (.int i4), .val (.int (0 : Int32)), .val (.ref b2), .unset, .unset, .unset, .unset] [(.int (i3 &&& (7 : Int32))), (.int (2 : Int32)), (.ref b2)])) (fun X t q => XS.iand X.here C.hx rfl (hb C.hby at_45) rfl q) ?_
    obtain ⟨x2, hx2⟩ : ∃ z, z = (i3 &&& (7 : Int32)) := ⟨_, rfl⟩
    rw [← hx2]
    have r_x2 := and7 i3
    rw [← hx2] at r_x2
    show Wk _ p l e _ s m _ below meth c n0 _ h17 1 4 (mkF m 46 #[.val (.int i0), .val (.int i1), .val (.int i2), .val (.int i3), .val (.int i4), .val (.int (0 : Int32)), .val (.ref b2), .unset, .unset, .unset, .unset] [(.int x2), (.int (2 : Int32)), (.ref b2)])
    refine Wk.st (g' := (mkF m 47 #[.val (.int i0), .val (.int i1), .val (.int i2), .val (.int i3), .val (.int i4), .val (.int (0 : Int32)), .val (.ref b2), .unset, .unset, .unset, .unset] [(.double (FP.i2d x2)), (.int (2 : Int32)), (.ref b2)])) (fun X t q => XS.i2dS X.here C.hx rfl (hb C.hby at_46) rfl rfl q) ?_
    refine Wk.ldc2D C (hw _ (List.mem_of_getElem? (i := 2) rfl)) at_47 ?_
    show Wk _ p l e _ s m _ below meth c n0 _ h17 1 4 (mkF m 50 #[.val (.int i0), .val (.int i1), .val (.int i2), .val (.int i3), .val (.int i4), .val (.int (0 : Int32)), .val (.ref b2), .unset, .unset, .unset, .unset] [(.double (4620693217682128896 : UInt64)), (.double (FP.i2d x2)), (.int (2 : Int32)), (.ref b2)])
    refine Wk.st (g' := (mkF m 51 #[.val (.int i0), .val (.int i1), .val (.int i2), .val (.int i3), .val (.int i4), .val (.int (0 : Int32)), .val (.ref b2), .unset, .unset, .unset, .unset] [(.double (dv x2)), (.int (2 : Int32)), (.ref b2)])) (fun X t q => XS.ddivS X.here C.hx rfl (hb C.hby at_50) rfl (dv_nan r_x2) rfl q) ?_
    refine Wk.fStD C F19 (i := 2) (by decide) (by decide) (by decide) ge7 at_51 ?_
    intro h23 W24 F25
    have F26 : Exa Z h23 b2 "[D" := F20.wr W24
    have sz27 : n0 ≤ h23.size := Nat.le_trans sz21 (Nat.le_of_eq W24.size.symm)
    have sy28 : h0.size ≤ h23.size := Nat.le_trans sy22 (Nat.le_of_eq W24.size.symm)
    show Wk _ p l e _ s m _ below meth c n0 _ h23 1 4 (mkF m 52 #[.val (.int i0), .val (.int i1), .val (.int i2), .val (.int i3), .val (.int i4), .val (.int (0 : Int32)), .val (.ref b2), .unset, .unset, .unset, .unset] [])
    refine Wk.st (g' := (mkF m 54 #[.val (.int i0), .val (.int i1), .val (.int i2), .val (.int i3), .val (.int i4), .val (.int (0 : Int32)), .val (.ref b2), .unset, .unset, .unset, .unset] [(.ref b2)])) (fun X t q => XS.aload X.here C.hx rfl (hb C.hby at_52) rfl rfl q) ?_
    refine Wk.st (g' := (mkF m 55 #[.val (.int i0), .val (.int i1), .val (.int i2), .val (.int i3), .val (.int i4), .val (.int (0 : Int32)), .val (.ref b2), .unset, .unset, .unset, .unset] [(.int (3 : Int32)), (.ref b2)])) (fun X t q => XS.iconst X.here C.hx rfl (hb C.hby at_54) q) ?_
    refine Wk.st (g' := (mkF m 57 #[.val (.int i0), .val (.int i1), .val (.int i2), .val (.int i3), .val (.int i4), .val (.int (0 : Int32)), .val (.ref b2), .unset, .unset, .unset, .unset] [(.int i4), (.int (3 : Int32)), (.ref b2)])) (fun X t q => XS.iload X.here C.hx rfl (hb C.hby at_55) rfl q) ?_
    refine Wk.st (g' := (mkF m 59 #[.val (.int i0), .val (.int i1), .val (.int i2), .val (.int i3), .val (.int i4), .val (.int (0 : Int32)), .val (.ref b2), .unset, .unset, .unset, .unset] [(.int (7 : Int32)), (.int i4), (.int (3 : Int32)), (.ref b2)])) (fun X t q => XS.bipush X.here C.hx rfl (hb C.hby at_57) q) ?_
    refine Wk.st (g' := (mkF m 60 #[.val (.int i0), .val (.int i1), .val (.int i2), .val (.int i3), .val (.int i4), .val (.int (0 : Int32)), .val (.ref b2), .unset, .unset, .unset, .unset] [(.int (i4 &&& (7 : Int32))), (.int (3 : Int32)), (.ref b2)])) (fun X t q => XS.iand X.here C.hx rfl (hb C.hby at_59) rfl q) ?_
    obtain ⟨x3, hx3⟩ : ∃ z, z = (i4 &&& (7 : Int32)) := ⟨_, rfl⟩
    rw [← hx3]
    have r_x3 := and7 i4
    rw [← hx3] at r_x3
    show Wk _ p l e _ s m _ below meth c n0 _ h23 1 4 (mkF m 60 #[.val (.int i0), .val (.int i1), .val (.int i2), .val (.int i3), .val (.int i4), .val (.int (0 : Int32)), .val (.ref b2), .unset, .unset, .unset, .unset] [(.int x3), (.int (3 : Int32)), (.ref b2)])
    refine Wk.st (g' := (mkF m 61 #[.val (.int i0), .val (.int i1), .val (.int i2), .val (.int i3), .val (.int i4), .val (.int (0 : Int32)), .val (.ref b2), .unset, .unset, .unset, .unset] [(.double (FP.i2d x3)), (.int (3 : Int32)), (.ref b2)])) (fun X t q => XS.i2dS X.here C.hx rfl (hb C.hby at_60) rfl rfl q) ?_
    refine Wk.ldc2D C (hw _ (List.mem_of_getElem? (i := 2) rfl)) at_61 ?_
    show Wk _ p l e _ s m _ below meth c n0 _ h23 1 4 (mkF m 64 #[.val (.int i0), .val (.int i1), .val (.int i2), .val (.int i3), .val (.int i4), .val (.int (0 : Int32)), .val (.ref b2), .unset, .unset, .unset, .unset] [(.double (4620693217682128896 : UInt64)), (.double (FP.i2d x3)), (.int (3 : Int32)), (.ref b2)])
    refine Wk.st (g' := (mkF m 65 #[.val (.int i0), .val (.int i1), .val (.int i2), .val (.int i3), .val (.int i4), .val (.int (0 : Int32)), .val (.ref b2), .unset, .unset, .unset, .unset] [(.double (dv x3)), (.int (3 : Int32)), (.ref b2)])) (fun X t q => XS.ddivS X.here C.hx rfl (hb C.hby at_64) rfl (dv_nan r_x3) rfl q) ?_
    refine Wk.fStD C F25 (i := 3) (by decide) (by decide) (by decide) ge7 at_65 ?_
    intro h29 W30 F31
    have F32 : Exa Z h29 b2 "[D" := F26.wr W30
    have sz33 : n0 ≤ h29.size := Nat.le_trans sz27 (Nat.le_of_eq W30.size.symm)
    have sy34 : h0.size ≤ h29.size := Nat.le_trans sy28 (Nat.le_of_eq W30.size.symm)
    show Wk _ p l e _ s m _ below meth c n0 _ h29 1 4 (mkF m 66 #[.val (.int i0), .val (.int i1), .val (.int i2), .val (.int i3), .val (.int i4), .val (.int (0 : Int32)), .val (.ref b2), .unset, .unset, .unset, .unset] [])
    refine Wk.st (g' := (mkF m 68 #[.val (.int i0), .val (.int i1), .val (.int i2), .val (.int i3), .val (.int i4), .val (.int (0 : Int32)), .val (.ref b2), .unset, .unset, .unset, .unset] [(.int (0 : Int32))])) (fun X t q => XS.iload X.here C.hx rfl (hb C.hby at_66) rfl q) ?_
    refine Wk.fNewP C (hw _ (List.mem_of_getElem? (i := 1) rfl)) (ty := .double) (dv := (.double (0 : UInt64))) (N := 0) (ad := "[D") rfl rfl (by decide) (by decide) (by decide) (cap := 0) (by decide) (by decide) at_68 (by decide) (by decide) ?_
    intro h35 b36 g37 E38 A39 F40
    have ne41 : b2 ≠ b36 := Nat.ne_of_lt (Nat.lt_of_lt_of_le F32.lt (Nat.le_of_eq g37.symm))
    have ge42 : n0 ≤ b36 := Nat.le_trans sz33 (Nat.le_of_eq g37.symm)
    have gz43 : h0.size ≤ b36 := Nat.le_trans sy34 (Nat.le_of_eq g37.symm)
    have F44 : Exa Z h35 b2 "[D" := F32.ext E38
    have F45 : Fa Z h35 b2 .double 4 (up (up (up (up (fun _ => (.double (0 : UInt64))) 0 (.double (dv x0))) 1 (.double (dv x1))) 2 (.double (dv x2))) 3 (.double (dv x3))) := F31.ext E38
    have sz46 : n0 ≤ h35.size := Nat.le_trans sz33 E38.1
    have sy47 : h0.size ≤ h35.size := Nat.le_trans sy34 E38.1
    show Wk _ p l e _ s m _ below meth c n0 _ h35 2 4 (mkF m 70 #[.val (.int i0), .val (.int i1), .val (.int i2), .val (.int i3), .val (.int i4), .val (.int (0 : Int32)), .val (.ref b2), .unset, .unset, .unset, .unset] [(.ref b36)])
    refine Wk.st (g' := (mkF m 72 #[.val (.int i0), .val (.int i1), .val (.int i2), .val (.int i3), .val (.int i4), .val (.int (0 : Int32)), .val (.ref b2), .val (.ref b36), .unset, .unset, .unset] [])) (fun X t q => XS.astore X.here C.hx rfl (hb C.hby at_70) rfl rfl (l' := #[.val (.int i0), .val (.int i1), .val (.int i2), .val (.int i3), .val (.int i4), .val (.int (0 : Int32)), .val (.ref b2), .val (.ref b36), .unset, .unset, .unset]) rfl q) ?_
    refine Wk.st (g' := (mkF m 74 #[.val (.int i0), .val (.int i1), .val (.int i2), .val (.int i3), .val (.int i4), .val (.int (0 : Int32)), .val (.ref b2), .val (.ref b36), .unset, .unset, .unset] [(.int (0 : Int32))])) (fun X t q => XS.iload X.here C.hx rfl (hb C.hby at_72) rfl q) ?_
    refine Wk.st (g' := (mkF m 85 #[.val (.int i0), .val (.int i1), .val (.int i2), .val (.int i3), .val (.int i4), .val (.int (0 : Int32)), .val (.ref b2), .val (.ref b36), .unset, .unset, .unset] [])) (fun X t q => XS.ifYes X.here C.hx rfl (pc0 := 74) (pc' := 85) rfl (hb C.hby at_74) rfl (XT.i0_le_t (by decide)) (by decide) (by decide) q) ?_
    refine Wk.st (g' := (mkF m 87 #[.val (.int i0), .val (.int i1), .val (.int i2), .val (.int i3), .val (.int i4), .val (.int (0 : Int32)), .val (.ref b2), .val (.ref b36), .unset, .unset, .unset] [(.int (0 : Int32))])) (fun X t q => XS.iload X.here C.hx rfl (hb C.hby at_85) rfl q) ?_
    refine Wk.st (g' := (mkF m 88 #[.val (.int i0), .val (.int i1), .val (.int i2), .val (.int i3), .val (.int i4), .val (.int (0 : Int32)), .val (.ref b2), .val (.ref b36), .unset, .unset, .unset] [(.int (1 : Int32)), (.int (0 : Int32))])) (fun X t q => XS.iconst X.here C.hx rfl (hb C.hby at_87) q) ?_
    refine Wk.st (g' := (mkF m 99 #[.val (.int i0), .val (.int i1), .val (.int i2), .val (.int i3), .val (.int i4), .val (.int (0 : Int32)), .val (.ref b2), .val (.ref b36), .unset, .unset, .unset] [])) (fun X t q => XS.icmpYes X.here C.hx rfl (pc0 := 88) (pc' := 99) rfl (hb C.hby at_88) rfl (XT.ii_le_t (by decide)) (by decide) (by decide) q) ?_
    refine Wk.st (g' := (mkF m 101 #[.val (.int i0), .val (.int i1), .val (.int i2), .val (.int i3), .val (.int i4), .val (.int (0 : Int32)), .val (.ref b2), .val (.ref b36), .unset, .unset, .unset] [(.int (0 : Int32))])) (fun X t q => XS.iload X.here C.hx rfl (hb C.hby at_99) rfl q) ?_
    refine Wk.st (g' := (mkF m 102 #[.val (.int i0), .val (.int i1), .val (.int i2), .val (.int i3), .val (.int i4), .val (.int (0 : Int32)), .val (.ref b2), .val (.ref b36), .unset, .unset, .unset] [(.int (2 : Int32)), (.int (0 : Int32))])) (fun X t q => XS.iconst X.here C.hx rfl (hb C.hby at_101) q) ?_
    refine Wk.st (g' := (mkF m 113 #[.val (.int i0), .val (.int i1), .val (.int i2), .val (.int i3), .val (.int i4), .val (.int (0 : Int32)), .val (.ref b2), .val (.ref b36), .unset, .unset, .unset] [])) (fun X t q => XS.icmpYes X.here C.hx rfl (pc0 := 102) (pc' := 113) rfl (hb C.hby at_102) rfl (XT.ii_le_t (by decide)) (by decide) (by decide) q) ?_
    refine Wk.st (g' := (mkF m 115 #[.val (.int i0), .val (.int i1), .val (.int i2), .val (.int i3), .val (.int i4), .val (.int (0 : Int32)), .val (.ref b2), .val (.ref b36), .unset, .unset, .unset] [(.int (0 : Int32))])) (fun X t q => XS.iload X.here C.hx rfl (hb C.hby at_113) rfl q) ?_
    refine Wk.st (g' := (mkF m 116 #[.val (.int i0), .val (.int i1), .val (.int i2), .val (.int i3), .val (.int i4), .val (.int (0 : Int32)), .val (.ref b2), .val (.ref b36), .unset, .unset, .unset] [(.int (3 : Int32)), (.int (0 : Int32))])) (fun X t q => XS.iconst X.here C.hx rfl (hb C.hby at_115) q) ?_
    refine Wk.st (g' := (mkF m 127 #[.val (.int i0), .val (.int i1), .val (.int i2), .val (.int i3), .val (.int i4), .val (.int (0 : Int32)), .val (.ref b2), .val (.ref b36), .unset, .unset, .unset] [])) (fun X t q => XS.icmpYes X.here C.hx rfl (pc0 := 116) (pc' := 127) rfl (hb C.hby at_116) rfl (XT.ii_le_t (by decide)) (by decide) (by decide) q) ?_
    refine Wk.st (g' := (mkF m 129 #[.val (.int i0), .val (.int i1), .val (.int i2), .val (.int i3), .val (.int i4), .val (.int (0 : Int32)), .val (.ref b2), .val (.ref b36), .unset, .unset, .unset] [(.ref b36)])) (fun X t q => XS.aload X.here C.hx rfl (hb C.hby at_127) rfl rfl q) ?_
    refine Wk.callS C (z := (⟨"com/example/understory/understory/Classifier", "mostProbable", "([D)I"⟩ : MethodName)) (hw _ (List.mem_of_getElem? (i := 3) rfl)) (hw _ (List.mem_of_getElem? (i := 4) rfl)) (hw _ (List.mem_of_getElem? (i := 5) rfl)) (hw _ (List.mem_of_getElem? (i := 6) rfl)) (by decide) (own_mp0 l Z a0 hw n0 h35 b36 x0 x1 x2 x3 r_x0 r_x1 r_x2 r_x3 F40) (w := 0) (by decide) (by decide) pd_0 rfl (rest := []) rfl rfl (Nat.le_of_eq rfl) (by decide) (by decide) at_129 ?_
    rintro _ _ ⟨⟨rfl, -⟩, rfl⟩
    show Wk _ p l e _ s m _ below meth c n0 _ h35 2 4 (mkF m 132 #[.val (.int i0), .val (.int i1), .val (.int i2), .val (.int i3), .val (.int i4), .val (.int (0 : Int32)), .val (.ref b2), .val (.ref b36), .unset, .unset, .unset] [(.int (0 : Int32))])
    refine Wk.st (g' := (mkF m 134 #[.val (.int i0), .val (.int i1), .val (.int i2), .val (.int i3), .val (.int i4), .val (.int (0 : Int32)), .val (.ref b2), .val (.ref b36), .val (.int (0 : Int32)), .unset, .unset] [])) (fun X t q => XS.istore X.here C.hx rfl (hb C.hby at_132) rfl (l' := #[.val (.int i0), .val (.int i1), .val (.int i2), .val (.int i3), .val (.int i4), .val (.int (0 : Int32)), .val (.ref b2), .val (.ref b36), .val (.int (0 : Int32)), .unset, .unset]) rfl q) ?_
    refine Wk.st (g' := (mkF m 136 #[.val (.int i0), .val (.int i1), .val (.int i2), .val (.int i3), .val (.int i4), .val (.int (0 : Int32)), .val (.ref b2), .val (.ref b36), .val (.int (0 : Int32)), .unset, .unset] [(.int (0 : Int32))])) (fun X t q => XS.iload X.here C.hx rfl (hb C.hby at_134) rfl q) ?_
    refine Wk.st (g' := (mkF m 139 #[.val (.int i0), .val (.int i1), .val (.int i2), .val (.int i3), .val (.int i4), .val (.int (0 : Int32)), .val (.ref b2), .val (.ref b36), .val (.int (0 : Int32)), .unset, .unset] [])) (fun X t q => XS.ifNo X.here C.hx rfl (hb C.hby at_136) rfl (XT.i0_ne_f (by decide)) q) ?_
    refine Wk.st (g' := (mkF m 141 #[.val (.int i0), .val (.int i1), .val (.int i2), .val (.int i3), .val (.int i4), .val (.int (0 : Int32)), .val (.ref b2), .val (.ref b36), .val (.int (0 : Int32)), .unset, .unset] [(.int (0 : Int32))])) (fun X t q => XS.iload X.here C.hx rfl (hb C.hby at_139) rfl q) ?_
    refine Wk.st (g' := (mkF m 144 #[.val (.int i0), .val (.int i1), .val (.int i2), .val (.int i3), .val (.int i4), .val (.int (0 : Int32)), .val (.ref b2), .val (.ref b36), .val (.int (0 : Int32)), .unset, .unset] [])) (fun X t q => XS.ifNo X.here C.hx rfl (hb C.hby at_141) rfl (XT.i0_ne_f (by decide)) q) ?_
    refine Wk.st (g' := (mkF m 145 #[.val (.int i0), .val (.int i1), .val (.int i2), .val (.int i3), .val (.int i4), .val (.int (0 : Int32)), .val (.ref b2), .val (.ref b36), .val (.int (0 : Int32)), .unset, .unset] [(.int (1 : Int32))])) (fun X t q => XS.iconst X.here C.hx rfl (hb C.hby at_144) q) ?_
    refine Wk.st (g' := (mkF m 149 #[.val (.int i0), .val (.int i1), .val (.int i2), .val (.int i3), .val (.int i4), .val (.int (0 : Int32)), .val (.ref b2), .val (.ref b36), .val (.int (0 : Int32)), .unset, .unset] [(.int (1 : Int32))])) (fun X t q => XS.goto X.here C.hx rfl (pc0 := 145) (pc' := 149) rfl (hb C.hby at_145) (by decide) (by decide) q) ?_
    exact Wk.retV C (t := .boolean) rfl rfl (Or.inl ⟨rfl, by simp, _, rfl⟩) at_149 (by decide) (by decide) ⟨rfl, trivial⟩
  · skip
    show Wk _ p l e _ s m _ below meth c n0 _ h0 0 0 (mkF m 8 #[.val (.int i0), .val (.int i1), .val (.int i2), .val (.int i3), .val (.int i4), .val (.int (1 : Int32)), .unset, .unset, .unset, .unset, .unset] [])
    refine Wk.st (g' := (mkF m 9 #[.val (.int i0), .val (.int i1), .val (.int i2), .val (.int i3), .val (.int i4), .val (.int (1 : Int32)), .unset, .unset, .unset, .unset, .unset] [(.int (4 : Int32))])) (fun X t q => XS.iconst X.here C.hx rfl (hb C.hby at_8) q) ?_
    refine Wk.fNewP C (hw _ (List.mem_of_getElem? (i := 1) rfl)) (ty := .double) (dv := (.double (0 : UInt64))) (N := 4) (ad := "[D") rfl rfl (by decide) (by decide) (by decide) (cap := 4) (by decide) (by decide) at_9 (by decide) (by decide) ?_
    intro h48 b49 g50 E51 A52 F53
    have ge54 : n0 ≤ b49 := Nat.le_trans hsz (Nat.le_of_eq g50.symm)
    have gz55 : h0.size ≤ b49 := Nat.le_trans (Nat.le_refl h0.size) (Nat.le_of_eq g50.symm)
    have sz56 : n0 ≤ h48.size := Nat.le_trans hsz E51.1
    have sy57 : h0.size ≤ h48.size := Nat.le_trans (Nat.le_refl h0.size) E51.1
    show Wk _ p l e _ s m _ below meth c n0 _ h48 1 4 (mkF m 11 #[.val (.int i0), .val (.int i1), .val (.int i2), .val (.int i3), .val (.int i4), .val (.int (1 : Int32)), .unset, .unset, .unset, .unset, .unset] [(.ref b49)])
    refine Wk.st (g' := (mkF m 13 #[.val (.int i0), .val (.int i1), .val (.int i2), .val (.int i3), .val (.int i4), .val (.int (1 : Int32)), .val (.ref b49), .unset, .unset, .unset, .unset] [])) (fun X t q => XS.astore X.here C.hx rfl (hb C.hby at_11) rfl rfl (l' := #[.val (.int i0), .val (.int i1), .val (.int i2), .val (.int i3), .val (.int i4), .val (.int (1 : Int32)), .val (.ref b49), .unset, .unset, .unset, .unset]) rfl q) ?_
    refine Wk.st (g' := (mkF m 15 #[.val (.int i0), .val (.int i1), .val (.int i2), .val (.int i3), .val (.int i4), .val (.int (1 : Int32)), .val (.ref b49), .unset, .unset, .unset, .unset] [(.ref b49)])) (fun X t q => XS.aload X.here C.hx rfl (hb C.hby at_13) rfl rfl q) ?_
    refine Wk.st (g' := (mkF m 16 #[.val (.int i0), .val (.int i1), .val (.int i2), .val (.int i3), .val (.int i4), .val (.int (1 : Int32)), .val (.ref b49), .unset, .unset, .unset, .unset] [(.int (0 : Int32)), (.ref b49)])) (fun X t q => XS.iconst X.here C.hx rfl (hb C.hby at_15) q) ?_
    refine Wk.st (g' := (mkF m 17 #[.val (.int i0), .val (.int i1), .val (.int i2), .val (.int i3), .val (.int i4), .val (.int (1 : Int32)), .val (.ref b49), .unset, .unset, .unset, .unset] [(.int i1), (.int (0 : Int32)), (.ref b49)])) (fun X t q => XS.iloadN X.here C.hx rfl (hb C.hby at_16) rfl q) ?_
    refine Wk.st (g' := (mkF m 19 #[.val (.int i0), .val (.int i1), .val (.int i2), .val (.int i3), .val (.int i4), .val (.int (1 : Int32)), .val (.ref b49), .unset, .unset, .unset, .unset] [(.int (7 : Int32)), (.int i1), (.int (0 : Int32)), (.ref b49)])) (fun X t q => XS.bipush X.here C.hx rfl (hb C.hby at_17) q) ?_
    refine Wk.st (g' := (mkF m 20 #[.val (.int i0), .val (.int i1), .val (.int i2), .val (.int i3), .val (.int i4), .val (.int (1 : Int32)), .val (.ref b49), .unset, .unset, .unset, .unset] [(.int (i1 &&& (7 : Int32))), (.int (0 : Int32)), (.ref b49)])) (fun X t q => XS.iand X.here C.hx rfl (hb C.hby at_19) rfl q) ?_
    obtain ⟨x0, hx0⟩ : ∃ z, z = (i1 &&& (7 : Int32)) := ⟨_, rfl⟩
    rw [← hx0]
    have r_x0 := and7 i1
    rw [← hx0] at r_x0
    show Wk _ p l e _ s m _ below meth c n0 _ h48 1 4 (mkF m 20 #[.val (.int i0), .val (.int i1), .val (.int i2), .val (.int i3), .val (.int i4), .val (.int (1 : Int32)), .val (.ref b49), .unset, .unset, .unset, .unset] [(.int x0), (.int (0 : Int32)), (.ref b49)])
    refine Wk.st (g' := (mkF m 21 #[.val (.int i0), .val (.int i1), .val (.int i2), .val (.int i3), .val (.int i4), .val (.int (1 : Int32)), .val (.ref b49), .unset, .unset, .unset, .unset] [(.double (FP.i2d x0)), (.int (0 : Int32)), (.ref b49)])) (fun X t q => XS.i2dS X.here C.hx rfl (hb C.hby at_20) rfl rfl q) ?_
    refine Wk.ldc2D C (hw _ (List.mem_of_getElem? (i := 2) rfl)) at_21 ?_
    show Wk _ p l e _ s m _ below meth c n0 _ h48 1 4 (mkF m 24 #[.val (.int i0), .val (.int i1), .val (.int i2), .val (.int i3), .val (.int i4), .val (.int (1 : Int32)), .val (.ref b49), .unset, .unset, .unset, .unset] [(.double (4620693217682128896 : UInt64)), (.double (FP.i2d x0)), (.int (0 : Int32)), (.ref b49)])
    refine Wk.st (g' := (mkF m 25 #[.val (.int i0), .val (.int i1), .val (.int i2), .val (.int i3), .val (.int i4), .val (.int (1 : Int32)), .val (.ref b49), .unset, .unset, .unset, .unset] [(.double (dv x0)), (.int (0 : Int32)), (.ref b49)])) (fun X t q => XS.ddivS X.here C.hx rfl (hb C.hby at_24) rfl (dv_nan r_x0) rfl q) ?_
    refine Wk.fStD C F53 (i := 0) (by decide) (by decide) (by decide) ge54 at_25 ?_
    intro h58 W59 F60
    have F61 : Exa Z h58 b49 "[D" := A52.wr W59
    have sz62 : n0 ≤ h58.size := Nat.le_trans sz56 (Nat.le_of_eq W59.size.symm)
    have sy63 : h0.size ≤ h58.size := Nat.le_trans sy57 (Nat.le_of_eq W59.size.symm)
    show Wk _ p l e _ s m _ below meth c n0 _ h58 1 4 (mkF m 26 #[.val (.int i0), .val (.int i1), .val (.int i2), .val (.int i3), .val (.int i4), .val (.int (1 : Int32)), .val (.ref b49), .unset, .unset, .unset, .unset] [])
    refine Wk.st (g' := (mkF m 28 #[.val (.int i0), .val (.int i1), .val (.int i2), .val (.int i3), .val (.int i4), .val (.int (1 : Int32)), .val (.ref b49), .unset, .unset, .unset, .unset] [(.ref b49)])) (fun X t q => XS.aload X.here C.hx rfl (hb C.hby at_26) rfl rfl q) ?_
    refine Wk.st (g' := (mkF m 29 #[.val (.int i0), .val (.int i1), .val (.int i2), .val (.int i3), .val (.int i4), .val (.int (1 : Int32)), .val (.ref b49), .unset, .unset, .unset, .unset] [(.int (1 : Int32)), (.ref b49)])) (fun X t q => XS.iconst X.here C.hx rfl (hb C.hby at_28) q) ?_
    refine Wk.st (g' := (mkF m 30 #[.val (.int i0), .val (.int i1), .val (.int i2), .val (.int i3), .val (.int i4), .val (.int (1 : Int32)), .val (.ref b49), .unset, .unset, .unset, .unset] [(.int i2), (.int (1 : Int32)), (.ref b49)])) (fun X t q => XS.iloadN X.here C.hx rfl (hb C.hby at_29) rfl q) ?_
    refine Wk.st (g' := (mkF m 32 #[.val (.int i0), .val (.int i1), .val (.int i2), .val (.int i3), .val (.int i4), .val (.int (1 : Int32)), .val (.ref b49), .unset, .unset, .unset, .unset] [(.int (7 : Int32)), (.int i2), (.int (1 : Int32)), (.ref b49)])) (fun X t q => XS.bipush X.here C.hx rfl (hb C.hby at_30) q) ?_
    refine Wk.st (g' := (mkF m 33 #[.val (.int i0), .val (.int i1), .val (.int i2), .val (.int i3), .val (.int i4), .val (.int (1 : Int32)), .val (.ref b49), .unset, .unset, .unset, .unset] [(.int (i2 &&& (7 : Int32))), (.int (1 : Int32)), (.ref b49)])) (fun X t q => XS.iand X.here C.hx rfl (hb C.hby at_32) rfl q) ?_
    obtain ⟨x1, hx1⟩ : ∃ z, z = (i2 &&& (7 : Int32)) := ⟨_, rfl⟩
    rw [← hx1]
    have r_x1 := and7 i2
    rw [← hx1] at r_x1
    show Wk _ p l e _ s m _ below meth c n0 _ h58 1 4 (mkF m 33 #[.val (.int i0), .val (.int i1), .val (.int i2), .val (.int i3), .val (.int i4), .val (.int (1 : Int32)), .val (.ref b49), .unset, .unset, .unset, .unset] [(.int x1), (.int (1 : Int32)), (.ref b49)])
    refine Wk.st (g' := (mkF m 34 #[.val (.int i0), .val (.int i1), .val (.int i2), .val (.int i3), .val (.int i4), .val (.int (1 : Int32)), .val (.ref b49), .unset, .unset, .unset, .unset] [(.double (FP.i2d x1)), (.int (1 : Int32)), (.ref b49)])) (fun X t q => XS.i2dS X.here C.hx rfl (hb C.hby at_33) rfl rfl q) ?_
    refine Wk.ldc2D C (hw _ (List.mem_of_getElem? (i := 2) rfl)) at_34 ?_
    show Wk _ p l e _ s m _ below meth c n0 _ h58 1 4 (mkF m 37 #[.val (.int i0), .val (.int i1), .val (.int i2), .val (.int i3), .val (.int i4), .val (.int (1 : Int32)), .val (.ref b49), .unset, .unset, .unset, .unset] [(.double (4620693217682128896 : UInt64)), (.double (FP.i2d x1)), (.int (1 : Int32)), (.ref b49)])
    refine Wk.st (g' := (mkF m 38 #[.val (.int i0), .val (.int i1), .val (.int i2), .val (.int i3), .val (.int i4), .val (.int (1 : Int32)), .val (.ref b49), .unset, .unset, .unset, .unset] [(.double (dv x1)), (.int (1 : Int32)), (.ref b49)])) (fun X t q => XS.ddivS X.here C.hx rfl (hb C.hby at_37) rfl (dv_nan r_x1) rfl q) ?_
    refine Wk.fStD C F60 (i := 1) (by decide) (by decide) (by decide) ge54 at_38 ?_
    intro h64 W65 F66
    have F67 : Exa Z h64 b49 "[D" := F61.wr W65
    have sz68 : n0 ≤ h64.size := Nat.le_trans sz62 (Nat.le_of_eq W65.size.symm)
    have sy69 : h0.size ≤ h64.size := Nat.le_trans sy63 (Nat.le_of_eq W65.size.symm)
    show Wk _ p l e _ s m _ below meth c n0 _ h64 1 4 (mkF m 39 #[.val (.int i0), .val (.int i1), .val (.int i2), .val (.int i3), .val (.int i4), .val (.int (1 : Int32)), .val (.ref b49), .unset, .unset, .unset, .unset] [])
    refine Wk.st (g' := (mkF m 41 #[.val (.int i0), .val (.int i1), .val (.int i2), .val (.int i3), .val (.int i4), .val (.int (1 : Int32)), .val (.ref b49), .unset, .unset, .unset, .unset] [(.ref b49)])) (fun X t q => XS.aload X.here C.hx rfl (hb C.hby at_39) rfl rfl q) ?_
    refine Wk.st (g' := (mkF m 42 #[.val (.int i0), .val (.int i1), .val (.int i2), .val (.int i3), .val (.int i4), .val (.int (1 : Int32)), .val (.ref b49), .unset, .unset, .unset, .unset] [(.int (2 : Int32)), (.ref b49)])) (fun X t q => XS.iconst X.here C.hx rfl (hb C.hby at_41) q) ?_
    refine Wk.st (g' := (mkF m 43 #[.val (.int i0), .val (.int i1), .val (.int i2), .val (.int i3), .val (.int i4), .val (.int (1 : Int32)), .val (.ref b49), .unset, .unset, .unset, .unset] [(.int i3), (.int (2 : Int32)), (.ref b49)])) (fun X t q => XS.iloadN X.here C.hx rfl (hb C.hby at_42) rfl q) ?_
    refine Wk.st (g' := (mkF m 45 #[.val (.int i0), .val (.int i1), .val (.int i2), .val (.int i3), .val (.int i4), .val (.int (1 : Int32)), .val (.ref b49), .unset, .unset, .unset, .unset] [(.int (7 : Int32)), (.int i3), (.int (2 : Int32)), (.ref b49)])) (fun X t q => XS.bipush X.here C.hx rfl (hb C.hby at_43) q) ?_
    refine Wk.st (g' := (mkF m 46 #[.val (.int i0), .val (.int i1), .val (.int i2), .val (.int i3), .val (.int i4), .val (.int (1 : Int32)), .val (.ref b49), .unset, .unset, .unset, .unset] [(.int (i3 &&& (7 : Int32))), (.int (2 : Int32)), (.ref b49)])) (fun X t q => XS.iand X.here C.hx rfl (hb C.hby at_45) rfl q) ?_
    obtain ⟨x2, hx2⟩ : ∃ z, z = (i3 &&& (7 : Int32)) := ⟨_, rfl⟩
    rw [← hx2]
    have r_x2 := and7 i3
    rw [← hx2] at r_x2
    show Wk _ p l e _ s m _ below meth c n0 _ h64 1 4 (mkF m 46 #[.val (.int i0), .val (.int i1), .val (.int i2), .val (.int i3), .val (.int i4), .val (.int (1 : Int32)), .val (.ref b49), .unset, .unset, .unset, .unset] [(.int x2), (.int (2 : Int32)), (.ref b49)])
    refine Wk.st (g' := (mkF m 47 #[.val (.int i0), .val (.int i1), .val (.int i2), .val (.int i3), .val (.int i4), .val (.int (1 : Int32)), .val (.ref b49), .unset, .unset, .unset, .unset] [(.double (FP.i2d x2)), (.int (2 : Int32)), (.ref b49)])) (fun X t q => XS.i2dS X.here C.hx rfl (hb C.hby at_46) rfl rfl q) ?_
    refine Wk.ldc2D C (hw _ (List.mem_of_getElem? (i := 2) rfl)) at_47 ?_
    show Wk _ p l e _ s m _ below meth c n0 _ h64 1 4 (mkF m 50 #[.val (.int i0), .val (.int i1), .val (.int i2), .val (.int i3), .val (.int i4), .val (.int (1 : Int32)), .val (.ref b49), .unset, .unset, .unset, .unset] [(.double (4620693217682128896 : UInt64)), (.double (FP.i2d x2)), (.int (2 : Int32)), (.ref b49)])
    refine Wk.st (g' := (mkF m 51 #[.val (.int i0), .val (.int i1), .val (.int i2), .val (.int i3), .val (.int i4), .val (.int (1 : Int32)), .val (.ref b49), .unset, .unset, .unset, .unset] [(.double (dv x2)), (.int (2 : Int32)), (.ref b49)])) (fun X t q => XS.ddivS X.here C.hx rfl (hb C.hby at_50) rfl (dv_nan r_x2) rfl q) ?_
    refine Wk.fStD C F66 (i := 2) (by decide) (by decide) (by decide) ge54 at_51 ?_
    intro h70 W71 F72
    have F73 : Exa Z h70 b49 "[D" := F67.wr W71
    have sz74 : n0 ≤ h70.size := Nat.le_trans sz68 (Nat.le_of_eq W71.size.symm)
    have sy75 : h0.size ≤ h70.size := Nat.le_trans sy69 (Nat.le_of_eq W71.size.symm)
    show Wk _ p l e _ s m _ below meth c n0 _ h70 1 4 (mkF m 52 #[.val (.int i0), .val (.int i1), .val (.int i2), .val (.int i3), .val (.int i4), .val (.int (1 : Int32)), .val (.ref b49), .unset, .unset, .unset, .unset] [])
    refine Wk.st (g' := (mkF m 54 #[.val (.int i0), .val (.int i1), .val (.int i2), .val (.int i3), .val (.int i4), .val (.int (1 : Int32)), .val (.ref b49), .unset, .unset, .unset, .unset] [(.ref b49)])) (fun X t q => XS.aload X.here C.hx rfl (hb C.hby at_52) rfl rfl q) ?_
    refine Wk.st (g' := (mkF m 55 #[.val (.int i0), .val (.int i1), .val (.int i2), .val (.int i3), .val (.int i4), .val (.int (1 : Int32)), .val (.ref b49), .unset, .unset, .unset, .unset] [(.int (3 : Int32)), (.ref b49)])) (fun X t q => XS.iconst X.here C.hx rfl (hb C.hby at_54) q) ?_
    refine Wk.st (g' := (mkF m 57 #[.val (.int i0), .val (.int i1), .val (.int i2), .val (.int i3), .val (.int i4), .val (.int (1 : Int32)), .val (.ref b49), .unset, .unset, .unset, .unset] [(.int i4), (.int (3 : Int32)), (.ref b49)])) (fun X t q => XS.iload X.here C.hx rfl (hb C.hby at_55) rfl q) ?_
    refine Wk.st (g' := (mkF m 59 #[.val (.int i0), .val (.int i1), .val (.int i2), .val (.int i3), .val (.int i4), .val (.int (1 : Int32)), .val (.ref b49), .unset, .unset, .unset, .unset] [(.int (7 : Int32)), (.int i4), (.int (3 : Int32)), (.ref b49)])) (fun X t q => XS.bipush X.here C.hx rfl (hb C.hby at_57) q) ?_
    refine Wk.st (g' := (mkF m 60 #[.val (.int i0), .val (.int i1), .val (.int i2), .val (.int i3), .val (.int i4), .val (.int (1 : Int32)), .val (.ref b49), .unset, .unset, .unset, .unset] [(.int (i4 &&& (7 : Int32))), (.int (3 : Int32)), (.ref b49)])) (fun X t q => XS.iand X.here C.hx rfl (hb C.hby at_59) rfl q) ?_
    obtain ⟨x3, hx3⟩ : ∃ z, z = (i4 &&& (7 : Int32)) := ⟨_, rfl⟩
    rw [← hx3]
    have r_x3 := and7 i4
    rw [← hx3] at r_x3
    show Wk _ p l e _ s m _ below meth c n0 _ h70 1 4 (mkF m 60 #[.val (.int i0), .val (.int i1), .val (.int i2), .val (.int i3), .val (.int i4), .val (.int (1 : Int32)), .val (.ref b49), .unset, .unset, .unset, .unset] [(.int x3), (.int (3 : Int32)), (.ref b49)])
    refine Wk.st (g' := (mkF m 61 #[.val (.int i0), .val (.int i1), .val (.int i2), .val (.int i3), .val (.int i4), .val (.int (1 : Int32)), .val (.ref b49), .unset, .unset, .unset, .unset] [(.double (FP.i2d x3)), (.int (3 : Int32)), (.ref b49)])) (fun X t q => XS.i2dS X.here C.hx rfl (hb C.hby at_60) rfl rfl q) ?_
    refine Wk.ldc2D C (hw _ (List.mem_of_getElem? (i := 2) rfl)) at_61 ?_
    show Wk _ p l e _ s m _ below meth c n0 _ h70 1 4 (mkF m 64 #[.val (.int i0), .val (.int i1), .val (.int i2), .val (.int i3), .val (.int i4), .val (.int (1 : Int32)), .val (.ref b49), .unset, .unset, .unset, .unset] [(.double (4620693217682128896 : UInt64)), (.double (FP.i2d x3)), (.int (3 : Int32)), (.ref b49)])
    refine Wk.st (g' := (mkF m 65 #[.val (.int i0), .val (.int i1), .val (.int i2), .val (.int i3), .val (.int i4), .val (.int (1 : Int32)), .val (.ref b49), .unset, .unset, .unset, .unset] [(.double (dv x3)), (.int (3 : Int32)), (.ref b49)])) (fun X t q => XS.ddivS X.here C.hx rfl (hb C.hby at_64) rfl (dv_nan r_x3) rfl q) ?_
    refine Wk.fStD C F72 (i := 3) (by decide) (by decide) (by decide) ge54 at_65 ?_
    intro h76 W77 F78
    have F79 : Exa Z h76 b49 "[D" := F73.wr W77
    have sz80 : n0 ≤ h76.size := Nat.le_trans sz74 (Nat.le_of_eq W77.size.symm)
    have sy81 : h0.size ≤ h76.size := Nat.le_trans sy75 (Nat.le_of_eq W77.size.symm)
    show Wk _ p l e _ s m _ below meth c n0 _ h76 1 4 (mkF m 66 #[.val (.int i0), .val (.int i1), .val (.int i2), .val (.int i3), .val (.int i4), .val (.int (1 : Int32)), .val (.ref b49), .unset, .unset, .unset, .unset] [])
    refine Wk.st (g' := (mkF m 68 #[.val (.int i0), .val (.int i1), .val (.int i2), .val (.int i3), .val (.int i4), .val (.int (1 : Int32)), .val (.ref b49), .unset, .unset, .unset, .unset] [(.int (1 : Int32))])) (fun X t q => XS.iload X.here C.hx rfl (hb C.hby at_66) rfl q) ?_
    refine Wk.fNewP C (hw _ (List.mem_of_getElem? (i := 1) rfl)) (ty := .double) (dv := (.double (0 : UInt64))) (N := 1) (ad := "[D") rfl rfl (by decide) (by decide) (by decide) (cap := 1) (by decide) (by decide) at_68 (by decide) (by decide) ?_
    intro h82 b83 g84 E85 A86 F87
    have ne88 : b49 ≠ b83 := Nat.ne_of_lt (Nat.lt_of_lt_of_le F79.lt (Nat.le_of_eq g84.symm))
    have ge89 : n0 ≤ b83 := Nat.le_trans sz80 (Nat.le_of_eq g84.symm)
    have gz90 : h0.size ≤ b83 := Nat.le_trans sy81 (Nat.le_of_eq g84.symm)
    have F91 : Exa Z h82 b49 "[D" := F79.ext E85
    have F92 : Fa Z h82 b49 .double 4 (up (up (up (up (fun _ => (.double (0 : UInt64))) 0 (.double (dv x0))) 1 (.double (dv x1))) 2 (.double (dv x2))) 3 (.double (dv x3))) := F78.ext E85
    have sz93 : n0 ≤ h82.size := Nat.le_trans sz80 E85.1
    have sy94 : h0.size ≤ h82.size := Nat.le_trans sy81 E85.1
    show Wk _ p l e _ s m _ below meth c n0 _ h82 2 5 (mkF m 70 #[.val (.int i0), .val (.int i1), .val (.int i2), .val (.int i3), .val (.int i4), .val (.int (1 : Int32)), .val (.ref b49), .unset, .unset, .unset, .unset] [(.ref b83)])
    refine Wk.st (g' := (mkF m 72 #[.val (.int i0), .val (.int i1), .val (.int i2), .val (.int i3), .val (.int i4), .val (.int (1 : Int32)), .val (.ref b49), .val (.ref b83), .unset, .unset, .unset] [])) (fun X t q => XS.astore X.here C.hx rfl (hb C.hby at_70) rfl rfl (l' := #[.val (.int i0), .val (.int i1), .val (.int i2), .val (.int i3), .val (.int i4), .val (.int (1 : Int32)), .val (.ref b49), .val (.ref b83), .unset, .unset, .unset]) rfl q) ?_
    refine Wk.st (g' := (mkF m 74 #[.val (.int i0), .val (.int i1), .val (.int i2), .val (.int i3), .val (.int i4), .val (.int (1 : Int32)), .val (.ref b49), .val (.ref b83), .unset, .unset, .unset] [(.int (1 : Int32))])) (fun X t q => XS.iload X.here C.hx rfl (hb C.hby at_72) rfl q) ?_
    refine Wk.st (g' := (mkF m 77 #[.val (.int i0), .val (.int i1), .val (.int i2), .val (.int i3), .val (.int i4), .val (.int (1 : Int32)), .val (.ref b49), .val (.ref b83), .unset, .unset, .unset] [])) (fun X t q => XS.ifNo X.here C.hx rfl (hb C.hby at_74) rfl (XT.i0_le_f (by decide)) q) ?_
    refine Wk.st (g' := (mkF m 79 #[.val (.int i0), .val (.int i1), .val (.int i2), .val (.int i3), .val (.int i4), .val (.int (1 : Int32)), .val (.ref b49), .val (.ref b83), .unset, .unset, .unset] [(.ref b83)])) (fun X t q => XS.aload X.here C.hx rfl (hb C.hby at_77) rfl rfl q) ?_
    refine Wk.st (g' := (mkF m 80 #[.val (.int i0), .val (.int i1), .val (.int i2), .val (.int i3), .val (.int i4), .val (.int (1 : Int32)), .val (.ref b49), .val (.ref b83), .unset, .unset, .unset] [(.int (0 : Int32)), (.ref b83)])) (fun X t q => XS.iconst X.here C.hx rfl (hb C.hby at_79) q) ?_
    refine Wk.st (g' := (mkF m 82 #[.val (.int i0), .val (.int i1), .val (.int i2), .val (.int i3), .val (.int i4), .val (.int (1 : Int32)), .val (.ref b49), .val (.ref b83), .unset, .unset, .unset] [(.ref b49), (.int (0 : Int32)), (.ref b83)])) (fun X t q => XS.aload X.here C.hx rfl (hb C.hby at_80) rfl rfl q) ?_
    refine Wk.st (g' := (mkF m 83 #[.val (.int i0), .val (.int i1), .val (.int i2), .val (.int i3), .val (.int i4), .val (.int (1 : Int32)), .val (.ref b49), .val (.ref b83), .unset, .unset, .unset] [(.int (0 : Int32)), (.ref b49), (.int (0 : Int32)), (.ref b83)])) (fun X t q => XS.iconst X.here C.hx rfl (hb C.hby at_82) q) ?_
    refine Wk.fLdD C F92 (i := 0) (by decide) (by decide) (by decide) (v := (.double (dv x0))) (by simp [up]) at_83 ?_
    show Wk _ p l e _ s m _ below meth c n0 _ h82 2 5 (mkF m 84 #[.val (.int i0), .val (.int i1), .val (.int i2), .val (.int i3), .val (.int i4), .val (.int (1 : Int32)), .val (.ref b49), .val (.ref b83), .unset, .unset, .unset] [(.double (dv x0)), (.int (0 : Int32)), (.ref b83)])
    refine Wk.fStD C F87 (i := 0) (by decide) (by decide) (by decide) ge89 at_84 ?_
    intro h95 W96 F97
    have F98 : Exa Z h95 b49 "[D" := F91.wr W96
    have F99 : Fa Z h95 b49 .double 4 (up (up (up (up (fun _ => (.double (0 : UInt64))) 0 (.double (dv x0))) 1 (.double (dv x1))) 2 (.double (dv x2))) 3 (.double (dv x3))) := F92.other W96 ne88
    have F100 : Exa Z h95 b83 "[D" := A86.wr W96
    have sz101 : n0 ≤ h95.size := Nat.le_trans sz93 (Nat.le_of_eq W96.size.symm)
    have sy102 : h0.size ≤ h95.size := Nat.le_trans sy94 (Nat.le_of_eq W96.size.symm)
    show Wk _ p l e _ s m _ below meth c n0 _ h95 2 5 (mkF m 85 #[.val (.int i0), .val (.int i1), .val (.int i2), .val (.int i3), .val (.int i4), .val (.int (1 : Int32)), .val (.ref b49), .val (.ref b83), .unset, .unset, .unset] [])
    refine Wk.st (g' := (mkF m 87 #[.val (.int i0), .val (.int i1), .val (.int i2), .val (.int i3), .val (.int i4), .val (.int (1 : Int32)), .val (.ref b49), .val (.ref b83), .unset, .unset, .unset] [(.int (1 : Int32))])) (fun X t q => XS.iload X.here C.hx rfl (hb C.hby at_85) rfl q) ?_
    refine Wk.st (g' := (mkF m 88 #[.val (.int i0), .val (.int i1), .val (.int i2), .val (.int i3), .val (.int i4), .val (.int (1 : Int32)), .val (.ref b49), .val (.ref b83), .unset, .unset, .unset] [(.int (1 : Int32)), (.int (1 : Int32))])) (fun X t q => XS.iconst X.here C.hx rfl (hb C.hby at_87) q) ?_
    refine Wk.st (g' := (mkF m 99 #[.val (.int i0), .val (.int i1), .val (.int i2), .val (.int i3), .val (.int i4), .val (.int (1 : Int32)), .val (.ref b49), .val (.ref b83), .unset, .unset, .unset] [])) (fun X t q => XS.icmpYes X.here C.hx rfl (pc0 := 88) (pc' := 99) rfl (hb C.hby at_88) rfl (XT.ii_le_t (by decide)) (by decide) (by decide) q) ?_
    refine Wk.st (g' := (mkF m 101 #[.val (.int i0), .val (.int i1), .val (.int i2), .val (.int i3), .val (.int i4), .val (.int (1 : Int32)), .val (.ref b49), .val (.ref b83), .unset, .unset, .unset] [(.int (1 : Int32))])) (fun X t q => XS.iload X.here C.hx rfl (hb C.hby at_99) rfl q) ?_
    refine Wk.st (g' := (mkF m 102 #[.val (.int i0), .val (.int i1), .val (.int i2), .val (.int i3), .val (.int i4), .val (.int (1 : Int32)), .val (.ref b49), .val (.ref b83), .unset, .unset, .unset] [(.int (2 : Int32)), (.int (1 : Int32))])) (fun X t q => XS.iconst X.here C.hx rfl (hb C.hby at_101) q) ?_
    refine Wk.st (g' := (mkF m 113 #[.val (.int i0), .val (.int i1), .val (.int i2), .val (.int i3), .val (.int i4), .val (.int (1 : Int32)), .val (.ref b49), .val (.ref b83), .unset, .unset, .unset] [])) (fun X t q => XS.icmpYes X.here C.hx rfl (pc0 := 102) (pc' := 113) rfl (hb C.hby at_102) rfl (XT.ii_le_t (by decide)) (by decide) (by decide) q) ?_
    refine Wk.st (g' := (mkF m 115 #[.val (.int i0), .val (.int i1), .val (.int i2), .val (.int i3), .val (.int i4), .val (.int (1 : Int32)), .val (.ref b49), .val (.ref b83), .unset, .unset, .unset] [(.int (1 : Int32))])) (fun X t q => XS.iload X.here C.hx rfl (hb C.hby at_113) rfl q) ?_
    refine Wk.st (g' := (mkF m 116 #[.val (.int i0), .val (.int i1), .val (.int i2), .val (.int i3), .val (.int i4), .val (.int (1 : Int32)), .val (.ref b49), .val (.ref b83), .unset, .unset, .unset] [(.int (3 : Int32)), (.int (1 : Int32))])) (fun X t q => XS.iconst X.here C.hx rfl (hb C.hby at_115) q) ?_
    refine Wk.st (g' := (mkF m 127 #[.val (.int i0), .val (.int i1), .val (.int i2), .val (.int i3), .val (.int i4), .val (.int (1 : Int32)), .val (.ref b49), .val (.ref b83), .unset, .unset, .unset] [])) (fun X t q => XS.icmpYes X.here C.hx rfl (pc0 := 116) (pc' := 127) rfl (hb C.hby at_116) rfl (XT.ii_le_t (by decide)) (by decide) (by decide) q) ?_
    refine Wk.st (g' := (mkF m 129 #[.val (.int i0), .val (.int i1), .val (.int i2), .val (.int i3), .val (.int i4), .val (.int (1 : Int32)), .val (.ref b49), .val (.ref b83), .unset, .unset, .unset] [(.ref b83)])) (fun X t q => XS.aload X.here C.hx rfl (hb C.hby at_127) rfl rfl q) ?_
    refine Wk.callS C (z := (⟨"com/example/understory/understory/Classifier", "mostProbable", "([D)I"⟩ : MethodName)) (hw _ (List.mem_of_getElem? (i := 3) rfl)) (hw _ (List.mem_of_getElem? (i := 4) rfl)) (hw _ (List.mem_of_getElem? (i := 5) rfl)) (hw _ (List.mem_of_getElem? (i := 6) rfl)) (by decide) (own_mp1 l Z a0 hw n0 h95 b83 x0 x1 x2 x3 r_x0 r_x1 r_x2 r_x3 F97) (w := 0) (by decide) (by decide) pd_0 rfl (rest := []) rfl rfl (Nat.le_of_eq rfl) (by decide) (by decide) at_129 ?_
    rintro _ _ ⟨⟨rfl, -⟩, rfl⟩
    show Wk _ p l e _ s m _ below meth c n0 _ h95 2 5 (mkF m 132 #[.val (.int i0), .val (.int i1), .val (.int i2), .val (.int i3), .val (.int i4), .val (.int (1 : Int32)), .val (.ref b49), .val (.ref b83), .unset, .unset, .unset] [(.int (0 : Int32))])
    refine Wk.st (g' := (mkF m 134 #[.val (.int i0), .val (.int i1), .val (.int i2), .val (.int i3), .val (.int i4), .val (.int (1 : Int32)), .val (.ref b49), .val (.ref b83), .val (.int (0 : Int32)), .unset, .unset] [])) (fun X t q => XS.istore X.here C.hx rfl (hb C.hby at_132) rfl (l' := #[.val (.int i0), .val (.int i1), .val (.int i2), .val (.int i3), .val (.int i4), .val (.int (1 : Int32)), .val (.ref b49), .val (.ref b83), .val (.int (0 : Int32)), .unset, .unset]) rfl q) ?_
    refine Wk.st (g' := (mkF m 136 #[.val (.int i0), .val (.int i1), .val (.int i2), .val (.int i3), .val (.int i4), .val (.int (1 : Int32)), .val (.ref b49), .val (.ref b83), .val (.int (0 : Int32)), .unset, .unset] [(.int (1 : Int32))])) (fun X t q => XS.iload X.here C.hx rfl (hb C.hby at_134) rfl q) ?_
    refine Wk.st (g' := (mkF m 150 #[.val (.int i0), .val (.int i1), .val (.int i2), .val (.int i3), .val (.int i4), .val (.int (1 : Int32)), .val (.ref b49), .val (.ref b83), .val (.int (0 : Int32)), .unset, .unset] [])) (fun X t q => XS.ifYes X.here C.hx rfl (pc0 := 136) (pc' := 150) rfl (hb C.hby at_136) rfl (XT.i0_ne_t (by decide)) (by decide) (by decide) q) ?_
    refine Wk.st (g' := (mkF m 152 #[.val (.int i0), .val (.int i1), .val (.int i2), .val (.int i3), .val (.int i4), .val (.int (1 : Int32)), .val (.ref b49), .val (.ref b83), .val (.int (0 : Int32)), .unset, .unset] [(.int (0 : Int32))])) (fun X t q => XS.iload X.here C.hx rfl (hb C.hby at_150) rfl q) ?_
    refine Wk.st (g' := (mkF m 155 #[.val (.int i0), .val (.int i1), .val (.int i2), .val (.int i3), .val (.int i4), .val (.int (1 : Int32)), .val (.ref b49), .val (.ref b83), .val (.int (0 : Int32)), .unset, .unset] [])) (fun X t q => XS.ifNo X.here C.hx rfl (hb C.hby at_152) rfl (XT.i0_lt_f (by decide)) q) ?_
    refine Wk.st (g' := (mkF m 157 #[.val (.int i0), .val (.int i1), .val (.int i2), .val (.int i3), .val (.int i4), .val (.int (1 : Int32)), .val (.ref b49), .val (.ref b83), .val (.int (0 : Int32)), .unset, .unset] [(.int (0 : Int32))])) (fun X t q => XS.iload X.here C.hx rfl (hb C.hby at_155) rfl q) ?_
    refine Wk.st (g' := (mkF m 159 #[.val (.int i0), .val (.int i1), .val (.int i2), .val (.int i3), .val (.int i4), .val (.int (1 : Int32)), .val (.ref b49), .val (.ref b83), .val (.int (0 : Int32)), .unset, .unset] [(.int (1 : Int32)), (.int (0 : Int32))])) (fun X t q => XS.iload X.here C.hx rfl (hb C.hby at_157) rfl q) ?_
    refine Wk.st (g' := (mkF m 164 #[.val (.int i0), .val (.int i1), .val (.int i2), .val (.int i3), .val (.int i4), .val (.int (1 : Int32)), .val (.ref b49), .val (.ref b83), .val (.int (0 : Int32)), .unset, .unset] [])) (fun X t q => XS.icmpYes X.here C.hx rfl (pc0 := 159) (pc' := 164) rfl (hb C.hby at_159) rfl (XT.ii_lt_t (by decide)) (by decide) (by decide) q) ?_
    refine Wk.st (g' := (mkF m 166 #[.val (.int i0), .val (.int i1), .val (.int i2), .val (.int i3), .val (.int i4), .val (.int (1 : Int32)), .val (.ref b49), .val (.ref b83), .val (.int (0 : Int32)), .unset, .unset] [(.ref b49)])) (fun X t q => XS.aload X.here C.hx rfl (hb C.hby at_164) rfl rfl q) ?_
    refine Wk.st (g' := (mkF m 168 #[.val (.int i0), .val (.int i1), .val (.int i2), .val (.int i3), .val (.int i4), .val (.int (1 : Int32)), .val (.ref b49), .val (.ref b83), .val (.int (0 : Int32)), .unset, .unset] [(.int (0 : Int32)), (.ref b49)])) (fun X t q => XS.iload X.here C.hx rfl (hb C.hby at_166) rfl q) ?_
    refine Wk.fLdD C F99 (i := 0) (by decide) (by decide) (by decide) (v := (.double (dv x0))) (by simp [up]) at_168 ?_
    show Wk _ p l e _ s m _ below meth c n0 _ h95 2 5 (mkF m 169 #[.val (.int i0), .val (.int i1), .val (.int i2), .val (.int i3), .val (.int i4), .val (.int (1 : Int32)), .val (.ref b49), .val (.ref b83), .val (.int (0 : Int32)), .unset, .unset] [(.double (dv x0))])
    refine Wk.st (g' := (mkF m 171 #[.val (.int i0), .val (.int i1), .val (.int i2), .val (.int i3), .val (.int i4), .val (.int (1 : Int32)), .val (.ref b49), .val (.ref b83), .val (.int (0 : Int32)), .val (.double (dv x0)), .second] [])) (fun X t q => XS.dstore X.here C.hx rfl (hb C.hby at_169) rfl (l' := #[.val (.int i0), .val (.int i1), .val (.int i2), .val (.int i3), .val (.int i4), .val (.int (1 : Int32)), .val (.ref b49), .val (.ref b83), .val (.int (0 : Int32)), .val (.double (dv x0)), .second]) rfl q) ?_
    refine Wk.st (g' := (mkF m 173 #[.val (.int i0), .val (.int i1), .val (.int i2), .val (.int i3), .val (.int i4), .val (.int (1 : Int32)), .val (.ref b49), .val (.ref b83), .val (.int (0 : Int32)), .val (.double (dv x0)), .second] [(.ref b49)])) (fun X t q => XS.aload X.here C.hx rfl (hb C.hby at_171) rfl rfl q) ?_
    refine Wk.st (g' := (mkF m 175 #[.val (.int i0), .val (.int i1), .val (.int i2), .val (.int i3), .val (.int i4), .val (.int (1 : Int32)), .val (.ref b49), .val (.ref b83), .val (.int (0 : Int32)), .val (.double (dv x0)), .second] [(.int (1 : Int32)), (.ref b49)])) (fun X t q => XS.iload X.here C.hx rfl (hb C.hby at_173) rfl q) ?_
    refine Wk.st (g' := (mkF m 177 #[.val (.int i0), .val (.int i1), .val (.int i2), .val (.int i3), .val (.int i4), .val (.int (1 : Int32)), .val (.ref b49), .val (.ref b83), .val (.int (0 : Int32)), .val (.double (dv x0)), .second] [(.int (0 : Int32)), (.int (1 : Int32)), (.ref b49)])) (fun X t q => XS.iload X.here C.hx rfl (hb C.hby at_175) rfl q) ?_
    refine Wk.st (g' := (mkF m 178 #[.val (.int i0), .val (.int i1), .val (.int i2), .val (.int i3), .val (.int i4), .val (.int (1 : Int32)), .val (.ref b49), .val (.ref b83), .val (.int (0 : Int32)), .val (.double (dv x0)), .second] [(.int (0 : Int32)), (.int (0 : Int32)), (.int (1 : Int32)), (.ref b49)])) (fun X t q => XS.iconst X.here C.hx rfl (hb C.hby at_177) q) ?_
    refine Wk.st (g' := (mkF m 180 #[.val (.int i0), .val (.int i1), .val (.int i2), .val (.int i3), .val (.int i4), .val (.int (1 : Int32)), .val (.ref b49), .val (.ref b83), .val (.int (0 : Int32)), .val (.double (dv x0)), .second] [(.double (dv x0)), (.int (0 : Int32)), (.int (0 : Int32)), (.int (1 : Int32)), (.ref b49)])) (fun X t q => XS.dload X.here C.hx rfl (hb C.hby at_178) rfl q) ?_
    refine Wk.callS C (z := (⟨"com/example/understory/understory/ClassifierMostProbablePinLaw", "ok", "([DIIID)Z"⟩ : MethodName)) (hw _ (List.mem_of_getElem? (i := 7) rfl)) (hw _ (List.mem_of_getElem? (i := 8) rfl)) (hw _ (List.mem_of_getElem? (i := 9) rfl)) (hw _ (List.mem_of_getElem? (i := 10) rfl)) (by decide) (own_ok_1_0_0 l Z a0 hw n0 h95 b49 x0 x1 x2 x3 r_x0 r_x1 r_x2 r_x3 F99 (by omega)) (w := 0) (by decide) (by decide) pd_1 rfl (rest := []) rfl rfl (Nat.le_of_eq rfl) (by decide) (by decide) at_180 ?_
    rintro _ _ ⟨rfl, rfl⟩
    show Wk _ p l e _ s m _ below meth c n0 _ h95 2 5 (mkF m 183 #[.val (.int i0), .val (.int i1), .val (.int i2), .val (.int i3), .val (.int i4), .val (.int (1 : Int32)), .val (.ref b49), .val (.ref b83), .val (.int (0 : Int32)), .val (.double (dv x0)), .second] [(.int (1 : Int32))])
    refine Wk.st (g' := (mkF m 186 #[.val (.int i0), .val (.int i1), .val (.int i2), .val (.int i3), .val (.int i4), .val (.int (1 : Int32)), .val (.ref b49), .val (.ref b83), .val (.int (0 : Int32)), .val (.double (dv x0)), .second] [])) (fun X t q => XS.ifNo X.here C.hx rfl (hb C.hby at_183) rfl (XT.i0_eq_f (by decide)) q) ?_
    refine Wk.st (g' := (mkF m 188 #[.val (.int i0), .val (.int i1), .val (.int i2), .val (.int i3), .val (.int i4), .val (.int (1 : Int32)), .val (.ref b49), .val (.ref b83), .val (.int (0 : Int32)), .val (.double (dv x0)), .second] [(.ref b49)])) (fun X t q => XS.aload X.here C.hx rfl (hb C.hby at_186) rfl rfl q) ?_
    refine Wk.st (g' := (mkF m 190 #[.val (.int i0), .val (.int i1), .val (.int i2), .val (.int i3), .val (.int i4), .val (.int (1 : Int32)), .val (.ref b49), .val (.ref b83), .val (.int (0 : Int32)), .val (.double (dv x0)), .second] [(.int (1 : Int32)), (.ref b49)])) (fun X t q => XS.iload X.here C.hx rfl (hb C.hby at_188) rfl q) ?_
    refine Wk.st (g' := (mkF m 192 #[.val (.int i0), .val (.int i1), .val (.int i2), .val (.int i3), .val (.int i4), .val (.int (1 : Int32)), .val (.ref b49), .val (.ref b83), .val (.int (0 : Int32)), .val (.double (dv x0)), .second] [(.int (0 : Int32)), (.int (1 : Int32)), (.ref b49)])) (fun X t q => XS.iload X.here C.hx rfl (hb C.hby at_190) rfl q) ?_
    refine Wk.st (g' := (mkF m 193 #[.val (.int i0), .val (.int i1), .val (.int i2), .val (.int i3), .val (.int i4), .val (.int (1 : Int32)), .val (.ref b49), .val (.ref b83), .val (.int (0 : Int32)), .val (.double (dv x0)), .second] [(.int (1 : Int32)), (.int (0 : Int32)), (.int (1 : Int32)), (.ref b49)])) (fun X t q => XS.iconst X.here C.hx rfl (hb C.hby at_192) q) ?_
    refine Wk.st (g' := (mkF m 195 #[.val (.int i0), .val (.int i1), .val (.int i2), .val (.int i3), .val (.int i4), .val (.int (1 : Int32)), .val (.ref b49), .val (.ref b83), .val (.int (0 : Int32)), .val (.double (dv x0)), .second] [(.double (dv x0)), (.int (1 : Int32)), (.int (0 : Int32)), (.int (1 : Int32)), (.ref b49)])) (fun X t q => XS.dload X.here C.hx rfl (hb C.hby at_193) rfl q) ?_
    refine Wk.callS C (z := (⟨"com/example/understory/understory/ClassifierMostProbablePinLaw", "ok", "([DIIID)Z"⟩ : MethodName)) (hw _ (List.mem_of_getElem? (i := 7) rfl)) (hw _ (List.mem_of_getElem? (i := 8) rfl)) (hw _ (List.mem_of_getElem? (i := 9) rfl)) (hw _ (List.mem_of_getElem? (i := 10) rfl)) (by decide) (own_ok_1_0_1 l Z a0 hw n0 h95 b49 x0 x1 x2 x3 r_x0 r_x1 r_x2 r_x3 F99) (w := 0) (by decide) (by decide) pd_1 rfl (rest := []) rfl rfl (Nat.le_of_eq rfl) (by decide) (by decide) at_195 ?_
    rintro _ _ ⟨rfl, rfl⟩
    show Wk _ p l e _ s m _ below meth c n0 _ h95 2 5 (mkF m 198 #[.val (.int i0), .val (.int i1), .val (.int i2), .val (.int i3), .val (.int i4), .val (.int (1 : Int32)), .val (.ref b49), .val (.ref b83), .val (.int (0 : Int32)), .val (.double (dv x0)), .second] [(.int (1 : Int32))])
    refine Wk.st (g' := (mkF m 201 #[.val (.int i0), .val (.int i1), .val (.int i2), .val (.int i3), .val (.int i4), .val (.int (1 : Int32)), .val (.ref b49), .val (.ref b83), .val (.int (0 : Int32)), .val (.double (dv x0)), .second] [])) (fun X t q => XS.ifNo X.here C.hx rfl (hb C.hby at_198) rfl (XT.i0_eq_f (by decide)) q) ?_
    refine Wk.st (g' := (mkF m 203 #[.val (.int i0), .val (.int i1), .val (.int i2), .val (.int i3), .val (.int i4), .val (.int (1 : Int32)), .val (.ref b49), .val (.ref b83), .val (.int (0 : Int32)), .val (.double (dv x0)), .second] [(.ref b49)])) (fun X t q => XS.aload X.here C.hx rfl (hb C.hby at_201) rfl rfl q) ?_
    refine Wk.st (g' := (mkF m 205 #[.val (.int i0), .val (.int i1), .val (.int i2), .val (.int i3), .val (.int i4), .val (.int (1 : Int32)), .val (.ref b49), .val (.ref b83), .val (.int (0 : Int32)), .val (.double (dv x0)), .second] [(.int (1 : Int32)), (.ref b49)])) (fun X t q => XS.iload X.here C.hx rfl (hb C.hby at_203) rfl q) ?_
    refine Wk.st (g' := (mkF m 207 #[.val (.int i0), .val (.int i1), .val (.int i2), .val (.int i3), .val (.int i4), .val (.int (1 : Int32)), .val (.ref b49), .val (.ref b83), .val (.int (0 : Int32)), .val (.double (dv x0)), .second] [(.int (0 : Int32)), (.int (1 : Int32)), (.ref b49)])) (fun X t q => XS.iload X.here C.hx rfl (hb C.hby at_205) rfl q) ?_
    refine Wk.st (g' := (mkF m 208 #[.val (.int i0), .val (.int i1), .val (.int i2), .val (.int i3), .val (.int i4), .val (.int (1 : Int32)), .val (.ref b49), .val (.ref b83), .val (.int (0 : Int32)), .val (.double (dv x0)), .second] [(.int (2 : Int32)), (.int (0 : Int32)), (.int (1 : Int32)), (.ref b49)])) (fun X t q => XS.iconst X.here C.hx rfl (hb C.hby at_207) q) ?_
    refine Wk.st (g' := (mkF m 210 #[.val (.int i0), .val (.int i1), .val (.int i2), .val (.int i3), .val (.int i4), .val (.int (1 : Int32)), .val (.ref b49), .val (.ref b83), .val (.int (0 : Int32)), .val (.double (dv x0)), .second] [(.double (dv x0)), (.int (2 : Int32)), (.int (0 : Int32)), (.int (1 : Int32)), (.ref b49)])) (fun X t q => XS.dload X.here C.hx rfl (hb C.hby at_208) rfl q) ?_
    refine Wk.callS C (z := (⟨"com/example/understory/understory/ClassifierMostProbablePinLaw", "ok", "([DIIID)Z"⟩ : MethodName)) (hw _ (List.mem_of_getElem? (i := 7) rfl)) (hw _ (List.mem_of_getElem? (i := 8) rfl)) (hw _ (List.mem_of_getElem? (i := 9) rfl)) (hw _ (List.mem_of_getElem? (i := 10) rfl)) (by decide) (own_ok_1_0_2 l Z a0 hw n0 h95 b49 x0 x1 x2 x3 r_x0 r_x1 r_x2 r_x3 F99) (w := 0) (by decide) (by decide) pd_1 rfl (rest := []) rfl rfl (Nat.le_of_eq rfl) (by decide) (by decide) at_210 ?_
    rintro _ _ ⟨rfl, rfl⟩
    show Wk _ p l e _ s m _ below meth c n0 _ h95 2 5 (mkF m 213 #[.val (.int i0), .val (.int i1), .val (.int i2), .val (.int i3), .val (.int i4), .val (.int (1 : Int32)), .val (.ref b49), .val (.ref b83), .val (.int (0 : Int32)), .val (.double (dv x0)), .second] [(.int (1 : Int32))])
    refine Wk.st (g' := (mkF m 216 #[.val (.int i0), .val (.int i1), .val (.int i2), .val (.int i3), .val (.int i4), .val (.int (1 : Int32)), .val (.ref b49), .val (.ref b83), .val (.int (0 : Int32)), .val (.double (dv x0)), .second] [])) (fun X t q => XS.ifNo X.here C.hx rfl (hb C.hby at_213) rfl (XT.i0_eq_f (by decide)) q) ?_
    refine Wk.st (g' := (mkF m 218 #[.val (.int i0), .val (.int i1), .val (.int i2), .val (.int i3), .val (.int i4), .val (.int (1 : Int32)), .val (.ref b49), .val (.ref b83), .val (.int (0 : Int32)), .val (.double (dv x0)), .second] [(.ref b49)])) (fun X t q => XS.aload X.here C.hx rfl (hb C.hby at_216) rfl rfl q) ?_
    refine Wk.st (g' := (mkF m 220 #[.val (.int i0), .val (.int i1), .val (.int i2), .val (.int i3), .val (.int i4), .val (.int (1 : Int32)), .val (.ref b49), .val (.ref b83), .val (.int (0 : Int32)), .val (.double (dv x0)), .second] [(.int (1 : Int32)), (.ref b49)])) (fun X t q => XS.iload X.here C.hx rfl (hb C.hby at_218) rfl q) ?_
    refine Wk.st (g' := (mkF m 222 #[.val (.int i0), .val (.int i1), .val (.int i2), .val (.int i3), .val (.int i4), .val (.int (1 : Int32)), .val (.ref b49), .val (.ref b83), .val (.int (0 : Int32)), .val (.double (dv x0)), .second] [(.int (0 : Int32)), (.int (1 : Int32)), (.ref b49)])) (fun X t q => XS.iload X.here C.hx rfl (hb C.hby at_220) rfl q) ?_
    refine Wk.st (g' := (mkF m 223 #[.val (.int i0), .val (.int i1), .val (.int i2), .val (.int i3), .val (.int i4), .val (.int (1 : Int32)), .val (.ref b49), .val (.ref b83), .val (.int (0 : Int32)), .val (.double (dv x0)), .second] [(.int (3 : Int32)), (.int (0 : Int32)), (.int (1 : Int32)), (.ref b49)])) (fun X t q => XS.iconst X.here C.hx rfl (hb C.hby at_222) q) ?_
    refine Wk.st (g' := (mkF m 225 #[.val (.int i0), .val (.int i1), .val (.int i2), .val (.int i3), .val (.int i4), .val (.int (1 : Int32)), .val (.ref b49), .val (.ref b83), .val (.int (0 : Int32)), .val (.double (dv x0)), .second] [(.double (dv x0)), (.int (3 : Int32)), (.int (0 : Int32)), (.int (1 : Int32)), (.ref b49)])) (fun X t q => XS.dload X.here C.hx rfl (hb C.hby at_223) rfl q) ?_
    refine Wk.callS C (z := (⟨"com/example/understory/understory/ClassifierMostProbablePinLaw", "ok", "([DIIID)Z"⟩ : MethodName)) (hw _ (List.mem_of_getElem? (i := 7) rfl)) (hw _ (List.mem_of_getElem? (i := 8) rfl)) (hw _ (List.mem_of_getElem? (i := 9) rfl)) (hw _ (List.mem_of_getElem? (i := 10) rfl)) (by decide) (own_ok_1_0_3 l Z a0 hw n0 h95 b49 x0 x1 x2 x3 r_x0 r_x1 r_x2 r_x3 F99) (w := 0) (by decide) (by decide) pd_1 rfl (rest := []) rfl rfl (Nat.le_of_eq rfl) (by decide) (by decide) at_225 ?_
    rintro _ _ ⟨rfl, rfl⟩
    show Wk _ p l e _ s m _ below meth c n0 _ h95 2 5 (mkF m 228 #[.val (.int i0), .val (.int i1), .val (.int i2), .val (.int i3), .val (.int i4), .val (.int (1 : Int32)), .val (.ref b49), .val (.ref b83), .val (.int (0 : Int32)), .val (.double (dv x0)), .second] [(.int (1 : Int32))])
    refine Wk.st (g' := (mkF m 231 #[.val (.int i0), .val (.int i1), .val (.int i2), .val (.int i3), .val (.int i4), .val (.int (1 : Int32)), .val (.ref b49), .val (.ref b83), .val (.int (0 : Int32)), .val (.double (dv x0)), .second] [])) (fun X t q => XS.ifNo X.here C.hx rfl (hb C.hby at_228) rfl (XT.i0_eq_f (by decide)) q) ?_
    refine Wk.st (g' := (mkF m 232 #[.val (.int i0), .val (.int i1), .val (.int i2), .val (.int i3), .val (.int i4), .val (.int (1 : Int32)), .val (.ref b49), .val (.ref b83), .val (.int (0 : Int32)), .val (.double (dv x0)), .second] [(.int (1 : Int32))])) (fun X t q => XS.iconst X.here C.hx rfl (hb C.hby at_231) q) ?_
    refine Wk.st (g' := (mkF m 236 #[.val (.int i0), .val (.int i1), .val (.int i2), .val (.int i3), .val (.int i4), .val (.int (1 : Int32)), .val (.ref b49), .val (.ref b83), .val (.int (0 : Int32)), .val (.double (dv x0)), .second] [(.int (1 : Int32))])) (fun X t q => XS.goto X.here C.hx rfl (pc0 := 232) (pc' := 236) rfl (hb C.hby at_232) (by decide) (by decide) q) ?_
    exact Wk.retV C (t := .boolean) rfl rfl (Or.inl ⟨rfl, by simp, _, rfl⟩) at_236 (by decide) (by decide) ⟨rfl, trivial⟩
  · skip
    show Wk _ p l e _ s m _ below meth c n0 _ h0 0 0 (mkF m 8 #[.val (.int i0), .val (.int i1), .val (.int i2), .val (.int i3), .val (.int i4), .val (.int (2 : Int32)), .unset, .unset, .unset, .unset, .unset] [])
    refine Wk.st (g' := (mkF m 9 #[.val (.int i0), .val (.int i1), .val (.int i2), .val (.int i3), .val (.int i4), .val (.int (2 : Int32)), .unset, .unset, .unset, .unset, .unset] [(.int (4 : Int32))])) (fun X t q => XS.iconst X.here C.hx rfl (hb C.hby at_8) q) ?_
    refine Wk.fNewP C (hw _ (List.mem_of_getElem? (i := 1) rfl)) (ty := .double) (dv := (.double (0 : UInt64))) (N := 4) (ad := "[D") rfl rfl (by decide) (by decide) (by decide) (cap := 4) (by decide) (by decide) at_9 (by decide) (by decide) ?_
    intro h103 b104 g105 E106 A107 F108
    have ge109 : n0 ≤ b104 := Nat.le_trans hsz (Nat.le_of_eq g105.symm)
    have gz110 : h0.size ≤ b104 := Nat.le_trans (Nat.le_refl h0.size) (Nat.le_of_eq g105.symm)
    have sz111 : n0 ≤ h103.size := Nat.le_trans hsz E106.1
    have sy112 : h0.size ≤ h103.size := Nat.le_trans (Nat.le_refl h0.size) E106.1
    show Wk _ p l e _ s m _ below meth c n0 _ h103 1 4 (mkF m 11 #[.val (.int i0), .val (.int i1), .val (.int i2), .val (.int i3), .val (.int i4), .val (.int (2 : Int32)), .unset, .unset, .unset, .unset, .unset] [(.ref b104)])
    refine Wk.st (g' := (mkF m 13 #[.val (.int i0), .val (.int i1), .val (.int i2), .val (.int i3), .val (.int i4), .val (.int (2 : Int32)), .val (.ref b104), .unset, .unset, .unset, .unset] [])) (fun X t q => XS.astore X.here C.hx rfl (hb C.hby at_11) rfl rfl (l' := #[.val (.int i0), .val (.int i1), .val (.int i2), .val (.int i3), .val (.int i4), .val (.int (2 : Int32)), .val (.ref b104), .unset, .unset, .unset, .unset]) rfl q) ?_
    refine Wk.st (g' := (mkF m 15 #[.val (.int i0), .val (.int i1), .val (.int i2), .val (.int i3), .val (.int i4), .val (.int (2 : Int32)), .val (.ref b104), .unset, .unset, .unset, .unset] [(.ref b104)])) (fun X t q => XS.aload X.here C.hx rfl (hb C.hby at_13) rfl rfl q) ?_
    refine Wk.st (g' := (mkF m 16 #[.val (.int i0), .val (.int i1), .val (.int i2), .val (.int i3), .val (.int i4), .val (.int (2 : Int32)), .val (.ref b104), .unset, .unset, .unset, .unset] [(.int (0 : Int32)), (.ref b104)])) (fun X t q => XS.iconst X.here C.hx rfl (hb C.hby at_15) q) ?_
    refine Wk.st (g' := (mkF m 17 #[.val (.int i0), .val (.int i1), .val (.int i2), .val (.int i3), .val (.int i4), .val (.int (2 : Int32)), .val (.ref b104), .unset, .unset, .unset, .unset] [(.int i1), (.int (0 : Int32)), (.ref b104)])) (fun X t q => XS.iloadN X.here C.hx rfl (hb C.hby at_16) rfl q) ?_
    refine Wk.st (g' := (mkF m 19 #[.val (.int i0), .val (.int i1), .val (.int i2), .val (.int i3), .val (.int i4), .val (.int (2 : Int32)), .val (.ref b104), .unset, .unset, .unset, .unset] [(.int (7 : Int32)), (.int i1), (.int (0 : Int32)), (.ref b104)])) (fun X t q => XS.bipush X.here C.hx rfl (hb C.hby at_17) q) ?_
    refine Wk.st (g' := (mkF m 20 #[.val (.int i0), .val (.int i1), .val (.int i2), .val (.int i3), .val (.int i4), .val (.int (2 : Int32)), .val (.ref b104), .unset, .unset, .unset, .unset] [(.int (i1 &&& (7 : Int32))), (.int (0 : Int32)), (.ref b104)])) (fun X t q => XS.iand X.here C.hx rfl (hb C.hby at_19) rfl q) ?_
    obtain ⟨x0, hx0⟩ : ∃ z, z = (i1 &&& (7 : Int32)) := ⟨_, rfl⟩
    rw [← hx0]
    have r_x0 := and7 i1
    rw [← hx0] at r_x0
    show Wk _ p l e _ s m _ below meth c n0 _ h103 1 4 (mkF m 20 #[.val (.int i0), .val (.int i1), .val (.int i2), .val (.int i3), .val (.int i4), .val (.int (2 : Int32)), .val (.ref b104), .unset, .unset, .unset, .unset] [(.int x0), (.int (0 : Int32)), (.ref b104)])
    refine Wk.st (g' := (mkF m 21 #[.val (.int i0), .val (.int i1), .val (.int i2), .val (.int i3), .val (.int i4), .val (.int (2 : Int32)), .val (.ref b104), .unset, .unset, .unset, .unset] [(.double (FP.i2d x0)), (.int (0 : Int32)), (.ref b104)])) (fun X t q => XS.i2dS X.here C.hx rfl (hb C.hby at_20) rfl rfl q) ?_
    refine Wk.ldc2D C (hw _ (List.mem_of_getElem? (i := 2) rfl)) at_21 ?_
    show Wk _ p l e _ s m _ below meth c n0 _ h103 1 4 (mkF m 24 #[.val (.int i0), .val (.int i1), .val (.int i2), .val (.int i3), .val (.int i4), .val (.int (2 : Int32)), .val (.ref b104), .unset, .unset, .unset, .unset] [(.double (4620693217682128896 : UInt64)), (.double (FP.i2d x0)), (.int (0 : Int32)), (.ref b104)])
    refine Wk.st (g' := (mkF m 25 #[.val (.int i0), .val (.int i1), .val (.int i2), .val (.int i3), .val (.int i4), .val (.int (2 : Int32)), .val (.ref b104), .unset, .unset, .unset, .unset] [(.double (dv x0)), (.int (0 : Int32)), (.ref b104)])) (fun X t q => XS.ddivS X.here C.hx rfl (hb C.hby at_24) rfl (dv_nan r_x0) rfl q) ?_
    refine Wk.fStD C F108 (i := 0) (by decide) (by decide) (by decide) ge109 at_25 ?_
    intro h113 W114 F115
    have F116 : Exa Z h113 b104 "[D" := A107.wr W114
    have sz117 : n0 ≤ h113.size := Nat.le_trans sz111 (Nat.le_of_eq W114.size.symm)
    have sy118 : h0.size ≤ h113.size := Nat.le_trans sy112 (Nat.le_of_eq W114.size.symm)
    show Wk _ p l e _ s m _ below meth c n0 _ h113 1 4 (mkF m 26 #[.val (.int i0), .val (.int i1), .val (.int i2), .val (.int i3), .val (.int i4), .val (.int (2 : Int32)), .val (.ref b104), .unset, .unset, .unset, .unset] [])
    refine Wk.st (g' := (mkF m 28 #[.val (.int i0), .val (.int i1), .val (.int i2), .val (.int i3), .val (.int i4), .val (.int (2 : Int32)), .val (.ref b104), .unset, .unset, .unset, .unset] [(.ref b104)])) (fun X t q => XS.aload X.here C.hx rfl (hb C.hby at_26) rfl rfl q) ?_
    refine Wk.st (g' := (mkF m 29 #[.val (.int i0), .val (.int i1), .val (.int i2), .val (.int i3), .val (.int i4), .val (.int (2 : Int32)), .val (.ref b104), .unset, .unset, .unset, .unset] [(.int (1 : Int32)), (.ref b104)])) (fun X t q => XS.iconst X.here C.hx rfl (hb C.hby at_28) q) ?_
    refine Wk.st (g' := (mkF m 30 #[.val (.int i0), .val (.int i1), .val (.int i2), .val (.int i3), .val (.int i4), .val (.int (2 : Int32)), .val (.ref b104), .unset, .unset, .unset, .unset] [(.int i2), (.int (1 : Int32)), (.ref b104)])) (fun X t q => XS.iloadN X.here C.hx rfl (hb C.hby at_29) rfl q) ?_
    refine Wk.st (g' := (mkF m 32 #[.val (.int i0), .val (.int i1), .val (.int i2), .val (.int i3), .val (.int i4), .val (.int (2 : Int32)), .val (.ref b104), .unset, .unset, .unset, .unset] [(.int (7 : Int32)), (.int i2), (.int (1 : Int32)), (.ref b104)])) (fun X t q => XS.bipush X.here C.hx rfl (hb C.hby at_30) q) ?_
    refine Wk.st (g' := (mkF m 33 #[.val (.int i0), .val (.int i1), .val (.int i2), .val (.int i3), .val (.int i4), .val (.int (2 : Int32)), .val (.ref b104), .unset, .unset, .unset, .unset] [(.int (i2 &&& (7 : Int32))), (.int (1 : Int32)), (.ref b104)])) (fun X t q => XS.iand X.here C.hx rfl (hb C.hby at_32) rfl q) ?_
    obtain ⟨x1, hx1⟩ : ∃ z, z = (i2 &&& (7 : Int32)) := ⟨_, rfl⟩
    rw [← hx1]
    have r_x1 := and7 i2
    rw [← hx1] at r_x1
    show Wk _ p l e _ s m _ below meth c n0 _ h113 1 4 (mkF m 33 #[.val (.int i0), .val (.int i1), .val (.int i2), .val (.int i3), .val (.int i4), .val (.int (2 : Int32)), .val (.ref b104), .unset, .unset, .unset, .unset] [(.int x1), (.int (1 : Int32)), (.ref b104)])
    refine Wk.st (g' := (mkF m 34 #[.val (.int i0), .val (.int i1), .val (.int i2), .val (.int i3), .val (.int i4), .val (.int (2 : Int32)), .val (.ref b104), .unset, .unset, .unset, .unset] [(.double (FP.i2d x1)), (.int (1 : Int32)), (.ref b104)])) (fun X t q => XS.i2dS X.here C.hx rfl (hb C.hby at_33) rfl rfl q) ?_
    refine Wk.ldc2D C (hw _ (List.mem_of_getElem? (i := 2) rfl)) at_34 ?_
    show Wk _ p l e _ s m _ below meth c n0 _ h113 1 4 (mkF m 37 #[.val (.int i0), .val (.int i1), .val (.int i2), .val (.int i3), .val (.int i4), .val (.int (2 : Int32)), .val (.ref b104), .unset, .unset, .unset, .unset] [(.double (4620693217682128896 : UInt64)), (.double (FP.i2d x1)), (.int (1 : Int32)), (.ref b104)])
    refine Wk.st (g' := (mkF m 38 #[.val (.int i0), .val (.int i1), .val (.int i2), .val (.int i3), .val (.int i4), .val (.int (2 : Int32)), .val (.ref b104), .unset, .unset, .unset, .unset] [(.double (dv x1)), (.int (1 : Int32)), (.ref b104)])) (fun X t q => XS.ddivS X.here C.hx rfl (hb C.hby at_37) rfl (dv_nan r_x1) rfl q) ?_
    refine Wk.fStD C F115 (i := 1) (by decide) (by decide) (by decide) ge109 at_38 ?_
    intro h119 W120 F121
    have F122 : Exa Z h119 b104 "[D" := F116.wr W120
    have sz123 : n0 ≤ h119.size := Nat.le_trans sz117 (Nat.le_of_eq W120.size.symm)
    have sy124 : h0.size ≤ h119.size := Nat.le_trans sy118 (Nat.le_of_eq W120.size.symm)
    show Wk _ p l e _ s m _ below meth c n0 _ h119 1 4 (mkF m 39 #[.val (.int i0), .val (.int i1), .val (.int i2), .val (.int i3), .val (.int i4), .val (.int (2 : Int32)), .val (.ref b104), .unset, .unset, .unset, .unset] [])
    refine Wk.st (g' := (mkF m 41 #[.val (.int i0), .val (.int i1), .val (.int i2), .val (.int i3), .val (.int i4), .val (.int (2 : Int32)), .val (.ref b104), .unset, .unset, .unset, .unset] [(.ref b104)])) (fun X t q => XS.aload X.here C.hx rfl (hb C.hby at_39) rfl rfl q) ?_
    refine Wk.st (g' := (mkF m 42 #[.val (.int i0), .val (.int i1), .val (.int i2), .val (.int i3), .val (.int i4), .val (.int (2 : Int32)), .val (.ref b104), .unset, .unset, .unset, .unset] [(.int (2 : Int32)), (.ref b104)])) (fun X t q => XS.iconst X.here C.hx rfl (hb C.hby at_41) q) ?_
    refine Wk.st (g' := (mkF m 43 #[.val (.int i0), .val (.int i1), .val (.int i2), .val (.int i3), .val (.int i4), .val (.int (2 : Int32)), .val (.ref b104), .unset, .unset, .unset, .unset] [(.int i3), (.int (2 : Int32)), (.ref b104)])) (fun X t q => XS.iloadN X.here C.hx rfl (hb C.hby at_42) rfl q) ?_
    refine Wk.st (g' := (mkF m 45 #[.val (.int i0), .val (.int i1), .val (.int i2), .val (.int i3), .val (.int i4), .val (.int (2 : Int32)), .val (.ref b104), .unset, .unset, .unset, .unset] [(.int (7 : Int32)), (.int i3), (.int (2 : Int32)), (.ref b104)])) (fun X t q => XS.bipush X.here C.hx rfl (hb C.hby at_43) q) ?_
    refine Wk.st (g' := (mkF m 46 #[.val (.int i0), .val (.int i1), .val (.int i2), .val (.int i3), .val (.int i4), .val (.int (2 : Int32)), .val (.ref b104), .unset, .unset, .unset, .unset] [(.int (i3 &&& (7 : Int32))), (.int (2 : Int32)), (.ref b104)])) (fun X t q => XS.iand X.here C.hx rfl (hb C.hby at_45) rfl q) ?_
    obtain ⟨x2, hx2⟩ : ∃ z, z = (i3 &&& (7 : Int32)) := ⟨_, rfl⟩
    rw [← hx2]
    have r_x2 := and7 i3
    rw [← hx2] at r_x2
    show Wk _ p l e _ s m _ below meth c n0 _ h119 1 4 (mkF m 46 #[.val (.int i0), .val (.int i1), .val (.int i2), .val (.int i3), .val (.int i4), .val (.int (2 : Int32)), .val (.ref b104), .unset, .unset, .unset, .unset] [(.int x2), (.int (2 : Int32)), (.ref b104)])
    refine Wk.st (g' := (mkF m 47 #[.val (.int i0), .val (.int i1), .val (.int i2), .val (.int i3), .val (.int i4), .val (.int (2 : Int32)), .val (.ref b104), .unset, .unset, .unset, .unset] [(.double (FP.i2d x2)), (.int (2 : Int32)), (.ref b104)])) (fun X t q => XS.i2dS X.here C.hx rfl (hb C.hby at_46) rfl rfl q) ?_
    refine Wk.ldc2D C (hw _ (List.mem_of_getElem? (i := 2) rfl)) at_47 ?_
    show Wk _ p l e _ s m _ below meth c n0 _ h119 1 4 (mkF m 50 #[.val (.int i0), .val (.int i1), .val (.int i2), .val (.int i3), .val (.int i4), .val (.int (2 : Int32)), .val (.ref b104), .unset, .unset, .unset, .unset] [(.double (4620693217682128896 : UInt64)), (.double (FP.i2d x2)), (.int (2 : Int32)), (.ref b104)])
    refine Wk.st (g' := (mkF m 51 #[.val (.int i0), .val (.int i1), .val (.int i2), .val (.int i3), .val (.int i4), .val (.int (2 : Int32)), .val (.ref b104), .unset, .unset, .unset, .unset] [(.double (dv x2)), (.int (2 : Int32)), (.ref b104)])) (fun X t q => XS.ddivS X.here C.hx rfl (hb C.hby at_50) rfl (dv_nan r_x2) rfl q) ?_
    refine Wk.fStD C F121 (i := 2) (by decide) (by decide) (by decide) ge109 at_51 ?_
    intro h125 W126 F127
    have F128 : Exa Z h125 b104 "[D" := F122.wr W126
    have sz129 : n0 ≤ h125.size := Nat.le_trans sz123 (Nat.le_of_eq W126.size.symm)
    have sy130 : h0.size ≤ h125.size := Nat.le_trans sy124 (Nat.le_of_eq W126.size.symm)
    show Wk _ p l e _ s m _ below meth c n0 _ h125 1 4 (mkF m 52 #[.val (.int i0), .val (.int i1), .val (.int i2), .val (.int i3), .val (.int i4), .val (.int (2 : Int32)), .val (.ref b104), .unset, .unset, .unset, .unset] [])
    refine Wk.st (g' := (mkF m 54 #[.val (.int i0), .val (.int i1), .val (.int i2), .val (.int i3), .val (.int i4), .val (.int (2 : Int32)), .val (.ref b104), .unset, .unset, .unset, .unset] [(.ref b104)])) (fun X t q => XS.aload X.here C.hx rfl (hb C.hby at_52) rfl rfl q) ?_
    refine Wk.st (g' := (mkF m 55 #[.val (.int i0), .val (.int i1), .val (.int i2), .val (.int i3), .val (.int i4), .val (.int (2 : Int32)), .val (.ref b104), .unset, .unset, .unset, .unset] [(.int (3 : Int32)), (.ref b104)])) (fun X t q => XS.iconst X.here C.hx rfl (hb C.hby at_54) q) ?_
    refine Wk.st (g' := (mkF m 57 #[.val (.int i0), .val (.int i1), .val (.int i2), .val (.int i3), .val (.int i4), .val (.int (2 : Int32)), .val (.ref b104), .unset, .unset, .unset, .unset] [(.int i4), (.int (3 : Int32)), (.ref b104)])) (fun X t q => XS.iload X.here C.hx rfl (hb C.hby at_55) rfl q) ?_
    refine Wk.st (g' := (mkF m 59 #[.val (.int i0), .val (.int i1), .val (.int i2), .val (.int i3), .val (.int i4), .val (.int (2 : Int32)), .val (.ref b104), .unset, .unset, .unset, .unset] [(.int (7 : Int32)), (.int i4), (.int (3 : Int32)), (.ref b104)])) (fun X t q => XS.bipush X.here C.hx rfl (hb C.hby at_57) q) ?_
    refine Wk.st (g' := (mkF m 60 #[.val (.int i0), .val (.int i1), .val (.int i2), .val (.int i3), .val (.int i4), .val (.int (2 : Int32)), .val (.ref b104), .unset, .unset, .unset, .unset] [(.int (i4 &&& (7 : Int32))), (.int (3 : Int32)), (.ref b104)])) (fun X t q => XS.iand X.here C.hx rfl (hb C.hby at_59) rfl q) ?_
    obtain ⟨x3, hx3⟩ : ∃ z, z = (i4 &&& (7 : Int32)) := ⟨_, rfl⟩
    rw [← hx3]
    have r_x3 := and7 i4
    rw [← hx3] at r_x3
    show Wk _ p l e _ s m _ below meth c n0 _ h125 1 4 (mkF m 60 #[.val (.int i0), .val (.int i1), .val (.int i2), .val (.int i3), .val (.int i4), .val (.int (2 : Int32)), .val (.ref b104), .unset, .unset, .unset, .unset] [(.int x3), (.int (3 : Int32)), (.ref b104)])
    refine Wk.st (g' := (mkF m 61 #[.val (.int i0), .val (.int i1), .val (.int i2), .val (.int i3), .val (.int i4), .val (.int (2 : Int32)), .val (.ref b104), .unset, .unset, .unset, .unset] [(.double (FP.i2d x3)), (.int (3 : Int32)), (.ref b104)])) (fun X t q => XS.i2dS X.here C.hx rfl (hb C.hby at_60) rfl rfl q) ?_
    refine Wk.ldc2D C (hw _ (List.mem_of_getElem? (i := 2) rfl)) at_61 ?_
    show Wk _ p l e _ s m _ below meth c n0 _ h125 1 4 (mkF m 64 #[.val (.int i0), .val (.int i1), .val (.int i2), .val (.int i3), .val (.int i4), .val (.int (2 : Int32)), .val (.ref b104), .unset, .unset, .unset, .unset] [(.double (4620693217682128896 : UInt64)), (.double (FP.i2d x3)), (.int (3 : Int32)), (.ref b104)])
    refine Wk.st (g' := (mkF m 65 #[.val (.int i0), .val (.int i1), .val (.int i2), .val (.int i3), .val (.int i4), .val (.int (2 : Int32)), .val (.ref b104), .unset, .unset, .unset, .unset] [(.double (dv x3)), (.int (3 : Int32)), (.ref b104)])) (fun X t q => XS.ddivS X.here C.hx rfl (hb C.hby at_64) rfl (dv_nan r_x3) rfl q) ?_
    refine Wk.fStD C F127 (i := 3) (by decide) (by decide) (by decide) ge109 at_65 ?_
    intro h131 W132 F133
    have F134 : Exa Z h131 b104 "[D" := F128.wr W132
    have sz135 : n0 ≤ h131.size := Nat.le_trans sz129 (Nat.le_of_eq W132.size.symm)
    have sy136 : h0.size ≤ h131.size := Nat.le_trans sy130 (Nat.le_of_eq W132.size.symm)
    show Wk _ p l e _ s m _ below meth c n0 _ h131 1 4 (mkF m 66 #[.val (.int i0), .val (.int i1), .val (.int i2), .val (.int i3), .val (.int i4), .val (.int (2 : Int32)), .val (.ref b104), .unset, .unset, .unset, .unset] [])
    refine Wk.st (g' := (mkF m 68 #[.val (.int i0), .val (.int i1), .val (.int i2), .val (.int i3), .val (.int i4), .val (.int (2 : Int32)), .val (.ref b104), .unset, .unset, .unset, .unset] [(.int (2 : Int32))])) (fun X t q => XS.iload X.here C.hx rfl (hb C.hby at_66) rfl q) ?_
    refine Wk.fNewP C (hw _ (List.mem_of_getElem? (i := 1) rfl)) (ty := .double) (dv := (.double (0 : UInt64))) (N := 2) (ad := "[D") rfl rfl (by decide) (by decide) (by decide) (cap := 2) (by decide) (by decide) at_68 (by decide) (by decide) ?_
    intro h137 b138 g139 E140 A141 F142
    have ne143 : b104 ≠ b138 := Nat.ne_of_lt (Nat.lt_of_lt_of_le F134.lt (Nat.le_of_eq g139.symm))
    have ge144 : n0 ≤ b138 := Nat.le_trans sz135 (Nat.le_of_eq g139.symm)
    have gz145 : h0.size ≤ b138 := Nat.le_trans sy136 (Nat.le_of_eq g139.symm)
    have F146 : Exa Z h137 b104 "[D" := F134.ext E140
    have F147 : Fa Z h137 b104 .double 4 (up (up (up (up (fun _ => (.double (0 : UInt64))) 0 (.double (dv x0))) 1 (.double (dv x1))) 2 (.double (dv x2))) 3 (.double (dv x3))) := F133.ext E140
    have sz148 : n0 ≤ h137.size := Nat.le_trans sz135 E140.1
    have sy149 : h0.size ≤ h137.size := Nat.le_trans sy136 E140.1
    show Wk _ p l e _ s m _ below meth c n0 _ h137 2 6 (mkF m 70 #[.val (.int i0), .val (.int i1), .val (.int i2), .val (.int i3), .val (.int i4), .val (.int (2 : Int32)), .val (.ref b104), .unset, .unset, .unset, .unset] [(.ref b138)])
    refine Wk.st (g' := (mkF m 72 #[.val (.int i0), .val (.int i1), .val (.int i2), .val (.int i3), .val (.int i4), .val (.int (2 : Int32)), .val (.ref b104), .val (.ref b138), .unset, .unset, .unset] [])) (fun X t q => XS.astore X.here C.hx rfl (hb C.hby at_70) rfl rfl (l' := #[.val (.int i0), .val (.int i1), .val (.int i2), .val (.int i3), .val (.int i4), .val (.int (2 : Int32)), .val (.ref b104), .val (.ref b138), .unset, .unset, .unset]) rfl q) ?_
    refine Wk.st (g' := (mkF m 74 #[.val (.int i0), .val (.int i1), .val (.int i2), .val (.int i3), .val (.int i4), .val (.int (2 : Int32)), .val (.ref b104), .val (.ref b138), .unset, .unset, .unset] [(.int (2 : Int32))])) (fun X t q => XS.iload X.here C.hx rfl (hb C.hby at_72) rfl q) ?_
    refine Wk.st (g' := (mkF m 77 #[.val (.int i0), .val (.int i1), .val (.int i2), .val (.int i3), .val (.int i4), .val (.int (2 : Int32)), .val (.ref b104), .val (.ref b138), .unset, .unset, .unset] [])) (fun X t q => XS.ifNo X.here C.hx rfl (hb C.hby at_74) rfl (XT.i0_le_f (by decide)) q) ?_
    refine Wk.st (g' := (mkF m 79 #[.val (.int i0), .val (.int i1), .val (.int i2), .val (.int i3), .val (.int i4), .val (.int (2 : Int32)), .val (.ref b104), .val (.ref b138), .unset, .unset, .unset] [(.ref b138)])) (fun X t q => XS.aload X.here C.hx rfl (hb C.hby at_77) rfl rfl q) ?_
    refine Wk.st (g' := (mkF m 80 #[.val (.int i0), .val (.int i1), .val (.int i2), .val (.int i3), .val (.int i4), .val (.int (2 : Int32)), .val (.ref b104), .val (.ref b138), .unset, .unset, .unset] [(.int (0 : Int32)), (.ref b138)])) (fun X t q => XS.iconst X.here C.hx rfl (hb C.hby at_79) q) ?_
    refine Wk.st (g' := (mkF m 82 #[.val (.int i0), .val (.int i1), .val (.int i2), .val (.int i3), .val (.int i4), .val (.int (2 : Int32)), .val (.ref b104), .val (.ref b138), .unset, .unset, .unset] [(.ref b104), (.int (0 : Int32)), (.ref b138)])) (fun X t q => XS.aload X.here C.hx rfl (hb C.hby at_80) rfl rfl q) ?_
    refine Wk.st (g' := (mkF m 83 #[.val (.int i0), .val (.int i1), .val (.int i2), .val (.int i3), .val (.int i4), .val (.int (2 : Int32)), .val (.ref b104), .val (.ref b138), .unset, .unset, .unset] [(.int (0 : Int32)), (.ref b104), (.int (0 : Int32)), (.ref b138)])) (fun X t q => XS.iconst X.here C.hx rfl (hb C.hby at_82) q) ?_
    refine Wk.fLdD C F147 (i := 0) (by decide) (by decide) (by decide) (v := (.double (dv x0))) (by simp [up]) at_83 ?_
    show Wk _ p l e _ s m _ below meth c n0 _ h137 2 6 (mkF m 84 #[.val (.int i0), .val (.int i1), .val (.int i2), .val (.int i3), .val (.int i4), .val (.int (2 : Int32)), .val (.ref b104), .val (.ref b138), .unset, .unset, .unset] [(.double (dv x0)), (.int (0 : Int32)), (.ref b138)])
    refine Wk.fStD C F142 (i := 0) (by decide) (by decide) (by decide) ge144 at_84 ?_
    intro h150 W151 F152
    have F153 : Exa Z h150 b104 "[D" := F146.wr W151
    have F154 : Fa Z h150 b104 .double 4 (up (up (up (up (fun _ => (.double (0 : UInt64))) 0 (.double (dv x0))) 1 (.double (dv x1))) 2 (.double (dv x2))) 3 (.double (dv x3))) := F147.other W151 ne143
    have F155 : Exa Z h150 b138 "[D" := A141.wr W151
    have sz156 : n0 ≤ h150.size := Nat.le_trans sz148 (Nat.le_of_eq W151.size.symm)
    have sy157 : h0.size ≤ h150.size := Nat.le_trans sy149 (Nat.le_of_eq W151.size.symm)
    show Wk _ p l e _ s m _ below meth c n0 _ h150 2 6 (mkF m 85 #[.val (.int i0), .val (.int i1), .val (.int i2), .val (.int i3), .val (.int i4), .val (.int (2 : Int32)), .val (.ref b104), .val (.ref b138), .unset, .unset, .unset] [])
    refine Wk.st (g' := (mkF m 87 #[.val (.int i0), .val (.int i1), .val (.int i2), .val (.int i3), .val (.int i4), .val (.int (2 : Int32)), .val (.ref b104), .val (.ref b138), .unset, .unset, .unset] [(.int (2 : Int32))])) (fun X t q => XS.iload X.here C.hx rfl (hb C.hby at_85) rfl q) ?_
    refine Wk.st (g' := (mkF m 88 #[.val (.int i0), .val (.int i1), .val (.int i2), .val (.int i3), .val (.int i4), .val (.int (2 : Int32)), .val (.ref b104), .val (.ref b138), .unset, .unset, .unset] [(.int (1 : Int32)), (.int (2 : Int32))])) (fun X t q => XS.iconst X.here C.hx rfl (hb C.hby at_87) q) ?_
    refine Wk.st (g' := (mkF m 91 #[.val (.int i0), .val (.int i1), .val (.int i2), .val (.int i3), .val (.int i4), .val (.int (2 : Int32)), .val (.ref b104), .val (.ref b138), .unset, .unset, .unset] [])) (fun X t q => XS.icmpNo X.here C.hx rfl (hb C.hby at_88) rfl (XT.ii_le_f (by decide)) q) ?_
    refine Wk.st (g' := (mkF m 93 #[.val (.int i0), .val (.int i1), .val (.int i2), .val (.int i3), .val (.int i4), .val (.int (2 : Int32)), .val (.ref b104), .val (.ref b138), .unset, .unset, .unset] [(.ref b138)])) (fun X t q => XS.aload X.here C.hx rfl (hb C.hby at_91) rfl rfl q) ?_
    refine Wk.st (g' := (mkF m 94 #[.val (.int i0), .val (.int i1), .val (.int i2), .val (.int i3), .val (.int i4), .val (.int (2 : Int32)), .val (.ref b104), .val (.ref b138), .unset, .unset, .unset] [(.int (1 : Int32)), (.ref b138)])) (fun X t q => XS.iconst X.here C.hx rfl (hb C.hby at_93) q) ?_
    refine Wk.st (g' := (mkF m 96 #[.val (.int i0), .val (.int i1), .val (.int i2), .val (.int i3), .val (.int i4), .val (.int (2 : Int32)), .val (.ref b104), .val (.ref b138), .unset, .unset, .unset] [(.ref b104), (.int (1 : Int32)), (.ref b138)])) (fun X t q => XS.aload X.here C.hx rfl (hb C.hby at_94) rfl rfl q) ?_
    refine Wk.st (g' := (mkF m 97 #[.val (.int i0), .val (.int i1), .val (.int i2), .val (.int i3), .val (.int i4), .val (.int (2 : Int32)), .val (.ref b104), .val (.ref b138), .unset, .unset, .unset] [(.int (1 : Int32)), (.ref b104), (.int (1 : Int32)), (.ref b138)])) (fun X t q => XS.iconst X.here C.hx rfl (hb C.hby at_96) q) ?_
    refine Wk.fLdD C F154 (i := 1) (by decide) (by decide) (by decide) (v := (.double (dv x1))) (by simp [up]) at_97 ?_
    show Wk _ p l e _ s m _ below meth c n0 _ h150 2 6 (mkF m 98 #[.val (.int i0), .val (.int i1), .val (.int i2), .val (.int i3), .val (.int i4), .val (.int (2 : Int32)), .val (.ref b104), .val (.ref b138), .unset, .unset, .unset] [(.double (dv x1)), (.int (1 : Int32)), (.ref b138)])
    refine Wk.fStD C F152 (i := 1) (by decide) (by decide) (by decide) ge144 at_98 ?_
    intro h158 W159 F160
    have F161 : Exa Z h158 b104 "[D" := F153.wr W159
    have F162 : Fa Z h158 b104 .double 4 (up (up (up (up (fun _ => (.double (0 : UInt64))) 0 (.double (dv x0))) 1 (.double (dv x1))) 2 (.double (dv x2))) 3 (.double (dv x3))) := F154.other W159 ne143
    have F163 : Exa Z h158 b138 "[D" := F155.wr W159
    have sz164 : n0 ≤ h158.size := Nat.le_trans sz156 (Nat.le_of_eq W159.size.symm)
    have sy165 : h0.size ≤ h158.size := Nat.le_trans sy157 (Nat.le_of_eq W159.size.symm)
    show Wk _ p l e _ s m _ below meth c n0 _ h158 2 6 (mkF m 99 #[.val (.int i0), .val (.int i1), .val (.int i2), .val (.int i3), .val (.int i4), .val (.int (2 : Int32)), .val (.ref b104), .val (.ref b138), .unset, .unset, .unset] [])
    refine Wk.st (g' := (mkF m 101 #[.val (.int i0), .val (.int i1), .val (.int i2), .val (.int i3), .val (.int i4), .val (.int (2 : Int32)), .val (.ref b104), .val (.ref b138), .unset, .unset, .unset] [(.int (2 : Int32))])) (fun X t q => XS.iload X.here C.hx rfl (hb C.hby at_99) rfl q) ?_
    refine Wk.st (g' := (mkF m 102 #[.val (.int i0), .val (.int i1), .val (.int i2), .val (.int i3), .val (.int i4), .val (.int (2 : Int32)), .val (.ref b104), .val (.ref b138), .unset, .unset, .unset] [(.int (2 : Int32)), (.int (2 : Int32))])) (fun X t q => XS.iconst X.here C.hx rfl (hb C.hby at_101) q) ?_
    refine Wk.st (g' := (mkF m 113 #[.val (.int i0), .val (.int i1), .val (.int i2), .val (.int i3), .val (.int i4), .val (.int (2 : Int32)), .val (.ref b104), .val (.ref b138), .unset, .unset, .unset] [])) (fun X t q => XS.icmpYes X.here C.hx rfl (pc0 := 102) (pc' := 113) rfl (hb C.hby at_102) rfl (XT.ii_le_t (by decide)) (by decide) (by decide) q) ?_
    refine Wk.st (g' := (mkF m 115 #[.val (.int i0), .val (.int i1), .val (.int i2), .val (.int i3), .val (.int i4), .val (.int (2 : Int32)), .val (.ref b104), .val (.ref b138), .unset, .unset, .unset] [(.int (2 : Int32))])) (fun X t q => XS.iload X.here C.hx rfl (hb C.hby at_113) rfl q) ?_
    refine Wk.st (g' := (mkF m 116 #[.val (.int i0), .val (.int i1), .val (.int i2), .val (.int i3), .val (.int i4), .val (.int (2 : Int32)), .val (.ref b104), .val (.ref b138), .unset, .unset, .unset] [(.int (3 : Int32)), (.int (2 : Int32))])) (fun X t q => XS.iconst X.here C.hx rfl (hb C.hby at_115) q) ?_
    refine Wk.st (g' := (mkF m 127 #[.val (.int i0), .val (.int i1), .val (.int i2), .val (.int i3), .val (.int i4), .val (.int (2 : Int32)), .val (.ref b104), .val (.ref b138), .unset, .unset, .unset] [])) (fun X t q => XS.icmpYes X.here C.hx rfl (pc0 := 116) (pc' := 127) rfl (hb C.hby at_116) rfl (XT.ii_le_t (by decide)) (by decide) (by decide) q) ?_
    refine Wk.st (g' := (mkF m 129 #[.val (.int i0), .val (.int i1), .val (.int i2), .val (.int i3), .val (.int i4), .val (.int (2 : Int32)), .val (.ref b104), .val (.ref b138), .unset, .unset, .unset] [(.ref b138)])) (fun X t q => XS.aload X.here C.hx rfl (hb C.hby at_127) rfl rfl q) ?_
    refine Wk.callS C (z := (⟨"com/example/understory/understory/Classifier", "mostProbable", "([D)I"⟩ : MethodName)) (hw _ (List.mem_of_getElem? (i := 3) rfl)) (hw _ (List.mem_of_getElem? (i := 4) rfl)) (hw _ (List.mem_of_getElem? (i := 5) rfl)) (hw _ (List.mem_of_getElem? (i := 6) rfl)) (by decide) (own_mp2 l Z a0 hw n0 h158 b138 x0 x1 x2 x3 r_x0 r_x1 r_x2 r_x3 F160) (w := 0) (by decide) (by decide) pd_0 rfl (rest := []) rfl rfl (Nat.le_of_eq rfl) (by decide) (by decide) at_129 ?_
    rintro _ _ ⟨⟨rfl, e0⟩ | ⟨rfl, e0⟩, rfl⟩
    · skip
      show Wk _ p l e _ s m _ below meth c n0 _ h158 2 6 (mkF m 132 #[.val (.int i0), .val (.int i1), .val (.int i2), .val (.int i3), .val (.int i4), .val (.int (2 : Int32)), .val (.ref b104), .val (.ref b138), .unset, .unset, .unset] [(.int (0 : Int32))])
      refine Wk.st (g' := (mkF m 134 #[.val (.int i0), .val (.int i1), .val (.int i2), .val (.int i3), .val (.int i4), .val (.int (2 : Int32)), .val (.ref b104), .val (.ref b138), .val (.int (0 : Int32)), .unset, .unset] [])) (fun X t q => XS.istore X.here C.hx rfl (hb C.hby at_132) rfl (l' := #[.val (.int i0), .val (.int i1), .val (.int i2), .val (.int i3), .val (.int i4), .val (.int (2 : Int32)), .val (.ref b104), .val (.ref b138), .val (.int (0 : Int32)), .unset, .unset]) rfl q) ?_
      refine Wk.st (g' := (mkF m 136 #[.val (.int i0), .val (.int i1), .val (.int i2), .val (.int i3), .val (.int i4), .val (.int (2 : Int32)), .val (.ref b104), .val (.ref b138), .val (.int (0 : Int32)), .unset, .unset] [(.int (2 : Int32))])) (fun X t q => XS.iload X.here C.hx rfl (hb C.hby at_134) rfl q) ?_
      refine Wk.st (g' := (mkF m 150 #[.val (.int i0), .val (.int i1), .val (.int i2), .val (.int i3), .val (.int i4), .val (.int (2 : Int32)), .val (.ref b104), .val (.ref b138), .val (.int (0 : Int32)), .unset, .unset] [])) (fun X t q => XS.ifYes X.here C.hx rfl (pc0 := 136) (pc' := 150) rfl (hb C.hby at_136) rfl (XT.i0_ne_t (by decide)) (by decide) (by decide) q) ?_
      refine Wk.st (g' := (mkF m 152 #[.val (.int i0), .val (.int i1), .val (.int i2), .val (.int i3), .val (.int i4), .val (.int (2 : Int32)), .val (.ref b104), .val (.ref b138), .val (.int (0 : Int32)), .unset, .unset] [(.int (0 : Int32))])) (fun X t q => XS.iload X.here C.hx rfl (hb C.hby at_150) rfl q) ?_
      refine Wk.st (g' := (mkF m 155 #[.val (.int i0), .val (.int i1), .val (.int i2), .val (.int i3), .val (.int i4), .val (.int (2 : Int32)), .val (.ref b104), .val (.ref b138), .val (.int (0 : Int32)), .unset, .unset] [])) (fun X t q => XS.ifNo X.here C.hx rfl (hb C.hby at_152) rfl (XT.i0_lt_f (by decide)) q) ?_
      refine Wk.st (g' := (mkF m 157 #[.val (.int i0), .val (.int i1), .val (.int i2), .val (.int i3), .val (.int i4), .val (.int (2 : Int32)), .val (.ref b104), .val (.ref b138), .val (.int (0 : Int32)), .unset, .unset] [(.int (0 : Int32))])) (fun X t q => XS.iload X.here C.hx rfl (hb C.hby at_155) rfl q) ?_
      refine Wk.st (g' := (mkF m 159 #[.val (.int i0), .val (.int i1), .val (.int i2), .val (.int i3), .val (.int i4), .val (.int (2 : Int32)), .val (.ref b104), .val (.ref b138), .val (.int (0 : Int32)), .unset, .unset] [(.int (2 : Int32)), (.int (0 : Int32))])) (fun X t q => XS.iload X.here C.hx rfl (hb C.hby at_157) rfl q) ?_
      refine Wk.st (g' := (mkF m 164 #[.val (.int i0), .val (.int i1), .val (.int i2), .val (.int i3), .val (.int i4), .val (.int (2 : Int32)), .val (.ref b104), .val (.ref b138), .val (.int (0 : Int32)), .unset, .unset] [])) (fun X t q => XS.icmpYes X.here C.hx rfl (pc0 := 159) (pc' := 164) rfl (hb C.hby at_159) rfl (XT.ii_lt_t (by decide)) (by decide) (by decide) q) ?_
      refine Wk.st (g' := (mkF m 166 #[.val (.int i0), .val (.int i1), .val (.int i2), .val (.int i3), .val (.int i4), .val (.int (2 : Int32)), .val (.ref b104), .val (.ref b138), .val (.int (0 : Int32)), .unset, .unset] [(.ref b104)])) (fun X t q => XS.aload X.here C.hx rfl (hb C.hby at_164) rfl rfl q) ?_
      refine Wk.st (g' := (mkF m 168 #[.val (.int i0), .val (.int i1), .val (.int i2), .val (.int i3), .val (.int i4), .val (.int (2 : Int32)), .val (.ref b104), .val (.ref b138), .val (.int (0 : Int32)), .unset, .unset] [(.int (0 : Int32)), (.ref b104)])) (fun X t q => XS.iload X.here C.hx rfl (hb C.hby at_166) rfl q) ?_
      refine Wk.fLdD C F162 (i := 0) (by decide) (by decide) (by decide) (v := (.double (dv x0))) (by simp [up]) at_168 ?_
      show Wk _ p l e _ s m _ below meth c n0 _ h158 2 6 (mkF m 169 #[.val (.int i0), .val (.int i1), .val (.int i2), .val (.int i3), .val (.int i4), .val (.int (2 : Int32)), .val (.ref b104), .val (.ref b138), .val (.int (0 : Int32)), .unset, .unset] [(.double (dv x0))])
      refine Wk.st (g' := (mkF m 171 #[.val (.int i0), .val (.int i1), .val (.int i2), .val (.int i3), .val (.int i4), .val (.int (2 : Int32)), .val (.ref b104), .val (.ref b138), .val (.int (0 : Int32)), .val (.double (dv x0)), .second] [])) (fun X t q => XS.dstore X.here C.hx rfl (hb C.hby at_169) rfl (l' := #[.val (.int i0), .val (.int i1), .val (.int i2), .val (.int i3), .val (.int i4), .val (.int (2 : Int32)), .val (.ref b104), .val (.ref b138), .val (.int (0 : Int32)), .val (.double (dv x0)), .second]) rfl q) ?_
      refine Wk.st (g' := (mkF m 173 #[.val (.int i0), .val (.int i1), .val (.int i2), .val (.int i3), .val (.int i4), .val (.int (2 : Int32)), .val (.ref b104), .val (.ref b138), .val (.int (0 : Int32)), .val (.double (dv x0)), .second] [(.ref b104)])) (fun X t q => XS.aload X.here C.hx rfl (hb C.hby at_171) rfl rfl q) ?_
      refine Wk.st (g' := (mkF m 175 #[.val (.int i0), .val (.int i1), .val (.int i2), .val (.int i3), .val (.int i4), .val (.int (2 : Int32)), .val (.ref b104), .val (.ref b138), .val (.int (0 : Int32)), .val (.double (dv x0)), .second] [(.int (2 : Int32)), (.ref b104)])) (fun X t q => XS.iload X.here C.hx rfl (hb C.hby at_173) rfl q) ?_
      refine Wk.st (g' := (mkF m 177 #[.val (.int i0), .val (.int i1), .val (.int i2), .val (.int i3), .val (.int i4), .val (.int (2 : Int32)), .val (.ref b104), .val (.ref b138), .val (.int (0 : Int32)), .val (.double (dv x0)), .second] [(.int (0 : Int32)), (.int (2 : Int32)), (.ref b104)])) (fun X t q => XS.iload X.here C.hx rfl (hb C.hby at_175) rfl q) ?_
      refine Wk.st (g' := (mkF m 178 #[.val (.int i0), .val (.int i1), .val (.int i2), .val (.int i3), .val (.int i4), .val (.int (2 : Int32)), .val (.ref b104), .val (.ref b138), .val (.int (0 : Int32)), .val (.double (dv x0)), .second] [(.int (0 : Int32)), (.int (0 : Int32)), (.int (2 : Int32)), (.ref b104)])) (fun X t q => XS.iconst X.here C.hx rfl (hb C.hby at_177) q) ?_
      refine Wk.st (g' := (mkF m 180 #[.val (.int i0), .val (.int i1), .val (.int i2), .val (.int i3), .val (.int i4), .val (.int (2 : Int32)), .val (.ref b104), .val (.ref b138), .val (.int (0 : Int32)), .val (.double (dv x0)), .second] [(.double (dv x0)), (.int (0 : Int32)), (.int (0 : Int32)), (.int (2 : Int32)), (.ref b104)])) (fun X t q => XS.dload X.here C.hx rfl (hb C.hby at_178) rfl q) ?_
      refine Wk.callS C (z := (⟨"com/example/understory/understory/ClassifierMostProbablePinLaw", "ok", "([DIIID)Z"⟩ : MethodName)) (hw _ (List.mem_of_getElem? (i := 7) rfl)) (hw _ (List.mem_of_getElem? (i := 8) rfl)) (hw _ (List.mem_of_getElem? (i := 9) rfl)) (hw _ (List.mem_of_getElem? (i := 10) rfl)) (by decide) (own_ok_2_0_0 l Z a0 hw n0 h158 b104 x0 x1 x2 x3 r_x0 r_x1 r_x2 r_x3 F162 (by omega)) (w := 0) (by decide) (by decide) pd_1 rfl (rest := []) rfl rfl (Nat.le_of_eq rfl) (by decide) (by decide) at_180 ?_
      rintro _ _ ⟨rfl, rfl⟩
      show Wk _ p l e _ s m _ below meth c n0 _ h158 2 6 (mkF m 183 #[.val (.int i0), .val (.int i1), .val (.int i2), .val (.int i3), .val (.int i4), .val (.int (2 : Int32)), .val (.ref b104), .val (.ref b138), .val (.int (0 : Int32)), .val (.double (dv x0)), .second] [(.int (1 : Int32))])
      refine Wk.st (g' := (mkF m 186 #[.val (.int i0), .val (.int i1), .val (.int i2), .val (.int i3), .val (.int i4), .val (.int (2 : Int32)), .val (.ref b104), .val (.ref b138), .val (.int (0 : Int32)), .val (.double (dv x0)), .second] [])) (fun X t q => XS.ifNo X.here C.hx rfl (hb C.hby at_183) rfl (XT.i0_eq_f (by decide)) q) ?_
      refine Wk.st (g' := (mkF m 188 #[.val (.int i0), .val (.int i1), .val (.int i2), .val (.int i3), .val (.int i4), .val (.int (2 : Int32)), .val (.ref b104), .val (.ref b138), .val (.int (0 : Int32)), .val (.double (dv x0)), .second] [(.ref b104)])) (fun X t q => XS.aload X.here C.hx rfl (hb C.hby at_186) rfl rfl q) ?_
      refine Wk.st (g' := (mkF m 190 #[.val (.int i0), .val (.int i1), .val (.int i2), .val (.int i3), .val (.int i4), .val (.int (2 : Int32)), .val (.ref b104), .val (.ref b138), .val (.int (0 : Int32)), .val (.double (dv x0)), .second] [(.int (2 : Int32)), (.ref b104)])) (fun X t q => XS.iload X.here C.hx rfl (hb C.hby at_188) rfl q) ?_
      refine Wk.st (g' := (mkF m 192 #[.val (.int i0), .val (.int i1), .val (.int i2), .val (.int i3), .val (.int i4), .val (.int (2 : Int32)), .val (.ref b104), .val (.ref b138), .val (.int (0 : Int32)), .val (.double (dv x0)), .second] [(.int (0 : Int32)), (.int (2 : Int32)), (.ref b104)])) (fun X t q => XS.iload X.here C.hx rfl (hb C.hby at_190) rfl q) ?_
      refine Wk.st (g' := (mkF m 193 #[.val (.int i0), .val (.int i1), .val (.int i2), .val (.int i3), .val (.int i4), .val (.int (2 : Int32)), .val (.ref b104), .val (.ref b138), .val (.int (0 : Int32)), .val (.double (dv x0)), .second] [(.int (1 : Int32)), (.int (0 : Int32)), (.int (2 : Int32)), (.ref b104)])) (fun X t q => XS.iconst X.here C.hx rfl (hb C.hby at_192) q) ?_
      refine Wk.st (g' := (mkF m 195 #[.val (.int i0), .val (.int i1), .val (.int i2), .val (.int i3), .val (.int i4), .val (.int (2 : Int32)), .val (.ref b104), .val (.ref b138), .val (.int (0 : Int32)), .val (.double (dv x0)), .second] [(.double (dv x0)), (.int (1 : Int32)), (.int (0 : Int32)), (.int (2 : Int32)), (.ref b104)])) (fun X t q => XS.dload X.here C.hx rfl (hb C.hby at_193) rfl q) ?_
      refine Wk.callS C (z := (⟨"com/example/understory/understory/ClassifierMostProbablePinLaw", "ok", "([DIIID)Z"⟩ : MethodName)) (hw _ (List.mem_of_getElem? (i := 7) rfl)) (hw _ (List.mem_of_getElem? (i := 8) rfl)) (hw _ (List.mem_of_getElem? (i := 9) rfl)) (hw _ (List.mem_of_getElem? (i := 10) rfl)) (by decide) (own_ok_2_0_1 l Z a0 hw n0 h158 b104 x0 x1 x2 x3 r_x0 r_x1 r_x2 r_x3 F162 (by omega)) (w := 0) (by decide) (by decide) pd_1 rfl (rest := []) rfl rfl (Nat.le_of_eq rfl) (by decide) (by decide) at_195 ?_
      rintro _ _ ⟨rfl, rfl⟩
      show Wk _ p l e _ s m _ below meth c n0 _ h158 2 6 (mkF m 198 #[.val (.int i0), .val (.int i1), .val (.int i2), .val (.int i3), .val (.int i4), .val (.int (2 : Int32)), .val (.ref b104), .val (.ref b138), .val (.int (0 : Int32)), .val (.double (dv x0)), .second] [(.int (1 : Int32))])
      refine Wk.st (g' := (mkF m 201 #[.val (.int i0), .val (.int i1), .val (.int i2), .val (.int i3), .val (.int i4), .val (.int (2 : Int32)), .val (.ref b104), .val (.ref b138), .val (.int (0 : Int32)), .val (.double (dv x0)), .second] [])) (fun X t q => XS.ifNo X.here C.hx rfl (hb C.hby at_198) rfl (XT.i0_eq_f (by decide)) q) ?_
      refine Wk.st (g' := (mkF m 203 #[.val (.int i0), .val (.int i1), .val (.int i2), .val (.int i3), .val (.int i4), .val (.int (2 : Int32)), .val (.ref b104), .val (.ref b138), .val (.int (0 : Int32)), .val (.double (dv x0)), .second] [(.ref b104)])) (fun X t q => XS.aload X.here C.hx rfl (hb C.hby at_201) rfl rfl q) ?_
      refine Wk.st (g' := (mkF m 205 #[.val (.int i0), .val (.int i1), .val (.int i2), .val (.int i3), .val (.int i4), .val (.int (2 : Int32)), .val (.ref b104), .val (.ref b138), .val (.int (0 : Int32)), .val (.double (dv x0)), .second] [(.int (2 : Int32)), (.ref b104)])) (fun X t q => XS.iload X.here C.hx rfl (hb C.hby at_203) rfl q) ?_
      refine Wk.st (g' := (mkF m 207 #[.val (.int i0), .val (.int i1), .val (.int i2), .val (.int i3), .val (.int i4), .val (.int (2 : Int32)), .val (.ref b104), .val (.ref b138), .val (.int (0 : Int32)), .val (.double (dv x0)), .second] [(.int (0 : Int32)), (.int (2 : Int32)), (.ref b104)])) (fun X t q => XS.iload X.here C.hx rfl (hb C.hby at_205) rfl q) ?_
      refine Wk.st (g' := (mkF m 208 #[.val (.int i0), .val (.int i1), .val (.int i2), .val (.int i3), .val (.int i4), .val (.int (2 : Int32)), .val (.ref b104), .val (.ref b138), .val (.int (0 : Int32)), .val (.double (dv x0)), .second] [(.int (2 : Int32)), (.int (0 : Int32)), (.int (2 : Int32)), (.ref b104)])) (fun X t q => XS.iconst X.here C.hx rfl (hb C.hby at_207) q) ?_
      refine Wk.st (g' := (mkF m 210 #[.val (.int i0), .val (.int i1), .val (.int i2), .val (.int i3), .val (.int i4), .val (.int (2 : Int32)), .val (.ref b104), .val (.ref b138), .val (.int (0 : Int32)), .val (.double (dv x0)), .second] [(.double (dv x0)), (.int (2 : Int32)), (.int (0 : Int32)), (.int (2 : Int32)), (.ref b104)])) (fun X t q => XS.dload X.here C.hx rfl (hb C.hby at_208) rfl q) ?_
      refine Wk.callS C (z := (⟨"com/example/understory/understory/ClassifierMostProbablePinLaw", "ok", "([DIIID)Z"⟩ : MethodName)) (hw _ (List.mem_of_getElem? (i := 7) rfl)) (hw _ (List.mem_of_getElem? (i := 8) rfl)) (hw _ (List.mem_of_getElem? (i := 9) rfl)) (hw _ (List.mem_of_getElem? (i := 10) rfl)) (by decide) (own_ok_2_0_2 l Z a0 hw n0 h158 b104 x0 x1 x2 x3 r_x0 r_x1 r_x2 r_x3 F162) (w := 0) (by decide) (by decide) pd_1 rfl (rest := []) rfl rfl (Nat.le_of_eq rfl) (by decide) (by decide) at_210 ?_
      rintro _ _ ⟨rfl, rfl⟩
      show Wk _ p l e _ s m _ below meth c n0 _ h158 2 6 (mkF m 213 #[.val (.int i0), .val (.int i1), .val (.int i2), .val (.int i3), .val (.int i4), .val (.int (2 : Int32)), .val (.ref b104), .val (.ref b138), .val (.int (0 : Int32)), .val (.double (dv x0)), .second] [(.int (1 : Int32))])
      refine Wk.st (g' := (mkF m 216 #[.val (.int i0), .val (.int i1), .val (.int i2), .val (.int i3), .val (.int i4), .val (.int (2 : Int32)), .val (.ref b104), .val (.ref b138), .val (.int (0 : Int32)), .val (.double (dv x0)), .second] [])) (fun X t q => XS.ifNo X.here C.hx rfl (hb C.hby at_213) rfl (XT.i0_eq_f (by decide)) q) ?_
      refine Wk.st (g' := (mkF m 218 #[.val (.int i0), .val (.int i1), .val (.int i2), .val (.int i3), .val (.int i4), .val (.int (2 : Int32)), .val (.ref b104), .val (.ref b138), .val (.int (0 : Int32)), .val (.double (dv x0)), .second] [(.ref b104)])) (fun X t q => XS.aload X.here C.hx rfl (hb C.hby at_216) rfl rfl q) ?_
      refine Wk.st (g' := (mkF m 220 #[.val (.int i0), .val (.int i1), .val (.int i2), .val (.int i3), .val (.int i4), .val (.int (2 : Int32)), .val (.ref b104), .val (.ref b138), .val (.int (0 : Int32)), .val (.double (dv x0)), .second] [(.int (2 : Int32)), (.ref b104)])) (fun X t q => XS.iload X.here C.hx rfl (hb C.hby at_218) rfl q) ?_
      refine Wk.st (g' := (mkF m 222 #[.val (.int i0), .val (.int i1), .val (.int i2), .val (.int i3), .val (.int i4), .val (.int (2 : Int32)), .val (.ref b104), .val (.ref b138), .val (.int (0 : Int32)), .val (.double (dv x0)), .second] [(.int (0 : Int32)), (.int (2 : Int32)), (.ref b104)])) (fun X t q => XS.iload X.here C.hx rfl (hb C.hby at_220) rfl q) ?_
      refine Wk.st (g' := (mkF m 223 #[.val (.int i0), .val (.int i1), .val (.int i2), .val (.int i3), .val (.int i4), .val (.int (2 : Int32)), .val (.ref b104), .val (.ref b138), .val (.int (0 : Int32)), .val (.double (dv x0)), .second] [(.int (3 : Int32)), (.int (0 : Int32)), (.int (2 : Int32)), (.ref b104)])) (fun X t q => XS.iconst X.here C.hx rfl (hb C.hby at_222) q) ?_
      refine Wk.st (g' := (mkF m 225 #[.val (.int i0), .val (.int i1), .val (.int i2), .val (.int i3), .val (.int i4), .val (.int (2 : Int32)), .val (.ref b104), .val (.ref b138), .val (.int (0 : Int32)), .val (.double (dv x0)), .second] [(.double (dv x0)), (.int (3 : Int32)), (.int (0 : Int32)), (.int (2 : Int32)), (.ref b104)])) (fun X t q => XS.dload X.here C.hx rfl (hb C.hby at_223) rfl q) ?_
      refine Wk.callS C (z := (⟨"com/example/understory/understory/ClassifierMostProbablePinLaw", "ok", "([DIIID)Z"⟩ : MethodName)) (hw _ (List.mem_of_getElem? (i := 7) rfl)) (hw _ (List.mem_of_getElem? (i := 8) rfl)) (hw _ (List.mem_of_getElem? (i := 9) rfl)) (hw _ (List.mem_of_getElem? (i := 10) rfl)) (by decide) (own_ok_2_0_3 l Z a0 hw n0 h158 b104 x0 x1 x2 x3 r_x0 r_x1 r_x2 r_x3 F162) (w := 0) (by decide) (by decide) pd_1 rfl (rest := []) rfl rfl (Nat.le_of_eq rfl) (by decide) (by decide) at_225 ?_
      rintro _ _ ⟨rfl, rfl⟩
      show Wk _ p l e _ s m _ below meth c n0 _ h158 2 6 (mkF m 228 #[.val (.int i0), .val (.int i1), .val (.int i2), .val (.int i3), .val (.int i4), .val (.int (2 : Int32)), .val (.ref b104), .val (.ref b138), .val (.int (0 : Int32)), .val (.double (dv x0)), .second] [(.int (1 : Int32))])
      refine Wk.st (g' := (mkF m 231 #[.val (.int i0), .val (.int i1), .val (.int i2), .val (.int i3), .val (.int i4), .val (.int (2 : Int32)), .val (.ref b104), .val (.ref b138), .val (.int (0 : Int32)), .val (.double (dv x0)), .second] [])) (fun X t q => XS.ifNo X.here C.hx rfl (hb C.hby at_228) rfl (XT.i0_eq_f (by decide)) q) ?_
      refine Wk.st (g' := (mkF m 232 #[.val (.int i0), .val (.int i1), .val (.int i2), .val (.int i3), .val (.int i4), .val (.int (2 : Int32)), .val (.ref b104), .val (.ref b138), .val (.int (0 : Int32)), .val (.double (dv x0)), .second] [(.int (1 : Int32))])) (fun X t q => XS.iconst X.here C.hx rfl (hb C.hby at_231) q) ?_
      refine Wk.st (g' := (mkF m 236 #[.val (.int i0), .val (.int i1), .val (.int i2), .val (.int i3), .val (.int i4), .val (.int (2 : Int32)), .val (.ref b104), .val (.ref b138), .val (.int (0 : Int32)), .val (.double (dv x0)), .second] [(.int (1 : Int32))])) (fun X t q => XS.goto X.here C.hx rfl (pc0 := 232) (pc' := 236) rfl (hb C.hby at_232) (by decide) (by decide) q) ?_
      exact Wk.retV C (t := .boolean) rfl rfl (Or.inl ⟨rfl, by simp, _, rfl⟩) at_236 (by decide) (by decide) ⟨rfl, trivial⟩
    · skip
      show Wk _ p l e _ s m _ below meth c n0 _ h158 2 6 (mkF m 132 #[.val (.int i0), .val (.int i1), .val (.int i2), .val (.int i3), .val (.int i4), .val (.int (2 : Int32)), .val (.ref b104), .val (.ref b138), .unset, .unset, .unset] [(.int (1 : Int32))])
      refine Wk.st (g' := (mkF m 134 #[.val (.int i0), .val (.int i1), .val (.int i2), .val (.int i3), .val (.int i4), .val (.int (2 : Int32)), .val (.ref b104), .val (.ref b138), .val (.int (1 : Int32)), .unset, .unset] [])) (fun X t q => XS.istore X.here C.hx rfl (hb C.hby at_132) rfl (l' := #[.val (.int i0), .val (.int i1), .val (.int i2), .val (.int i3), .val (.int i4), .val (.int (2 : Int32)), .val (.ref b104), .val (.ref b138), .val (.int (1 : Int32)), .unset, .unset]) rfl q) ?_
      refine Wk.st (g' := (mkF m 136 #[.val (.int i0), .val (.int i1), .val (.int i2), .val (.int i3), .val (.int i4), .val (.int (2 : Int32)), .val (.ref b104), .val (.ref b138), .val (.int (1 : Int32)), .unset, .unset] [(.int (2 : Int32))])) (fun X t q => XS.iload X.here C.hx rfl (hb C.hby at_134) rfl q) ?_
      refine Wk.st (g' := (mkF m 150 #[.val (.int i0), .val (.int i1), .val (.int i2), .val (.int i3), .val (.int i4), .val (.int (2 : Int32)), .val (.ref b104), .val (.ref b138), .val (.int (1 : Int32)), .unset, .unset] [])) (fun X t q => XS.ifYes X.here C.hx rfl (pc0 := 136) (pc' := 150) rfl (hb C.hby at_136) rfl (XT.i0_ne_t (by decide)) (by decide) (by decide) q) ?_
      refine Wk.st (g' := (mkF m 152 #[.val (.int i0), .val (.int i1), .val (.int i2), .val (.int i3), .val (.int i4), .val (.int (2 : Int32)), .val (.ref b104), .val (.ref b138), .val (.int (1 : Int32)), .unset, .unset] [(.int (1 : Int32))])) (fun X t q => XS.iload X.here C.hx rfl (hb C.hby at_150) rfl q) ?_
      refine Wk.st (g' := (mkF m 155 #[.val (.int i0), .val (.int i1), .val (.int i2), .val (.int i3), .val (.int i4), .val (.int (2 : Int32)), .val (.ref b104), .val (.ref b138), .val (.int (1 : Int32)), .unset, .unset] [])) (fun X t q => XS.ifNo X.here C.hx rfl (hb C.hby at_152) rfl (XT.i0_lt_f (by decide)) q) ?_
      refine Wk.st (g' := (mkF m 157 #[.val (.int i0), .val (.int i1), .val (.int i2), .val (.int i3), .val (.int i4), .val (.int (2 : Int32)), .val (.ref b104), .val (.ref b138), .val (.int (1 : Int32)), .unset, .unset] [(.int (1 : Int32))])) (fun X t q => XS.iload X.here C.hx rfl (hb C.hby at_155) rfl q) ?_
      refine Wk.st (g' := (mkF m 159 #[.val (.int i0), .val (.int i1), .val (.int i2), .val (.int i3), .val (.int i4), .val (.int (2 : Int32)), .val (.ref b104), .val (.ref b138), .val (.int (1 : Int32)), .unset, .unset] [(.int (2 : Int32)), (.int (1 : Int32))])) (fun X t q => XS.iload X.here C.hx rfl (hb C.hby at_157) rfl q) ?_
      refine Wk.st (g' := (mkF m 164 #[.val (.int i0), .val (.int i1), .val (.int i2), .val (.int i3), .val (.int i4), .val (.int (2 : Int32)), .val (.ref b104), .val (.ref b138), .val (.int (1 : Int32)), .unset, .unset] [])) (fun X t q => XS.icmpYes X.here C.hx rfl (pc0 := 159) (pc' := 164) rfl (hb C.hby at_159) rfl (XT.ii_lt_t (by decide)) (by decide) (by decide) q) ?_
      refine Wk.st (g' := (mkF m 166 #[.val (.int i0), .val (.int i1), .val (.int i2), .val (.int i3), .val (.int i4), .val (.int (2 : Int32)), .val (.ref b104), .val (.ref b138), .val (.int (1 : Int32)), .unset, .unset] [(.ref b104)])) (fun X t q => XS.aload X.here C.hx rfl (hb C.hby at_164) rfl rfl q) ?_
      refine Wk.st (g' := (mkF m 168 #[.val (.int i0), .val (.int i1), .val (.int i2), .val (.int i3), .val (.int i4), .val (.int (2 : Int32)), .val (.ref b104), .val (.ref b138), .val (.int (1 : Int32)), .unset, .unset] [(.int (1 : Int32)), (.ref b104)])) (fun X t q => XS.iload X.here C.hx rfl (hb C.hby at_166) rfl q) ?_
      refine Wk.fLdD C F162 (i := 1) (by decide) (by decide) (by decide) (v := (.double (dv x1))) (by simp [up]) at_168 ?_
      show Wk _ p l e _ s m _ below meth c n0 _ h158 2 6 (mkF m 169 #[.val (.int i0), .val (.int i1), .val (.int i2), .val (.int i3), .val (.int i4), .val (.int (2 : Int32)), .val (.ref b104), .val (.ref b138), .val (.int (1 : Int32)), .unset, .unset] [(.double (dv x1))])
      refine Wk.st (g' := (mkF m 171 #[.val (.int i0), .val (.int i1), .val (.int i2), .val (.int i3), .val (.int i4), .val (.int (2 : Int32)), .val (.ref b104), .val (.ref b138), .val (.int (1 : Int32)), .val (.double (dv x1)), .second] [])) (fun X t q => XS.dstore X.here C.hx rfl (hb C.hby at_169) rfl (l' := #[.val (.int i0), .val (.int i1), .val (.int i2), .val (.int i3), .val (.int i4), .val (.int (2 : Int32)), .val (.ref b104), .val (.ref b138), .val (.int (1 : Int32)), .val (.double (dv x1)), .second]) rfl q) ?_
      refine Wk.st (g' := (mkF m 173 #[.val (.int i0), .val (.int i1), .val (.int i2), .val (.int i3), .val (.int i4), .val (.int (2 : Int32)), .val (.ref b104), .val (.ref b138), .val (.int (1 : Int32)), .val (.double (dv x1)), .second] [(.ref b104)])) (fun X t q => XS.aload X.here C.hx rfl (hb C.hby at_171) rfl rfl q) ?_
      refine Wk.st (g' := (mkF m 175 #[.val (.int i0), .val (.int i1), .val (.int i2), .val (.int i3), .val (.int i4), .val (.int (2 : Int32)), .val (.ref b104), .val (.ref b138), .val (.int (1 : Int32)), .val (.double (dv x1)), .second] [(.int (2 : Int32)), (.ref b104)])) (fun X t q => XS.iload X.here C.hx rfl (hb C.hby at_173) rfl q) ?_
      refine Wk.st (g' := (mkF m 177 #[.val (.int i0), .val (.int i1), .val (.int i2), .val (.int i3), .val (.int i4), .val (.int (2 : Int32)), .val (.ref b104), .val (.ref b138), .val (.int (1 : Int32)), .val (.double (dv x1)), .second] [(.int (1 : Int32)), (.int (2 : Int32)), (.ref b104)])) (fun X t q => XS.iload X.here C.hx rfl (hb C.hby at_175) rfl q) ?_
      refine Wk.st (g' := (mkF m 178 #[.val (.int i0), .val (.int i1), .val (.int i2), .val (.int i3), .val (.int i4), .val (.int (2 : Int32)), .val (.ref b104), .val (.ref b138), .val (.int (1 : Int32)), .val (.double (dv x1)), .second] [(.int (0 : Int32)), (.int (1 : Int32)), (.int (2 : Int32)), (.ref b104)])) (fun X t q => XS.iconst X.here C.hx rfl (hb C.hby at_177) q) ?_
      refine Wk.st (g' := (mkF m 180 #[.val (.int i0), .val (.int i1), .val (.int i2), .val (.int i3), .val (.int i4), .val (.int (2 : Int32)), .val (.ref b104), .val (.ref b138), .val (.int (1 : Int32)), .val (.double (dv x1)), .second] [(.double (dv x1)), (.int (0 : Int32)), (.int (1 : Int32)), (.int (2 : Int32)), (.ref b104)])) (fun X t q => XS.dload X.here C.hx rfl (hb C.hby at_178) rfl q) ?_
      refine Wk.callS C (z := (⟨"com/example/understory/understory/ClassifierMostProbablePinLaw", "ok", "([DIIID)Z"⟩ : MethodName)) (hw _ (List.mem_of_getElem? (i := 7) rfl)) (hw _ (List.mem_of_getElem? (i := 8) rfl)) (hw _ (List.mem_of_getElem? (i := 9) rfl)) (hw _ (List.mem_of_getElem? (i := 10) rfl)) (by decide) (own_ok_2_1_0 l Z a0 hw n0 h158 b104 x0 x1 x2 x3 r_x0 r_x1 r_x2 r_x3 F162 (by omega)) (w := 0) (by decide) (by decide) pd_1 rfl (rest := []) rfl rfl (Nat.le_of_eq rfl) (by decide) (by decide) at_180 ?_
      rintro _ _ ⟨rfl, rfl⟩
      show Wk _ p l e _ s m _ below meth c n0 _ h158 2 6 (mkF m 183 #[.val (.int i0), .val (.int i1), .val (.int i2), .val (.int i3), .val (.int i4), .val (.int (2 : Int32)), .val (.ref b104), .val (.ref b138), .val (.int (1 : Int32)), .val (.double (dv x1)), .second] [(.int (1 : Int32))])
      refine Wk.st (g' := (mkF m 186 #[.val (.int i0), .val (.int i1), .val (.int i2), .val (.int i3), .val (.int i4), .val (.int (2 : Int32)), .val (.ref b104), .val (.ref b138), .val (.int (1 : Int32)), .val (.double (dv x1)), .second] [])) (fun X t q => XS.ifNo X.here C.hx rfl (hb C.hby at_183) rfl (XT.i0_eq_f (by decide)) q) ?_
      refine Wk.st (g' := (mkF m 188 #[.val (.int i0), .val (.int i1), .val (.int i2), .val (.int i3), .val (.int i4), .val (.int (2 : Int32)), .val (.ref b104), .val (.ref b138), .val (.int (1 : Int32)), .val (.double (dv x1)), .second] [(.ref b104)])) (fun X t q => XS.aload X.here C.hx rfl (hb C.hby at_186) rfl rfl q) ?_
      refine Wk.st (g' := (mkF m 190 #[.val (.int i0), .val (.int i1), .val (.int i2), .val (.int i3), .val (.int i4), .val (.int (2 : Int32)), .val (.ref b104), .val (.ref b138), .val (.int (1 : Int32)), .val (.double (dv x1)), .second] [(.int (2 : Int32)), (.ref b104)])) (fun X t q => XS.iload X.here C.hx rfl (hb C.hby at_188) rfl q) ?_
      refine Wk.st (g' := (mkF m 192 #[.val (.int i0), .val (.int i1), .val (.int i2), .val (.int i3), .val (.int i4), .val (.int (2 : Int32)), .val (.ref b104), .val (.ref b138), .val (.int (1 : Int32)), .val (.double (dv x1)), .second] [(.int (1 : Int32)), (.int (2 : Int32)), (.ref b104)])) (fun X t q => XS.iload X.here C.hx rfl (hb C.hby at_190) rfl q) ?_
      refine Wk.st (g' := (mkF m 193 #[.val (.int i0), .val (.int i1), .val (.int i2), .val (.int i3), .val (.int i4), .val (.int (2 : Int32)), .val (.ref b104), .val (.ref b138), .val (.int (1 : Int32)), .val (.double (dv x1)), .second] [(.int (1 : Int32)), (.int (1 : Int32)), (.int (2 : Int32)), (.ref b104)])) (fun X t q => XS.iconst X.here C.hx rfl (hb C.hby at_192) q) ?_
      refine Wk.st (g' := (mkF m 195 #[.val (.int i0), .val (.int i1), .val (.int i2), .val (.int i3), .val (.int i4), .val (.int (2 : Int32)), .val (.ref b104), .val (.ref b138), .val (.int (1 : Int32)), .val (.double (dv x1)), .second] [(.double (dv x1)), (.int (1 : Int32)), (.int (1 : Int32)), (.int (2 : Int32)), (.ref b104)])) (fun X t q => XS.dload X.here C.hx rfl (hb C.hby at_193) rfl q) ?_
      refine Wk.callS C (z := (⟨"com/example/understory/understory/ClassifierMostProbablePinLaw", "ok", "([DIIID)Z"⟩ : MethodName)) (hw _ (List.mem_of_getElem? (i := 7) rfl)) (hw _ (List.mem_of_getElem? (i := 8) rfl)) (hw _ (List.mem_of_getElem? (i := 9) rfl)) (hw _ (List.mem_of_getElem? (i := 10) rfl)) (by decide) (own_ok_2_1_1 l Z a0 hw n0 h158 b104 x0 x1 x2 x3 r_x0 r_x1 r_x2 r_x3 F162 (by omega)) (w := 0) (by decide) (by decide) pd_1 rfl (rest := []) rfl rfl (Nat.le_of_eq rfl) (by decide) (by decide) at_195 ?_
      rintro _ _ ⟨rfl, rfl⟩
      show Wk _ p l e _ s m _ below meth c n0 _ h158 2 6 (mkF m 198 #[.val (.int i0), .val (.int i1), .val (.int i2), .val (.int i3), .val (.int i4), .val (.int (2 : Int32)), .val (.ref b104), .val (.ref b138), .val (.int (1 : Int32)), .val (.double (dv x1)), .second] [(.int (1 : Int32))])
      refine Wk.st (g' := (mkF m 201 #[.val (.int i0), .val (.int i1), .val (.int i2), .val (.int i3), .val (.int i4), .val (.int (2 : Int32)), .val (.ref b104), .val (.ref b138), .val (.int (1 : Int32)), .val (.double (dv x1)), .second] [])) (fun X t q => XS.ifNo X.here C.hx rfl (hb C.hby at_198) rfl (XT.i0_eq_f (by decide)) q) ?_
      refine Wk.st (g' := (mkF m 203 #[.val (.int i0), .val (.int i1), .val (.int i2), .val (.int i3), .val (.int i4), .val (.int (2 : Int32)), .val (.ref b104), .val (.ref b138), .val (.int (1 : Int32)), .val (.double (dv x1)), .second] [(.ref b104)])) (fun X t q => XS.aload X.here C.hx rfl (hb C.hby at_201) rfl rfl q) ?_
      refine Wk.st (g' := (mkF m 205 #[.val (.int i0), .val (.int i1), .val (.int i2), .val (.int i3), .val (.int i4), .val (.int (2 : Int32)), .val (.ref b104), .val (.ref b138), .val (.int (1 : Int32)), .val (.double (dv x1)), .second] [(.int (2 : Int32)), (.ref b104)])) (fun X t q => XS.iload X.here C.hx rfl (hb C.hby at_203) rfl q) ?_
      refine Wk.st (g' := (mkF m 207 #[.val (.int i0), .val (.int i1), .val (.int i2), .val (.int i3), .val (.int i4), .val (.int (2 : Int32)), .val (.ref b104), .val (.ref b138), .val (.int (1 : Int32)), .val (.double (dv x1)), .second] [(.int (1 : Int32)), (.int (2 : Int32)), (.ref b104)])) (fun X t q => XS.iload X.here C.hx rfl (hb C.hby at_205) rfl q) ?_
      refine Wk.st (g' := (mkF m 208 #[.val (.int i0), .val (.int i1), .val (.int i2), .val (.int i3), .val (.int i4), .val (.int (2 : Int32)), .val (.ref b104), .val (.ref b138), .val (.int (1 : Int32)), .val (.double (dv x1)), .second] [(.int (2 : Int32)), (.int (1 : Int32)), (.int (2 : Int32)), (.ref b104)])) (fun X t q => XS.iconst X.here C.hx rfl (hb C.hby at_207) q) ?_
      refine Wk.st (g' := (mkF m 210 #[.val (.int i0), .val (.int i1), .val (.int i2), .val (.int i3), .val (.int i4), .val (.int (2 : Int32)), .val (.ref b104), .val (.ref b138), .val (.int (1 : Int32)), .val (.double (dv x1)), .second] [(.double (dv x1)), (.int (2 : Int32)), (.int (1 : Int32)), (.int (2 : Int32)), (.ref b104)])) (fun X t q => XS.dload X.here C.hx rfl (hb C.hby at_208) rfl q) ?_
      refine Wk.callS C (z := (⟨"com/example/understory/understory/ClassifierMostProbablePinLaw", "ok", "([DIIID)Z"⟩ : MethodName)) (hw _ (List.mem_of_getElem? (i := 7) rfl)) (hw _ (List.mem_of_getElem? (i := 8) rfl)) (hw _ (List.mem_of_getElem? (i := 9) rfl)) (hw _ (List.mem_of_getElem? (i := 10) rfl)) (by decide) (own_ok_2_1_2 l Z a0 hw n0 h158 b104 x0 x1 x2 x3 r_x0 r_x1 r_x2 r_x3 F162) (w := 0) (by decide) (by decide) pd_1 rfl (rest := []) rfl rfl (Nat.le_of_eq rfl) (by decide) (by decide) at_210 ?_
      rintro _ _ ⟨rfl, rfl⟩
      show Wk _ p l e _ s m _ below meth c n0 _ h158 2 6 (mkF m 213 #[.val (.int i0), .val (.int i1), .val (.int i2), .val (.int i3), .val (.int i4), .val (.int (2 : Int32)), .val (.ref b104), .val (.ref b138), .val (.int (1 : Int32)), .val (.double (dv x1)), .second] [(.int (1 : Int32))])
      refine Wk.st (g' := (mkF m 216 #[.val (.int i0), .val (.int i1), .val (.int i2), .val (.int i3), .val (.int i4), .val (.int (2 : Int32)), .val (.ref b104), .val (.ref b138), .val (.int (1 : Int32)), .val (.double (dv x1)), .second] [])) (fun X t q => XS.ifNo X.here C.hx rfl (hb C.hby at_213) rfl (XT.i0_eq_f (by decide)) q) ?_
      refine Wk.st (g' := (mkF m 218 #[.val (.int i0), .val (.int i1), .val (.int i2), .val (.int i3), .val (.int i4), .val (.int (2 : Int32)), .val (.ref b104), .val (.ref b138), .val (.int (1 : Int32)), .val (.double (dv x1)), .second] [(.ref b104)])) (fun X t q => XS.aload X.here C.hx rfl (hb C.hby at_216) rfl rfl q) ?_
      refine Wk.st (g' := (mkF m 220 #[.val (.int i0), .val (.int i1), .val (.int i2), .val (.int i3), .val (.int i4), .val (.int (2 : Int32)), .val (.ref b104), .val (.ref b138), .val (.int (1 : Int32)), .val (.double (dv x1)), .second] [(.int (2 : Int32)), (.ref b104)])) (fun X t q => XS.iload X.here C.hx rfl (hb C.hby at_218) rfl q) ?_
      refine Wk.st (g' := (mkF m 222 #[.val (.int i0), .val (.int i1), .val (.int i2), .val (.int i3), .val (.int i4), .val (.int (2 : Int32)), .val (.ref b104), .val (.ref b138), .val (.int (1 : Int32)), .val (.double (dv x1)), .second] [(.int (1 : Int32)), (.int (2 : Int32)), (.ref b104)])) (fun X t q => XS.iload X.here C.hx rfl (hb C.hby at_220) rfl q) ?_
      refine Wk.st (g' := (mkF m 223 #[.val (.int i0), .val (.int i1), .val (.int i2), .val (.int i3), .val (.int i4), .val (.int (2 : Int32)), .val (.ref b104), .val (.ref b138), .val (.int (1 : Int32)), .val (.double (dv x1)), .second] [(.int (3 : Int32)), (.int (1 : Int32)), (.int (2 : Int32)), (.ref b104)])) (fun X t q => XS.iconst X.here C.hx rfl (hb C.hby at_222) q) ?_
      refine Wk.st (g' := (mkF m 225 #[.val (.int i0), .val (.int i1), .val (.int i2), .val (.int i3), .val (.int i4), .val (.int (2 : Int32)), .val (.ref b104), .val (.ref b138), .val (.int (1 : Int32)), .val (.double (dv x1)), .second] [(.double (dv x1)), (.int (3 : Int32)), (.int (1 : Int32)), (.int (2 : Int32)), (.ref b104)])) (fun X t q => XS.dload X.here C.hx rfl (hb C.hby at_223) rfl q) ?_
      refine Wk.callS C (z := (⟨"com/example/understory/understory/ClassifierMostProbablePinLaw", "ok", "([DIIID)Z"⟩ : MethodName)) (hw _ (List.mem_of_getElem? (i := 7) rfl)) (hw _ (List.mem_of_getElem? (i := 8) rfl)) (hw _ (List.mem_of_getElem? (i := 9) rfl)) (hw _ (List.mem_of_getElem? (i := 10) rfl)) (by decide) (own_ok_2_1_3 l Z a0 hw n0 h158 b104 x0 x1 x2 x3 r_x0 r_x1 r_x2 r_x3 F162) (w := 0) (by decide) (by decide) pd_1 rfl (rest := []) rfl rfl (Nat.le_of_eq rfl) (by decide) (by decide) at_225 ?_
      rintro _ _ ⟨rfl, rfl⟩
      show Wk _ p l e _ s m _ below meth c n0 _ h158 2 6 (mkF m 228 #[.val (.int i0), .val (.int i1), .val (.int i2), .val (.int i3), .val (.int i4), .val (.int (2 : Int32)), .val (.ref b104), .val (.ref b138), .val (.int (1 : Int32)), .val (.double (dv x1)), .second] [(.int (1 : Int32))])
      refine Wk.st (g' := (mkF m 231 #[.val (.int i0), .val (.int i1), .val (.int i2), .val (.int i3), .val (.int i4), .val (.int (2 : Int32)), .val (.ref b104), .val (.ref b138), .val (.int (1 : Int32)), .val (.double (dv x1)), .second] [])) (fun X t q => XS.ifNo X.here C.hx rfl (hb C.hby at_228) rfl (XT.i0_eq_f (by decide)) q) ?_
      refine Wk.st (g' := (mkF m 232 #[.val (.int i0), .val (.int i1), .val (.int i2), .val (.int i3), .val (.int i4), .val (.int (2 : Int32)), .val (.ref b104), .val (.ref b138), .val (.int (1 : Int32)), .val (.double (dv x1)), .second] [(.int (1 : Int32))])) (fun X t q => XS.iconst X.here C.hx rfl (hb C.hby at_231) q) ?_
      refine Wk.st (g' := (mkF m 236 #[.val (.int i0), .val (.int i1), .val (.int i2), .val (.int i3), .val (.int i4), .val (.int (2 : Int32)), .val (.ref b104), .val (.ref b138), .val (.int (1 : Int32)), .val (.double (dv x1)), .second] [(.int (1 : Int32))])) (fun X t q => XS.goto X.here C.hx rfl (pc0 := 232) (pc' := 236) rfl (hb C.hby at_232) (by decide) (by decide) q) ?_
      exact Wk.retV C (t := .boolean) rfl rfl (Or.inl ⟨rfl, by simp, _, rfl⟩) at_236 (by decide) (by decide) ⟨rfl, trivial⟩
  · skip
    show Wk _ p l e _ s m _ below meth c n0 _ h0 0 0 (mkF m 8 #[.val (.int i0), .val (.int i1), .val (.int i2), .val (.int i3), .val (.int i4), .val (.int (3 : Int32)), .unset, .unset, .unset, .unset, .unset] [])
    refine Wk.st (g' := (mkF m 9 #[.val (.int i0), .val (.int i1), .val (.int i2), .val (.int i3), .val (.int i4), .val (.int (3 : Int32)), .unset, .unset, .unset, .unset, .unset] [(.int (4 : Int32))])) (fun X t q => XS.iconst X.here C.hx rfl (hb C.hby at_8) q) ?_
    refine Wk.fNewP C (hw _ (List.mem_of_getElem? (i := 1) rfl)) (ty := .double) (dv := (.double (0 : UInt64))) (N := 4) (ad := "[D") rfl rfl (by decide) (by decide) (by decide) (cap := 4) (by decide) (by decide) at_9 (by decide) (by decide) ?_
    intro h166 b167 g168 E169 A170 F171
    have ge172 : n0 ≤ b167 := Nat.le_trans hsz (Nat.le_of_eq g168.symm)
    have gz173 : h0.size ≤ b167 := Nat.le_trans (Nat.le_refl h0.size) (Nat.le_of_eq g168.symm)
    have sz174 : n0 ≤ h166.size := Nat.le_trans hsz E169.1
    have sy175 : h0.size ≤ h166.size := Nat.le_trans (Nat.le_refl h0.size) E169.1
    show Wk _ p l e _ s m _ below meth c n0 _ h166 1 4 (mkF m 11 #[.val (.int i0), .val (.int i1), .val (.int i2), .val (.int i3), .val (.int i4), .val (.int (3 : Int32)), .unset, .unset, .unset, .unset, .unset] [(.ref b167)])
    refine Wk.st (g' := (mkF m 13 #[.val (.int i0), .val (.int i1), .val (.int i2), .val (.int i3), .val (.int i4), .val (.int (3 : Int32)), .val (.ref b167), .unset, .unset, .unset, .unset] [])) (fun X t q => XS.astore X.here C.hx rfl (hb C.hby at_11) rfl rfl (l' := #[.val (.int i0), .val (.int i1), .val (.int i2), .val (.int i3), .val (.int i4), .val (.int (3 : Int32)), .val (.ref b167), .unset, .unset, .unset, .unset]) rfl q) ?_
    refine Wk.st (g' := (mkF m 15 #[.val (.int i0), .val (.int i1), .val (.int i2), .val (.int i3), .val (.int i4), .val (.int (3 : Int32)), .val (.ref b167), .unset, .unset, .unset, .unset] [(.ref b167)])) (fun X t q => XS.aload X.here C.hx rfl (hb C.hby at_13) rfl rfl q) ?_
    refine Wk.st (g' := (mkF m 16 #[.val (.int i0), .val (.int i1), .val (.int i2), .val (.int i3), .val (.int i4), .val (.int (3 : Int32)), .val (.ref b167), .unset, .unset, .unset, .unset] [(.int (0 : Int32)), (.ref b167)])) (fun X t q => XS.iconst X.here C.hx rfl (hb C.hby at_15) q) ?_
    refine Wk.st (g' := (mkF m 17 #[.val (.int i0), .val (.int i1), .val (.int i2), .val (.int i3), .val (.int i4), .val (.int (3 : Int32)), .val (.ref b167), .unset, .unset, .unset, .unset] [(.int i1), (.int (0 : Int32)), (.ref b167)])) (fun X t q => XS.iloadN X.here C.hx rfl (hb C.hby at_16) rfl q) ?_
    refine Wk.st (g' := (mkF m 19 #[.val (.int i0), .val (.int i1), .val (.int i2), .val (.int i3), .val (.int i4), .val (.int (3 : Int32)), .val (.ref b167), .unset, .unset, .unset, .unset] [(.int (7 : Int32)), (.int i1), (.int (0 : Int32)), (.ref b167)])) (fun X t q => XS.bipush X.here C.hx rfl (hb C.hby at_17) q) ?_
    refine Wk.st (g' := (mkF m 20 #[.val (.int i0), .val (.int i1), .val (.int i2), .val (.int i3), .val (.int i4), .val (.int (3 : Int32)), .val (.ref b167), .unset, .unset, .unset, .unset] [(.int (i1 &&& (7 : Int32))), (.int (0 : Int32)), (.ref b167)])) (fun X t q => XS.iand X.here C.hx rfl (hb C.hby at_19) rfl q) ?_
    obtain ⟨x0, hx0⟩ : ∃ z, z = (i1 &&& (7 : Int32)) := ⟨_, rfl⟩
    rw [← hx0]
    have r_x0 := and7 i1
    rw [← hx0] at r_x0
    show Wk _ p l e _ s m _ below meth c n0 _ h166 1 4 (mkF m 20 #[.val (.int i0), .val (.int i1), .val (.int i2), .val (.int i3), .val (.int i4), .val (.int (3 : Int32)), .val (.ref b167), .unset, .unset, .unset, .unset] [(.int x0), (.int (0 : Int32)), (.ref b167)])
    refine Wk.st (g' := (mkF m 21 #[.val (.int i0), .val (.int i1), .val (.int i2), .val (.int i3), .val (.int i4), .val (.int (3 : Int32)), .val (.ref b167), .unset, .unset, .unset, .unset] [(.double (FP.i2d x0)), (.int (0 : Int32)), (.ref b167)])) (fun X t q => XS.i2dS X.here C.hx rfl (hb C.hby at_20) rfl rfl q) ?_
    refine Wk.ldc2D C (hw _ (List.mem_of_getElem? (i := 2) rfl)) at_21 ?_
    show Wk _ p l e _ s m _ below meth c n0 _ h166 1 4 (mkF m 24 #[.val (.int i0), .val (.int i1), .val (.int i2), .val (.int i3), .val (.int i4), .val (.int (3 : Int32)), .val (.ref b167), .unset, .unset, .unset, .unset] [(.double (4620693217682128896 : UInt64)), (.double (FP.i2d x0)), (.int (0 : Int32)), (.ref b167)])
    refine Wk.st (g' := (mkF m 25 #[.val (.int i0), .val (.int i1), .val (.int i2), .val (.int i3), .val (.int i4), .val (.int (3 : Int32)), .val (.ref b167), .unset, .unset, .unset, .unset] [(.double (dv x0)), (.int (0 : Int32)), (.ref b167)])) (fun X t q => XS.ddivS X.here C.hx rfl (hb C.hby at_24) rfl (dv_nan r_x0) rfl q) ?_
    refine Wk.fStD C F171 (i := 0) (by decide) (by decide) (by decide) ge172 at_25 ?_
    intro h176 W177 F178
    have F179 : Exa Z h176 b167 "[D" := A170.wr W177
    have sz180 : n0 ≤ h176.size := Nat.le_trans sz174 (Nat.le_of_eq W177.size.symm)
    have sy181 : h0.size ≤ h176.size := Nat.le_trans sy175 (Nat.le_of_eq W177.size.symm)
    show Wk _ p l e _ s m _ below meth c n0 _ h176 1 4 (mkF m 26 #[.val (.int i0), .val (.int i1), .val (.int i2), .val (.int i3), .val (.int i4), .val (.int (3 : Int32)), .val (.ref b167), .unset, .unset, .unset, .unset] [])
    refine Wk.st (g' := (mkF m 28 #[.val (.int i0), .val (.int i1), .val (.int i2), .val (.int i3), .val (.int i4), .val (.int (3 : Int32)), .val (.ref b167), .unset, .unset, .unset, .unset] [(.ref b167)])) (fun X t q => XS.aload X.here C.hx rfl (hb C.hby at_26) rfl rfl q) ?_
    refine Wk.st (g' := (mkF m 29 #[.val (.int i0), .val (.int i1), .val (.int i2), .val (.int i3), .val (.int i4), .val (.int (3 : Int32)), .val (.ref b167), .unset, .unset, .unset, .unset] [(.int (1 : Int32)), (.ref b167)])) (fun X t q => XS.iconst X.here C.hx rfl (hb C.hby at_28) q) ?_
    refine Wk.st (g' := (mkF m 30 #[.val (.int i0), .val (.int i1), .val (.int i2), .val (.int i3), .val (.int i4), .val (.int (3 : Int32)), .val (.ref b167), .unset, .unset, .unset, .unset] [(.int i2), (.int (1 : Int32)), (.ref b167)])) (fun X t q => XS.iloadN X.here C.hx rfl (hb C.hby at_29) rfl q) ?_
    refine Wk.st (g' := (mkF m 32 #[.val (.int i0), .val (.int i1), .val (.int i2), .val (.int i3), .val (.int i4), .val (.int (3 : Int32)), .val (.ref b167), .unset, .unset, .unset, .unset] [(.int (7 : Int32)), (.int i2), (.int (1 : Int32)), (.ref b167)])) (fun X t q => XS.bipush X.here C.hx rfl (hb C.hby at_30) q) ?_
    refine Wk.st (g' := (mkF m 33 #[.val (.int i0), .val (.int i1), .val (.int i2), .val (.int i3), .val (.int i4), .val (.int (3 : Int32)), .val (.ref b167), .unset, .unset, .unset, .unset] [(.int (i2 &&& (7 : Int32))), (.int (1 : Int32)), (.ref b167)])) (fun X t q => XS.iand X.here C.hx rfl (hb C.hby at_32) rfl q) ?_
    obtain ⟨x1, hx1⟩ : ∃ z, z = (i2 &&& (7 : Int32)) := ⟨_, rfl⟩
    rw [← hx1]
    have r_x1 := and7 i2
    rw [← hx1] at r_x1
    show Wk _ p l e _ s m _ below meth c n0 _ h176 1 4 (mkF m 33 #[.val (.int i0), .val (.int i1), .val (.int i2), .val (.int i3), .val (.int i4), .val (.int (3 : Int32)), .val (.ref b167), .unset, .unset, .unset, .unset] [(.int x1), (.int (1 : Int32)), (.ref b167)])
    refine Wk.st (g' := (mkF m 34 #[.val (.int i0), .val (.int i1), .val (.int i2), .val (.int i3), .val (.int i4), .val (.int (3 : Int32)), .val (.ref b167), .unset, .unset, .unset, .unset] [(.double (FP.i2d x1)), (.int (1 : Int32)), (.ref b167)])) (fun X t q => XS.i2dS X.here C.hx rfl (hb C.hby at_33) rfl rfl q) ?_
    refine Wk.ldc2D C (hw _ (List.mem_of_getElem? (i := 2) rfl)) at_34 ?_
    show Wk _ p l e _ s m _ below meth c n0 _ h176 1 4 (mkF m 37 #[.val (.int i0), .val (.int i1), .val (.int i2), .val (.int i3), .val (.int i4), .val (.int (3 : Int32)), .val (.ref b167), .unset, .unset, .unset, .unset] [(.double (4620693217682128896 : UInt64)), (.double (FP.i2d x1)), (.int (1 : Int32)), (.ref b167)])
    refine Wk.st (g' := (mkF m 38 #[.val (.int i0), .val (.int i1), .val (.int i2), .val (.int i3), .val (.int i4), .val (.int (3 : Int32)), .val (.ref b167), .unset, .unset, .unset, .unset] [(.double (dv x1)), (.int (1 : Int32)), (.ref b167)])) (fun X t q => XS.ddivS X.here C.hx rfl (hb C.hby at_37) rfl (dv_nan r_x1) rfl q) ?_
    refine Wk.fStD C F178 (i := 1) (by decide) (by decide) (by decide) ge172 at_38 ?_
    intro h182 W183 F184
    have F185 : Exa Z h182 b167 "[D" := F179.wr W183
    have sz186 : n0 ≤ h182.size := Nat.le_trans sz180 (Nat.le_of_eq W183.size.symm)
    have sy187 : h0.size ≤ h182.size := Nat.le_trans sy181 (Nat.le_of_eq W183.size.symm)
    show Wk _ p l e _ s m _ below meth c n0 _ h182 1 4 (mkF m 39 #[.val (.int i0), .val (.int i1), .val (.int i2), .val (.int i3), .val (.int i4), .val (.int (3 : Int32)), .val (.ref b167), .unset, .unset, .unset, .unset] [])
    refine Wk.st (g' := (mkF m 41 #[.val (.int i0), .val (.int i1), .val (.int i2), .val (.int i3), .val (.int i4), .val (.int (3 : Int32)), .val (.ref b167), .unset, .unset, .unset, .unset] [(.ref b167)])) (fun X t q => XS.aload X.here C.hx rfl (hb C.hby at_39) rfl rfl q) ?_
    refine Wk.st (g' := (mkF m 42 #[.val (.int i0), .val (.int i1), .val (.int i2), .val (.int i3), .val (.int i4), .val (.int (3 : Int32)), .val (.ref b167), .unset, .unset, .unset, .unset] [(.int (2 : Int32)), (.ref b167)])) (fun X t q => XS.iconst X.here C.hx rfl (hb C.hby at_41) q) ?_
    refine Wk.st (g' := (mkF m 43 #[.val (.int i0), .val (.int i1), .val (.int i2), .val (.int i3), .val (.int i4), .val (.int (3 : Int32)), .val (.ref b167), .unset, .unset, .unset, .unset] [(.int i3), (.int (2 : Int32)), (.ref b167)])) (fun X t q => XS.iloadN X.here C.hx rfl (hb C.hby at_42) rfl q) ?_
    refine Wk.st (g' := (mkF m 45 #[.val (.int i0), .val (.int i1), .val (.int i2), .val (.int i3), .val (.int i4), .val (.int (3 : Int32)), .val (.ref b167), .unset, .unset, .unset, .unset] [(.int (7 : Int32)), (.int i3), (.int (2 : Int32)), (.ref b167)])) (fun X t q => XS.bipush X.here C.hx rfl (hb C.hby at_43) q) ?_
    refine Wk.st (g' := (mkF m 46 #[.val (.int i0), .val (.int i1), .val (.int i2), .val (.int i3), .val (.int i4), .val (.int (3 : Int32)), .val (.ref b167), .unset, .unset, .unset, .unset] [(.int (i3 &&& (7 : Int32))), (.int (2 : Int32)), (.ref b167)])) (fun X t q => XS.iand X.here C.hx rfl (hb C.hby at_45) rfl q) ?_
    obtain ⟨x2, hx2⟩ : ∃ z, z = (i3 &&& (7 : Int32)) := ⟨_, rfl⟩
    rw [← hx2]
    have r_x2 := and7 i3
    rw [← hx2] at r_x2
    show Wk _ p l e _ s m _ below meth c n0 _ h182 1 4 (mkF m 46 #[.val (.int i0), .val (.int i1), .val (.int i2), .val (.int i3), .val (.int i4), .val (.int (3 : Int32)), .val (.ref b167), .unset, .unset, .unset, .unset] [(.int x2), (.int (2 : Int32)), (.ref b167)])
    refine Wk.st (g' := (mkF m 47 #[.val (.int i0), .val (.int i1), .val (.int i2), .val (.int i3), .val (.int i4), .val (.int (3 : Int32)), .val (.ref b167), .unset, .unset, .unset, .unset] [(.double (FP.i2d x2)), (.int (2 : Int32)), (.ref b167)])) (fun X t q => XS.i2dS X.here C.hx rfl (hb C.hby at_46) rfl rfl q) ?_
    refine Wk.ldc2D C (hw _ (List.mem_of_getElem? (i := 2) rfl)) at_47 ?_
    show Wk _ p l e _ s m _ below meth c n0 _ h182 1 4 (mkF m 50 #[.val (.int i0), .val (.int i1), .val (.int i2), .val (.int i3), .val (.int i4), .val (.int (3 : Int32)), .val (.ref b167), .unset, .unset, .unset, .unset] [(.double (4620693217682128896 : UInt64)), (.double (FP.i2d x2)), (.int (2 : Int32)), (.ref b167)])
    refine Wk.st (g' := (mkF m 51 #[.val (.int i0), .val (.int i1), .val (.int i2), .val (.int i3), .val (.int i4), .val (.int (3 : Int32)), .val (.ref b167), .unset, .unset, .unset, .unset] [(.double (dv x2)), (.int (2 : Int32)), (.ref b167)])) (fun X t q => XS.ddivS X.here C.hx rfl (hb C.hby at_50) rfl (dv_nan r_x2) rfl q) ?_
    refine Wk.fStD C F184 (i := 2) (by decide) (by decide) (by decide) ge172 at_51 ?_
    intro h188 W189 F190
    have F191 : Exa Z h188 b167 "[D" := F185.wr W189
    have sz192 : n0 ≤ h188.size := Nat.le_trans sz186 (Nat.le_of_eq W189.size.symm)
    have sy193 : h0.size ≤ h188.size := Nat.le_trans sy187 (Nat.le_of_eq W189.size.symm)
    show Wk _ p l e _ s m _ below meth c n0 _ h188 1 4 (mkF m 52 #[.val (.int i0), .val (.int i1), .val (.int i2), .val (.int i3), .val (.int i4), .val (.int (3 : Int32)), .val (.ref b167), .unset, .unset, .unset, .unset] [])
    refine Wk.st (g' := (mkF m 54 #[.val (.int i0), .val (.int i1), .val (.int i2), .val (.int i3), .val (.int i4), .val (.int (3 : Int32)), .val (.ref b167), .unset, .unset, .unset, .unset] [(.ref b167)])) (fun X t q => XS.aload X.here C.hx rfl (hb C.hby at_52) rfl rfl q) ?_
    refine Wk.st (g' := (mkF m 55 #[.val (.int i0), .val (.int i1), .val (.int i2), .val (.int i3), .val (.int i4), .val (.int (3 : Int32)), .val (.ref b167), .unset, .unset, .unset, .unset] [(.int (3 : Int32)), (.ref b167)])) (fun X t q => XS.iconst X.here C.hx rfl (hb C.hby at_54) q) ?_
    refine Wk.st (g' := (mkF m 57 #[.val (.int i0), .val (.int i1), .val (.int i2), .val (.int i3), .val (.int i4), .val (.int (3 : Int32)), .val (.ref b167), .unset, .unset, .unset, .unset] [(.int i4), (.int (3 : Int32)), (.ref b167)])) (fun X t q => XS.iload X.here C.hx rfl (hb C.hby at_55) rfl q) ?_
    refine Wk.st (g' := (mkF m 59 #[.val (.int i0), .val (.int i1), .val (.int i2), .val (.int i3), .val (.int i4), .val (.int (3 : Int32)), .val (.ref b167), .unset, .unset, .unset, .unset] [(.int (7 : Int32)), (.int i4), (.int (3 : Int32)), (.ref b167)])) (fun X t q => XS.bipush X.here C.hx rfl (hb C.hby at_57) q) ?_
    refine Wk.st (g' := (mkF m 60 #[.val (.int i0), .val (.int i1), .val (.int i2), .val (.int i3), .val (.int i4), .val (.int (3 : Int32)), .val (.ref b167), .unset, .unset, .unset, .unset] [(.int (i4 &&& (7 : Int32))), (.int (3 : Int32)), (.ref b167)])) (fun X t q => XS.iand X.here C.hx rfl (hb C.hby at_59) rfl q) ?_
    obtain ⟨x3, hx3⟩ : ∃ z, z = (i4 &&& (7 : Int32)) := ⟨_, rfl⟩
    rw [← hx3]
    have r_x3 := and7 i4
    rw [← hx3] at r_x3
    show Wk _ p l e _ s m _ below meth c n0 _ h188 1 4 (mkF m 60 #[.val (.int i0), .val (.int i1), .val (.int i2), .val (.int i3), .val (.int i4), .val (.int (3 : Int32)), .val (.ref b167), .unset, .unset, .unset, .unset] [(.int x3), (.int (3 : Int32)), (.ref b167)])
    refine Wk.st (g' := (mkF m 61 #[.val (.int i0), .val (.int i1), .val (.int i2), .val (.int i3), .val (.int i4), .val (.int (3 : Int32)), .val (.ref b167), .unset, .unset, .unset, .unset] [(.double (FP.i2d x3)), (.int (3 : Int32)), (.ref b167)])) (fun X t q => XS.i2dS X.here C.hx rfl (hb C.hby at_60) rfl rfl q) ?_
    refine Wk.ldc2D C (hw _ (List.mem_of_getElem? (i := 2) rfl)) at_61 ?_
    show Wk _ p l e _ s m _ below meth c n0 _ h188 1 4 (mkF m 64 #[.val (.int i0), .val (.int i1), .val (.int i2), .val (.int i3), .val (.int i4), .val (.int (3 : Int32)), .val (.ref b167), .unset, .unset, .unset, .unset] [(.double (4620693217682128896 : UInt64)), (.double (FP.i2d x3)), (.int (3 : Int32)), (.ref b167)])
    refine Wk.st (g' := (mkF m 65 #[.val (.int i0), .val (.int i1), .val (.int i2), .val (.int i3), .val (.int i4), .val (.int (3 : Int32)), .val (.ref b167), .unset, .unset, .unset, .unset] [(.double (dv x3)), (.int (3 : Int32)), (.ref b167)])) (fun X t q => XS.ddivS X.here C.hx rfl (hb C.hby at_64) rfl (dv_nan r_x3) rfl q) ?_
    refine Wk.fStD C F190 (i := 3) (by decide) (by decide) (by decide) ge172 at_65 ?_
    intro h194 W195 F196
    have F197 : Exa Z h194 b167 "[D" := F191.wr W195
    have sz198 : n0 ≤ h194.size := Nat.le_trans sz192 (Nat.le_of_eq W195.size.symm)
    have sy199 : h0.size ≤ h194.size := Nat.le_trans sy193 (Nat.le_of_eq W195.size.symm)
    show Wk _ p l e _ s m _ below meth c n0 _ h194 1 4 (mkF m 66 #[.val (.int i0), .val (.int i1), .val (.int i2), .val (.int i3), .val (.int i4), .val (.int (3 : Int32)), .val (.ref b167), .unset, .unset, .unset, .unset] [])
    refine Wk.st (g' := (mkF m 68 #[.val (.int i0), .val (.int i1), .val (.int i2), .val (.int i3), .val (.int i4), .val (.int (3 : Int32)), .val (.ref b167), .unset, .unset, .unset, .unset] [(.int (3 : Int32))])) (fun X t q => XS.iload X.here C.hx rfl (hb C.hby at_66) rfl q) ?_
    refine Wk.fNewP C (hw _ (List.mem_of_getElem? (i := 1) rfl)) (ty := .double) (dv := (.double (0 : UInt64))) (N := 3) (ad := "[D") rfl rfl (by decide) (by decide) (by decide) (cap := 3) (by decide) (by decide) at_68 (by decide) (by decide) ?_
    intro h200 b201 g202 E203 A204 F205
    have ne206 : b167 ≠ b201 := Nat.ne_of_lt (Nat.lt_of_lt_of_le F197.lt (Nat.le_of_eq g202.symm))
    have ge207 : n0 ≤ b201 := Nat.le_trans sz198 (Nat.le_of_eq g202.symm)
    have gz208 : h0.size ≤ b201 := Nat.le_trans sy199 (Nat.le_of_eq g202.symm)
    have F209 : Exa Z h200 b167 "[D" := F197.ext E203
    have F210 : Fa Z h200 b167 .double 4 (up (up (up (up (fun _ => (.double (0 : UInt64))) 0 (.double (dv x0))) 1 (.double (dv x1))) 2 (.double (dv x2))) 3 (.double (dv x3))) := F196.ext E203
    have sz211 : n0 ≤ h200.size := Nat.le_trans sz198 E203.1
    have sy212 : h0.size ≤ h200.size := Nat.le_trans sy199 E203.1
    show Wk _ p l e _ s m _ below meth c n0 _ h200 2 7 (mkF m 70 #[.val (.int i0), .val (.int i1), .val (.int i2), .val (.int i3), .val (.int i4), .val (.int (3 : Int32)), .val (.ref b167), .unset, .unset, .unset, .unset] [(.ref b201)])
    refine Wk.st (g' := (mkF m 72 #[.val (.int i0), .val (.int i1), .val (.int i2), .val (.int i3), .val (.int i4), .val (.int (3 : Int32)), .val (.ref b167), .val (.ref b201), .unset, .unset, .unset] [])) (fun X t q => XS.astore X.here C.hx rfl (hb C.hby at_70) rfl rfl (l' := #[.val (.int i0), .val (.int i1), .val (.int i2), .val (.int i3), .val (.int i4), .val (.int (3 : Int32)), .val (.ref b167), .val (.ref b201), .unset, .unset, .unset]) rfl q) ?_
    refine Wk.st (g' := (mkF m 74 #[.val (.int i0), .val (.int i1), .val (.int i2), .val (.int i3), .val (.int i4), .val (.int (3 : Int32)), .val (.ref b167), .val (.ref b201), .unset, .unset, .unset] [(.int (3 : Int32))])) (fun X t q => XS.iload X.here C.hx rfl (hb C.hby at_72) rfl q) ?_
    refine Wk.st (g' := (mkF m 77 #[.val (.int i0), .val (.int i1), .val (.int i2), .val (.int i3), .val (.int i4), .val (.int (3 : Int32)), .val (.ref b167), .val (.ref b201), .unset, .unset, .unset] [])) (fun X t q => XS.ifNo X.here C.hx rfl (hb C.hby at_74) rfl (XT.i0_le_f (by decide)) q) ?_
    refine Wk.st (g' := (mkF m 79 #[.val (.int i0), .val (.int i1), .val (.int i2), .val (.int i3), .val (.int i4), .val (.int (3 : Int32)), .val (.ref b167), .val (.ref b201), .unset, .unset, .unset] [(.ref b201)])) (fun X t q => XS.aload X.here C.hx rfl (hb C.hby at_77) rfl rfl q) ?_
    refine Wk.st (g' := (mkF m 80 #[.val (.int i0), .val (.int i1), .val (.int i2), .val (.int i3), .val (.int i4), .val (.int (3 : Int32)), .val (.ref b167), .val (.ref b201), .unset, .unset, .unset] [(.int (0 : Int32)), (.ref b201)])) (fun X t q => XS.iconst X.here C.hx rfl (hb C.hby at_79) q) ?_
    refine Wk.st (g' := (mkF m 82 #[.val (.int i0), .val (.int i1), .val (.int i2), .val (.int i3), .val (.int i4), .val (.int (3 : Int32)), .val (.ref b167), .val (.ref b201), .unset, .unset, .unset] [(.ref b167), (.int (0 : Int32)), (.ref b201)])) (fun X t q => XS.aload X.here C.hx rfl (hb C.hby at_80) rfl rfl q) ?_
    refine Wk.st (g' := (mkF m 83 #[.val (.int i0), .val (.int i1), .val (.int i2), .val (.int i3), .val (.int i4), .val (.int (3 : Int32)), .val (.ref b167), .val (.ref b201), .unset, .unset, .unset] [(.int (0 : Int32)), (.ref b167), (.int (0 : Int32)), (.ref b201)])) (fun X t q => XS.iconst X.here C.hx rfl (hb C.hby at_82) q) ?_
    refine Wk.fLdD C F210 (i := 0) (by decide) (by decide) (by decide) (v := (.double (dv x0))) (by simp [up]) at_83 ?_
    show Wk _ p l e _ s m _ below meth c n0 _ h200 2 7 (mkF m 84 #[.val (.int i0), .val (.int i1), .val (.int i2), .val (.int i3), .val (.int i4), .val (.int (3 : Int32)), .val (.ref b167), .val (.ref b201), .unset, .unset, .unset] [(.double (dv x0)), (.int (0 : Int32)), (.ref b201)])
    refine Wk.fStD C F205 (i := 0) (by decide) (by decide) (by decide) ge207 at_84 ?_
    intro h213 W214 F215
    have F216 : Exa Z h213 b167 "[D" := F209.wr W214
    have F217 : Fa Z h213 b167 .double 4 (up (up (up (up (fun _ => (.double (0 : UInt64))) 0 (.double (dv x0))) 1 (.double (dv x1))) 2 (.double (dv x2))) 3 (.double (dv x3))) := F210.other W214 ne206
    have F218 : Exa Z h213 b201 "[D" := A204.wr W214
    have sz219 : n0 ≤ h213.size := Nat.le_trans sz211 (Nat.le_of_eq W214.size.symm)
    have sy220 : h0.size ≤ h213.size := Nat.le_trans sy212 (Nat.le_of_eq W214.size.symm)
    show Wk _ p l e _ s m _ below meth c n0 _ h213 2 7 (mkF m 85 #[.val (.int i0), .val (.int i1), .val (.int i2), .val (.int i3), .val (.int i4), .val (.int (3 : Int32)), .val (.ref b167), .val (.ref b201), .unset, .unset, .unset] [])
    refine Wk.st (g' := (mkF m 87 #[.val (.int i0), .val (.int i1), .val (.int i2), .val (.int i3), .val (.int i4), .val (.int (3 : Int32)), .val (.ref b167), .val (.ref b201), .unset, .unset, .unset] [(.int (3 : Int32))])) (fun X t q => XS.iload X.here C.hx rfl (hb C.hby at_85) rfl q) ?_
    refine Wk.st (g' := (mkF m 88 #[.val (.int i0), .val (.int i1), .val (.int i2), .val (.int i3), .val (.int i4), .val (.int (3 : Int32)), .val (.ref b167), .val (.ref b201), .unset, .unset, .unset] [(.int (1 : Int32)), (.int (3 : Int32))])) (fun X t q => XS.iconst X.here C.hx rfl (hb C.hby at_87) q) ?_
    refine Wk.st (g' := (mkF m 91 #[.val (.int i0), .val (.int i1), .val (.int i2), .val (.int i3), .val (.int i4), .val (.int (3 : Int32)), .val (.ref b167), .val (.ref b201), .unset, .unset, .unset] [])) (fun X t q => XS.icmpNo X.here C.hx rfl (hb C.hby at_88) rfl (XT.ii_le_f (by decide)) q) ?_
    refine Wk.st (g' := (mkF m 93 #[.val (.int i0), .val (.int i1), .val (.int i2), .val (.int i3), .val (.int i4), .val (.int (3 : Int32)), .val (.ref b167), .val (.ref b201), .unset, .unset, .unset] [(.ref b201)])) (fun X t q => XS.aload X.here C.hx rfl (hb C.hby at_91) rfl rfl q) ?_
    refine Wk.st (g' := (mkF m 94 #[.val (.int i0), .val (.int i1), .val (.int i2), .val (.int i3), .val (.int i4), .val (.int (3 : Int32)), .val (.ref b167), .val (.ref b201), .unset, .unset, .unset] [(.int (1 : Int32)), (.ref b201)])) (fun X t q => XS.iconst X.here C.hx rfl (hb C.hby at_93) q) ?_
    refine Wk.st (g' := (mkF m 96 #[.val (.int i0), .val (.int i1), .val (.int i2), .val (.int i3), .val (.int i4), .val (.int (3 : Int32)), .val (.ref b167), .val (.ref b201), .unset, .unset, .unset] [(.ref b167), (.int (1 : Int32)), (.ref b201)])) (fun X t q => XS.aload X.here C.hx rfl (hb C.hby at_94) rfl rfl q) ?_
    refine Wk.st (g' := (mkF m 97 #[.val (.int i0), .val (.int i1), .val (.int i2), .val (.int i3), .val (.int i4), .val (.int (3 : Int32)), .val (.ref b167), .val (.ref b201), .unset, .unset, .unset] [(.int (1 : Int32)), (.ref b167), (.int (1 : Int32)), (.ref b201)])) (fun X t q => XS.iconst X.here C.hx rfl (hb C.hby at_96) q) ?_
    refine Wk.fLdD C F217 (i := 1) (by decide) (by decide) (by decide) (v := (.double (dv x1))) (by simp [up]) at_97 ?_
    show Wk _ p l e _ s m _ below meth c n0 _ h213 2 7 (mkF m 98 #[.val (.int i0), .val (.int i1), .val (.int i2), .val (.int i3), .val (.int i4), .val (.int (3 : Int32)), .val (.ref b167), .val (.ref b201), .unset, .unset, .unset] [(.double (dv x1)), (.int (1 : Int32)), (.ref b201)])
    refine Wk.fStD C F215 (i := 1) (by decide) (by decide) (by decide) ge207 at_98 ?_
    intro h221 W222 F223
    have F224 : Exa Z h221 b167 "[D" := F216.wr W222
    have F225 : Fa Z h221 b167 .double 4 (up (up (up (up (fun _ => (.double (0 : UInt64))) 0 (.double (dv x0))) 1 (.double (dv x1))) 2 (.double (dv x2))) 3 (.double (dv x3))) := F217.other W222 ne206
    have F226 : Exa Z h221 b201 "[D" := F218.wr W222
    have sz227 : n0 ≤ h221.size := Nat.le_trans sz219 (Nat.le_of_eq W222.size.symm)
    have sy228 : h0.size ≤ h221.size := Nat.le_trans sy220 (Nat.le_of_eq W222.size.symm)
    show Wk _ p l e _ s m _ below meth c n0 _ h221 2 7 (mkF m 99 #[.val (.int i0), .val (.int i1), .val (.int i2), .val (.int i3), .val (.int i4), .val (.int (3 : Int32)), .val (.ref b167), .val (.ref b201), .unset, .unset, .unset] [])
    refine Wk.st (g' := (mkF m 101 #[.val (.int i0), .val (.int i1), .val (.int i2), .val (.int i3), .val (.int i4), .val (.int (3 : Int32)), .val (.ref b167), .val (.ref b201), .unset, .unset, .unset] [(.int (3 : Int32))])) (fun X t q => XS.iload X.here C.hx rfl (hb C.hby at_99) rfl q) ?_
    refine Wk.st (g' := (mkF m 102 #[.val (.int i0), .val (.int i1), .val (.int i2), .val (.int i3), .val (.int i4), .val (.int (3 : Int32)), .val (.ref b167), .val (.ref b201), .unset, .unset, .unset] [(.int (2 : Int32)), (.int (3 : Int32))])) (fun X t q => XS.iconst X.here C.hx rfl (hb C.hby at_101) q) ?_
    refine Wk.st (g' := (mkF m 105 #[.val (.int i0), .val (.int i1), .val (.int i2), .val (.int i3), .val (.int i4), .val (.int (3 : Int32)), .val (.ref b167), .val (.ref b201), .unset, .unset, .unset] [])) (fun X t q => XS.icmpNo X.here C.hx rfl (hb C.hby at_102) rfl (XT.ii_le_f (by decide)) q) ?_
    refine Wk.st (g' := (mkF m 107 #[.val (.int i0), .val (.int i1), .val (.int i2), .val (.int i3), .val (.int i4), .val (.int (3 : Int32)), .val (.ref b167), .val (.ref b201), .unset, .unset, .unset] [(.ref b201)])) (fun X t q => XS.aload X.here C.hx rfl (hb C.hby at_105) rfl rfl q) ?_
    refine Wk.st (g' := (mkF m 108 #[.val (.int i0), .val (.int i1), .val (.int i2), .val (.int i3), .val (.int i4), .val (.int (3 : Int32)), .val (.ref b167), .val (.ref b201), .unset, .unset, .unset] [(.int (2 : Int32)), (.ref b201)])) (fun X t q => XS.iconst X.here C.hx rfl (hb C.hby at_107) q) ?_
    refine Wk.st (g' := (mkF m 110 #[.val (.int i0), .val (.int i1), .val (.int i2), .val (.int i3), .val (.int i4), .val (.int (3 : Int32)), .val (.ref b167), .val (.ref b201), .unset, .unset, .unset] [(.ref b167), (.int (2 : Int32)), (.ref b201)])) (fun X t q => XS.aload X.here C.hx rfl (hb C.hby at_108) rfl rfl q) ?_
    refine Wk.st (g' := (mkF m 111 #[.val (.int i0), .val (.int i1), .val (.int i2), .val (.int i3), .val (.int i4), .val (.int (3 : Int32)), .val (.ref b167), .val (.ref b201), .unset, .unset, .unset] [(.int (2 : Int32)), (.ref b167), (.int (2 : Int32)), (.ref b201)])) (fun X t q => XS.iconst X.here C.hx rfl (hb C.hby at_110) q) ?_
    refine Wk.fLdD C F225 (i := 2) (by decide) (by decide) (by decide) (v := (.double (dv x2))) (by simp [up]) at_111 ?_
    show Wk _ p l e _ s m _ below meth c n0 _ h221 2 7 (mkF m 112 #[.val (.int i0), .val (.int i1), .val (.int i2), .val (.int i3), .val (.int i4), .val (.int (3 : Int32)), .val (.ref b167), .val (.ref b201), .unset, .unset, .unset] [(.double (dv x2)), (.int (2 : Int32)), (.ref b201)])
    refine Wk.fStD C F223 (i := 2) (by decide) (by decide) (by decide) ge207 at_112 ?_
    intro h229 W230 F231
    have F232 : Exa Z h229 b167 "[D" := F224.wr W230
    have F233 : Fa Z h229 b167 .double 4 (up (up (up (up (fun _ => (.double (0 : UInt64))) 0 (.double (dv x0))) 1 (.double (dv x1))) 2 (.double (dv x2))) 3 (.double (dv x3))) := F225.other W230 ne206
    have F234 : Exa Z h229 b201 "[D" := F226.wr W230
    have sz235 : n0 ≤ h229.size := Nat.le_trans sz227 (Nat.le_of_eq W230.size.symm)
    have sy236 : h0.size ≤ h229.size := Nat.le_trans sy228 (Nat.le_of_eq W230.size.symm)
    show Wk _ p l e _ s m _ below meth c n0 _ h229 2 7 (mkF m 113 #[.val (.int i0), .val (.int i1), .val (.int i2), .val (.int i3), .val (.int i4), .val (.int (3 : Int32)), .val (.ref b167), .val (.ref b201), .unset, .unset, .unset] [])
    refine Wk.st (g' := (mkF m 115 #[.val (.int i0), .val (.int i1), .val (.int i2), .val (.int i3), .val (.int i4), .val (.int (3 : Int32)), .val (.ref b167), .val (.ref b201), .unset, .unset, .unset] [(.int (3 : Int32))])) (fun X t q => XS.iload X.here C.hx rfl (hb C.hby at_113) rfl q) ?_
    refine Wk.st (g' := (mkF m 116 #[.val (.int i0), .val (.int i1), .val (.int i2), .val (.int i3), .val (.int i4), .val (.int (3 : Int32)), .val (.ref b167), .val (.ref b201), .unset, .unset, .unset] [(.int (3 : Int32)), (.int (3 : Int32))])) (fun X t q => XS.iconst X.here C.hx rfl (hb C.hby at_115) q) ?_
    refine Wk.st (g' := (mkF m 127 #[.val (.int i0), .val (.int i1), .val (.int i2), .val (.int i3), .val (.int i4), .val (.int (3 : Int32)), .val (.ref b167), .val (.ref b201), .unset, .unset, .unset] [])) (fun X t q => XS.icmpYes X.here C.hx rfl (pc0 := 116) (pc' := 127) rfl (hb C.hby at_116) rfl (XT.ii_le_t (by decide)) (by decide) (by decide) q) ?_
    refine Wk.st (g' := (mkF m 129 #[.val (.int i0), .val (.int i1), .val (.int i2), .val (.int i3), .val (.int i4), .val (.int (3 : Int32)), .val (.ref b167), .val (.ref b201), .unset, .unset, .unset] [(.ref b201)])) (fun X t q => XS.aload X.here C.hx rfl (hb C.hby at_127) rfl rfl q) ?_
    refine Wk.callS C (z := (⟨"com/example/understory/understory/Classifier", "mostProbable", "([D)I"⟩ : MethodName)) (hw _ (List.mem_of_getElem? (i := 3) rfl)) (hw _ (List.mem_of_getElem? (i := 4) rfl)) (hw _ (List.mem_of_getElem? (i := 5) rfl)) (hw _ (List.mem_of_getElem? (i := 6) rfl)) (by decide) (own_mp3 l Z a0 hw n0 h229 b201 x0 x1 x2 x3 r_x0 r_x1 r_x2 r_x3 F231) (w := 0) (by decide) (by decide) pd_0 rfl (rest := []) rfl rfl (Nat.le_of_eq rfl) (by decide) (by decide) at_129 ?_
    rintro _ _ ⟨⟨rfl, e0, e1⟩ | ⟨rfl, e0, e1⟩ | ⟨rfl, e0, e1⟩, rfl⟩
    · skip
      show Wk _ p l e _ s m _ below meth c n0 _ h229 2 7 (mkF m 132 #[.val (.int i0), .val (.int i1), .val (.int i2), .val (.int i3), .val (.int i4), .val (.int (3 : Int32)), .val (.ref b167), .val (.ref b201), .unset, .unset, .unset] [(.int (0 : Int32))])
      refine Wk.st (g' := (mkF m 134 #[.val (.int i0), .val (.int i1), .val (.int i2), .val (.int i3), .val (.int i4), .val (.int (3 : Int32)), .val (.ref b167), .val (.ref b201), .val (.int (0 : Int32)), .unset, .unset] [])) (fun X t q => XS.istore X.here C.hx rfl (hb C.hby at_132) rfl (l' := #[.val (.int i0), .val (.int i1), .val (.int i2), .val (.int i3), .val (.int i4), .val (.int (3 : Int32)), .val (.ref b167), .val (.ref b201), .val (.int (0 : Int32)), .unset, .unset]) rfl q) ?_
      refine Wk.st (g' := (mkF m 136 #[.val (.int i0), .val (.int i1), .val (.int i2), .val (.int i3), .val (.int i4), .val (.int (3 : Int32)), .val (.ref b167), .val (.ref b201), .val (.int (0 : Int32)), .unset, .unset] [(.int (3 : Int32))])) (fun X t q => XS.iload X.here C.hx rfl (hb C.hby at_134) rfl q) ?_
      refine Wk.st (g' := (mkF m 150 #[.val (.int i0), .val (.int i1), .val (.int i2), .val (.int i3), .val (.int i4), .val (.int (3 : Int32)), .val (.ref b167), .val (.ref b201), .val (.int (0 : Int32)), .unset, .unset] [])) (fun X t q => XS.ifYes X.here C.hx rfl (pc0 := 136) (pc' := 150) rfl (hb C.hby at_136) rfl (XT.i0_ne_t (by decide)) (by decide) (by decide) q) ?_
      refine Wk.st (g' := (mkF m 152 #[.val (.int i0), .val (.int i1), .val (.int i2), .val (.int i3), .val (.int i4), .val (.int (3 : Int32)), .val (.ref b167), .val (.ref b201), .val (.int (0 : Int32)), .unset, .unset] [(.int (0 : Int32))])) (fun X t q => XS.iload X.here C.hx rfl (hb C.hby at_150) rfl q) ?_
      refine Wk.st (g' := (mkF m 155 #[.val (.int i0), .val (.int i1), .val (.int i2), .val (.int i3), .val (.int i4), .val (.int (3 : Int32)), .val (.ref b167), .val (.ref b201), .val (.int (0 : Int32)), .unset, .unset] [])) (fun X t q => XS.ifNo X.here C.hx rfl (hb C.hby at_152) rfl (XT.i0_lt_f (by decide)) q) ?_
      refine Wk.st (g' := (mkF m 157 #[.val (.int i0), .val (.int i1), .val (.int i2), .val (.int i3), .val (.int i4), .val (.int (3 : Int32)), .val (.ref b167), .val (.ref b201), .val (.int (0 : Int32)), .unset, .unset] [(.int (0 : Int32))])) (fun X t q => XS.iload X.here C.hx rfl (hb C.hby at_155) rfl q) ?_
      refine Wk.st (g' := (mkF m 159 #[.val (.int i0), .val (.int i1), .val (.int i2), .val (.int i3), .val (.int i4), .val (.int (3 : Int32)), .val (.ref b167), .val (.ref b201), .val (.int (0 : Int32)), .unset, .unset] [(.int (3 : Int32)), (.int (0 : Int32))])) (fun X t q => XS.iload X.here C.hx rfl (hb C.hby at_157) rfl q) ?_
      refine Wk.st (g' := (mkF m 164 #[.val (.int i0), .val (.int i1), .val (.int i2), .val (.int i3), .val (.int i4), .val (.int (3 : Int32)), .val (.ref b167), .val (.ref b201), .val (.int (0 : Int32)), .unset, .unset] [])) (fun X t q => XS.icmpYes X.here C.hx rfl (pc0 := 159) (pc' := 164) rfl (hb C.hby at_159) rfl (XT.ii_lt_t (by decide)) (by decide) (by decide) q) ?_
      refine Wk.st (g' := (mkF m 166 #[.val (.int i0), .val (.int i1), .val (.int i2), .val (.int i3), .val (.int i4), .val (.int (3 : Int32)), .val (.ref b167), .val (.ref b201), .val (.int (0 : Int32)), .unset, .unset] [(.ref b167)])) (fun X t q => XS.aload X.here C.hx rfl (hb C.hby at_164) rfl rfl q) ?_
      refine Wk.st (g' := (mkF m 168 #[.val (.int i0), .val (.int i1), .val (.int i2), .val (.int i3), .val (.int i4), .val (.int (3 : Int32)), .val (.ref b167), .val (.ref b201), .val (.int (0 : Int32)), .unset, .unset] [(.int (0 : Int32)), (.ref b167)])) (fun X t q => XS.iload X.here C.hx rfl (hb C.hby at_166) rfl q) ?_
      refine Wk.fLdD C F233 (i := 0) (by decide) (by decide) (by decide) (v := (.double (dv x0))) (by simp [up]) at_168 ?_
      show Wk _ p l e _ s m _ below meth c n0 _ h229 2 7 (mkF m 169 #[.val (.int i0), .val (.int i1), .val (.int i2), .val (.int i3), .val (.int i4), .val (.int (3 : Int32)), .val (.ref b167), .val (.ref b201), .val (.int (0 : Int32)), .unset, .unset] [(.double (dv x0))])
      refine Wk.st (g' := (mkF m 171 #[.val (.int i0), .val (.int i1), .val (.int i2), .val (.int i3), .val (.int i4), .val (.int (3 : Int32)), .val (.ref b167), .val (.ref b201), .val (.int (0 : Int32)), .val (.double (dv x0)), .second] [])) (fun X t q => XS.dstore X.here C.hx rfl (hb C.hby at_169) rfl (l' := #[.val (.int i0), .val (.int i1), .val (.int i2), .val (.int i3), .val (.int i4), .val (.int (3 : Int32)), .val (.ref b167), .val (.ref b201), .val (.int (0 : Int32)), .val (.double (dv x0)), .second]) rfl q) ?_
      refine Wk.st (g' := (mkF m 173 #[.val (.int i0), .val (.int i1), .val (.int i2), .val (.int i3), .val (.int i4), .val (.int (3 : Int32)), .val (.ref b167), .val (.ref b201), .val (.int (0 : Int32)), .val (.double (dv x0)), .second] [(.ref b167)])) (fun X t q => XS.aload X.here C.hx rfl (hb C.hby at_171) rfl rfl q) ?_
      refine Wk.st (g' := (mkF m 175 #[.val (.int i0), .val (.int i1), .val (.int i2), .val (.int i3), .val (.int i4), .val (.int (3 : Int32)), .val (.ref b167), .val (.ref b201), .val (.int (0 : Int32)), .val (.double (dv x0)), .second] [(.int (3 : Int32)), (.ref b167)])) (fun X t q => XS.iload X.here C.hx rfl (hb C.hby at_173) rfl q) ?_
      refine Wk.st (g' := (mkF m 177 #[.val (.int i0), .val (.int i1), .val (.int i2), .val (.int i3), .val (.int i4), .val (.int (3 : Int32)), .val (.ref b167), .val (.ref b201), .val (.int (0 : Int32)), .val (.double (dv x0)), .second] [(.int (0 : Int32)), (.int (3 : Int32)), (.ref b167)])) (fun X t q => XS.iload X.here C.hx rfl (hb C.hby at_175) rfl q) ?_
      refine Wk.st (g' := (mkF m 178 #[.val (.int i0), .val (.int i1), .val (.int i2), .val (.int i3), .val (.int i4), .val (.int (3 : Int32)), .val (.ref b167), .val (.ref b201), .val (.int (0 : Int32)), .val (.double (dv x0)), .second] [(.int (0 : Int32)), (.int (0 : Int32)), (.int (3 : Int32)), (.ref b167)])) (fun X t q => XS.iconst X.here C.hx rfl (hb C.hby at_177) q) ?_
      refine Wk.st (g' := (mkF m 180 #[.val (.int i0), .val (.int i1), .val (.int i2), .val (.int i3), .val (.int i4), .val (.int (3 : Int32)), .val (.ref b167), .val (.ref b201), .val (.int (0 : Int32)), .val (.double (dv x0)), .second] [(.double (dv x0)), (.int (0 : Int32)), (.int (0 : Int32)), (.int (3 : Int32)), (.ref b167)])) (fun X t q => XS.dload X.here C.hx rfl (hb C.hby at_178) rfl q) ?_
      refine Wk.callS C (z := (⟨"com/example/understory/understory/ClassifierMostProbablePinLaw", "ok", "([DIIID)Z"⟩ : MethodName)) (hw _ (List.mem_of_getElem? (i := 7) rfl)) (hw _ (List.mem_of_getElem? (i := 8) rfl)) (hw _ (List.mem_of_getElem? (i := 9) rfl)) (hw _ (List.mem_of_getElem? (i := 10) rfl)) (by decide) (own_ok_3_0_0 l Z a0 hw n0 h229 b167 x0 x1 x2 x3 r_x0 r_x1 r_x2 r_x3 F233 (by omega)) (w := 0) (by decide) (by decide) pd_1 rfl (rest := []) rfl rfl (Nat.le_of_eq rfl) (by decide) (by decide) at_180 ?_
      rintro _ _ ⟨rfl, rfl⟩
      show Wk _ p l e _ s m _ below meth c n0 _ h229 2 7 (mkF m 183 #[.val (.int i0), .val (.int i1), .val (.int i2), .val (.int i3), .val (.int i4), .val (.int (3 : Int32)), .val (.ref b167), .val (.ref b201), .val (.int (0 : Int32)), .val (.double (dv x0)), .second] [(.int (1 : Int32))])
      refine Wk.st (g' := (mkF m 186 #[.val (.int i0), .val (.int i1), .val (.int i2), .val (.int i3), .val (.int i4), .val (.int (3 : Int32)), .val (.ref b167), .val (.ref b201), .val (.int (0 : Int32)), .val (.double (dv x0)), .second] [])) (fun X t q => XS.ifNo X.here C.hx rfl (hb C.hby at_183) rfl (XT.i0_eq_f (by decide)) q) ?_
      refine Wk.st (g' := (mkF m 188 #[.val (.int i0), .val (.int i1), .val (.int i2), .val (.int i3), .val (.int i4), .val (.int (3 : Int32)), .val (.ref b167), .val (.ref b201), .val (.int (0 : Int32)), .val (.double (dv x0)), .second] [(.ref b167)])) (fun X t q => XS.aload X.here C.hx rfl (hb C.hby at_186) rfl rfl q) ?_
      refine Wk.st (g' := (mkF m 190 #[.val (.int i0), .val (.int i1), .val (.int i2), .val (.int i3), .val (.int i4), .val (.int (3 : Int32)), .val (.ref b167), .val (.ref b201), .val (.int (0 : Int32)), .val (.double (dv x0)), .second] [(.int (3 : Int32)), (.ref b167)])) (fun X t q => XS.iload X.here C.hx rfl (hb C.hby at_188) rfl q) ?_
      refine Wk.st (g' := (mkF m 192 #[.val (.int i0), .val (.int i1), .val (.int i2), .val (.int i3), .val (.int i4), .val (.int (3 : Int32)), .val (.ref b167), .val (.ref b201), .val (.int (0 : Int32)), .val (.double (dv x0)), .second] [(.int (0 : Int32)), (.int (3 : Int32)), (.ref b167)])) (fun X t q => XS.iload X.here C.hx rfl (hb C.hby at_190) rfl q) ?_
      refine Wk.st (g' := (mkF m 193 #[.val (.int i0), .val (.int i1), .val (.int i2), .val (.int i3), .val (.int i4), .val (.int (3 : Int32)), .val (.ref b167), .val (.ref b201), .val (.int (0 : Int32)), .val (.double (dv x0)), .second] [(.int (1 : Int32)), (.int (0 : Int32)), (.int (3 : Int32)), (.ref b167)])) (fun X t q => XS.iconst X.here C.hx rfl (hb C.hby at_192) q) ?_
      refine Wk.st (g' := (mkF m 195 #[.val (.int i0), .val (.int i1), .val (.int i2), .val (.int i3), .val (.int i4), .val (.int (3 : Int32)), .val (.ref b167), .val (.ref b201), .val (.int (0 : Int32)), .val (.double (dv x0)), .second] [(.double (dv x0)), (.int (1 : Int32)), (.int (0 : Int32)), (.int (3 : Int32)), (.ref b167)])) (fun X t q => XS.dload X.here C.hx rfl (hb C.hby at_193) rfl q) ?_
      refine Wk.callS C (z := (⟨"com/example/understory/understory/ClassifierMostProbablePinLaw", "ok", "([DIIID)Z"⟩ : MethodName)) (hw _ (List.mem_of_getElem? (i := 7) rfl)) (hw _ (List.mem_of_getElem? (i := 8) rfl)) (hw _ (List.mem_of_getElem? (i := 9) rfl)) (hw _ (List.mem_of_getElem? (i := 10) rfl)) (by decide) (own_ok_3_0_1 l Z a0 hw n0 h229 b167 x0 x1 x2 x3 r_x0 r_x1 r_x2 r_x3 F233 (by omega)) (w := 0) (by decide) (by decide) pd_1 rfl (rest := []) rfl rfl (Nat.le_of_eq rfl) (by decide) (by decide) at_195 ?_
      rintro _ _ ⟨rfl, rfl⟩
      show Wk _ p l e _ s m _ below meth c n0 _ h229 2 7 (mkF m 198 #[.val (.int i0), .val (.int i1), .val (.int i2), .val (.int i3), .val (.int i4), .val (.int (3 : Int32)), .val (.ref b167), .val (.ref b201), .val (.int (0 : Int32)), .val (.double (dv x0)), .second] [(.int (1 : Int32))])
      refine Wk.st (g' := (mkF m 201 #[.val (.int i0), .val (.int i1), .val (.int i2), .val (.int i3), .val (.int i4), .val (.int (3 : Int32)), .val (.ref b167), .val (.ref b201), .val (.int (0 : Int32)), .val (.double (dv x0)), .second] [])) (fun X t q => XS.ifNo X.here C.hx rfl (hb C.hby at_198) rfl (XT.i0_eq_f (by decide)) q) ?_
      refine Wk.st (g' := (mkF m 203 #[.val (.int i0), .val (.int i1), .val (.int i2), .val (.int i3), .val (.int i4), .val (.int (3 : Int32)), .val (.ref b167), .val (.ref b201), .val (.int (0 : Int32)), .val (.double (dv x0)), .second] [(.ref b167)])) (fun X t q => XS.aload X.here C.hx rfl (hb C.hby at_201) rfl rfl q) ?_
      refine Wk.st (g' := (mkF m 205 #[.val (.int i0), .val (.int i1), .val (.int i2), .val (.int i3), .val (.int i4), .val (.int (3 : Int32)), .val (.ref b167), .val (.ref b201), .val (.int (0 : Int32)), .val (.double (dv x0)), .second] [(.int (3 : Int32)), (.ref b167)])) (fun X t q => XS.iload X.here C.hx rfl (hb C.hby at_203) rfl q) ?_
      refine Wk.st (g' := (mkF m 207 #[.val (.int i0), .val (.int i1), .val (.int i2), .val (.int i3), .val (.int i4), .val (.int (3 : Int32)), .val (.ref b167), .val (.ref b201), .val (.int (0 : Int32)), .val (.double (dv x0)), .second] [(.int (0 : Int32)), (.int (3 : Int32)), (.ref b167)])) (fun X t q => XS.iload X.here C.hx rfl (hb C.hby at_205) rfl q) ?_
      refine Wk.st (g' := (mkF m 208 #[.val (.int i0), .val (.int i1), .val (.int i2), .val (.int i3), .val (.int i4), .val (.int (3 : Int32)), .val (.ref b167), .val (.ref b201), .val (.int (0 : Int32)), .val (.double (dv x0)), .second] [(.int (2 : Int32)), (.int (0 : Int32)), (.int (3 : Int32)), (.ref b167)])) (fun X t q => XS.iconst X.here C.hx rfl (hb C.hby at_207) q) ?_
      refine Wk.st (g' := (mkF m 210 #[.val (.int i0), .val (.int i1), .val (.int i2), .val (.int i3), .val (.int i4), .val (.int (3 : Int32)), .val (.ref b167), .val (.ref b201), .val (.int (0 : Int32)), .val (.double (dv x0)), .second] [(.double (dv x0)), (.int (2 : Int32)), (.int (0 : Int32)), (.int (3 : Int32)), (.ref b167)])) (fun X t q => XS.dload X.here C.hx rfl (hb C.hby at_208) rfl q) ?_
      refine Wk.callS C (z := (⟨"com/example/understory/understory/ClassifierMostProbablePinLaw", "ok", "([DIIID)Z"⟩ : MethodName)) (hw _ (List.mem_of_getElem? (i := 7) rfl)) (hw _ (List.mem_of_getElem? (i := 8) rfl)) (hw _ (List.mem_of_getElem? (i := 9) rfl)) (hw _ (List.mem_of_getElem? (i := 10) rfl)) (by decide) (own_ok_3_0_2 l Z a0 hw n0 h229 b167 x0 x1 x2 x3 r_x0 r_x1 r_x2 r_x3 F233 (by omega)) (w := 0) (by decide) (by decide) pd_1 rfl (rest := []) rfl rfl (Nat.le_of_eq rfl) (by decide) (by decide) at_210 ?_
      rintro _ _ ⟨rfl, rfl⟩
      show Wk _ p l e _ s m _ below meth c n0 _ h229 2 7 (mkF m 213 #[.val (.int i0), .val (.int i1), .val (.int i2), .val (.int i3), .val (.int i4), .val (.int (3 : Int32)), .val (.ref b167), .val (.ref b201), .val (.int (0 : Int32)), .val (.double (dv x0)), .second] [(.int (1 : Int32))])
      refine Wk.st (g' := (mkF m 216 #[.val (.int i0), .val (.int i1), .val (.int i2), .val (.int i3), .val (.int i4), .val (.int (3 : Int32)), .val (.ref b167), .val (.ref b201), .val (.int (0 : Int32)), .val (.double (dv x0)), .second] [])) (fun X t q => XS.ifNo X.here C.hx rfl (hb C.hby at_213) rfl (XT.i0_eq_f (by decide)) q) ?_
      refine Wk.st (g' := (mkF m 218 #[.val (.int i0), .val (.int i1), .val (.int i2), .val (.int i3), .val (.int i4), .val (.int (3 : Int32)), .val (.ref b167), .val (.ref b201), .val (.int (0 : Int32)), .val (.double (dv x0)), .second] [(.ref b167)])) (fun X t q => XS.aload X.here C.hx rfl (hb C.hby at_216) rfl rfl q) ?_
      refine Wk.st (g' := (mkF m 220 #[.val (.int i0), .val (.int i1), .val (.int i2), .val (.int i3), .val (.int i4), .val (.int (3 : Int32)), .val (.ref b167), .val (.ref b201), .val (.int (0 : Int32)), .val (.double (dv x0)), .second] [(.int (3 : Int32)), (.ref b167)])) (fun X t q => XS.iload X.here C.hx rfl (hb C.hby at_218) rfl q) ?_
      refine Wk.st (g' := (mkF m 222 #[.val (.int i0), .val (.int i1), .val (.int i2), .val (.int i3), .val (.int i4), .val (.int (3 : Int32)), .val (.ref b167), .val (.ref b201), .val (.int (0 : Int32)), .val (.double (dv x0)), .second] [(.int (0 : Int32)), (.int (3 : Int32)), (.ref b167)])) (fun X t q => XS.iload X.here C.hx rfl (hb C.hby at_220) rfl q) ?_
      refine Wk.st (g' := (mkF m 223 #[.val (.int i0), .val (.int i1), .val (.int i2), .val (.int i3), .val (.int i4), .val (.int (3 : Int32)), .val (.ref b167), .val (.ref b201), .val (.int (0 : Int32)), .val (.double (dv x0)), .second] [(.int (3 : Int32)), (.int (0 : Int32)), (.int (3 : Int32)), (.ref b167)])) (fun X t q => XS.iconst X.here C.hx rfl (hb C.hby at_222) q) ?_
      refine Wk.st (g' := (mkF m 225 #[.val (.int i0), .val (.int i1), .val (.int i2), .val (.int i3), .val (.int i4), .val (.int (3 : Int32)), .val (.ref b167), .val (.ref b201), .val (.int (0 : Int32)), .val (.double (dv x0)), .second] [(.double (dv x0)), (.int (3 : Int32)), (.int (0 : Int32)), (.int (3 : Int32)), (.ref b167)])) (fun X t q => XS.dload X.here C.hx rfl (hb C.hby at_223) rfl q) ?_
      refine Wk.callS C (z := (⟨"com/example/understory/understory/ClassifierMostProbablePinLaw", "ok", "([DIIID)Z"⟩ : MethodName)) (hw _ (List.mem_of_getElem? (i := 7) rfl)) (hw _ (List.mem_of_getElem? (i := 8) rfl)) (hw _ (List.mem_of_getElem? (i := 9) rfl)) (hw _ (List.mem_of_getElem? (i := 10) rfl)) (by decide) (own_ok_3_0_3 l Z a0 hw n0 h229 b167 x0 x1 x2 x3 r_x0 r_x1 r_x2 r_x3 F233) (w := 0) (by decide) (by decide) pd_1 rfl (rest := []) rfl rfl (Nat.le_of_eq rfl) (by decide) (by decide) at_225 ?_
      rintro _ _ ⟨rfl, rfl⟩
      show Wk _ p l e _ s m _ below meth c n0 _ h229 2 7 (mkF m 228 #[.val (.int i0), .val (.int i1), .val (.int i2), .val (.int i3), .val (.int i4), .val (.int (3 : Int32)), .val (.ref b167), .val (.ref b201), .val (.int (0 : Int32)), .val (.double (dv x0)), .second] [(.int (1 : Int32))])
      refine Wk.st (g' := (mkF m 231 #[.val (.int i0), .val (.int i1), .val (.int i2), .val (.int i3), .val (.int i4), .val (.int (3 : Int32)), .val (.ref b167), .val (.ref b201), .val (.int (0 : Int32)), .val (.double (dv x0)), .second] [])) (fun X t q => XS.ifNo X.here C.hx rfl (hb C.hby at_228) rfl (XT.i0_eq_f (by decide)) q) ?_
      refine Wk.st (g' := (mkF m 232 #[.val (.int i0), .val (.int i1), .val (.int i2), .val (.int i3), .val (.int i4), .val (.int (3 : Int32)), .val (.ref b167), .val (.ref b201), .val (.int (0 : Int32)), .val (.double (dv x0)), .second] [(.int (1 : Int32))])) (fun X t q => XS.iconst X.here C.hx rfl (hb C.hby at_231) q) ?_
      refine Wk.st (g' := (mkF m 236 #[.val (.int i0), .val (.int i1), .val (.int i2), .val (.int i3), .val (.int i4), .val (.int (3 : Int32)), .val (.ref b167), .val (.ref b201), .val (.int (0 : Int32)), .val (.double (dv x0)), .second] [(.int (1 : Int32))])) (fun X t q => XS.goto X.here C.hx rfl (pc0 := 232) (pc' := 236) rfl (hb C.hby at_232) (by decide) (by decide) q) ?_
      exact Wk.retV C (t := .boolean) rfl rfl (Or.inl ⟨rfl, by simp, _, rfl⟩) at_236 (by decide) (by decide) ⟨rfl, trivial⟩
    · skip
      show Wk _ p l e _ s m _ below meth c n0 _ h229 2 7 (mkF m 132 #[.val (.int i0), .val (.int i1), .val (.int i2), .val (.int i3), .val (.int i4), .val (.int (3 : Int32)), .val (.ref b167), .val (.ref b201), .unset, .unset, .unset] [(.int (1 : Int32))])
      refine Wk.st (g' := (mkF m 134 #[.val (.int i0), .val (.int i1), .val (.int i2), .val (.int i3), .val (.int i4), .val (.int (3 : Int32)), .val (.ref b167), .val (.ref b201), .val (.int (1 : Int32)), .unset, .unset] [])) (fun X t q => XS.istore X.here C.hx rfl (hb C.hby at_132) rfl (l' := #[.val (.int i0), .val (.int i1), .val (.int i2), .val (.int i3), .val (.int i4), .val (.int (3 : Int32)), .val (.ref b167), .val (.ref b201), .val (.int (1 : Int32)), .unset, .unset]) rfl q) ?_
      refine Wk.st (g' := (mkF m 136 #[.val (.int i0), .val (.int i1), .val (.int i2), .val (.int i3), .val (.int i4), .val (.int (3 : Int32)), .val (.ref b167), .val (.ref b201), .val (.int (1 : Int32)), .unset, .unset] [(.int (3 : Int32))])) (fun X t q => XS.iload X.here C.hx rfl (hb C.hby at_134) rfl q) ?_
      refine Wk.st (g' := (mkF m 150 #[.val (.int i0), .val (.int i1), .val (.int i2), .val (.int i3), .val (.int i4), .val (.int (3 : Int32)), .val (.ref b167), .val (.ref b201), .val (.int (1 : Int32)), .unset, .unset] [])) (fun X t q => XS.ifYes X.here C.hx rfl (pc0 := 136) (pc' := 150) rfl (hb C.hby at_136) rfl (XT.i0_ne_t (by decide)) (by decide) (by decide) q) ?_
      refine Wk.st (g' := (mkF m 152 #[.val (.int i0), .val (.int i1), .val (.int i2), .val (.int i3), .val (.int i4), .val (.int (3 : Int32)), .val (.ref b167), .val (.ref b201), .val (.int (1 : Int32)), .unset, .unset] [(.int (1 : Int32))])) (fun X t q => XS.iload X.here C.hx rfl (hb C.hby at_150) rfl q) ?_
      refine Wk.st (g' := (mkF m 155 #[.val (.int i0), .val (.int i1), .val (.int i2), .val (.int i3), .val (.int i4), .val (.int (3 : Int32)), .val (.ref b167), .val (.ref b201), .val (.int (1 : Int32)), .unset, .unset] [])) (fun X t q => XS.ifNo X.here C.hx rfl (hb C.hby at_152) rfl (XT.i0_lt_f (by decide)) q) ?_
      refine Wk.st (g' := (mkF m 157 #[.val (.int i0), .val (.int i1), .val (.int i2), .val (.int i3), .val (.int i4), .val (.int (3 : Int32)), .val (.ref b167), .val (.ref b201), .val (.int (1 : Int32)), .unset, .unset] [(.int (1 : Int32))])) (fun X t q => XS.iload X.here C.hx rfl (hb C.hby at_155) rfl q) ?_
      refine Wk.st (g' := (mkF m 159 #[.val (.int i0), .val (.int i1), .val (.int i2), .val (.int i3), .val (.int i4), .val (.int (3 : Int32)), .val (.ref b167), .val (.ref b201), .val (.int (1 : Int32)), .unset, .unset] [(.int (3 : Int32)), (.int (1 : Int32))])) (fun X t q => XS.iload X.here C.hx rfl (hb C.hby at_157) rfl q) ?_
      refine Wk.st (g' := (mkF m 164 #[.val (.int i0), .val (.int i1), .val (.int i2), .val (.int i3), .val (.int i4), .val (.int (3 : Int32)), .val (.ref b167), .val (.ref b201), .val (.int (1 : Int32)), .unset, .unset] [])) (fun X t q => XS.icmpYes X.here C.hx rfl (pc0 := 159) (pc' := 164) rfl (hb C.hby at_159) rfl (XT.ii_lt_t (by decide)) (by decide) (by decide) q) ?_
      refine Wk.st (g' := (mkF m 166 #[.val (.int i0), .val (.int i1), .val (.int i2), .val (.int i3), .val (.int i4), .val (.int (3 : Int32)), .val (.ref b167), .val (.ref b201), .val (.int (1 : Int32)), .unset, .unset] [(.ref b167)])) (fun X t q => XS.aload X.here C.hx rfl (hb C.hby at_164) rfl rfl q) ?_
      refine Wk.st (g' := (mkF m 168 #[.val (.int i0), .val (.int i1), .val (.int i2), .val (.int i3), .val (.int i4), .val (.int (3 : Int32)), .val (.ref b167), .val (.ref b201), .val (.int (1 : Int32)), .unset, .unset] [(.int (1 : Int32)), (.ref b167)])) (fun X t q => XS.iload X.here C.hx rfl (hb C.hby at_166) rfl q) ?_
      refine Wk.fLdD C F233 (i := 1) (by decide) (by decide) (by decide) (v := (.double (dv x1))) (by simp [up]) at_168 ?_
      show Wk _ p l e _ s m _ below meth c n0 _ h229 2 7 (mkF m 169 #[.val (.int i0), .val (.int i1), .val (.int i2), .val (.int i3), .val (.int i4), .val (.int (3 : Int32)), .val (.ref b167), .val (.ref b201), .val (.int (1 : Int32)), .unset, .unset] [(.double (dv x1))])
      refine Wk.st (g' := (mkF m 171 #[.val (.int i0), .val (.int i1), .val (.int i2), .val (.int i3), .val (.int i4), .val (.int (3 : Int32)), .val (.ref b167), .val (.ref b201), .val (.int (1 : Int32)), .val (.double (dv x1)), .second] [])) (fun X t q => XS.dstore X.here C.hx rfl (hb C.hby at_169) rfl (l' := #[.val (.int i0), .val (.int i1), .val (.int i2), .val (.int i3), .val (.int i4), .val (.int (3 : Int32)), .val (.ref b167), .val (.ref b201), .val (.int (1 : Int32)), .val (.double (dv x1)), .second]) rfl q) ?_
      refine Wk.st (g' := (mkF m 173 #[.val (.int i0), .val (.int i1), .val (.int i2), .val (.int i3), .val (.int i4), .val (.int (3 : Int32)), .val (.ref b167), .val (.ref b201), .val (.int (1 : Int32)), .val (.double (dv x1)), .second] [(.ref b167)])) (fun X t q => XS.aload X.here C.hx rfl (hb C.hby at_171) rfl rfl q) ?_
      refine Wk.st (g' := (mkF m 175 #[.val (.int i0), .val (.int i1), .val (.int i2), .val (.int i3), .val (.int i4), .val (.int (3 : Int32)), .val (.ref b167), .val (.ref b201), .val (.int (1 : Int32)), .val (.double (dv x1)), .second] [(.int (3 : Int32)), (.ref b167)])) (fun X t q => XS.iload X.here C.hx rfl (hb C.hby at_173) rfl q) ?_
      refine Wk.st (g' := (mkF m 177 #[.val (.int i0), .val (.int i1), .val (.int i2), .val (.int i3), .val (.int i4), .val (.int (3 : Int32)), .val (.ref b167), .val (.ref b201), .val (.int (1 : Int32)), .val (.double (dv x1)), .second] [(.int (1 : Int32)), (.int (3 : Int32)), (.ref b167)])) (fun X t q => XS.iload X.here C.hx rfl (hb C.hby at_175) rfl q) ?_
      refine Wk.st (g' := (mkF m 178 #[.val (.int i0), .val (.int i1), .val (.int i2), .val (.int i3), .val (.int i4), .val (.int (3 : Int32)), .val (.ref b167), .val (.ref b201), .val (.int (1 : Int32)), .val (.double (dv x1)), .second] [(.int (0 : Int32)), (.int (1 : Int32)), (.int (3 : Int32)), (.ref b167)])) (fun X t q => XS.iconst X.here C.hx rfl (hb C.hby at_177) q) ?_
      refine Wk.st (g' := (mkF m 180 #[.val (.int i0), .val (.int i1), .val (.int i2), .val (.int i3), .val (.int i4), .val (.int (3 : Int32)), .val (.ref b167), .val (.ref b201), .val (.int (1 : Int32)), .val (.double (dv x1)), .second] [(.double (dv x1)), (.int (0 : Int32)), (.int (1 : Int32)), (.int (3 : Int32)), (.ref b167)])) (fun X t q => XS.dload X.here C.hx rfl (hb C.hby at_178) rfl q) ?_
      refine Wk.callS C (z := (⟨"com/example/understory/understory/ClassifierMostProbablePinLaw", "ok", "([DIIID)Z"⟩ : MethodName)) (hw _ (List.mem_of_getElem? (i := 7) rfl)) (hw _ (List.mem_of_getElem? (i := 8) rfl)) (hw _ (List.mem_of_getElem? (i := 9) rfl)) (hw _ (List.mem_of_getElem? (i := 10) rfl)) (by decide) (own_ok_3_1_0 l Z a0 hw n0 h229 b167 x0 x1 x2 x3 r_x0 r_x1 r_x2 r_x3 F233 (by omega)) (w := 0) (by decide) (by decide) pd_1 rfl (rest := []) rfl rfl (Nat.le_of_eq rfl) (by decide) (by decide) at_180 ?_
      rintro _ _ ⟨rfl, rfl⟩
      show Wk _ p l e _ s m _ below meth c n0 _ h229 2 7 (mkF m 183 #[.val (.int i0), .val (.int i1), .val (.int i2), .val (.int i3), .val (.int i4), .val (.int (3 : Int32)), .val (.ref b167), .val (.ref b201), .val (.int (1 : Int32)), .val (.double (dv x1)), .second] [(.int (1 : Int32))])
      refine Wk.st (g' := (mkF m 186 #[.val (.int i0), .val (.int i1), .val (.int i2), .val (.int i3), .val (.int i4), .val (.int (3 : Int32)), .val (.ref b167), .val (.ref b201), .val (.int (1 : Int32)), .val (.double (dv x1)), .second] [])) (fun X t q => XS.ifNo X.here C.hx rfl (hb C.hby at_183) rfl (XT.i0_eq_f (by decide)) q) ?_
      refine Wk.st (g' := (mkF m 188 #[.val (.int i0), .val (.int i1), .val (.int i2), .val (.int i3), .val (.int i4), .val (.int (3 : Int32)), .val (.ref b167), .val (.ref b201), .val (.int (1 : Int32)), .val (.double (dv x1)), .second] [(.ref b167)])) (fun X t q => XS.aload X.here C.hx rfl (hb C.hby at_186) rfl rfl q) ?_
      refine Wk.st (g' := (mkF m 190 #[.val (.int i0), .val (.int i1), .val (.int i2), .val (.int i3), .val (.int i4), .val (.int (3 : Int32)), .val (.ref b167), .val (.ref b201), .val (.int (1 : Int32)), .val (.double (dv x1)), .second] [(.int (3 : Int32)), (.ref b167)])) (fun X t q => XS.iload X.here C.hx rfl (hb C.hby at_188) rfl q) ?_
      refine Wk.st (g' := (mkF m 192 #[.val (.int i0), .val (.int i1), .val (.int i2), .val (.int i3), .val (.int i4), .val (.int (3 : Int32)), .val (.ref b167), .val (.ref b201), .val (.int (1 : Int32)), .val (.double (dv x1)), .second] [(.int (1 : Int32)), (.int (3 : Int32)), (.ref b167)])) (fun X t q => XS.iload X.here C.hx rfl (hb C.hby at_190) rfl q) ?_
      refine Wk.st (g' := (mkF m 193 #[.val (.int i0), .val (.int i1), .val (.int i2), .val (.int i3), .val (.int i4), .val (.int (3 : Int32)), .val (.ref b167), .val (.ref b201), .val (.int (1 : Int32)), .val (.double (dv x1)), .second] [(.int (1 : Int32)), (.int (1 : Int32)), (.int (3 : Int32)), (.ref b167)])) (fun X t q => XS.iconst X.here C.hx rfl (hb C.hby at_192) q) ?_
      refine Wk.st (g' := (mkF m 195 #[.val (.int i0), .val (.int i1), .val (.int i2), .val (.int i3), .val (.int i4), .val (.int (3 : Int32)), .val (.ref b167), .val (.ref b201), .val (.int (1 : Int32)), .val (.double (dv x1)), .second] [(.double (dv x1)), (.int (1 : Int32)), (.int (1 : Int32)), (.int (3 : Int32)), (.ref b167)])) (fun X t q => XS.dload X.here C.hx rfl (hb C.hby at_193) rfl q) ?_
      refine Wk.callS C (z := (⟨"com/example/understory/understory/ClassifierMostProbablePinLaw", "ok", "([DIIID)Z"⟩ : MethodName)) (hw _ (List.mem_of_getElem? (i := 7) rfl)) (hw _ (List.mem_of_getElem? (i := 8) rfl)) (hw _ (List.mem_of_getElem? (i := 9) rfl)) (hw _ (List.mem_of_getElem? (i := 10) rfl)) (by decide) (own_ok_3_1_1 l Z a0 hw n0 h229 b167 x0 x1 x2 x3 r_x0 r_x1 r_x2 r_x3 F233 (by omega)) (w := 0) (by decide) (by decide) pd_1 rfl (rest := []) rfl rfl (Nat.le_of_eq rfl) (by decide) (by decide) at_195 ?_
      rintro _ _ ⟨rfl, rfl⟩
      show Wk _ p l e _ s m _ below meth c n0 _ h229 2 7 (mkF m 198 #[.val (.int i0), .val (.int i1), .val (.int i2), .val (.int i3), .val (.int i4), .val (.int (3 : Int32)), .val (.ref b167), .val (.ref b201), .val (.int (1 : Int32)), .val (.double (dv x1)), .second] [(.int (1 : Int32))])
      refine Wk.st (g' := (mkF m 201 #[.val (.int i0), .val (.int i1), .val (.int i2), .val (.int i3), .val (.int i4), .val (.int (3 : Int32)), .val (.ref b167), .val (.ref b201), .val (.int (1 : Int32)), .val (.double (dv x1)), .second] [])) (fun X t q => XS.ifNo X.here C.hx rfl (hb C.hby at_198) rfl (XT.i0_eq_f (by decide)) q) ?_
      refine Wk.st (g' := (mkF m 203 #[.val (.int i0), .val (.int i1), .val (.int i2), .val (.int i3), .val (.int i4), .val (.int (3 : Int32)), .val (.ref b167), .val (.ref b201), .val (.int (1 : Int32)), .val (.double (dv x1)), .second] [(.ref b167)])) (fun X t q => XS.aload X.here C.hx rfl (hb C.hby at_201) rfl rfl q) ?_
      refine Wk.st (g' := (mkF m 205 #[.val (.int i0), .val (.int i1), .val (.int i2), .val (.int i3), .val (.int i4), .val (.int (3 : Int32)), .val (.ref b167), .val (.ref b201), .val (.int (1 : Int32)), .val (.double (dv x1)), .second] [(.int (3 : Int32)), (.ref b167)])) (fun X t q => XS.iload X.here C.hx rfl (hb C.hby at_203) rfl q) ?_
      refine Wk.st (g' := (mkF m 207 #[.val (.int i0), .val (.int i1), .val (.int i2), .val (.int i3), .val (.int i4), .val (.int (3 : Int32)), .val (.ref b167), .val (.ref b201), .val (.int (1 : Int32)), .val (.double (dv x1)), .second] [(.int (1 : Int32)), (.int (3 : Int32)), (.ref b167)])) (fun X t q => XS.iload X.here C.hx rfl (hb C.hby at_205) rfl q) ?_
      refine Wk.st (g' := (mkF m 208 #[.val (.int i0), .val (.int i1), .val (.int i2), .val (.int i3), .val (.int i4), .val (.int (3 : Int32)), .val (.ref b167), .val (.ref b201), .val (.int (1 : Int32)), .val (.double (dv x1)), .second] [(.int (2 : Int32)), (.int (1 : Int32)), (.int (3 : Int32)), (.ref b167)])) (fun X t q => XS.iconst X.here C.hx rfl (hb C.hby at_207) q) ?_
      refine Wk.st (g' := (mkF m 210 #[.val (.int i0), .val (.int i1), .val (.int i2), .val (.int i3), .val (.int i4), .val (.int (3 : Int32)), .val (.ref b167), .val (.ref b201), .val (.int (1 : Int32)), .val (.double (dv x1)), .second] [(.double (dv x1)), (.int (2 : Int32)), (.int (1 : Int32)), (.int (3 : Int32)), (.ref b167)])) (fun X t q => XS.dload X.here C.hx rfl (hb C.hby at_208) rfl q) ?_
      refine Wk.callS C (z := (⟨"com/example/understory/understory/ClassifierMostProbablePinLaw", "ok", "([DIIID)Z"⟩ : MethodName)) (hw _ (List.mem_of_getElem? (i := 7) rfl)) (hw _ (List.mem_of_getElem? (i := 8) rfl)) (hw _ (List.mem_of_getElem? (i := 9) rfl)) (hw _ (List.mem_of_getElem? (i := 10) rfl)) (by decide) (own_ok_3_1_2 l Z a0 hw n0 h229 b167 x0 x1 x2 x3 r_x0 r_x1 r_x2 r_x3 F233 (by omega)) (w := 0) (by decide) (by decide) pd_1 rfl (rest := []) rfl rfl (Nat.le_of_eq rfl) (by decide) (by decide) at_210 ?_
      rintro _ _ ⟨rfl, rfl⟩
      show Wk _ p l e _ s m _ below meth c n0 _ h229 2 7 (mkF m 213 #[.val (.int i0), .val (.int i1), .val (.int i2), .val (.int i3), .val (.int i4), .val (.int (3 : Int32)), .val (.ref b167), .val (.ref b201), .val (.int (1 : Int32)), .val (.double (dv x1)), .second] [(.int (1 : Int32))])
      refine Wk.st (g' := (mkF m 216 #[.val (.int i0), .val (.int i1), .val (.int i2), .val (.int i3), .val (.int i4), .val (.int (3 : Int32)), .val (.ref b167), .val (.ref b201), .val (.int (1 : Int32)), .val (.double (dv x1)), .second] [])) (fun X t q => XS.ifNo X.here C.hx rfl (hb C.hby at_213) rfl (XT.i0_eq_f (by decide)) q) ?_
      refine Wk.st (g' := (mkF m 218 #[.val (.int i0), .val (.int i1), .val (.int i2), .val (.int i3), .val (.int i4), .val (.int (3 : Int32)), .val (.ref b167), .val (.ref b201), .val (.int (1 : Int32)), .val (.double (dv x1)), .second] [(.ref b167)])) (fun X t q => XS.aload X.here C.hx rfl (hb C.hby at_216) rfl rfl q) ?_
      refine Wk.st (g' := (mkF m 220 #[.val (.int i0), .val (.int i1), .val (.int i2), .val (.int i3), .val (.int i4), .val (.int (3 : Int32)), .val (.ref b167), .val (.ref b201), .val (.int (1 : Int32)), .val (.double (dv x1)), .second] [(.int (3 : Int32)), (.ref b167)])) (fun X t q => XS.iload X.here C.hx rfl (hb C.hby at_218) rfl q) ?_
      refine Wk.st (g' := (mkF m 222 #[.val (.int i0), .val (.int i1), .val (.int i2), .val (.int i3), .val (.int i4), .val (.int (3 : Int32)), .val (.ref b167), .val (.ref b201), .val (.int (1 : Int32)), .val (.double (dv x1)), .second] [(.int (1 : Int32)), (.int (3 : Int32)), (.ref b167)])) (fun X t q => XS.iload X.here C.hx rfl (hb C.hby at_220) rfl q) ?_
      refine Wk.st (g' := (mkF m 223 #[.val (.int i0), .val (.int i1), .val (.int i2), .val (.int i3), .val (.int i4), .val (.int (3 : Int32)), .val (.ref b167), .val (.ref b201), .val (.int (1 : Int32)), .val (.double (dv x1)), .second] [(.int (3 : Int32)), (.int (1 : Int32)), (.int (3 : Int32)), (.ref b167)])) (fun X t q => XS.iconst X.here C.hx rfl (hb C.hby at_222) q) ?_
      refine Wk.st (g' := (mkF m 225 #[.val (.int i0), .val (.int i1), .val (.int i2), .val (.int i3), .val (.int i4), .val (.int (3 : Int32)), .val (.ref b167), .val (.ref b201), .val (.int (1 : Int32)), .val (.double (dv x1)), .second] [(.double (dv x1)), (.int (3 : Int32)), (.int (1 : Int32)), (.int (3 : Int32)), (.ref b167)])) (fun X t q => XS.dload X.here C.hx rfl (hb C.hby at_223) rfl q) ?_
      refine Wk.callS C (z := (⟨"com/example/understory/understory/ClassifierMostProbablePinLaw", "ok", "([DIIID)Z"⟩ : MethodName)) (hw _ (List.mem_of_getElem? (i := 7) rfl)) (hw _ (List.mem_of_getElem? (i := 8) rfl)) (hw _ (List.mem_of_getElem? (i := 9) rfl)) (hw _ (List.mem_of_getElem? (i := 10) rfl)) (by decide) (own_ok_3_1_3 l Z a0 hw n0 h229 b167 x0 x1 x2 x3 r_x0 r_x1 r_x2 r_x3 F233) (w := 0) (by decide) (by decide) pd_1 rfl (rest := []) rfl rfl (Nat.le_of_eq rfl) (by decide) (by decide) at_225 ?_
      rintro _ _ ⟨rfl, rfl⟩
      show Wk _ p l e _ s m _ below meth c n0 _ h229 2 7 (mkF m 228 #[.val (.int i0), .val (.int i1), .val (.int i2), .val (.int i3), .val (.int i4), .val (.int (3 : Int32)), .val (.ref b167), .val (.ref b201), .val (.int (1 : Int32)), .val (.double (dv x1)), .second] [(.int (1 : Int32))])
      refine Wk.st (g' := (mkF m 231 #[.val (.int i0), .val (.int i1), .val (.int i2), .val (.int i3), .val (.int i4), .val (.int (3 : Int32)), .val (.ref b167), .val (.ref b201), .val (.int (1 : Int32)), .val (.double (dv x1)), .second] [])) (fun X t q => XS.ifNo X.here C.hx rfl (hb C.hby at_228) rfl (XT.i0_eq_f (by decide)) q) ?_
      refine Wk.st (g' := (mkF m 232 #[.val (.int i0), .val (.int i1), .val (.int i2), .val (.int i3), .val (.int i4), .val (.int (3 : Int32)), .val (.ref b167), .val (.ref b201), .val (.int (1 : Int32)), .val (.double (dv x1)), .second] [(.int (1 : Int32))])) (fun X t q => XS.iconst X.here C.hx rfl (hb C.hby at_231) q) ?_
      refine Wk.st (g' := (mkF m 236 #[.val (.int i0), .val (.int i1), .val (.int i2), .val (.int i3), .val (.int i4), .val (.int (3 : Int32)), .val (.ref b167), .val (.ref b201), .val (.int (1 : Int32)), .val (.double (dv x1)), .second] [(.int (1 : Int32))])) (fun X t q => XS.goto X.here C.hx rfl (pc0 := 232) (pc' := 236) rfl (hb C.hby at_232) (by decide) (by decide) q) ?_
      exact Wk.retV C (t := .boolean) rfl rfl (Or.inl ⟨rfl, by simp, _, rfl⟩) at_236 (by decide) (by decide) ⟨rfl, trivial⟩
    · skip
      show Wk _ p l e _ s m _ below meth c n0 _ h229 2 7 (mkF m 132 #[.val (.int i0), .val (.int i1), .val (.int i2), .val (.int i3), .val (.int i4), .val (.int (3 : Int32)), .val (.ref b167), .val (.ref b201), .unset, .unset, .unset] [(.int (2 : Int32))])
      refine Wk.st (g' := (mkF m 134 #[.val (.int i0), .val (.int i1), .val (.int i2), .val (.int i3), .val (.int i4), .val (.int (3 : Int32)), .val (.ref b167), .val (.ref b201), .val (.int (2 : Int32)), .unset, .unset] [])) (fun X t q => XS.istore X.here C.hx rfl (hb C.hby at_132) rfl (l' := #[.val (.int i0), .val (.int i1), .val (.int i2), .val (.int i3), .val (.int i4), .val (.int (3 : Int32)), .val (.ref b167), .val (.ref b201), .val (.int (2 : Int32)), .unset, .unset]) rfl q) ?_
      refine Wk.st (g' := (mkF m 136 #[.val (.int i0), .val (.int i1), .val (.int i2), .val (.int i3), .val (.int i4), .val (.int (3 : Int32)), .val (.ref b167), .val (.ref b201), .val (.int (2 : Int32)), .unset, .unset] [(.int (3 : Int32))])) (fun X t q => XS.iload X.here C.hx rfl (hb C.hby at_134) rfl q) ?_
      refine Wk.st (g' := (mkF m 150 #[.val (.int i0), .val (.int i1), .val (.int i2), .val (.int i3), .val (.int i4), .val (.int (3 : Int32)), .val (.ref b167), .val (.ref b201), .val (.int (2 : Int32)), .unset, .unset] [])) (fun X t q => XS.ifYes X.here C.hx rfl (pc0 := 136) (pc' := 150) rfl (hb C.hby at_136) rfl (XT.i0_ne_t (by decide)) (by decide) (by decide) q) ?_
      refine Wk.st (g' := (mkF m 152 #[.val (.int i0), .val (.int i1), .val (.int i2), .val (.int i3), .val (.int i4), .val (.int (3 : Int32)), .val (.ref b167), .val (.ref b201), .val (.int (2 : Int32)), .unset, .unset] [(.int (2 : Int32))])) (fun X t q => XS.iload X.here C.hx rfl (hb C.hby at_150) rfl q) ?_
      refine Wk.st (g' := (mkF m 155 #[.val (.int i0), .val (.int i1), .val (.int i2), .val (.int i3), .val (.int i4), .val (.int (3 : Int32)), .val (.ref b167), .val (.ref b201), .val (.int (2 : Int32)), .unset, .unset] [])) (fun X t q => XS.ifNo X.here C.hx rfl (hb C.hby at_152) rfl (XT.i0_lt_f (by decide)) q) ?_
      refine Wk.st (g' := (mkF m 157 #[.val (.int i0), .val (.int i1), .val (.int i2), .val (.int i3), .val (.int i4), .val (.int (3 : Int32)), .val (.ref b167), .val (.ref b201), .val (.int (2 : Int32)), .unset, .unset] [(.int (2 : Int32))])) (fun X t q => XS.iload X.here C.hx rfl (hb C.hby at_155) rfl q) ?_
      refine Wk.st (g' := (mkF m 159 #[.val (.int i0), .val (.int i1), .val (.int i2), .val (.int i3), .val (.int i4), .val (.int (3 : Int32)), .val (.ref b167), .val (.ref b201), .val (.int (2 : Int32)), .unset, .unset] [(.int (3 : Int32)), (.int (2 : Int32))])) (fun X t q => XS.iload X.here C.hx rfl (hb C.hby at_157) rfl q) ?_
      refine Wk.st (g' := (mkF m 164 #[.val (.int i0), .val (.int i1), .val (.int i2), .val (.int i3), .val (.int i4), .val (.int (3 : Int32)), .val (.ref b167), .val (.ref b201), .val (.int (2 : Int32)), .unset, .unset] [])) (fun X t q => XS.icmpYes X.here C.hx rfl (pc0 := 159) (pc' := 164) rfl (hb C.hby at_159) rfl (XT.ii_lt_t (by decide)) (by decide) (by decide) q) ?_
      refine Wk.st (g' := (mkF m 166 #[.val (.int i0), .val (.int i1), .val (.int i2), .val (.int i3), .val (.int i4), .val (.int (3 : Int32)), .val (.ref b167), .val (.ref b201), .val (.int (2 : Int32)), .unset, .unset] [(.ref b167)])) (fun X t q => XS.aload X.here C.hx rfl (hb C.hby at_164) rfl rfl q) ?_
      refine Wk.st (g' := (mkF m 168 #[.val (.int i0), .val (.int i1), .val (.int i2), .val (.int i3), .val (.int i4), .val (.int (3 : Int32)), .val (.ref b167), .val (.ref b201), .val (.int (2 : Int32)), .unset, .unset] [(.int (2 : Int32)), (.ref b167)])) (fun X t q => XS.iload X.here C.hx rfl (hb C.hby at_166) rfl q) ?_
      refine Wk.fLdD C F233 (i := 2) (by decide) (by decide) (by decide) (v := (.double (dv x2))) (by simp [up]) at_168 ?_
      show Wk _ p l e _ s m _ below meth c n0 _ h229 2 7 (mkF m 169 #[.val (.int i0), .val (.int i1), .val (.int i2), .val (.int i3), .val (.int i4), .val (.int (3 : Int32)), .val (.ref b167), .val (.ref b201), .val (.int (2 : Int32)), .unset, .unset] [(.double (dv x2))])
      refine Wk.st (g' := (mkF m 171 #[.val (.int i0), .val (.int i1), .val (.int i2), .val (.int i3), .val (.int i4), .val (.int (3 : Int32)), .val (.ref b167), .val (.ref b201), .val (.int (2 : Int32)), .val (.double (dv x2)), .second] [])) (fun X t q => XS.dstore X.here C.hx rfl (hb C.hby at_169) rfl (l' := #[.val (.int i0), .val (.int i1), .val (.int i2), .val (.int i3), .val (.int i4), .val (.int (3 : Int32)), .val (.ref b167), .val (.ref b201), .val (.int (2 : Int32)), .val (.double (dv x2)), .second]) rfl q) ?_
      refine Wk.st (g' := (mkF m 173 #[.val (.int i0), .val (.int i1), .val (.int i2), .val (.int i3), .val (.int i4), .val (.int (3 : Int32)), .val (.ref b167), .val (.ref b201), .val (.int (2 : Int32)), .val (.double (dv x2)), .second] [(.ref b167)])) (fun X t q => XS.aload X.here C.hx rfl (hb C.hby at_171) rfl rfl q) ?_
      refine Wk.st (g' := (mkF m 175 #[.val (.int i0), .val (.int i1), .val (.int i2), .val (.int i3), .val (.int i4), .val (.int (3 : Int32)), .val (.ref b167), .val (.ref b201), .val (.int (2 : Int32)), .val (.double (dv x2)), .second] [(.int (3 : Int32)), (.ref b167)])) (fun X t q => XS.iload X.here C.hx rfl (hb C.hby at_173) rfl q) ?_
      refine Wk.st (g' := (mkF m 177 #[.val (.int i0), .val (.int i1), .val (.int i2), .val (.int i3), .val (.int i4), .val (.int (3 : Int32)), .val (.ref b167), .val (.ref b201), .val (.int (2 : Int32)), .val (.double (dv x2)), .second] [(.int (2 : Int32)), (.int (3 : Int32)), (.ref b167)])) (fun X t q => XS.iload X.here C.hx rfl (hb C.hby at_175) rfl q) ?_
      refine Wk.st (g' := (mkF m 178 #[.val (.int i0), .val (.int i1), .val (.int i2), .val (.int i3), .val (.int i4), .val (.int (3 : Int32)), .val (.ref b167), .val (.ref b201), .val (.int (2 : Int32)), .val (.double (dv x2)), .second] [(.int (0 : Int32)), (.int (2 : Int32)), (.int (3 : Int32)), (.ref b167)])) (fun X t q => XS.iconst X.here C.hx rfl (hb C.hby at_177) q) ?_
      refine Wk.st (g' := (mkF m 180 #[.val (.int i0), .val (.int i1), .val (.int i2), .val (.int i3), .val (.int i4), .val (.int (3 : Int32)), .val (.ref b167), .val (.ref b201), .val (.int (2 : Int32)), .val (.double (dv x2)), .second] [(.double (dv x2)), (.int (0 : Int32)), (.int (2 : Int32)), (.int (3 : Int32)), (.ref b167)])) (fun X t q => XS.dload X.here C.hx rfl (hb C.hby at_178) rfl q) ?_
      refine Wk.callS C (z := (⟨"com/example/understory/understory/ClassifierMostProbablePinLaw", "ok", "([DIIID)Z"⟩ : MethodName)) (hw _ (List.mem_of_getElem? (i := 7) rfl)) (hw _ (List.mem_of_getElem? (i := 8) rfl)) (hw _ (List.mem_of_getElem? (i := 9) rfl)) (hw _ (List.mem_of_getElem? (i := 10) rfl)) (by decide) (own_ok_3_2_0 l Z a0 hw n0 h229 b167 x0 x1 x2 x3 r_x0 r_x1 r_x2 r_x3 F233 (by omega)) (w := 0) (by decide) (by decide) pd_1 rfl (rest := []) rfl rfl (Nat.le_of_eq rfl) (by decide) (by decide) at_180 ?_
      rintro _ _ ⟨rfl, rfl⟩
      show Wk _ p l e _ s m _ below meth c n0 _ h229 2 7 (mkF m 183 #[.val (.int i0), .val (.int i1), .val (.int i2), .val (.int i3), .val (.int i4), .val (.int (3 : Int32)), .val (.ref b167), .val (.ref b201), .val (.int (2 : Int32)), .val (.double (dv x2)), .second] [(.int (1 : Int32))])
      refine Wk.st (g' := (mkF m 186 #[.val (.int i0), .val (.int i1), .val (.int i2), .val (.int i3), .val (.int i4), .val (.int (3 : Int32)), .val (.ref b167), .val (.ref b201), .val (.int (2 : Int32)), .val (.double (dv x2)), .second] [])) (fun X t q => XS.ifNo X.here C.hx rfl (hb C.hby at_183) rfl (XT.i0_eq_f (by decide)) q) ?_
      refine Wk.st (g' := (mkF m 188 #[.val (.int i0), .val (.int i1), .val (.int i2), .val (.int i3), .val (.int i4), .val (.int (3 : Int32)), .val (.ref b167), .val (.ref b201), .val (.int (2 : Int32)), .val (.double (dv x2)), .second] [(.ref b167)])) (fun X t q => XS.aload X.here C.hx rfl (hb C.hby at_186) rfl rfl q) ?_
      refine Wk.st (g' := (mkF m 190 #[.val (.int i0), .val (.int i1), .val (.int i2), .val (.int i3), .val (.int i4), .val (.int (3 : Int32)), .val (.ref b167), .val (.ref b201), .val (.int (2 : Int32)), .val (.double (dv x2)), .second] [(.int (3 : Int32)), (.ref b167)])) (fun X t q => XS.iload X.here C.hx rfl (hb C.hby at_188) rfl q) ?_
      refine Wk.st (g' := (mkF m 192 #[.val (.int i0), .val (.int i1), .val (.int i2), .val (.int i3), .val (.int i4), .val (.int (3 : Int32)), .val (.ref b167), .val (.ref b201), .val (.int (2 : Int32)), .val (.double (dv x2)), .second] [(.int (2 : Int32)), (.int (3 : Int32)), (.ref b167)])) (fun X t q => XS.iload X.here C.hx rfl (hb C.hby at_190) rfl q) ?_
      refine Wk.st (g' := (mkF m 193 #[.val (.int i0), .val (.int i1), .val (.int i2), .val (.int i3), .val (.int i4), .val (.int (3 : Int32)), .val (.ref b167), .val (.ref b201), .val (.int (2 : Int32)), .val (.double (dv x2)), .second] [(.int (1 : Int32)), (.int (2 : Int32)), (.int (3 : Int32)), (.ref b167)])) (fun X t q => XS.iconst X.here C.hx rfl (hb C.hby at_192) q) ?_
      refine Wk.st (g' := (mkF m 195 #[.val (.int i0), .val (.int i1), .val (.int i2), .val (.int i3), .val (.int i4), .val (.int (3 : Int32)), .val (.ref b167), .val (.ref b201), .val (.int (2 : Int32)), .val (.double (dv x2)), .second] [(.double (dv x2)), (.int (1 : Int32)), (.int (2 : Int32)), (.int (3 : Int32)), (.ref b167)])) (fun X t q => XS.dload X.here C.hx rfl (hb C.hby at_193) rfl q) ?_
      refine Wk.callS C (z := (⟨"com/example/understory/understory/ClassifierMostProbablePinLaw", "ok", "([DIIID)Z"⟩ : MethodName)) (hw _ (List.mem_of_getElem? (i := 7) rfl)) (hw _ (List.mem_of_getElem? (i := 8) rfl)) (hw _ (List.mem_of_getElem? (i := 9) rfl)) (hw _ (List.mem_of_getElem? (i := 10) rfl)) (by decide) (own_ok_3_2_1 l Z a0 hw n0 h229 b167 x0 x1 x2 x3 r_x0 r_x1 r_x2 r_x3 F233 (by omega)) (w := 0) (by decide) (by decide) pd_1 rfl (rest := []) rfl rfl (Nat.le_of_eq rfl) (by decide) (by decide) at_195 ?_
      rintro _ _ ⟨rfl, rfl⟩
      show Wk _ p l e _ s m _ below meth c n0 _ h229 2 7 (mkF m 198 #[.val (.int i0), .val (.int i1), .val (.int i2), .val (.int i3), .val (.int i4), .val (.int (3 : Int32)), .val (.ref b167), .val (.ref b201), .val (.int (2 : Int32)), .val (.double (dv x2)), .second] [(.int (1 : Int32))])
      refine Wk.st (g' := (mkF m 201 #[.val (.int i0), .val (.int i1), .val (.int i2), .val (.int i3), .val (.int i4), .val (.int (3 : Int32)), .val (.ref b167), .val (.ref b201), .val (.int (2 : Int32)), .val (.double (dv x2)), .second] [])) (fun X t q => XS.ifNo X.here C.hx rfl (hb C.hby at_198) rfl (XT.i0_eq_f (by decide)) q) ?_
      refine Wk.st (g' := (mkF m 203 #[.val (.int i0), .val (.int i1), .val (.int i2), .val (.int i3), .val (.int i4), .val (.int (3 : Int32)), .val (.ref b167), .val (.ref b201), .val (.int (2 : Int32)), .val (.double (dv x2)), .second] [(.ref b167)])) (fun X t q => XS.aload X.here C.hx rfl (hb C.hby at_201) rfl rfl q) ?_
      refine Wk.st (g' := (mkF m 205 #[.val (.int i0), .val (.int i1), .val (.int i2), .val (.int i3), .val (.int i4), .val (.int (3 : Int32)), .val (.ref b167), .val (.ref b201), .val (.int (2 : Int32)), .val (.double (dv x2)), .second] [(.int (3 : Int32)), (.ref b167)])) (fun X t q => XS.iload X.here C.hx rfl (hb C.hby at_203) rfl q) ?_
      refine Wk.st (g' := (mkF m 207 #[.val (.int i0), .val (.int i1), .val (.int i2), .val (.int i3), .val (.int i4), .val (.int (3 : Int32)), .val (.ref b167), .val (.ref b201), .val (.int (2 : Int32)), .val (.double (dv x2)), .second] [(.int (2 : Int32)), (.int (3 : Int32)), (.ref b167)])) (fun X t q => XS.iload X.here C.hx rfl (hb C.hby at_205) rfl q) ?_
      refine Wk.st (g' := (mkF m 208 #[.val (.int i0), .val (.int i1), .val (.int i2), .val (.int i3), .val (.int i4), .val (.int (3 : Int32)), .val (.ref b167), .val (.ref b201), .val (.int (2 : Int32)), .val (.double (dv x2)), .second] [(.int (2 : Int32)), (.int (2 : Int32)), (.int (3 : Int32)), (.ref b167)])) (fun X t q => XS.iconst X.here C.hx rfl (hb C.hby at_207) q) ?_
      refine Wk.st (g' := (mkF m 210 #[.val (.int i0), .val (.int i1), .val (.int i2), .val (.int i3), .val (.int i4), .val (.int (3 : Int32)), .val (.ref b167), .val (.ref b201), .val (.int (2 : Int32)), .val (.double (dv x2)), .second] [(.double (dv x2)), (.int (2 : Int32)), (.int (2 : Int32)), (.int (3 : Int32)), (.ref b167)])) (fun X t q => XS.dload X.here C.hx rfl (hb C.hby at_208) rfl q) ?_
      refine Wk.callS C (z := (⟨"com/example/understory/understory/ClassifierMostProbablePinLaw", "ok", "([DIIID)Z"⟩ : MethodName)) (hw _ (List.mem_of_getElem? (i := 7) rfl)) (hw _ (List.mem_of_getElem? (i := 8) rfl)) (hw _ (List.mem_of_getElem? (i := 9) rfl)) (hw _ (List.mem_of_getElem? (i := 10) rfl)) (by decide) (own_ok_3_2_2 l Z a0 hw n0 h229 b167 x0 x1 x2 x3 r_x0 r_x1 r_x2 r_x3 F233 (by omega)) (w := 0) (by decide) (by decide) pd_1 rfl (rest := []) rfl rfl (Nat.le_of_eq rfl) (by decide) (by decide) at_210 ?_
      rintro _ _ ⟨rfl, rfl⟩
      show Wk _ p l e _ s m _ below meth c n0 _ h229 2 7 (mkF m 213 #[.val (.int i0), .val (.int i1), .val (.int i2), .val (.int i3), .val (.int i4), .val (.int (3 : Int32)), .val (.ref b167), .val (.ref b201), .val (.int (2 : Int32)), .val (.double (dv x2)), .second] [(.int (1 : Int32))])
      refine Wk.st (g' := (mkF m 216 #[.val (.int i0), .val (.int i1), .val (.int i2), .val (.int i3), .val (.int i4), .val (.int (3 : Int32)), .val (.ref b167), .val (.ref b201), .val (.int (2 : Int32)), .val (.double (dv x2)), .second] [])) (fun X t q => XS.ifNo X.here C.hx rfl (hb C.hby at_213) rfl (XT.i0_eq_f (by decide)) q) ?_
      refine Wk.st (g' := (mkF m 218 #[.val (.int i0), .val (.int i1), .val (.int i2), .val (.int i3), .val (.int i4), .val (.int (3 : Int32)), .val (.ref b167), .val (.ref b201), .val (.int (2 : Int32)), .val (.double (dv x2)), .second] [(.ref b167)])) (fun X t q => XS.aload X.here C.hx rfl (hb C.hby at_216) rfl rfl q) ?_
      refine Wk.st (g' := (mkF m 220 #[.val (.int i0), .val (.int i1), .val (.int i2), .val (.int i3), .val (.int i4), .val (.int (3 : Int32)), .val (.ref b167), .val (.ref b201), .val (.int (2 : Int32)), .val (.double (dv x2)), .second] [(.int (3 : Int32)), (.ref b167)])) (fun X t q => XS.iload X.here C.hx rfl (hb C.hby at_218) rfl q) ?_
      refine Wk.st (g' := (mkF m 222 #[.val (.int i0), .val (.int i1), .val (.int i2), .val (.int i3), .val (.int i4), .val (.int (3 : Int32)), .val (.ref b167), .val (.ref b201), .val (.int (2 : Int32)), .val (.double (dv x2)), .second] [(.int (2 : Int32)), (.int (3 : Int32)), (.ref b167)])) (fun X t q => XS.iload X.here C.hx rfl (hb C.hby at_220) rfl q) ?_
      refine Wk.st (g' := (mkF m 223 #[.val (.int i0), .val (.int i1), .val (.int i2), .val (.int i3), .val (.int i4), .val (.int (3 : Int32)), .val (.ref b167), .val (.ref b201), .val (.int (2 : Int32)), .val (.double (dv x2)), .second] [(.int (3 : Int32)), (.int (2 : Int32)), (.int (3 : Int32)), (.ref b167)])) (fun X t q => XS.iconst X.here C.hx rfl (hb C.hby at_222) q) ?_
      refine Wk.st (g' := (mkF m 225 #[.val (.int i0), .val (.int i1), .val (.int i2), .val (.int i3), .val (.int i4), .val (.int (3 : Int32)), .val (.ref b167), .val (.ref b201), .val (.int (2 : Int32)), .val (.double (dv x2)), .second] [(.double (dv x2)), (.int (3 : Int32)), (.int (2 : Int32)), (.int (3 : Int32)), (.ref b167)])) (fun X t q => XS.dload X.here C.hx rfl (hb C.hby at_223) rfl q) ?_
      refine Wk.callS C (z := (⟨"com/example/understory/understory/ClassifierMostProbablePinLaw", "ok", "([DIIID)Z"⟩ : MethodName)) (hw _ (List.mem_of_getElem? (i := 7) rfl)) (hw _ (List.mem_of_getElem? (i := 8) rfl)) (hw _ (List.mem_of_getElem? (i := 9) rfl)) (hw _ (List.mem_of_getElem? (i := 10) rfl)) (by decide) (own_ok_3_2_3 l Z a0 hw n0 h229 b167 x0 x1 x2 x3 r_x0 r_x1 r_x2 r_x3 F233) (w := 0) (by decide) (by decide) pd_1 rfl (rest := []) rfl rfl (Nat.le_of_eq rfl) (by decide) (by decide) at_225 ?_
      rintro _ _ ⟨rfl, rfl⟩
      show Wk _ p l e _ s m _ below meth c n0 _ h229 2 7 (mkF m 228 #[.val (.int i0), .val (.int i1), .val (.int i2), .val (.int i3), .val (.int i4), .val (.int (3 : Int32)), .val (.ref b167), .val (.ref b201), .val (.int (2 : Int32)), .val (.double (dv x2)), .second] [(.int (1 : Int32))])
      refine Wk.st (g' := (mkF m 231 #[.val (.int i0), .val (.int i1), .val (.int i2), .val (.int i3), .val (.int i4), .val (.int (3 : Int32)), .val (.ref b167), .val (.ref b201), .val (.int (2 : Int32)), .val (.double (dv x2)), .second] [])) (fun X t q => XS.ifNo X.here C.hx rfl (hb C.hby at_228) rfl (XT.i0_eq_f (by decide)) q) ?_
      refine Wk.st (g' := (mkF m 232 #[.val (.int i0), .val (.int i1), .val (.int i2), .val (.int i3), .val (.int i4), .val (.int (3 : Int32)), .val (.ref b167), .val (.ref b201), .val (.int (2 : Int32)), .val (.double (dv x2)), .second] [(.int (1 : Int32))])) (fun X t q => XS.iconst X.here C.hx rfl (hb C.hby at_231) q) ?_
      refine Wk.st (g' := (mkF m 236 #[.val (.int i0), .val (.int i1), .val (.int i2), .val (.int i3), .val (.int i4), .val (.int (3 : Int32)), .val (.ref b167), .val (.ref b201), .val (.int (2 : Int32)), .val (.double (dv x2)), .second] [(.int (1 : Int32))])) (fun X t q => XS.goto X.here C.hx rfl (pc0 := 232) (pc' := 236) rfl (hb C.hby at_232) (by decide) (by decide) q) ?_
      exact Wk.retV C (t := .boolean) rfl rfl (Or.inl ⟨rfl, by simp, _, rfl⟩) at_236 (by decide) (by decide) ⟨rfl, trivial⟩
  · skip
    show Wk _ p l e _ s m _ below meth c n0 _ h0 0 0 (mkF m 8 #[.val (.int i0), .val (.int i1), .val (.int i2), .val (.int i3), .val (.int i4), .val (.int (4 : Int32)), .unset, .unset, .unset, .unset, .unset] [])
    refine Wk.st (g' := (mkF m 9 #[.val (.int i0), .val (.int i1), .val (.int i2), .val (.int i3), .val (.int i4), .val (.int (4 : Int32)), .unset, .unset, .unset, .unset, .unset] [(.int (4 : Int32))])) (fun X t q => XS.iconst X.here C.hx rfl (hb C.hby at_8) q) ?_
    refine Wk.fNewP C (hw _ (List.mem_of_getElem? (i := 1) rfl)) (ty := .double) (dv := (.double (0 : UInt64))) (N := 4) (ad := "[D") rfl rfl (by decide) (by decide) (by decide) (cap := 4) (by decide) (by decide) at_9 (by decide) (by decide) ?_
    intro h237 b238 g239 E240 A241 F242
    have ge243 : n0 ≤ b238 := Nat.le_trans hsz (Nat.le_of_eq g239.symm)
    have gz244 : h0.size ≤ b238 := Nat.le_trans (Nat.le_refl h0.size) (Nat.le_of_eq g239.symm)
    have sz245 : n0 ≤ h237.size := Nat.le_trans hsz E240.1
    have sy246 : h0.size ≤ h237.size := Nat.le_trans (Nat.le_refl h0.size) E240.1
    show Wk _ p l e _ s m _ below meth c n0 _ h237 1 4 (mkF m 11 #[.val (.int i0), .val (.int i1), .val (.int i2), .val (.int i3), .val (.int i4), .val (.int (4 : Int32)), .unset, .unset, .unset, .unset, .unset] [(.ref b238)])
    refine Wk.st (g' := (mkF m 13 #[.val (.int i0), .val (.int i1), .val (.int i2), .val (.int i3), .val (.int i4), .val (.int (4 : Int32)), .val (.ref b238), .unset, .unset, .unset, .unset] [])) (fun X t q => XS.astore X.here C.hx rfl (hb C.hby at_11) rfl rfl (l' := #[.val (.int i0), .val (.int i1), .val (.int i2), .val (.int i3), .val (.int i4), .val (.int (4 : Int32)), .val (.ref b238), .unset, .unset, .unset, .unset]) rfl q) ?_
    refine Wk.st (g' := (mkF m 15 #[.val (.int i0), .val (.int i1), .val (.int i2), .val (.int i3), .val (.int i4), .val (.int (4 : Int32)), .val (.ref b238), .unset, .unset, .unset, .unset] [(.ref b238)])) (fun X t q => XS.aload X.here C.hx rfl (hb C.hby at_13) rfl rfl q) ?_
    refine Wk.st (g' := (mkF m 16 #[.val (.int i0), .val (.int i1), .val (.int i2), .val (.int i3), .val (.int i4), .val (.int (4 : Int32)), .val (.ref b238), .unset, .unset, .unset, .unset] [(.int (0 : Int32)), (.ref b238)])) (fun X t q => XS.iconst X.here C.hx rfl (hb C.hby at_15) q) ?_
    refine Wk.st (g' := (mkF m 17 #[.val (.int i0), .val (.int i1), .val (.int i2), .val (.int i3), .val (.int i4), .val (.int (4 : Int32)), .val (.ref b238), .unset, .unset, .unset, .unset] [(.int i1), (.int (0 : Int32)), (.ref b238)])) (fun X t q => XS.iloadN X.here C.hx rfl (hb C.hby at_16) rfl q) ?_
    refine Wk.st (g' := (mkF m 19 #[.val (.int i0), .val (.int i1), .val (.int i2), .val (.int i3), .val (.int i4), .val (.int (4 : Int32)), .val (.ref b238), .unset, .unset, .unset, .unset] [(.int (7 : Int32)), (.int i1), (.int (0 : Int32)), (.ref b238)])) (fun X t q => XS.bipush X.here C.hx rfl (hb C.hby at_17) q) ?_
    refine Wk.st (g' := (mkF m 20 #[.val (.int i0), .val (.int i1), .val (.int i2), .val (.int i3), .val (.int i4), .val (.int (4 : Int32)), .val (.ref b238), .unset, .unset, .unset, .unset] [(.int (i1 &&& (7 : Int32))), (.int (0 : Int32)), (.ref b238)])) (fun X t q => XS.iand X.here C.hx rfl (hb C.hby at_19) rfl q) ?_
    obtain ⟨x0, hx0⟩ : ∃ z, z = (i1 &&& (7 : Int32)) := ⟨_, rfl⟩
    rw [← hx0]
    have r_x0 := and7 i1
    rw [← hx0] at r_x0
    show Wk _ p l e _ s m _ below meth c n0 _ h237 1 4 (mkF m 20 #[.val (.int i0), .val (.int i1), .val (.int i2), .val (.int i3), .val (.int i4), .val (.int (4 : Int32)), .val (.ref b238), .unset, .unset, .unset, .unset] [(.int x0), (.int (0 : Int32)), (.ref b238)])
    refine Wk.st (g' := (mkF m 21 #[.val (.int i0), .val (.int i1), .val (.int i2), .val (.int i3), .val (.int i4), .val (.int (4 : Int32)), .val (.ref b238), .unset, .unset, .unset, .unset] [(.double (FP.i2d x0)), (.int (0 : Int32)), (.ref b238)])) (fun X t q => XS.i2dS X.here C.hx rfl (hb C.hby at_20) rfl rfl q) ?_
    refine Wk.ldc2D C (hw _ (List.mem_of_getElem? (i := 2) rfl)) at_21 ?_
    show Wk _ p l e _ s m _ below meth c n0 _ h237 1 4 (mkF m 24 #[.val (.int i0), .val (.int i1), .val (.int i2), .val (.int i3), .val (.int i4), .val (.int (4 : Int32)), .val (.ref b238), .unset, .unset, .unset, .unset] [(.double (4620693217682128896 : UInt64)), (.double (FP.i2d x0)), (.int (0 : Int32)), (.ref b238)])
    refine Wk.st (g' := (mkF m 25 #[.val (.int i0), .val (.int i1), .val (.int i2), .val (.int i3), .val (.int i4), .val (.int (4 : Int32)), .val (.ref b238), .unset, .unset, .unset, .unset] [(.double (dv x0)), (.int (0 : Int32)), (.ref b238)])) (fun X t q => XS.ddivS X.here C.hx rfl (hb C.hby at_24) rfl (dv_nan r_x0) rfl q) ?_
    refine Wk.fStD C F242 (i := 0) (by decide) (by decide) (by decide) ge243 at_25 ?_
    intro h247 W248 F249
    have F250 : Exa Z h247 b238 "[D" := A241.wr W248
    have sz251 : n0 ≤ h247.size := Nat.le_trans sz245 (Nat.le_of_eq W248.size.symm)
    have sy252 : h0.size ≤ h247.size := Nat.le_trans sy246 (Nat.le_of_eq W248.size.symm)
    show Wk _ p l e _ s m _ below meth c n0 _ h247 1 4 (mkF m 26 #[.val (.int i0), .val (.int i1), .val (.int i2), .val (.int i3), .val (.int i4), .val (.int (4 : Int32)), .val (.ref b238), .unset, .unset, .unset, .unset] [])
    refine Wk.st (g' := (mkF m 28 #[.val (.int i0), .val (.int i1), .val (.int i2), .val (.int i3), .val (.int i4), .val (.int (4 : Int32)), .val (.ref b238), .unset, .unset, .unset, .unset] [(.ref b238)])) (fun X t q => XS.aload X.here C.hx rfl (hb C.hby at_26) rfl rfl q) ?_
    refine Wk.st (g' := (mkF m 29 #[.val (.int i0), .val (.int i1), .val (.int i2), .val (.int i3), .val (.int i4), .val (.int (4 : Int32)), .val (.ref b238), .unset, .unset, .unset, .unset] [(.int (1 : Int32)), (.ref b238)])) (fun X t q => XS.iconst X.here C.hx rfl (hb C.hby at_28) q) ?_
    refine Wk.st (g' := (mkF m 30 #[.val (.int i0), .val (.int i1), .val (.int i2), .val (.int i3), .val (.int i4), .val (.int (4 : Int32)), .val (.ref b238), .unset, .unset, .unset, .unset] [(.int i2), (.int (1 : Int32)), (.ref b238)])) (fun X t q => XS.iloadN X.here C.hx rfl (hb C.hby at_29) rfl q) ?_
    refine Wk.st (g' := (mkF m 32 #[.val (.int i0), .val (.int i1), .val (.int i2), .val (.int i3), .val (.int i4), .val (.int (4 : Int32)), .val (.ref b238), .unset, .unset, .unset, .unset] [(.int (7 : Int32)), (.int i2), (.int (1 : Int32)), (.ref b238)])) (fun X t q => XS.bipush X.here C.hx rfl (hb C.hby at_30) q) ?_
    refine Wk.st (g' := (mkF m 33 #[.val (.int i0), .val (.int i1), .val (.int i2), .val (.int i3), .val (.int i4), .val (.int (4 : Int32)), .val (.ref b238), .unset, .unset, .unset, .unset] [(.int (i2 &&& (7 : Int32))), (.int (1 : Int32)), (.ref b238)])) (fun X t q => XS.iand X.here C.hx rfl (hb C.hby at_32) rfl q) ?_
    obtain ⟨x1, hx1⟩ : ∃ z, z = (i2 &&& (7 : Int32)) := ⟨_, rfl⟩
    rw [← hx1]
    have r_x1 := and7 i2
    rw [← hx1] at r_x1
    show Wk _ p l e _ s m _ below meth c n0 _ h247 1 4 (mkF m 33 #[.val (.int i0), .val (.int i1), .val (.int i2), .val (.int i3), .val (.int i4), .val (.int (4 : Int32)), .val (.ref b238), .unset, .unset, .unset, .unset] [(.int x1), (.int (1 : Int32)), (.ref b238)])
    refine Wk.st (g' := (mkF m 34 #[.val (.int i0), .val (.int i1), .val (.int i2), .val (.int i3), .val (.int i4), .val (.int (4 : Int32)), .val (.ref b238), .unset, .unset, .unset, .unset] [(.double (FP.i2d x1)), (.int (1 : Int32)), (.ref b238)])) (fun X t q => XS.i2dS X.here C.hx rfl (hb C.hby at_33) rfl rfl q) ?_
    refine Wk.ldc2D C (hw _ (List.mem_of_getElem? (i := 2) rfl)) at_34 ?_
    show Wk _ p l e _ s m _ below meth c n0 _ h247 1 4 (mkF m 37 #[.val (.int i0), .val (.int i1), .val (.int i2), .val (.int i3), .val (.int i4), .val (.int (4 : Int32)), .val (.ref b238), .unset, .unset, .unset, .unset] [(.double (4620693217682128896 : UInt64)), (.double (FP.i2d x1)), (.int (1 : Int32)), (.ref b238)])
    refine Wk.st (g' := (mkF m 38 #[.val (.int i0), .val (.int i1), .val (.int i2), .val (.int i3), .val (.int i4), .val (.int (4 : Int32)), .val (.ref b238), .unset, .unset, .unset, .unset] [(.double (dv x1)), (.int (1 : Int32)), (.ref b238)])) (fun X t q => XS.ddivS X.here C.hx rfl (hb C.hby at_37) rfl (dv_nan r_x1) rfl q) ?_
    refine Wk.fStD C F249 (i := 1) (by decide) (by decide) (by decide) ge243 at_38 ?_
    intro h253 W254 F255
    have F256 : Exa Z h253 b238 "[D" := F250.wr W254
    have sz257 : n0 ≤ h253.size := Nat.le_trans sz251 (Nat.le_of_eq W254.size.symm)
    have sy258 : h0.size ≤ h253.size := Nat.le_trans sy252 (Nat.le_of_eq W254.size.symm)
    show Wk _ p l e _ s m _ below meth c n0 _ h253 1 4 (mkF m 39 #[.val (.int i0), .val (.int i1), .val (.int i2), .val (.int i3), .val (.int i4), .val (.int (4 : Int32)), .val (.ref b238), .unset, .unset, .unset, .unset] [])
    refine Wk.st (g' := (mkF m 41 #[.val (.int i0), .val (.int i1), .val (.int i2), .val (.int i3), .val (.int i4), .val (.int (4 : Int32)), .val (.ref b238), .unset, .unset, .unset, .unset] [(.ref b238)])) (fun X t q => XS.aload X.here C.hx rfl (hb C.hby at_39) rfl rfl q) ?_
    refine Wk.st (g' := (mkF m 42 #[.val (.int i0), .val (.int i1), .val (.int i2), .val (.int i3), .val (.int i4), .val (.int (4 : Int32)), .val (.ref b238), .unset, .unset, .unset, .unset] [(.int (2 : Int32)), (.ref b238)])) (fun X t q => XS.iconst X.here C.hx rfl (hb C.hby at_41) q) ?_
    refine Wk.st (g' := (mkF m 43 #[.val (.int i0), .val (.int i1), .val (.int i2), .val (.int i3), .val (.int i4), .val (.int (4 : Int32)), .val (.ref b238), .unset, .unset, .unset, .unset] [(.int i3), (.int (2 : Int32)), (.ref b238)])) (fun X t q => XS.iloadN X.here C.hx rfl (hb C.hby at_42) rfl q) ?_
    refine Wk.st (g' := (mkF m 45 #[.val (.int i0), .val (.int i1), .val (.int i2), .val (.int i3), .val (.int i4), .val (.int (4 : Int32)), .val (.ref b238), .unset, .unset, .unset, .unset] [(.int (7 : Int32)), (.int i3), (.int (2 : Int32)), (.ref b238)])) (fun X t q => XS.bipush X.here C.hx rfl (hb C.hby at_43) q) ?_
    refine Wk.st (g' := (mkF m 46 #[.val (.int i0), .val (.int i1), .val (.int i2), .val (.int i3), .val (.int i4), .val (.int (4 : Int32)), .val (.ref b238), .unset, .unset, .unset, .unset] [(.int (i3 &&& (7 : Int32))), (.int (2 : Int32)), (.ref b238)])) (fun X t q => XS.iand X.here C.hx rfl (hb C.hby at_45) rfl q) ?_
    obtain ⟨x2, hx2⟩ : ∃ z, z = (i3 &&& (7 : Int32)) := ⟨_, rfl⟩
    rw [← hx2]
    have r_x2 := and7 i3
    rw [← hx2] at r_x2
    show Wk _ p l e _ s m _ below meth c n0 _ h253 1 4 (mkF m 46 #[.val (.int i0), .val (.int i1), .val (.int i2), .val (.int i3), .val (.int i4), .val (.int (4 : Int32)), .val (.ref b238), .unset, .unset, .unset, .unset] [(.int x2), (.int (2 : Int32)), (.ref b238)])
    refine Wk.st (g' := (mkF m 47 #[.val (.int i0), .val (.int i1), .val (.int i2), .val (.int i3), .val (.int i4), .val (.int (4 : Int32)), .val (.ref b238), .unset, .unset, .unset, .unset] [(.double (FP.i2d x2)), (.int (2 : Int32)), (.ref b238)])) (fun X t q => XS.i2dS X.here C.hx rfl (hb C.hby at_46) rfl rfl q) ?_
    refine Wk.ldc2D C (hw _ (List.mem_of_getElem? (i := 2) rfl)) at_47 ?_
    show Wk _ p l e _ s m _ below meth c n0 _ h253 1 4 (mkF m 50 #[.val (.int i0), .val (.int i1), .val (.int i2), .val (.int i3), .val (.int i4), .val (.int (4 : Int32)), .val (.ref b238), .unset, .unset, .unset, .unset] [(.double (4620693217682128896 : UInt64)), (.double (FP.i2d x2)), (.int (2 : Int32)), (.ref b238)])
    refine Wk.st (g' := (mkF m 51 #[.val (.int i0), .val (.int i1), .val (.int i2), .val (.int i3), .val (.int i4), .val (.int (4 : Int32)), .val (.ref b238), .unset, .unset, .unset, .unset] [(.double (dv x2)), (.int (2 : Int32)), (.ref b238)])) (fun X t q => XS.ddivS X.here C.hx rfl (hb C.hby at_50) rfl (dv_nan r_x2) rfl q) ?_
    refine Wk.fStD C F255 (i := 2) (by decide) (by decide) (by decide) ge243 at_51 ?_
    intro h259 W260 F261
    have F262 : Exa Z h259 b238 "[D" := F256.wr W260
    have sz263 : n0 ≤ h259.size := Nat.le_trans sz257 (Nat.le_of_eq W260.size.symm)
    have sy264 : h0.size ≤ h259.size := Nat.le_trans sy258 (Nat.le_of_eq W260.size.symm)
    show Wk _ p l e _ s m _ below meth c n0 _ h259 1 4 (mkF m 52 #[.val (.int i0), .val (.int i1), .val (.int i2), .val (.int i3), .val (.int i4), .val (.int (4 : Int32)), .val (.ref b238), .unset, .unset, .unset, .unset] [])
    refine Wk.st (g' := (mkF m 54 #[.val (.int i0), .val (.int i1), .val (.int i2), .val (.int i3), .val (.int i4), .val (.int (4 : Int32)), .val (.ref b238), .unset, .unset, .unset, .unset] [(.ref b238)])) (fun X t q => XS.aload X.here C.hx rfl (hb C.hby at_52) rfl rfl q) ?_
    refine Wk.st (g' := (mkF m 55 #[.val (.int i0), .val (.int i1), .val (.int i2), .val (.int i3), .val (.int i4), .val (.int (4 : Int32)), .val (.ref b238), .unset, .unset, .unset, .unset] [(.int (3 : Int32)), (.ref b238)])) (fun X t q => XS.iconst X.here C.hx rfl (hb C.hby at_54) q) ?_
    refine Wk.st (g' := (mkF m 57 #[.val (.int i0), .val (.int i1), .val (.int i2), .val (.int i3), .val (.int i4), .val (.int (4 : Int32)), .val (.ref b238), .unset, .unset, .unset, .unset] [(.int i4), (.int (3 : Int32)), (.ref b238)])) (fun X t q => XS.iload X.here C.hx rfl (hb C.hby at_55) rfl q) ?_
    refine Wk.st (g' := (mkF m 59 #[.val (.int i0), .val (.int i1), .val (.int i2), .val (.int i3), .val (.int i4), .val (.int (4 : Int32)), .val (.ref b238), .unset, .unset, .unset, .unset] [(.int (7 : Int32)), (.int i4), (.int (3 : Int32)), (.ref b238)])) (fun X t q => XS.bipush X.here C.hx rfl (hb C.hby at_57) q) ?_
    refine Wk.st (g' := (mkF m 60 #[.val (.int i0), .val (.int i1), .val (.int i2), .val (.int i3), .val (.int i4), .val (.int (4 : Int32)), .val (.ref b238), .unset, .unset, .unset, .unset] [(.int (i4 &&& (7 : Int32))), (.int (3 : Int32)), (.ref b238)])) (fun X t q => XS.iand X.here C.hx rfl (hb C.hby at_59) rfl q) ?_
    obtain ⟨x3, hx3⟩ : ∃ z, z = (i4 &&& (7 : Int32)) := ⟨_, rfl⟩
    rw [← hx3]
    have r_x3 := and7 i4
    rw [← hx3] at r_x3
    show Wk _ p l e _ s m _ below meth c n0 _ h259 1 4 (mkF m 60 #[.val (.int i0), .val (.int i1), .val (.int i2), .val (.int i3), .val (.int i4), .val (.int (4 : Int32)), .val (.ref b238), .unset, .unset, .unset, .unset] [(.int x3), (.int (3 : Int32)), (.ref b238)])
    refine Wk.st (g' := (mkF m 61 #[.val (.int i0), .val (.int i1), .val (.int i2), .val (.int i3), .val (.int i4), .val (.int (4 : Int32)), .val (.ref b238), .unset, .unset, .unset, .unset] [(.double (FP.i2d x3)), (.int (3 : Int32)), (.ref b238)])) (fun X t q => XS.i2dS X.here C.hx rfl (hb C.hby at_60) rfl rfl q) ?_
    refine Wk.ldc2D C (hw _ (List.mem_of_getElem? (i := 2) rfl)) at_61 ?_
    show Wk _ p l e _ s m _ below meth c n0 _ h259 1 4 (mkF m 64 #[.val (.int i0), .val (.int i1), .val (.int i2), .val (.int i3), .val (.int i4), .val (.int (4 : Int32)), .val (.ref b238), .unset, .unset, .unset, .unset] [(.double (4620693217682128896 : UInt64)), (.double (FP.i2d x3)), (.int (3 : Int32)), (.ref b238)])
    refine Wk.st (g' := (mkF m 65 #[.val (.int i0), .val (.int i1), .val (.int i2), .val (.int i3), .val (.int i4), .val (.int (4 : Int32)), .val (.ref b238), .unset, .unset, .unset, .unset] [(.double (dv x3)), (.int (3 : Int32)), (.ref b238)])) (fun X t q => XS.ddivS X.here C.hx rfl (hb C.hby at_64) rfl (dv_nan r_x3) rfl q) ?_
    refine Wk.fStD C F261 (i := 3) (by decide) (by decide) (by decide) ge243 at_65 ?_
    intro h265 W266 F267
    have F268 : Exa Z h265 b238 "[D" := F262.wr W266
    have sz269 : n0 ≤ h265.size := Nat.le_trans sz263 (Nat.le_of_eq W266.size.symm)
    have sy270 : h0.size ≤ h265.size := Nat.le_trans sy264 (Nat.le_of_eq W266.size.symm)
    show Wk _ p l e _ s m _ below meth c n0 _ h265 1 4 (mkF m 66 #[.val (.int i0), .val (.int i1), .val (.int i2), .val (.int i3), .val (.int i4), .val (.int (4 : Int32)), .val (.ref b238), .unset, .unset, .unset, .unset] [])
    refine Wk.st (g' := (mkF m 68 #[.val (.int i0), .val (.int i1), .val (.int i2), .val (.int i3), .val (.int i4), .val (.int (4 : Int32)), .val (.ref b238), .unset, .unset, .unset, .unset] [(.int (4 : Int32))])) (fun X t q => XS.iload X.here C.hx rfl (hb C.hby at_66) rfl q) ?_
    refine Wk.fNewP C (hw _ (List.mem_of_getElem? (i := 1) rfl)) (ty := .double) (dv := (.double (0 : UInt64))) (N := 4) (ad := "[D") rfl rfl (by decide) (by decide) (by decide) (cap := 4) (by decide) (by decide) at_68 (by decide) (by decide) ?_
    intro h271 b272 g273 E274 A275 F276
    have ne277 : b238 ≠ b272 := Nat.ne_of_lt (Nat.lt_of_lt_of_le F268.lt (Nat.le_of_eq g273.symm))
    have ge278 : n0 ≤ b272 := Nat.le_trans sz269 (Nat.le_of_eq g273.symm)
    have gz279 : h0.size ≤ b272 := Nat.le_trans sy270 (Nat.le_of_eq g273.symm)
    have F280 : Exa Z h271 b238 "[D" := F268.ext E274
    have F281 : Fa Z h271 b238 .double 4 (up (up (up (up (fun _ => (.double (0 : UInt64))) 0 (.double (dv x0))) 1 (.double (dv x1))) 2 (.double (dv x2))) 3 (.double (dv x3))) := F267.ext E274
    have sz282 : n0 ≤ h271.size := Nat.le_trans sz269 E274.1
    have sy283 : h0.size ≤ h271.size := Nat.le_trans sy270 E274.1
    show Wk _ p l e _ s m _ below meth c n0 _ h271 2 8 (mkF m 70 #[.val (.int i0), .val (.int i1), .val (.int i2), .val (.int i3), .val (.int i4), .val (.int (4 : Int32)), .val (.ref b238), .unset, .unset, .unset, .unset] [(.ref b272)])
    refine Wk.st (g' := (mkF m 72 #[.val (.int i0), .val (.int i1), .val (.int i2), .val (.int i3), .val (.int i4), .val (.int (4 : Int32)), .val (.ref b238), .val (.ref b272), .unset, .unset, .unset] [])) (fun X t q => XS.astore X.here C.hx rfl (hb C.hby at_70) rfl rfl (l' := #[.val (.int i0), .val (.int i1), .val (.int i2), .val (.int i3), .val (.int i4), .val (.int (4 : Int32)), .val (.ref b238), .val (.ref b272), .unset, .unset, .unset]) rfl q) ?_
    refine Wk.st (g' := (mkF m 74 #[.val (.int i0), .val (.int i1), .val (.int i2), .val (.int i3), .val (.int i4), .val (.int (4 : Int32)), .val (.ref b238), .val (.ref b272), .unset, .unset, .unset] [(.int (4 : Int32))])) (fun X t q => XS.iload X.here C.hx rfl (hb C.hby at_72) rfl q) ?_
    refine Wk.st (g' := (mkF m 77 #[.val (.int i0), .val (.int i1), .val (.int i2), .val (.int i3), .val (.int i4), .val (.int (4 : Int32)), .val (.ref b238), .val (.ref b272), .unset, .unset, .unset] [])) (fun X t q => XS.ifNo X.here C.hx rfl (hb C.hby at_74) rfl (XT.i0_le_f (by decide)) q) ?_
    refine Wk.st (g' := (mkF m 79 #[.val (.int i0), .val (.int i1), .val (.int i2), .val (.int i3), .val (.int i4), .val (.int (4 : Int32)), .val (.ref b238), .val (.ref b272), .unset, .unset, .unset] [(.ref b272)])) (fun X t q => XS.aload X.here C.hx rfl (hb C.hby at_77) rfl rfl q) ?_
    refine Wk.st (g' := (mkF m 80 #[.val (.int i0), .val (.int i1), .val (.int i2), .val (.int i3), .val (.int i4), .val (.int (4 : Int32)), .val (.ref b238), .val (.ref b272), .unset, .unset, .unset] [(.int (0 : Int32)), (.ref b272)])) (fun X t q => XS.iconst X.here C.hx rfl (hb C.hby at_79) q) ?_
    refine Wk.st (g' := (mkF m 82 #[.val (.int i0), .val (.int i1), .val (.int i2), .val (.int i3), .val (.int i4), .val (.int (4 : Int32)), .val (.ref b238), .val (.ref b272), .unset, .unset, .unset] [(.ref b238), (.int (0 : Int32)), (.ref b272)])) (fun X t q => XS.aload X.here C.hx rfl (hb C.hby at_80) rfl rfl q) ?_
    refine Wk.st (g' := (mkF m 83 #[.val (.int i0), .val (.int i1), .val (.int i2), .val (.int i3), .val (.int i4), .val (.int (4 : Int32)), .val (.ref b238), .val (.ref b272), .unset, .unset, .unset] [(.int (0 : Int32)), (.ref b238), (.int (0 : Int32)), (.ref b272)])) (fun X t q => XS.iconst X.here C.hx rfl (hb C.hby at_82) q) ?_
    refine Wk.fLdD C F281 (i := 0) (by decide) (by decide) (by decide) (v := (.double (dv x0))) (by simp [up]) at_83 ?_
    show Wk _ p l e _ s m _ below meth c n0 _ h271 2 8 (mkF m 84 #[.val (.int i0), .val (.int i1), .val (.int i2), .val (.int i3), .val (.int i4), .val (.int (4 : Int32)), .val (.ref b238), .val (.ref b272), .unset, .unset, .unset] [(.double (dv x0)), (.int (0 : Int32)), (.ref b272)])
    refine Wk.fStD C F276 (i := 0) (by decide) (by decide) (by decide) ge278 at_84 ?_
    intro h284 W285 F286
    have F287 : Exa Z h284 b238 "[D" := F280.wr W285
    have F288 : Fa Z h284 b238 .double 4 (up (up (up (up (fun _ => (.double (0 : UInt64))) 0 (.double (dv x0))) 1 (.double (dv x1))) 2 (.double (dv x2))) 3 (.double (dv x3))) := F281.other W285 ne277
    have F289 : Exa Z h284 b272 "[D" := A275.wr W285
    have sz290 : n0 ≤ h284.size := Nat.le_trans sz282 (Nat.le_of_eq W285.size.symm)
    have sy291 : h0.size ≤ h284.size := Nat.le_trans sy283 (Nat.le_of_eq W285.size.symm)
    show Wk _ p l e _ s m _ below meth c n0 _ h284 2 8 (mkF m 85 #[.val (.int i0), .val (.int i1), .val (.int i2), .val (.int i3), .val (.int i4), .val (.int (4 : Int32)), .val (.ref b238), .val (.ref b272), .unset, .unset, .unset] [])
    refine Wk.st (g' := (mkF m 87 #[.val (.int i0), .val (.int i1), .val (.int i2), .val (.int i3), .val (.int i4), .val (.int (4 : Int32)), .val (.ref b238), .val (.ref b272), .unset, .unset, .unset] [(.int (4 : Int32))])) (fun X t q => XS.iload X.here C.hx rfl (hb C.hby at_85) rfl q) ?_
    refine Wk.st (g' := (mkF m 88 #[.val (.int i0), .val (.int i1), .val (.int i2), .val (.int i3), .val (.int i4), .val (.int (4 : Int32)), .val (.ref b238), .val (.ref b272), .unset, .unset, .unset] [(.int (1 : Int32)), (.int (4 : Int32))])) (fun X t q => XS.iconst X.here C.hx rfl (hb C.hby at_87) q) ?_
    refine Wk.st (g' := (mkF m 91 #[.val (.int i0), .val (.int i1), .val (.int i2), .val (.int i3), .val (.int i4), .val (.int (4 : Int32)), .val (.ref b238), .val (.ref b272), .unset, .unset, .unset] [])) (fun X t q => XS.icmpNo X.here C.hx rfl (hb C.hby at_88) rfl (XT.ii_le_f (by decide)) q) ?_
    refine Wk.st (g' := (mkF m 93 #[.val (.int i0), .val (.int i1), .val (.int i2), .val (.int i3), .val (.int i4), .val (.int (4 : Int32)), .val (.ref b238), .val (.ref b272), .unset, .unset, .unset] [(.ref b272)])) (fun X t q => XS.aload X.here C.hx rfl (hb C.hby at_91) rfl rfl q) ?_
    refine Wk.st (g' := (mkF m 94 #[.val (.int i0), .val (.int i1), .val (.int i2), .val (.int i3), .val (.int i4), .val (.int (4 : Int32)), .val (.ref b238), .val (.ref b272), .unset, .unset, .unset] [(.int (1 : Int32)), (.ref b272)])) (fun X t q => XS.iconst X.here C.hx rfl (hb C.hby at_93) q) ?_
    refine Wk.st (g' := (mkF m 96 #[.val (.int i0), .val (.int i1), .val (.int i2), .val (.int i3), .val (.int i4), .val (.int (4 : Int32)), .val (.ref b238), .val (.ref b272), .unset, .unset, .unset] [(.ref b238), (.int (1 : Int32)), (.ref b272)])) (fun X t q => XS.aload X.here C.hx rfl (hb C.hby at_94) rfl rfl q) ?_
    refine Wk.st (g' := (mkF m 97 #[.val (.int i0), .val (.int i1), .val (.int i2), .val (.int i3), .val (.int i4), .val (.int (4 : Int32)), .val (.ref b238), .val (.ref b272), .unset, .unset, .unset] [(.int (1 : Int32)), (.ref b238), (.int (1 : Int32)), (.ref b272)])) (fun X t q => XS.iconst X.here C.hx rfl (hb C.hby at_96) q) ?_
    refine Wk.fLdD C F288 (i := 1) (by decide) (by decide) (by decide) (v := (.double (dv x1))) (by simp [up]) at_97 ?_
    show Wk _ p l e _ s m _ below meth c n0 _ h284 2 8 (mkF m 98 #[.val (.int i0), .val (.int i1), .val (.int i2), .val (.int i3), .val (.int i4), .val (.int (4 : Int32)), .val (.ref b238), .val (.ref b272), .unset, .unset, .unset] [(.double (dv x1)), (.int (1 : Int32)), (.ref b272)])
    refine Wk.fStD C F286 (i := 1) (by decide) (by decide) (by decide) ge278 at_98 ?_
    intro h292 W293 F294
    have F295 : Exa Z h292 b238 "[D" := F287.wr W293
    have F296 : Fa Z h292 b238 .double 4 (up (up (up (up (fun _ => (.double (0 : UInt64))) 0 (.double (dv x0))) 1 (.double (dv x1))) 2 (.double (dv x2))) 3 (.double (dv x3))) := F288.other W293 ne277
    have F297 : Exa Z h292 b272 "[D" := F289.wr W293
    have sz298 : n0 ≤ h292.size := Nat.le_trans sz290 (Nat.le_of_eq W293.size.symm)
    have sy299 : h0.size ≤ h292.size := Nat.le_trans sy291 (Nat.le_of_eq W293.size.symm)
    show Wk _ p l e _ s m _ below meth c n0 _ h292 2 8 (mkF m 99 #[.val (.int i0), .val (.int i1), .val (.int i2), .val (.int i3), .val (.int i4), .val (.int (4 : Int32)), .val (.ref b238), .val (.ref b272), .unset, .unset, .unset] [])
    refine Wk.st (g' := (mkF m 101 #[.val (.int i0), .val (.int i1), .val (.int i2), .val (.int i3), .val (.int i4), .val (.int (4 : Int32)), .val (.ref b238), .val (.ref b272), .unset, .unset, .unset] [(.int (4 : Int32))])) (fun X t q => XS.iload X.here C.hx rfl (hb C.hby at_99) rfl q) ?_
    refine Wk.st (g' := (mkF m 102 #[.val (.int i0), .val (.int i1), .val (.int i2), .val (.int i3), .val (.int i4), .val (.int (4 : Int32)), .val (.ref b238), .val (.ref b272), .unset, .unset, .unset] [(.int (2 : Int32)), (.int (4 : Int32))])) (fun X t q => XS.iconst X.here C.hx rfl (hb C.hby at_101) q) ?_
    refine Wk.st (g' := (mkF m 105 #[.val (.int i0), .val (.int i1), .val (.int i2), .val (.int i3), .val (.int i4), .val (.int (4 : Int32)), .val (.ref b238), .val (.ref b272), .unset, .unset, .unset] [])) (fun X t q => XS.icmpNo X.here C.hx rfl (hb C.hby at_102) rfl (XT.ii_le_f (by decide)) q) ?_
    refine Wk.st (g' := (mkF m 107 #[.val (.int i0), .val (.int i1), .val (.int i2), .val (.int i3), .val (.int i4), .val (.int (4 : Int32)), .val (.ref b238), .val (.ref b272), .unset, .unset, .unset] [(.ref b272)])) (fun X t q => XS.aload X.here C.hx rfl (hb C.hby at_105) rfl rfl q) ?_
    refine Wk.st (g' := (mkF m 108 #[.val (.int i0), .val (.int i1), .val (.int i2), .val (.int i3), .val (.int i4), .val (.int (4 : Int32)), .val (.ref b238), .val (.ref b272), .unset, .unset, .unset] [(.int (2 : Int32)), (.ref b272)])) (fun X t q => XS.iconst X.here C.hx rfl (hb C.hby at_107) q) ?_
    refine Wk.st (g' := (mkF m 110 #[.val (.int i0), .val (.int i1), .val (.int i2), .val (.int i3), .val (.int i4), .val (.int (4 : Int32)), .val (.ref b238), .val (.ref b272), .unset, .unset, .unset] [(.ref b238), (.int (2 : Int32)), (.ref b272)])) (fun X t q => XS.aload X.here C.hx rfl (hb C.hby at_108) rfl rfl q) ?_
    refine Wk.st (g' := (mkF m 111 #[.val (.int i0), .val (.int i1), .val (.int i2), .val (.int i3), .val (.int i4), .val (.int (4 : Int32)), .val (.ref b238), .val (.ref b272), .unset, .unset, .unset] [(.int (2 : Int32)), (.ref b238), (.int (2 : Int32)), (.ref b272)])) (fun X t q => XS.iconst X.here C.hx rfl (hb C.hby at_110) q) ?_
    refine Wk.fLdD C F296 (i := 2) (by decide) (by decide) (by decide) (v := (.double (dv x2))) (by simp [up]) at_111 ?_
    show Wk _ p l e _ s m _ below meth c n0 _ h292 2 8 (mkF m 112 #[.val (.int i0), .val (.int i1), .val (.int i2), .val (.int i3), .val (.int i4), .val (.int (4 : Int32)), .val (.ref b238), .val (.ref b272), .unset, .unset, .unset] [(.double (dv x2)), (.int (2 : Int32)), (.ref b272)])
    refine Wk.fStD C F294 (i := 2) (by decide) (by decide) (by decide) ge278 at_112 ?_
    intro h300 W301 F302
    have F303 : Exa Z h300 b238 "[D" := F295.wr W301
    have F304 : Fa Z h300 b238 .double 4 (up (up (up (up (fun _ => (.double (0 : UInt64))) 0 (.double (dv x0))) 1 (.double (dv x1))) 2 (.double (dv x2))) 3 (.double (dv x3))) := F296.other W301 ne277
    have F305 : Exa Z h300 b272 "[D" := F297.wr W301
    have sz306 : n0 ≤ h300.size := Nat.le_trans sz298 (Nat.le_of_eq W301.size.symm)
    have sy307 : h0.size ≤ h300.size := Nat.le_trans sy299 (Nat.le_of_eq W301.size.symm)
    show Wk _ p l e _ s m _ below meth c n0 _ h300 2 8 (mkF m 113 #[.val (.int i0), .val (.int i1), .val (.int i2), .val (.int i3), .val (.int i4), .val (.int (4 : Int32)), .val (.ref b238), .val (.ref b272), .unset, .unset, .unset] [])
    refine Wk.st (g' := (mkF m 115 #[.val (.int i0), .val (.int i1), .val (.int i2), .val (.int i3), .val (.int i4), .val (.int (4 : Int32)), .val (.ref b238), .val (.ref b272), .unset, .unset, .unset] [(.int (4 : Int32))])) (fun X t q => XS.iload X.here C.hx rfl (hb C.hby at_113) rfl q) ?_
    refine Wk.st (g' := (mkF m 116 #[.val (.int i0), .val (.int i1), .val (.int i2), .val (.int i3), .val (.int i4), .val (.int (4 : Int32)), .val (.ref b238), .val (.ref b272), .unset, .unset, .unset] [(.int (3 : Int32)), (.int (4 : Int32))])) (fun X t q => XS.iconst X.here C.hx rfl (hb C.hby at_115) q) ?_
    refine Wk.st (g' := (mkF m 119 #[.val (.int i0), .val (.int i1), .val (.int i2), .val (.int i3), .val (.int i4), .val (.int (4 : Int32)), .val (.ref b238), .val (.ref b272), .unset, .unset, .unset] [])) (fun X t q => XS.icmpNo X.here C.hx rfl (hb C.hby at_116) rfl (XT.ii_le_f (by decide)) q) ?_
    refine Wk.st (g' := (mkF m 121 #[.val (.int i0), .val (.int i1), .val (.int i2), .val (.int i3), .val (.int i4), .val (.int (4 : Int32)), .val (.ref b238), .val (.ref b272), .unset, .unset, .unset] [(.ref b272)])) (fun X t q => XS.aload X.here C.hx rfl (hb C.hby at_119) rfl rfl q) ?_
    refine Wk.st (g' := (mkF m 122 #[.val (.int i0), .val (.int i1), .val (.int i2), .val (.int i3), .val (.int i4), .val (.int (4 : Int32)), .val (.ref b238), .val (.ref b272), .unset, .unset, .unset] [(.int (3 : Int32)), (.ref b272)])) (fun X t q => XS.iconst X.here C.hx rfl (hb C.hby at_121) q) ?_
    refine Wk.st (g' := (mkF m 124 #[.val (.int i0), .val (.int i1), .val (.int i2), .val (.int i3), .val (.int i4), .val (.int (4 : Int32)), .val (.ref b238), .val (.ref b272), .unset, .unset, .unset] [(.ref b238), (.int (3 : Int32)), (.ref b272)])) (fun X t q => XS.aload X.here C.hx rfl (hb C.hby at_122) rfl rfl q) ?_
    refine Wk.st (g' := (mkF m 125 #[.val (.int i0), .val (.int i1), .val (.int i2), .val (.int i3), .val (.int i4), .val (.int (4 : Int32)), .val (.ref b238), .val (.ref b272), .unset, .unset, .unset] [(.int (3 : Int32)), (.ref b238), (.int (3 : Int32)), (.ref b272)])) (fun X t q => XS.iconst X.here C.hx rfl (hb C.hby at_124) q) ?_
    refine Wk.fLdD C F304 (i := 3) (by decide) (by decide) (by decide) (v := (.double (dv x3))) (by simp [up]) at_125 ?_
    show Wk _ p l e _ s m _ below meth c n0 _ h300 2 8 (mkF m 126 #[.val (.int i0), .val (.int i1), .val (.int i2), .val (.int i3), .val (.int i4), .val (.int (4 : Int32)), .val (.ref b238), .val (.ref b272), .unset, .unset, .unset] [(.double (dv x3)), (.int (3 : Int32)), (.ref b272)])
    refine Wk.fStD C F302 (i := 3) (by decide) (by decide) (by decide) ge278 at_126 ?_
    intro h308 W309 F310
    have F311 : Exa Z h308 b238 "[D" := F303.wr W309
    have F312 : Fa Z h308 b238 .double 4 (up (up (up (up (fun _ => (.double (0 : UInt64))) 0 (.double (dv x0))) 1 (.double (dv x1))) 2 (.double (dv x2))) 3 (.double (dv x3))) := F304.other W309 ne277
    have F313 : Exa Z h308 b272 "[D" := F305.wr W309
    have sz314 : n0 ≤ h308.size := Nat.le_trans sz306 (Nat.le_of_eq W309.size.symm)
    have sy315 : h0.size ≤ h308.size := Nat.le_trans sy307 (Nat.le_of_eq W309.size.symm)
    show Wk _ p l e _ s m _ below meth c n0 _ h308 2 8 (mkF m 127 #[.val (.int i0), .val (.int i1), .val (.int i2), .val (.int i3), .val (.int i4), .val (.int (4 : Int32)), .val (.ref b238), .val (.ref b272), .unset, .unset, .unset] [])
    refine Wk.st (g' := (mkF m 129 #[.val (.int i0), .val (.int i1), .val (.int i2), .val (.int i3), .val (.int i4), .val (.int (4 : Int32)), .val (.ref b238), .val (.ref b272), .unset, .unset, .unset] [(.ref b272)])) (fun X t q => XS.aload X.here C.hx rfl (hb C.hby at_127) rfl rfl q) ?_
    refine Wk.callS C (z := (⟨"com/example/understory/understory/Classifier", "mostProbable", "([D)I"⟩ : MethodName)) (hw _ (List.mem_of_getElem? (i := 3) rfl)) (hw _ (List.mem_of_getElem? (i := 4) rfl)) (hw _ (List.mem_of_getElem? (i := 5) rfl)) (hw _ (List.mem_of_getElem? (i := 6) rfl)) (by decide) (own_mp4 l Z a0 hw n0 h308 b272 x0 x1 x2 x3 r_x0 r_x1 r_x2 r_x3 F310) (w := 0) (by decide) (by decide) pd_0 rfl (rest := []) rfl rfl (Nat.le_of_eq rfl) (by decide) (by decide) at_129 ?_
    rintro _ _ ⟨⟨rfl, e0, e1, e2⟩ | ⟨rfl, e0, e1, e2⟩ | ⟨rfl, e0, e1, e2⟩ | ⟨rfl, e0, e1, e2⟩, rfl⟩
    · skip
      show Wk _ p l e _ s m _ below meth c n0 _ h308 2 8 (mkF m 132 #[.val (.int i0), .val (.int i1), .val (.int i2), .val (.int i3), .val (.int i4), .val (.int (4 : Int32)), .val (.ref b238), .val (.ref b272), .unset, .unset, .unset] [(.int (0 : Int32))])
      refine Wk.st (g' := (mkF m 134 #[.val (.int i0), .val (.int i1), .val (.int i2), .val (.int i3), .val (.int i4), .val (.int (4 : Int32)), .val (.ref b238), .val (.ref b272), .val (.int (0 : Int32)), .unset, .unset] [])) (fun X t q => XS.istore X.here C.hx rfl (hb C.hby at_132) rfl (l' := #[.val (.int i0), .val (.int i1), .val (.int i2), .val (.int i3), .val (.int i4), .val (.int (4 : Int32)), .val (.ref b238), .val (.ref b272), .val (.int (0 : Int32)), .unset, .unset]) rfl q) ?_
      refine Wk.st (g' := (mkF m 136 #[.val (.int i0), .val (.int i1), .val (.int i2), .val (.int i3), .val (.int i4), .val (.int (4 : Int32)), .val (.ref b238), .val (.ref b272), .val (.int (0 : Int32)), .unset, .unset] [(.int (4 : Int32))])) (fun X t q => XS.iload X.here C.hx rfl (hb C.hby at_134) rfl q) ?_
      refine Wk.st (g' := (mkF m 150 #[.val (.int i0), .val (.int i1), .val (.int i2), .val (.int i3), .val (.int i4), .val (.int (4 : Int32)), .val (.ref b238), .val (.ref b272), .val (.int (0 : Int32)), .unset, .unset] [])) (fun X t q => XS.ifYes X.here C.hx rfl (pc0 := 136) (pc' := 150) rfl (hb C.hby at_136) rfl (XT.i0_ne_t (by decide)) (by decide) (by decide) q) ?_
      refine Wk.st (g' := (mkF m 152 #[.val (.int i0), .val (.int i1), .val (.int i2), .val (.int i3), .val (.int i4), .val (.int (4 : Int32)), .val (.ref b238), .val (.ref b272), .val (.int (0 : Int32)), .unset, .unset] [(.int (0 : Int32))])) (fun X t q => XS.iload X.here C.hx rfl (hb C.hby at_150) rfl q) ?_
      refine Wk.st (g' := (mkF m 155 #[.val (.int i0), .val (.int i1), .val (.int i2), .val (.int i3), .val (.int i4), .val (.int (4 : Int32)), .val (.ref b238), .val (.ref b272), .val (.int (0 : Int32)), .unset, .unset] [])) (fun X t q => XS.ifNo X.here C.hx rfl (hb C.hby at_152) rfl (XT.i0_lt_f (by decide)) q) ?_
      refine Wk.st (g' := (mkF m 157 #[.val (.int i0), .val (.int i1), .val (.int i2), .val (.int i3), .val (.int i4), .val (.int (4 : Int32)), .val (.ref b238), .val (.ref b272), .val (.int (0 : Int32)), .unset, .unset] [(.int (0 : Int32))])) (fun X t q => XS.iload X.here C.hx rfl (hb C.hby at_155) rfl q) ?_
      refine Wk.st (g' := (mkF m 159 #[.val (.int i0), .val (.int i1), .val (.int i2), .val (.int i3), .val (.int i4), .val (.int (4 : Int32)), .val (.ref b238), .val (.ref b272), .val (.int (0 : Int32)), .unset, .unset] [(.int (4 : Int32)), (.int (0 : Int32))])) (fun X t q => XS.iload X.here C.hx rfl (hb C.hby at_157) rfl q) ?_
      refine Wk.st (g' := (mkF m 164 #[.val (.int i0), .val (.int i1), .val (.int i2), .val (.int i3), .val (.int i4), .val (.int (4 : Int32)), .val (.ref b238), .val (.ref b272), .val (.int (0 : Int32)), .unset, .unset] [])) (fun X t q => XS.icmpYes X.here C.hx rfl (pc0 := 159) (pc' := 164) rfl (hb C.hby at_159) rfl (XT.ii_lt_t (by decide)) (by decide) (by decide) q) ?_
      refine Wk.st (g' := (mkF m 166 #[.val (.int i0), .val (.int i1), .val (.int i2), .val (.int i3), .val (.int i4), .val (.int (4 : Int32)), .val (.ref b238), .val (.ref b272), .val (.int (0 : Int32)), .unset, .unset] [(.ref b238)])) (fun X t q => XS.aload X.here C.hx rfl (hb C.hby at_164) rfl rfl q) ?_
      refine Wk.st (g' := (mkF m 168 #[.val (.int i0), .val (.int i1), .val (.int i2), .val (.int i3), .val (.int i4), .val (.int (4 : Int32)), .val (.ref b238), .val (.ref b272), .val (.int (0 : Int32)), .unset, .unset] [(.int (0 : Int32)), (.ref b238)])) (fun X t q => XS.iload X.here C.hx rfl (hb C.hby at_166) rfl q) ?_
      refine Wk.fLdD C F312 (i := 0) (by decide) (by decide) (by decide) (v := (.double (dv x0))) (by simp [up]) at_168 ?_
      show Wk _ p l e _ s m _ below meth c n0 _ h308 2 8 (mkF m 169 #[.val (.int i0), .val (.int i1), .val (.int i2), .val (.int i3), .val (.int i4), .val (.int (4 : Int32)), .val (.ref b238), .val (.ref b272), .val (.int (0 : Int32)), .unset, .unset] [(.double (dv x0))])
      refine Wk.st (g' := (mkF m 171 #[.val (.int i0), .val (.int i1), .val (.int i2), .val (.int i3), .val (.int i4), .val (.int (4 : Int32)), .val (.ref b238), .val (.ref b272), .val (.int (0 : Int32)), .val (.double (dv x0)), .second] [])) (fun X t q => XS.dstore X.here C.hx rfl (hb C.hby at_169) rfl (l' := #[.val (.int i0), .val (.int i1), .val (.int i2), .val (.int i3), .val (.int i4), .val (.int (4 : Int32)), .val (.ref b238), .val (.ref b272), .val (.int (0 : Int32)), .val (.double (dv x0)), .second]) rfl q) ?_
      refine Wk.st (g' := (mkF m 173 #[.val (.int i0), .val (.int i1), .val (.int i2), .val (.int i3), .val (.int i4), .val (.int (4 : Int32)), .val (.ref b238), .val (.ref b272), .val (.int (0 : Int32)), .val (.double (dv x0)), .second] [(.ref b238)])) (fun X t q => XS.aload X.here C.hx rfl (hb C.hby at_171) rfl rfl q) ?_
      refine Wk.st (g' := (mkF m 175 #[.val (.int i0), .val (.int i1), .val (.int i2), .val (.int i3), .val (.int i4), .val (.int (4 : Int32)), .val (.ref b238), .val (.ref b272), .val (.int (0 : Int32)), .val (.double (dv x0)), .second] [(.int (4 : Int32)), (.ref b238)])) (fun X t q => XS.iload X.here C.hx rfl (hb C.hby at_173) rfl q) ?_
      refine Wk.st (g' := (mkF m 177 #[.val (.int i0), .val (.int i1), .val (.int i2), .val (.int i3), .val (.int i4), .val (.int (4 : Int32)), .val (.ref b238), .val (.ref b272), .val (.int (0 : Int32)), .val (.double (dv x0)), .second] [(.int (0 : Int32)), (.int (4 : Int32)), (.ref b238)])) (fun X t q => XS.iload X.here C.hx rfl (hb C.hby at_175) rfl q) ?_
      refine Wk.st (g' := (mkF m 178 #[.val (.int i0), .val (.int i1), .val (.int i2), .val (.int i3), .val (.int i4), .val (.int (4 : Int32)), .val (.ref b238), .val (.ref b272), .val (.int (0 : Int32)), .val (.double (dv x0)), .second] [(.int (0 : Int32)), (.int (0 : Int32)), (.int (4 : Int32)), (.ref b238)])) (fun X t q => XS.iconst X.here C.hx rfl (hb C.hby at_177) q) ?_
      refine Wk.st (g' := (mkF m 180 #[.val (.int i0), .val (.int i1), .val (.int i2), .val (.int i3), .val (.int i4), .val (.int (4 : Int32)), .val (.ref b238), .val (.ref b272), .val (.int (0 : Int32)), .val (.double (dv x0)), .second] [(.double (dv x0)), (.int (0 : Int32)), (.int (0 : Int32)), (.int (4 : Int32)), (.ref b238)])) (fun X t q => XS.dload X.here C.hx rfl (hb C.hby at_178) rfl q) ?_
      refine Wk.callS C (z := (⟨"com/example/understory/understory/ClassifierMostProbablePinLaw", "ok", "([DIIID)Z"⟩ : MethodName)) (hw _ (List.mem_of_getElem? (i := 7) rfl)) (hw _ (List.mem_of_getElem? (i := 8) rfl)) (hw _ (List.mem_of_getElem? (i := 9) rfl)) (hw _ (List.mem_of_getElem? (i := 10) rfl)) (by decide) (own_ok_4_0_0 l Z a0 hw n0 h308 b238 x0 x1 x2 x3 r_x0 r_x1 r_x2 r_x3 F312 (by omega)) (w := 0) (by decide) (by decide) pd_1 rfl (rest := []) rfl rfl (Nat.le_of_eq rfl) (by decide) (by decide) at_180 ?_
      rintro _ _ ⟨rfl, rfl⟩
      show Wk _ p l e _ s m _ below meth c n0 _ h308 2 8 (mkF m 183 #[.val (.int i0), .val (.int i1), .val (.int i2), .val (.int i3), .val (.int i4), .val (.int (4 : Int32)), .val (.ref b238), .val (.ref b272), .val (.int (0 : Int32)), .val (.double (dv x0)), .second] [(.int (1 : Int32))])
      refine Wk.st (g' := (mkF m 186 #[.val (.int i0), .val (.int i1), .val (.int i2), .val (.int i3), .val (.int i4), .val (.int (4 : Int32)), .val (.ref b238), .val (.ref b272), .val (.int (0 : Int32)), .val (.double (dv x0)), .second] [])) (fun X t q => XS.ifNo X.here C.hx rfl (hb C.hby at_183) rfl (XT.i0_eq_f (by decide)) q) ?_
      refine Wk.st (g' := (mkF m 188 #[.val (.int i0), .val (.int i1), .val (.int i2), .val (.int i3), .val (.int i4), .val (.int (4 : Int32)), .val (.ref b238), .val (.ref b272), .val (.int (0 : Int32)), .val (.double (dv x0)), .second] [(.ref b238)])) (fun X t q => XS.aload X.here C.hx rfl (hb C.hby at_186) rfl rfl q) ?_
      refine Wk.st (g' := (mkF m 190 #[.val (.int i0), .val (.int i1), .val (.int i2), .val (.int i3), .val (.int i4), .val (.int (4 : Int32)), .val (.ref b238), .val (.ref b272), .val (.int (0 : Int32)), .val (.double (dv x0)), .second] [(.int (4 : Int32)), (.ref b238)])) (fun X t q => XS.iload X.here C.hx rfl (hb C.hby at_188) rfl q) ?_
      refine Wk.st (g' := (mkF m 192 #[.val (.int i0), .val (.int i1), .val (.int i2), .val (.int i3), .val (.int i4), .val (.int (4 : Int32)), .val (.ref b238), .val (.ref b272), .val (.int (0 : Int32)), .val (.double (dv x0)), .second] [(.int (0 : Int32)), (.int (4 : Int32)), (.ref b238)])) (fun X t q => XS.iload X.here C.hx rfl (hb C.hby at_190) rfl q) ?_
      refine Wk.st (g' := (mkF m 193 #[.val (.int i0), .val (.int i1), .val (.int i2), .val (.int i3), .val (.int i4), .val (.int (4 : Int32)), .val (.ref b238), .val (.ref b272), .val (.int (0 : Int32)), .val (.double (dv x0)), .second] [(.int (1 : Int32)), (.int (0 : Int32)), (.int (4 : Int32)), (.ref b238)])) (fun X t q => XS.iconst X.here C.hx rfl (hb C.hby at_192) q) ?_
      refine Wk.st (g' := (mkF m 195 #[.val (.int i0), .val (.int i1), .val (.int i2), .val (.int i3), .val (.int i4), .val (.int (4 : Int32)), .val (.ref b238), .val (.ref b272), .val (.int (0 : Int32)), .val (.double (dv x0)), .second] [(.double (dv x0)), (.int (1 : Int32)), (.int (0 : Int32)), (.int (4 : Int32)), (.ref b238)])) (fun X t q => XS.dload X.here C.hx rfl (hb C.hby at_193) rfl q) ?_
      refine Wk.callS C (z := (⟨"com/example/understory/understory/ClassifierMostProbablePinLaw", "ok", "([DIIID)Z"⟩ : MethodName)) (hw _ (List.mem_of_getElem? (i := 7) rfl)) (hw _ (List.mem_of_getElem? (i := 8) rfl)) (hw _ (List.mem_of_getElem? (i := 9) rfl)) (hw _ (List.mem_of_getElem? (i := 10) rfl)) (by decide) (own_ok_4_0_1 l Z a0 hw n0 h308 b238 x0 x1 x2 x3 r_x0 r_x1 r_x2 r_x3 F312 (by omega)) (w := 0) (by decide) (by decide) pd_1 rfl (rest := []) rfl rfl (Nat.le_of_eq rfl) (by decide) (by decide) at_195 ?_
      rintro _ _ ⟨rfl, rfl⟩
      show Wk _ p l e _ s m _ below meth c n0 _ h308 2 8 (mkF m 198 #[.val (.int i0), .val (.int i1), .val (.int i2), .val (.int i3), .val (.int i4), .val (.int (4 : Int32)), .val (.ref b238), .val (.ref b272), .val (.int (0 : Int32)), .val (.double (dv x0)), .second] [(.int (1 : Int32))])
      refine Wk.st (g' := (mkF m 201 #[.val (.int i0), .val (.int i1), .val (.int i2), .val (.int i3), .val (.int i4), .val (.int (4 : Int32)), .val (.ref b238), .val (.ref b272), .val (.int (0 : Int32)), .val (.double (dv x0)), .second] [])) (fun X t q => XS.ifNo X.here C.hx rfl (hb C.hby at_198) rfl (XT.i0_eq_f (by decide)) q) ?_
      refine Wk.st (g' := (mkF m 203 #[.val (.int i0), .val (.int i1), .val (.int i2), .val (.int i3), .val (.int i4), .val (.int (4 : Int32)), .val (.ref b238), .val (.ref b272), .val (.int (0 : Int32)), .val (.double (dv x0)), .second] [(.ref b238)])) (fun X t q => XS.aload X.here C.hx rfl (hb C.hby at_201) rfl rfl q) ?_
      refine Wk.st (g' := (mkF m 205 #[.val (.int i0), .val (.int i1), .val (.int i2), .val (.int i3), .val (.int i4), .val (.int (4 : Int32)), .val (.ref b238), .val (.ref b272), .val (.int (0 : Int32)), .val (.double (dv x0)), .second] [(.int (4 : Int32)), (.ref b238)])) (fun X t q => XS.iload X.here C.hx rfl (hb C.hby at_203) rfl q) ?_
      refine Wk.st (g' := (mkF m 207 #[.val (.int i0), .val (.int i1), .val (.int i2), .val (.int i3), .val (.int i4), .val (.int (4 : Int32)), .val (.ref b238), .val (.ref b272), .val (.int (0 : Int32)), .val (.double (dv x0)), .second] [(.int (0 : Int32)), (.int (4 : Int32)), (.ref b238)])) (fun X t q => XS.iload X.here C.hx rfl (hb C.hby at_205) rfl q) ?_
      refine Wk.st (g' := (mkF m 208 #[.val (.int i0), .val (.int i1), .val (.int i2), .val (.int i3), .val (.int i4), .val (.int (4 : Int32)), .val (.ref b238), .val (.ref b272), .val (.int (0 : Int32)), .val (.double (dv x0)), .second] [(.int (2 : Int32)), (.int (0 : Int32)), (.int (4 : Int32)), (.ref b238)])) (fun X t q => XS.iconst X.here C.hx rfl (hb C.hby at_207) q) ?_
      refine Wk.st (g' := (mkF m 210 #[.val (.int i0), .val (.int i1), .val (.int i2), .val (.int i3), .val (.int i4), .val (.int (4 : Int32)), .val (.ref b238), .val (.ref b272), .val (.int (0 : Int32)), .val (.double (dv x0)), .second] [(.double (dv x0)), (.int (2 : Int32)), (.int (0 : Int32)), (.int (4 : Int32)), (.ref b238)])) (fun X t q => XS.dload X.here C.hx rfl (hb C.hby at_208) rfl q) ?_
      refine Wk.callS C (z := (⟨"com/example/understory/understory/ClassifierMostProbablePinLaw", "ok", "([DIIID)Z"⟩ : MethodName)) (hw _ (List.mem_of_getElem? (i := 7) rfl)) (hw _ (List.mem_of_getElem? (i := 8) rfl)) (hw _ (List.mem_of_getElem? (i := 9) rfl)) (hw _ (List.mem_of_getElem? (i := 10) rfl)) (by decide) (own_ok_4_0_2 l Z a0 hw n0 h308 b238 x0 x1 x2 x3 r_x0 r_x1 r_x2 r_x3 F312 (by omega)) (w := 0) (by decide) (by decide) pd_1 rfl (rest := []) rfl rfl (Nat.le_of_eq rfl) (by decide) (by decide) at_210 ?_
      rintro _ _ ⟨rfl, rfl⟩
      show Wk _ p l e _ s m _ below meth c n0 _ h308 2 8 (mkF m 213 #[.val (.int i0), .val (.int i1), .val (.int i2), .val (.int i3), .val (.int i4), .val (.int (4 : Int32)), .val (.ref b238), .val (.ref b272), .val (.int (0 : Int32)), .val (.double (dv x0)), .second] [(.int (1 : Int32))])
      refine Wk.st (g' := (mkF m 216 #[.val (.int i0), .val (.int i1), .val (.int i2), .val (.int i3), .val (.int i4), .val (.int (4 : Int32)), .val (.ref b238), .val (.ref b272), .val (.int (0 : Int32)), .val (.double (dv x0)), .second] [])) (fun X t q => XS.ifNo X.here C.hx rfl (hb C.hby at_213) rfl (XT.i0_eq_f (by decide)) q) ?_
      refine Wk.st (g' := (mkF m 218 #[.val (.int i0), .val (.int i1), .val (.int i2), .val (.int i3), .val (.int i4), .val (.int (4 : Int32)), .val (.ref b238), .val (.ref b272), .val (.int (0 : Int32)), .val (.double (dv x0)), .second] [(.ref b238)])) (fun X t q => XS.aload X.here C.hx rfl (hb C.hby at_216) rfl rfl q) ?_
      refine Wk.st (g' := (mkF m 220 #[.val (.int i0), .val (.int i1), .val (.int i2), .val (.int i3), .val (.int i4), .val (.int (4 : Int32)), .val (.ref b238), .val (.ref b272), .val (.int (0 : Int32)), .val (.double (dv x0)), .second] [(.int (4 : Int32)), (.ref b238)])) (fun X t q => XS.iload X.here C.hx rfl (hb C.hby at_218) rfl q) ?_
      refine Wk.st (g' := (mkF m 222 #[.val (.int i0), .val (.int i1), .val (.int i2), .val (.int i3), .val (.int i4), .val (.int (4 : Int32)), .val (.ref b238), .val (.ref b272), .val (.int (0 : Int32)), .val (.double (dv x0)), .second] [(.int (0 : Int32)), (.int (4 : Int32)), (.ref b238)])) (fun X t q => XS.iload X.here C.hx rfl (hb C.hby at_220) rfl q) ?_
      refine Wk.st (g' := (mkF m 223 #[.val (.int i0), .val (.int i1), .val (.int i2), .val (.int i3), .val (.int i4), .val (.int (4 : Int32)), .val (.ref b238), .val (.ref b272), .val (.int (0 : Int32)), .val (.double (dv x0)), .second] [(.int (3 : Int32)), (.int (0 : Int32)), (.int (4 : Int32)), (.ref b238)])) (fun X t q => XS.iconst X.here C.hx rfl (hb C.hby at_222) q) ?_
      refine Wk.st (g' := (mkF m 225 #[.val (.int i0), .val (.int i1), .val (.int i2), .val (.int i3), .val (.int i4), .val (.int (4 : Int32)), .val (.ref b238), .val (.ref b272), .val (.int (0 : Int32)), .val (.double (dv x0)), .second] [(.double (dv x0)), (.int (3 : Int32)), (.int (0 : Int32)), (.int (4 : Int32)), (.ref b238)])) (fun X t q => XS.dload X.here C.hx rfl (hb C.hby at_223) rfl q) ?_
      refine Wk.callS C (z := (⟨"com/example/understory/understory/ClassifierMostProbablePinLaw", "ok", "([DIIID)Z"⟩ : MethodName)) (hw _ (List.mem_of_getElem? (i := 7) rfl)) (hw _ (List.mem_of_getElem? (i := 8) rfl)) (hw _ (List.mem_of_getElem? (i := 9) rfl)) (hw _ (List.mem_of_getElem? (i := 10) rfl)) (by decide) (own_ok_4_0_3 l Z a0 hw n0 h308 b238 x0 x1 x2 x3 r_x0 r_x1 r_x2 r_x3 F312 (by omega)) (w := 0) (by decide) (by decide) pd_1 rfl (rest := []) rfl rfl (Nat.le_of_eq rfl) (by decide) (by decide) at_225 ?_
      rintro _ _ ⟨rfl, rfl⟩
      show Wk _ p l e _ s m _ below meth c n0 _ h308 2 8 (mkF m 228 #[.val (.int i0), .val (.int i1), .val (.int i2), .val (.int i3), .val (.int i4), .val (.int (4 : Int32)), .val (.ref b238), .val (.ref b272), .val (.int (0 : Int32)), .val (.double (dv x0)), .second] [(.int (1 : Int32))])
      refine Wk.st (g' := (mkF m 231 #[.val (.int i0), .val (.int i1), .val (.int i2), .val (.int i3), .val (.int i4), .val (.int (4 : Int32)), .val (.ref b238), .val (.ref b272), .val (.int (0 : Int32)), .val (.double (dv x0)), .second] [])) (fun X t q => XS.ifNo X.here C.hx rfl (hb C.hby at_228) rfl (XT.i0_eq_f (by decide)) q) ?_
      refine Wk.st (g' := (mkF m 232 #[.val (.int i0), .val (.int i1), .val (.int i2), .val (.int i3), .val (.int i4), .val (.int (4 : Int32)), .val (.ref b238), .val (.ref b272), .val (.int (0 : Int32)), .val (.double (dv x0)), .second] [(.int (1 : Int32))])) (fun X t q => XS.iconst X.here C.hx rfl (hb C.hby at_231) q) ?_
      refine Wk.st (g' := (mkF m 236 #[.val (.int i0), .val (.int i1), .val (.int i2), .val (.int i3), .val (.int i4), .val (.int (4 : Int32)), .val (.ref b238), .val (.ref b272), .val (.int (0 : Int32)), .val (.double (dv x0)), .second] [(.int (1 : Int32))])) (fun X t q => XS.goto X.here C.hx rfl (pc0 := 232) (pc' := 236) rfl (hb C.hby at_232) (by decide) (by decide) q) ?_
      exact Wk.retV C (t := .boolean) rfl rfl (Or.inl ⟨rfl, by simp, _, rfl⟩) at_236 (by decide) (by decide) ⟨rfl, trivial⟩
    · skip
      show Wk _ p l e _ s m _ below meth c n0 _ h308 2 8 (mkF m 132 #[.val (.int i0), .val (.int i1), .val (.int i2), .val (.int i3), .val (.int i4), .val (.int (4 : Int32)), .val (.ref b238), .val (.ref b272), .unset, .unset, .unset] [(.int (1 : Int32))])
      refine Wk.st (g' := (mkF m 134 #[.val (.int i0), .val (.int i1), .val (.int i2), .val (.int i3), .val (.int i4), .val (.int (4 : Int32)), .val (.ref b238), .val (.ref b272), .val (.int (1 : Int32)), .unset, .unset] [])) (fun X t q => XS.istore X.here C.hx rfl (hb C.hby at_132) rfl (l' := #[.val (.int i0), .val (.int i1), .val (.int i2), .val (.int i3), .val (.int i4), .val (.int (4 : Int32)), .val (.ref b238), .val (.ref b272), .val (.int (1 : Int32)), .unset, .unset]) rfl q) ?_
      refine Wk.st (g' := (mkF m 136 #[.val (.int i0), .val (.int i1), .val (.int i2), .val (.int i3), .val (.int i4), .val (.int (4 : Int32)), .val (.ref b238), .val (.ref b272), .val (.int (1 : Int32)), .unset, .unset] [(.int (4 : Int32))])) (fun X t q => XS.iload X.here C.hx rfl (hb C.hby at_134) rfl q) ?_
      refine Wk.st (g' := (mkF m 150 #[.val (.int i0), .val (.int i1), .val (.int i2), .val (.int i3), .val (.int i4), .val (.int (4 : Int32)), .val (.ref b238), .val (.ref b272), .val (.int (1 : Int32)), .unset, .unset] [])) (fun X t q => XS.ifYes X.here C.hx rfl (pc0 := 136) (pc' := 150) rfl (hb C.hby at_136) rfl (XT.i0_ne_t (by decide)) (by decide) (by decide) q) ?_
      refine Wk.st (g' := (mkF m 152 #[.val (.int i0), .val (.int i1), .val (.int i2), .val (.int i3), .val (.int i4), .val (.int (4 : Int32)), .val (.ref b238), .val (.ref b272), .val (.int (1 : Int32)), .unset, .unset] [(.int (1 : Int32))])) (fun X t q => XS.iload X.here C.hx rfl (hb C.hby at_150) rfl q) ?_
      refine Wk.st (g' := (mkF m 155 #[.val (.int i0), .val (.int i1), .val (.int i2), .val (.int i3), .val (.int i4), .val (.int (4 : Int32)), .val (.ref b238), .val (.ref b272), .val (.int (1 : Int32)), .unset, .unset] [])) (fun X t q => XS.ifNo X.here C.hx rfl (hb C.hby at_152) rfl (XT.i0_lt_f (by decide)) q) ?_
      refine Wk.st (g' := (mkF m 157 #[.val (.int i0), .val (.int i1), .val (.int i2), .val (.int i3), .val (.int i4), .val (.int (4 : Int32)), .val (.ref b238), .val (.ref b272), .val (.int (1 : Int32)), .unset, .unset] [(.int (1 : Int32))])) (fun X t q => XS.iload X.here C.hx rfl (hb C.hby at_155) rfl q) ?_
      refine Wk.st (g' := (mkF m 159 #[.val (.int i0), .val (.int i1), .val (.int i2), .val (.int i3), .val (.int i4), .val (.int (4 : Int32)), .val (.ref b238), .val (.ref b272), .val (.int (1 : Int32)), .unset, .unset] [(.int (4 : Int32)), (.int (1 : Int32))])) (fun X t q => XS.iload X.here C.hx rfl (hb C.hby at_157) rfl q) ?_
      refine Wk.st (g' := (mkF m 164 #[.val (.int i0), .val (.int i1), .val (.int i2), .val (.int i3), .val (.int i4), .val (.int (4 : Int32)), .val (.ref b238), .val (.ref b272), .val (.int (1 : Int32)), .unset, .unset] [])) (fun X t q => XS.icmpYes X.here C.hx rfl (pc0 := 159) (pc' := 164) rfl (hb C.hby at_159) rfl (XT.ii_lt_t (by decide)) (by decide) (by decide) q) ?_
      refine Wk.st (g' := (mkF m 166 #[.val (.int i0), .val (.int i1), .val (.int i2), .val (.int i3), .val (.int i4), .val (.int (4 : Int32)), .val (.ref b238), .val (.ref b272), .val (.int (1 : Int32)), .unset, .unset] [(.ref b238)])) (fun X t q => XS.aload X.here C.hx rfl (hb C.hby at_164) rfl rfl q) ?_
      refine Wk.st (g' := (mkF m 168 #[.val (.int i0), .val (.int i1), .val (.int i2), .val (.int i3), .val (.int i4), .val (.int (4 : Int32)), .val (.ref b238), .val (.ref b272), .val (.int (1 : Int32)), .unset, .unset] [(.int (1 : Int32)), (.ref b238)])) (fun X t q => XS.iload X.here C.hx rfl (hb C.hby at_166) rfl q) ?_
      refine Wk.fLdD C F312 (i := 1) (by decide) (by decide) (by decide) (v := (.double (dv x1))) (by simp [up]) at_168 ?_
      show Wk _ p l e _ s m _ below meth c n0 _ h308 2 8 (mkF m 169 #[.val (.int i0), .val (.int i1), .val (.int i2), .val (.int i3), .val (.int i4), .val (.int (4 : Int32)), .val (.ref b238), .val (.ref b272), .val (.int (1 : Int32)), .unset, .unset] [(.double (dv x1))])
      refine Wk.st (g' := (mkF m 171 #[.val (.int i0), .val (.int i1), .val (.int i2), .val (.int i3), .val (.int i4), .val (.int (4 : Int32)), .val (.ref b238), .val (.ref b272), .val (.int (1 : Int32)), .val (.double (dv x1)), .second] [])) (fun X t q => XS.dstore X.here C.hx rfl (hb C.hby at_169) rfl (l' := #[.val (.int i0), .val (.int i1), .val (.int i2), .val (.int i3), .val (.int i4), .val (.int (4 : Int32)), .val (.ref b238), .val (.ref b272), .val (.int (1 : Int32)), .val (.double (dv x1)), .second]) rfl q) ?_
      refine Wk.st (g' := (mkF m 173 #[.val (.int i0), .val (.int i1), .val (.int i2), .val (.int i3), .val (.int i4), .val (.int (4 : Int32)), .val (.ref b238), .val (.ref b272), .val (.int (1 : Int32)), .val (.double (dv x1)), .second] [(.ref b238)])) (fun X t q => XS.aload X.here C.hx rfl (hb C.hby at_171) rfl rfl q) ?_
      refine Wk.st (g' := (mkF m 175 #[.val (.int i0), .val (.int i1), .val (.int i2), .val (.int i3), .val (.int i4), .val (.int (4 : Int32)), .val (.ref b238), .val (.ref b272), .val (.int (1 : Int32)), .val (.double (dv x1)), .second] [(.int (4 : Int32)), (.ref b238)])) (fun X t q => XS.iload X.here C.hx rfl (hb C.hby at_173) rfl q) ?_
      refine Wk.st (g' := (mkF m 177 #[.val (.int i0), .val (.int i1), .val (.int i2), .val (.int i3), .val (.int i4), .val (.int (4 : Int32)), .val (.ref b238), .val (.ref b272), .val (.int (1 : Int32)), .val (.double (dv x1)), .second] [(.int (1 : Int32)), (.int (4 : Int32)), (.ref b238)])) (fun X t q => XS.iload X.here C.hx rfl (hb C.hby at_175) rfl q) ?_
      refine Wk.st (g' := (mkF m 178 #[.val (.int i0), .val (.int i1), .val (.int i2), .val (.int i3), .val (.int i4), .val (.int (4 : Int32)), .val (.ref b238), .val (.ref b272), .val (.int (1 : Int32)), .val (.double (dv x1)), .second] [(.int (0 : Int32)), (.int (1 : Int32)), (.int (4 : Int32)), (.ref b238)])) (fun X t q => XS.iconst X.here C.hx rfl (hb C.hby at_177) q) ?_
      refine Wk.st (g' := (mkF m 180 #[.val (.int i0), .val (.int i1), .val (.int i2), .val (.int i3), .val (.int i4), .val (.int (4 : Int32)), .val (.ref b238), .val (.ref b272), .val (.int (1 : Int32)), .val (.double (dv x1)), .second] [(.double (dv x1)), (.int (0 : Int32)), (.int (1 : Int32)), (.int (4 : Int32)), (.ref b238)])) (fun X t q => XS.dload X.here C.hx rfl (hb C.hby at_178) rfl q) ?_
      refine Wk.callS C (z := (⟨"com/example/understory/understory/ClassifierMostProbablePinLaw", "ok", "([DIIID)Z"⟩ : MethodName)) (hw _ (List.mem_of_getElem? (i := 7) rfl)) (hw _ (List.mem_of_getElem? (i := 8) rfl)) (hw _ (List.mem_of_getElem? (i := 9) rfl)) (hw _ (List.mem_of_getElem? (i := 10) rfl)) (by decide) (own_ok_4_1_0 l Z a0 hw n0 h308 b238 x0 x1 x2 x3 r_x0 r_x1 r_x2 r_x3 F312 (by omega)) (w := 0) (by decide) (by decide) pd_1 rfl (rest := []) rfl rfl (Nat.le_of_eq rfl) (by decide) (by decide) at_180 ?_
      rintro _ _ ⟨rfl, rfl⟩
      show Wk _ p l e _ s m _ below meth c n0 _ h308 2 8 (mkF m 183 #[.val (.int i0), .val (.int i1), .val (.int i2), .val (.int i3), .val (.int i4), .val (.int (4 : Int32)), .val (.ref b238), .val (.ref b272), .val (.int (1 : Int32)), .val (.double (dv x1)), .second] [(.int (1 : Int32))])
      refine Wk.st (g' := (mkF m 186 #[.val (.int i0), .val (.int i1), .val (.int i2), .val (.int i3), .val (.int i4), .val (.int (4 : Int32)), .val (.ref b238), .val (.ref b272), .val (.int (1 : Int32)), .val (.double (dv x1)), .second] [])) (fun X t q => XS.ifNo X.here C.hx rfl (hb C.hby at_183) rfl (XT.i0_eq_f (by decide)) q) ?_
      refine Wk.st (g' := (mkF m 188 #[.val (.int i0), .val (.int i1), .val (.int i2), .val (.int i3), .val (.int i4), .val (.int (4 : Int32)), .val (.ref b238), .val (.ref b272), .val (.int (1 : Int32)), .val (.double (dv x1)), .second] [(.ref b238)])) (fun X t q => XS.aload X.here C.hx rfl (hb C.hby at_186) rfl rfl q) ?_
      refine Wk.st (g' := (mkF m 190 #[.val (.int i0), .val (.int i1), .val (.int i2), .val (.int i3), .val (.int i4), .val (.int (4 : Int32)), .val (.ref b238), .val (.ref b272), .val (.int (1 : Int32)), .val (.double (dv x1)), .second] [(.int (4 : Int32)), (.ref b238)])) (fun X t q => XS.iload X.here C.hx rfl (hb C.hby at_188) rfl q) ?_
      refine Wk.st (g' := (mkF m 192 #[.val (.int i0), .val (.int i1), .val (.int i2), .val (.int i3), .val (.int i4), .val (.int (4 : Int32)), .val (.ref b238), .val (.ref b272), .val (.int (1 : Int32)), .val (.double (dv x1)), .second] [(.int (1 : Int32)), (.int (4 : Int32)), (.ref b238)])) (fun X t q => XS.iload X.here C.hx rfl (hb C.hby at_190) rfl q) ?_
      refine Wk.st (g' := (mkF m 193 #[.val (.int i0), .val (.int i1), .val (.int i2), .val (.int i3), .val (.int i4), .val (.int (4 : Int32)), .val (.ref b238), .val (.ref b272), .val (.int (1 : Int32)), .val (.double (dv x1)), .second] [(.int (1 : Int32)), (.int (1 : Int32)), (.int (4 : Int32)), (.ref b238)])) (fun X t q => XS.iconst X.here C.hx rfl (hb C.hby at_192) q) ?_
      refine Wk.st (g' := (mkF m 195 #[.val (.int i0), .val (.int i1), .val (.int i2), .val (.int i3), .val (.int i4), .val (.int (4 : Int32)), .val (.ref b238), .val (.ref b272), .val (.int (1 : Int32)), .val (.double (dv x1)), .second] [(.double (dv x1)), (.int (1 : Int32)), (.int (1 : Int32)), (.int (4 : Int32)), (.ref b238)])) (fun X t q => XS.dload X.here C.hx rfl (hb C.hby at_193) rfl q) ?_
      refine Wk.callS C (z := (⟨"com/example/understory/understory/ClassifierMostProbablePinLaw", "ok", "([DIIID)Z"⟩ : MethodName)) (hw _ (List.mem_of_getElem? (i := 7) rfl)) (hw _ (List.mem_of_getElem? (i := 8) rfl)) (hw _ (List.mem_of_getElem? (i := 9) rfl)) (hw _ (List.mem_of_getElem? (i := 10) rfl)) (by decide) (own_ok_4_1_1 l Z a0 hw n0 h308 b238 x0 x1 x2 x3 r_x0 r_x1 r_x2 r_x3 F312 (by omega)) (w := 0) (by decide) (by decide) pd_1 rfl (rest := []) rfl rfl (Nat.le_of_eq rfl) (by decide) (by decide) at_195 ?_
      rintro _ _ ⟨rfl, rfl⟩
      show Wk _ p l e _ s m _ below meth c n0 _ h308 2 8 (mkF m 198 #[.val (.int i0), .val (.int i1), .val (.int i2), .val (.int i3), .val (.int i4), .val (.int (4 : Int32)), .val (.ref b238), .val (.ref b272), .val (.int (1 : Int32)), .val (.double (dv x1)), .second] [(.int (1 : Int32))])
      refine Wk.st (g' := (mkF m 201 #[.val (.int i0), .val (.int i1), .val (.int i2), .val (.int i3), .val (.int i4), .val (.int (4 : Int32)), .val (.ref b238), .val (.ref b272), .val (.int (1 : Int32)), .val (.double (dv x1)), .second] [])) (fun X t q => XS.ifNo X.here C.hx rfl (hb C.hby at_198) rfl (XT.i0_eq_f (by decide)) q) ?_
      refine Wk.st (g' := (mkF m 203 #[.val (.int i0), .val (.int i1), .val (.int i2), .val (.int i3), .val (.int i4), .val (.int (4 : Int32)), .val (.ref b238), .val (.ref b272), .val (.int (1 : Int32)), .val (.double (dv x1)), .second] [(.ref b238)])) (fun X t q => XS.aload X.here C.hx rfl (hb C.hby at_201) rfl rfl q) ?_
      refine Wk.st (g' := (mkF m 205 #[.val (.int i0), .val (.int i1), .val (.int i2), .val (.int i3), .val (.int i4), .val (.int (4 : Int32)), .val (.ref b238), .val (.ref b272), .val (.int (1 : Int32)), .val (.double (dv x1)), .second] [(.int (4 : Int32)), (.ref b238)])) (fun X t q => XS.iload X.here C.hx rfl (hb C.hby at_203) rfl q) ?_
      refine Wk.st (g' := (mkF m 207 #[.val (.int i0), .val (.int i1), .val (.int i2), .val (.int i3), .val (.int i4), .val (.int (4 : Int32)), .val (.ref b238), .val (.ref b272), .val (.int (1 : Int32)), .val (.double (dv x1)), .second] [(.int (1 : Int32)), (.int (4 : Int32)), (.ref b238)])) (fun X t q => XS.iload X.here C.hx rfl (hb C.hby at_205) rfl q) ?_
      refine Wk.st (g' := (mkF m 208 #[.val (.int i0), .val (.int i1), .val (.int i2), .val (.int i3), .val (.int i4), .val (.int (4 : Int32)), .val (.ref b238), .val (.ref b272), .val (.int (1 : Int32)), .val (.double (dv x1)), .second] [(.int (2 : Int32)), (.int (1 : Int32)), (.int (4 : Int32)), (.ref b238)])) (fun X t q => XS.iconst X.here C.hx rfl (hb C.hby at_207) q) ?_
      refine Wk.st (g' := (mkF m 210 #[.val (.int i0), .val (.int i1), .val (.int i2), .val (.int i3), .val (.int i4), .val (.int (4 : Int32)), .val (.ref b238), .val (.ref b272), .val (.int (1 : Int32)), .val (.double (dv x1)), .second] [(.double (dv x1)), (.int (2 : Int32)), (.int (1 : Int32)), (.int (4 : Int32)), (.ref b238)])) (fun X t q => XS.dload X.here C.hx rfl (hb C.hby at_208) rfl q) ?_
      refine Wk.callS C (z := (⟨"com/example/understory/understory/ClassifierMostProbablePinLaw", "ok", "([DIIID)Z"⟩ : MethodName)) (hw _ (List.mem_of_getElem? (i := 7) rfl)) (hw _ (List.mem_of_getElem? (i := 8) rfl)) (hw _ (List.mem_of_getElem? (i := 9) rfl)) (hw _ (List.mem_of_getElem? (i := 10) rfl)) (by decide) (own_ok_4_1_2 l Z a0 hw n0 h308 b238 x0 x1 x2 x3 r_x0 r_x1 r_x2 r_x3 F312 (by omega)) (w := 0) (by decide) (by decide) pd_1 rfl (rest := []) rfl rfl (Nat.le_of_eq rfl) (by decide) (by decide) at_210 ?_
      rintro _ _ ⟨rfl, rfl⟩
      show Wk _ p l e _ s m _ below meth c n0 _ h308 2 8 (mkF m 213 #[.val (.int i0), .val (.int i1), .val (.int i2), .val (.int i3), .val (.int i4), .val (.int (4 : Int32)), .val (.ref b238), .val (.ref b272), .val (.int (1 : Int32)), .val (.double (dv x1)), .second] [(.int (1 : Int32))])
      refine Wk.st (g' := (mkF m 216 #[.val (.int i0), .val (.int i1), .val (.int i2), .val (.int i3), .val (.int i4), .val (.int (4 : Int32)), .val (.ref b238), .val (.ref b272), .val (.int (1 : Int32)), .val (.double (dv x1)), .second] [])) (fun X t q => XS.ifNo X.here C.hx rfl (hb C.hby at_213) rfl (XT.i0_eq_f (by decide)) q) ?_
      refine Wk.st (g' := (mkF m 218 #[.val (.int i0), .val (.int i1), .val (.int i2), .val (.int i3), .val (.int i4), .val (.int (4 : Int32)), .val (.ref b238), .val (.ref b272), .val (.int (1 : Int32)), .val (.double (dv x1)), .second] [(.ref b238)])) (fun X t q => XS.aload X.here C.hx rfl (hb C.hby at_216) rfl rfl q) ?_
      refine Wk.st (g' := (mkF m 220 #[.val (.int i0), .val (.int i1), .val (.int i2), .val (.int i3), .val (.int i4), .val (.int (4 : Int32)), .val (.ref b238), .val (.ref b272), .val (.int (1 : Int32)), .val (.double (dv x1)), .second] [(.int (4 : Int32)), (.ref b238)])) (fun X t q => XS.iload X.here C.hx rfl (hb C.hby at_218) rfl q) ?_
      refine Wk.st (g' := (mkF m 222 #[.val (.int i0), .val (.int i1), .val (.int i2), .val (.int i3), .val (.int i4), .val (.int (4 : Int32)), .val (.ref b238), .val (.ref b272), .val (.int (1 : Int32)), .val (.double (dv x1)), .second] [(.int (1 : Int32)), (.int (4 : Int32)), (.ref b238)])) (fun X t q => XS.iload X.here C.hx rfl (hb C.hby at_220) rfl q) ?_
      refine Wk.st (g' := (mkF m 223 #[.val (.int i0), .val (.int i1), .val (.int i2), .val (.int i3), .val (.int i4), .val (.int (4 : Int32)), .val (.ref b238), .val (.ref b272), .val (.int (1 : Int32)), .val (.double (dv x1)), .second] [(.int (3 : Int32)), (.int (1 : Int32)), (.int (4 : Int32)), (.ref b238)])) (fun X t q => XS.iconst X.here C.hx rfl (hb C.hby at_222) q) ?_
      refine Wk.st (g' := (mkF m 225 #[.val (.int i0), .val (.int i1), .val (.int i2), .val (.int i3), .val (.int i4), .val (.int (4 : Int32)), .val (.ref b238), .val (.ref b272), .val (.int (1 : Int32)), .val (.double (dv x1)), .second] [(.double (dv x1)), (.int (3 : Int32)), (.int (1 : Int32)), (.int (4 : Int32)), (.ref b238)])) (fun X t q => XS.dload X.here C.hx rfl (hb C.hby at_223) rfl q) ?_
      refine Wk.callS C (z := (⟨"com/example/understory/understory/ClassifierMostProbablePinLaw", "ok", "([DIIID)Z"⟩ : MethodName)) (hw _ (List.mem_of_getElem? (i := 7) rfl)) (hw _ (List.mem_of_getElem? (i := 8) rfl)) (hw _ (List.mem_of_getElem? (i := 9) rfl)) (hw _ (List.mem_of_getElem? (i := 10) rfl)) (by decide) (own_ok_4_1_3 l Z a0 hw n0 h308 b238 x0 x1 x2 x3 r_x0 r_x1 r_x2 r_x3 F312 (by omega)) (w := 0) (by decide) (by decide) pd_1 rfl (rest := []) rfl rfl (Nat.le_of_eq rfl) (by decide) (by decide) at_225 ?_
      rintro _ _ ⟨rfl, rfl⟩
      show Wk _ p l e _ s m _ below meth c n0 _ h308 2 8 (mkF m 228 #[.val (.int i0), .val (.int i1), .val (.int i2), .val (.int i3), .val (.int i4), .val (.int (4 : Int32)), .val (.ref b238), .val (.ref b272), .val (.int (1 : Int32)), .val (.double (dv x1)), .second] [(.int (1 : Int32))])
      refine Wk.st (g' := (mkF m 231 #[.val (.int i0), .val (.int i1), .val (.int i2), .val (.int i3), .val (.int i4), .val (.int (4 : Int32)), .val (.ref b238), .val (.ref b272), .val (.int (1 : Int32)), .val (.double (dv x1)), .second] [])) (fun X t q => XS.ifNo X.here C.hx rfl (hb C.hby at_228) rfl (XT.i0_eq_f (by decide)) q) ?_
      refine Wk.st (g' := (mkF m 232 #[.val (.int i0), .val (.int i1), .val (.int i2), .val (.int i3), .val (.int i4), .val (.int (4 : Int32)), .val (.ref b238), .val (.ref b272), .val (.int (1 : Int32)), .val (.double (dv x1)), .second] [(.int (1 : Int32))])) (fun X t q => XS.iconst X.here C.hx rfl (hb C.hby at_231) q) ?_
      refine Wk.st (g' := (mkF m 236 #[.val (.int i0), .val (.int i1), .val (.int i2), .val (.int i3), .val (.int i4), .val (.int (4 : Int32)), .val (.ref b238), .val (.ref b272), .val (.int (1 : Int32)), .val (.double (dv x1)), .second] [(.int (1 : Int32))])) (fun X t q => XS.goto X.here C.hx rfl (pc0 := 232) (pc' := 236) rfl (hb C.hby at_232) (by decide) (by decide) q) ?_
      exact Wk.retV C (t := .boolean) rfl rfl (Or.inl ⟨rfl, by simp, _, rfl⟩) at_236 (by decide) (by decide) ⟨rfl, trivial⟩
    · skip
      show Wk _ p l e _ s m _ below meth c n0 _ h308 2 8 (mkF m 132 #[.val (.int i0), .val (.int i1), .val (.int i2), .val (.int i3), .val (.int i4), .val (.int (4 : Int32)), .val (.ref b238), .val (.ref b272), .unset, .unset, .unset] [(.int (2 : Int32))])
      refine Wk.st (g' := (mkF m 134 #[.val (.int i0), .val (.int i1), .val (.int i2), .val (.int i3), .val (.int i4), .val (.int (4 : Int32)), .val (.ref b238), .val (.ref b272), .val (.int (2 : Int32)), .unset, .unset] [])) (fun X t q => XS.istore X.here C.hx rfl (hb C.hby at_132) rfl (l' := #[.val (.int i0), .val (.int i1), .val (.int i2), .val (.int i3), .val (.int i4), .val (.int (4 : Int32)), .val (.ref b238), .val (.ref b272), .val (.int (2 : Int32)), .unset, .unset]) rfl q) ?_
      refine Wk.st (g' := (mkF m 136 #[.val (.int i0), .val (.int i1), .val (.int i2), .val (.int i3), .val (.int i4), .val (.int (4 : Int32)), .val (.ref b238), .val (.ref b272), .val (.int (2 : Int32)), .unset, .unset] [(.int (4 : Int32))])) (fun X t q => XS.iload X.here C.hx rfl (hb C.hby at_134) rfl q) ?_
      refine Wk.st (g' := (mkF m 150 #[.val (.int i0), .val (.int i1), .val (.int i2), .val (.int i3), .val (.int i4), .val (.int (4 : Int32)), .val (.ref b238), .val (.ref b272), .val (.int (2 : Int32)), .unset, .unset] [])) (fun X t q => XS.ifYes X.here C.hx rfl (pc0 := 136) (pc' := 150) rfl (hb C.hby at_136) rfl (XT.i0_ne_t (by decide)) (by decide) (by decide) q) ?_
      refine Wk.st (g' := (mkF m 152 #[.val (.int i0), .val (.int i1), .val (.int i2), .val (.int i3), .val (.int i4), .val (.int (4 : Int32)), .val (.ref b238), .val (.ref b272), .val (.int (2 : Int32)), .unset, .unset] [(.int (2 : Int32))])) (fun X t q => XS.iload X.here C.hx rfl (hb C.hby at_150) rfl q) ?_
      refine Wk.st (g' := (mkF m 155 #[.val (.int i0), .val (.int i1), .val (.int i2), .val (.int i3), .val (.int i4), .val (.int (4 : Int32)), .val (.ref b238), .val (.ref b272), .val (.int (2 : Int32)), .unset, .unset] [])) (fun X t q => XS.ifNo X.here C.hx rfl (hb C.hby at_152) rfl (XT.i0_lt_f (by decide)) q) ?_
      refine Wk.st (g' := (mkF m 157 #[.val (.int i0), .val (.int i1), .val (.int i2), .val (.int i3), .val (.int i4), .val (.int (4 : Int32)), .val (.ref b238), .val (.ref b272), .val (.int (2 : Int32)), .unset, .unset] [(.int (2 : Int32))])) (fun X t q => XS.iload X.here C.hx rfl (hb C.hby at_155) rfl q) ?_
      refine Wk.st (g' := (mkF m 159 #[.val (.int i0), .val (.int i1), .val (.int i2), .val (.int i3), .val (.int i4), .val (.int (4 : Int32)), .val (.ref b238), .val (.ref b272), .val (.int (2 : Int32)), .unset, .unset] [(.int (4 : Int32)), (.int (2 : Int32))])) (fun X t q => XS.iload X.here C.hx rfl (hb C.hby at_157) rfl q) ?_
      refine Wk.st (g' := (mkF m 164 #[.val (.int i0), .val (.int i1), .val (.int i2), .val (.int i3), .val (.int i4), .val (.int (4 : Int32)), .val (.ref b238), .val (.ref b272), .val (.int (2 : Int32)), .unset, .unset] [])) (fun X t q => XS.icmpYes X.here C.hx rfl (pc0 := 159) (pc' := 164) rfl (hb C.hby at_159) rfl (XT.ii_lt_t (by decide)) (by decide) (by decide) q) ?_
      refine Wk.st (g' := (mkF m 166 #[.val (.int i0), .val (.int i1), .val (.int i2), .val (.int i3), .val (.int i4), .val (.int (4 : Int32)), .val (.ref b238), .val (.ref b272), .val (.int (2 : Int32)), .unset, .unset] [(.ref b238)])) (fun X t q => XS.aload X.here C.hx rfl (hb C.hby at_164) rfl rfl q) ?_
      refine Wk.st (g' := (mkF m 168 #[.val (.int i0), .val (.int i1), .val (.int i2), .val (.int i3), .val (.int i4), .val (.int (4 : Int32)), .val (.ref b238), .val (.ref b272), .val (.int (2 : Int32)), .unset, .unset] [(.int (2 : Int32)), (.ref b238)])) (fun X t q => XS.iload X.here C.hx rfl (hb C.hby at_166) rfl q) ?_
      refine Wk.fLdD C F312 (i := 2) (by decide) (by decide) (by decide) (v := (.double (dv x2))) (by simp [up]) at_168 ?_
      show Wk _ p l e _ s m _ below meth c n0 _ h308 2 8 (mkF m 169 #[.val (.int i0), .val (.int i1), .val (.int i2), .val (.int i3), .val (.int i4), .val (.int (4 : Int32)), .val (.ref b238), .val (.ref b272), .val (.int (2 : Int32)), .unset, .unset] [(.double (dv x2))])
      refine Wk.st (g' := (mkF m 171 #[.val (.int i0), .val (.int i1), .val (.int i2), .val (.int i3), .val (.int i4), .val (.int (4 : Int32)), .val (.ref b238), .val (.ref b272), .val (.int (2 : Int32)), .val (.double (dv x2)), .second] [])) (fun X t q => XS.dstore X.here C.hx rfl (hb C.hby at_169) rfl (l' := #[.val (.int i0), .val (.int i1), .val (.int i2), .val (.int i3), .val (.int i4), .val (.int (4 : Int32)), .val (.ref b238), .val (.ref b272), .val (.int (2 : Int32)), .val (.double (dv x2)), .second]) rfl q) ?_
      refine Wk.st (g' := (mkF m 173 #[.val (.int i0), .val (.int i1), .val (.int i2), .val (.int i3), .val (.int i4), .val (.int (4 : Int32)), .val (.ref b238), .val (.ref b272), .val (.int (2 : Int32)), .val (.double (dv x2)), .second] [(.ref b238)])) (fun X t q => XS.aload X.here C.hx rfl (hb C.hby at_171) rfl rfl q) ?_
      refine Wk.st (g' := (mkF m 175 #[.val (.int i0), .val (.int i1), .val (.int i2), .val (.int i3), .val (.int i4), .val (.int (4 : Int32)), .val (.ref b238), .val (.ref b272), .val (.int (2 : Int32)), .val (.double (dv x2)), .second] [(.int (4 : Int32)), (.ref b238)])) (fun X t q => XS.iload X.here C.hx rfl (hb C.hby at_173) rfl q) ?_
      refine Wk.st (g' := (mkF m 177 #[.val (.int i0), .val (.int i1), .val (.int i2), .val (.int i3), .val (.int i4), .val (.int (4 : Int32)), .val (.ref b238), .val (.ref b272), .val (.int (2 : Int32)), .val (.double (dv x2)), .second] [(.int (2 : Int32)), (.int (4 : Int32)), (.ref b238)])) (fun X t q => XS.iload X.here C.hx rfl (hb C.hby at_175) rfl q) ?_
      refine Wk.st (g' := (mkF m 178 #[.val (.int i0), .val (.int i1), .val (.int i2), .val (.int i3), .val (.int i4), .val (.int (4 : Int32)), .val (.ref b238), .val (.ref b272), .val (.int (2 : Int32)), .val (.double (dv x2)), .second] [(.int (0 : Int32)), (.int (2 : Int32)), (.int (4 : Int32)), (.ref b238)])) (fun X t q => XS.iconst X.here C.hx rfl (hb C.hby at_177) q) ?_
      refine Wk.st (g' := (mkF m 180 #[.val (.int i0), .val (.int i1), .val (.int i2), .val (.int i3), .val (.int i4), .val (.int (4 : Int32)), .val (.ref b238), .val (.ref b272), .val (.int (2 : Int32)), .val (.double (dv x2)), .second] [(.double (dv x2)), (.int (0 : Int32)), (.int (2 : Int32)), (.int (4 : Int32)), (.ref b238)])) (fun X t q => XS.dload X.here C.hx rfl (hb C.hby at_178) rfl q) ?_
      refine Wk.callS C (z := (⟨"com/example/understory/understory/ClassifierMostProbablePinLaw", "ok", "([DIIID)Z"⟩ : MethodName)) (hw _ (List.mem_of_getElem? (i := 7) rfl)) (hw _ (List.mem_of_getElem? (i := 8) rfl)) (hw _ (List.mem_of_getElem? (i := 9) rfl)) (hw _ (List.mem_of_getElem? (i := 10) rfl)) (by decide) (own_ok_4_2_0 l Z a0 hw n0 h308 b238 x0 x1 x2 x3 r_x0 r_x1 r_x2 r_x3 F312 (by omega)) (w := 0) (by decide) (by decide) pd_1 rfl (rest := []) rfl rfl (Nat.le_of_eq rfl) (by decide) (by decide) at_180 ?_
      rintro _ _ ⟨rfl, rfl⟩
      show Wk _ p l e _ s m _ below meth c n0 _ h308 2 8 (mkF m 183 #[.val (.int i0), .val (.int i1), .val (.int i2), .val (.int i3), .val (.int i4), .val (.int (4 : Int32)), .val (.ref b238), .val (.ref b272), .val (.int (2 : Int32)), .val (.double (dv x2)), .second] [(.int (1 : Int32))])
      refine Wk.st (g' := (mkF m 186 #[.val (.int i0), .val (.int i1), .val (.int i2), .val (.int i3), .val (.int i4), .val (.int (4 : Int32)), .val (.ref b238), .val (.ref b272), .val (.int (2 : Int32)), .val (.double (dv x2)), .second] [])) (fun X t q => XS.ifNo X.here C.hx rfl (hb C.hby at_183) rfl (XT.i0_eq_f (by decide)) q) ?_
      refine Wk.st (g' := (mkF m 188 #[.val (.int i0), .val (.int i1), .val (.int i2), .val (.int i3), .val (.int i4), .val (.int (4 : Int32)), .val (.ref b238), .val (.ref b272), .val (.int (2 : Int32)), .val (.double (dv x2)), .second] [(.ref b238)])) (fun X t q => XS.aload X.here C.hx rfl (hb C.hby at_186) rfl rfl q) ?_
      refine Wk.st (g' := (mkF m 190 #[.val (.int i0), .val (.int i1), .val (.int i2), .val (.int i3), .val (.int i4), .val (.int (4 : Int32)), .val (.ref b238), .val (.ref b272), .val (.int (2 : Int32)), .val (.double (dv x2)), .second] [(.int (4 : Int32)), (.ref b238)])) (fun X t q => XS.iload X.here C.hx rfl (hb C.hby at_188) rfl q) ?_
      refine Wk.st (g' := (mkF m 192 #[.val (.int i0), .val (.int i1), .val (.int i2), .val (.int i3), .val (.int i4), .val (.int (4 : Int32)), .val (.ref b238), .val (.ref b272), .val (.int (2 : Int32)), .val (.double (dv x2)), .second] [(.int (2 : Int32)), (.int (4 : Int32)), (.ref b238)])) (fun X t q => XS.iload X.here C.hx rfl (hb C.hby at_190) rfl q) ?_
      refine Wk.st (g' := (mkF m 193 #[.val (.int i0), .val (.int i1), .val (.int i2), .val (.int i3), .val (.int i4), .val (.int (4 : Int32)), .val (.ref b238), .val (.ref b272), .val (.int (2 : Int32)), .val (.double (dv x2)), .second] [(.int (1 : Int32)), (.int (2 : Int32)), (.int (4 : Int32)), (.ref b238)])) (fun X t q => XS.iconst X.here C.hx rfl (hb C.hby at_192) q) ?_
      refine Wk.st (g' := (mkF m 195 #[.val (.int i0), .val (.int i1), .val (.int i2), .val (.int i3), .val (.int i4), .val (.int (4 : Int32)), .val (.ref b238), .val (.ref b272), .val (.int (2 : Int32)), .val (.double (dv x2)), .second] [(.double (dv x2)), (.int (1 : Int32)), (.int (2 : Int32)), (.int (4 : Int32)), (.ref b238)])) (fun X t q => XS.dload X.here C.hx rfl (hb C.hby at_193) rfl q) ?_
      refine Wk.callS C (z := (⟨"com/example/understory/understory/ClassifierMostProbablePinLaw", "ok", "([DIIID)Z"⟩ : MethodName)) (hw _ (List.mem_of_getElem? (i := 7) rfl)) (hw _ (List.mem_of_getElem? (i := 8) rfl)) (hw _ (List.mem_of_getElem? (i := 9) rfl)) (hw _ (List.mem_of_getElem? (i := 10) rfl)) (by decide) (own_ok_4_2_1 l Z a0 hw n0 h308 b238 x0 x1 x2 x3 r_x0 r_x1 r_x2 r_x3 F312 (by omega)) (w := 0) (by decide) (by decide) pd_1 rfl (rest := []) rfl rfl (Nat.le_of_eq rfl) (by decide) (by decide) at_195 ?_
      rintro _ _ ⟨rfl, rfl⟩
      show Wk _ p l e _ s m _ below meth c n0 _ h308 2 8 (mkF m 198 #[.val (.int i0), .val (.int i1), .val (.int i2), .val (.int i3), .val (.int i4), .val (.int (4 : Int32)), .val (.ref b238), .val (.ref b272), .val (.int (2 : Int32)), .val (.double (dv x2)), .second] [(.int (1 : Int32))])
      refine Wk.st (g' := (mkF m 201 #[.val (.int i0), .val (.int i1), .val (.int i2), .val (.int i3), .val (.int i4), .val (.int (4 : Int32)), .val (.ref b238), .val (.ref b272), .val (.int (2 : Int32)), .val (.double (dv x2)), .second] [])) (fun X t q => XS.ifNo X.here C.hx rfl (hb C.hby at_198) rfl (XT.i0_eq_f (by decide)) q) ?_
      refine Wk.st (g' := (mkF m 203 #[.val (.int i0), .val (.int i1), .val (.int i2), .val (.int i3), .val (.int i4), .val (.int (4 : Int32)), .val (.ref b238), .val (.ref b272), .val (.int (2 : Int32)), .val (.double (dv x2)), .second] [(.ref b238)])) (fun X t q => XS.aload X.here C.hx rfl (hb C.hby at_201) rfl rfl q) ?_
      refine Wk.st (g' := (mkF m 205 #[.val (.int i0), .val (.int i1), .val (.int i2), .val (.int i3), .val (.int i4), .val (.int (4 : Int32)), .val (.ref b238), .val (.ref b272), .val (.int (2 : Int32)), .val (.double (dv x2)), .second] [(.int (4 : Int32)), (.ref b238)])) (fun X t q => XS.iload X.here C.hx rfl (hb C.hby at_203) rfl q) ?_
      refine Wk.st (g' := (mkF m 207 #[.val (.int i0), .val (.int i1), .val (.int i2), .val (.int i3), .val (.int i4), .val (.int (4 : Int32)), .val (.ref b238), .val (.ref b272), .val (.int (2 : Int32)), .val (.double (dv x2)), .second] [(.int (2 : Int32)), (.int (4 : Int32)), (.ref b238)])) (fun X t q => XS.iload X.here C.hx rfl (hb C.hby at_205) rfl q) ?_
      refine Wk.st (g' := (mkF m 208 #[.val (.int i0), .val (.int i1), .val (.int i2), .val (.int i3), .val (.int i4), .val (.int (4 : Int32)), .val (.ref b238), .val (.ref b272), .val (.int (2 : Int32)), .val (.double (dv x2)), .second] [(.int (2 : Int32)), (.int (2 : Int32)), (.int (4 : Int32)), (.ref b238)])) (fun X t q => XS.iconst X.here C.hx rfl (hb C.hby at_207) q) ?_
      refine Wk.st (g' := (mkF m 210 #[.val (.int i0), .val (.int i1), .val (.int i2), .val (.int i3), .val (.int i4), .val (.int (4 : Int32)), .val (.ref b238), .val (.ref b272), .val (.int (2 : Int32)), .val (.double (dv x2)), .second] [(.double (dv x2)), (.int (2 : Int32)), (.int (2 : Int32)), (.int (4 : Int32)), (.ref b238)])) (fun X t q => XS.dload X.here C.hx rfl (hb C.hby at_208) rfl q) ?_
      refine Wk.callS C (z := (⟨"com/example/understory/understory/ClassifierMostProbablePinLaw", "ok", "([DIIID)Z"⟩ : MethodName)) (hw _ (List.mem_of_getElem? (i := 7) rfl)) (hw _ (List.mem_of_getElem? (i := 8) rfl)) (hw _ (List.mem_of_getElem? (i := 9) rfl)) (hw _ (List.mem_of_getElem? (i := 10) rfl)) (by decide) (own_ok_4_2_2 l Z a0 hw n0 h308 b238 x0 x1 x2 x3 r_x0 r_x1 r_x2 r_x3 F312 (by omega)) (w := 0) (by decide) (by decide) pd_1 rfl (rest := []) rfl rfl (Nat.le_of_eq rfl) (by decide) (by decide) at_210 ?_
      rintro _ _ ⟨rfl, rfl⟩
      show Wk _ p l e _ s m _ below meth c n0 _ h308 2 8 (mkF m 213 #[.val (.int i0), .val (.int i1), .val (.int i2), .val (.int i3), .val (.int i4), .val (.int (4 : Int32)), .val (.ref b238), .val (.ref b272), .val (.int (2 : Int32)), .val (.double (dv x2)), .second] [(.int (1 : Int32))])
      refine Wk.st (g' := (mkF m 216 #[.val (.int i0), .val (.int i1), .val (.int i2), .val (.int i3), .val (.int i4), .val (.int (4 : Int32)), .val (.ref b238), .val (.ref b272), .val (.int (2 : Int32)), .val (.double (dv x2)), .second] [])) (fun X t q => XS.ifNo X.here C.hx rfl (hb C.hby at_213) rfl (XT.i0_eq_f (by decide)) q) ?_
      refine Wk.st (g' := (mkF m 218 #[.val (.int i0), .val (.int i1), .val (.int i2), .val (.int i3), .val (.int i4), .val (.int (4 : Int32)), .val (.ref b238), .val (.ref b272), .val (.int (2 : Int32)), .val (.double (dv x2)), .second] [(.ref b238)])) (fun X t q => XS.aload X.here C.hx rfl (hb C.hby at_216) rfl rfl q) ?_
      refine Wk.st (g' := (mkF m 220 #[.val (.int i0), .val (.int i1), .val (.int i2), .val (.int i3), .val (.int i4), .val (.int (4 : Int32)), .val (.ref b238), .val (.ref b272), .val (.int (2 : Int32)), .val (.double (dv x2)), .second] [(.int (4 : Int32)), (.ref b238)])) (fun X t q => XS.iload X.here C.hx rfl (hb C.hby at_218) rfl q) ?_
      refine Wk.st (g' := (mkF m 222 #[.val (.int i0), .val (.int i1), .val (.int i2), .val (.int i3), .val (.int i4), .val (.int (4 : Int32)), .val (.ref b238), .val (.ref b272), .val (.int (2 : Int32)), .val (.double (dv x2)), .second] [(.int (2 : Int32)), (.int (4 : Int32)), (.ref b238)])) (fun X t q => XS.iload X.here C.hx rfl (hb C.hby at_220) rfl q) ?_
      refine Wk.st (g' := (mkF m 223 #[.val (.int i0), .val (.int i1), .val (.int i2), .val (.int i3), .val (.int i4), .val (.int (4 : Int32)), .val (.ref b238), .val (.ref b272), .val (.int (2 : Int32)), .val (.double (dv x2)), .second] [(.int (3 : Int32)), (.int (2 : Int32)), (.int (4 : Int32)), (.ref b238)])) (fun X t q => XS.iconst X.here C.hx rfl (hb C.hby at_222) q) ?_
      refine Wk.st (g' := (mkF m 225 #[.val (.int i0), .val (.int i1), .val (.int i2), .val (.int i3), .val (.int i4), .val (.int (4 : Int32)), .val (.ref b238), .val (.ref b272), .val (.int (2 : Int32)), .val (.double (dv x2)), .second] [(.double (dv x2)), (.int (3 : Int32)), (.int (2 : Int32)), (.int (4 : Int32)), (.ref b238)])) (fun X t q => XS.dload X.here C.hx rfl (hb C.hby at_223) rfl q) ?_
      refine Wk.callS C (z := (⟨"com/example/understory/understory/ClassifierMostProbablePinLaw", "ok", "([DIIID)Z"⟩ : MethodName)) (hw _ (List.mem_of_getElem? (i := 7) rfl)) (hw _ (List.mem_of_getElem? (i := 8) rfl)) (hw _ (List.mem_of_getElem? (i := 9) rfl)) (hw _ (List.mem_of_getElem? (i := 10) rfl)) (by decide) (own_ok_4_2_3 l Z a0 hw n0 h308 b238 x0 x1 x2 x3 r_x0 r_x1 r_x2 r_x3 F312 (by omega)) (w := 0) (by decide) (by decide) pd_1 rfl (rest := []) rfl rfl (Nat.le_of_eq rfl) (by decide) (by decide) at_225 ?_
      rintro _ _ ⟨rfl, rfl⟩
      show Wk _ p l e _ s m _ below meth c n0 _ h308 2 8 (mkF m 228 #[.val (.int i0), .val (.int i1), .val (.int i2), .val (.int i3), .val (.int i4), .val (.int (4 : Int32)), .val (.ref b238), .val (.ref b272), .val (.int (2 : Int32)), .val (.double (dv x2)), .second] [(.int (1 : Int32))])
      refine Wk.st (g' := (mkF m 231 #[.val (.int i0), .val (.int i1), .val (.int i2), .val (.int i3), .val (.int i4), .val (.int (4 : Int32)), .val (.ref b238), .val (.ref b272), .val (.int (2 : Int32)), .val (.double (dv x2)), .second] [])) (fun X t q => XS.ifNo X.here C.hx rfl (hb C.hby at_228) rfl (XT.i0_eq_f (by decide)) q) ?_
      refine Wk.st (g' := (mkF m 232 #[.val (.int i0), .val (.int i1), .val (.int i2), .val (.int i3), .val (.int i4), .val (.int (4 : Int32)), .val (.ref b238), .val (.ref b272), .val (.int (2 : Int32)), .val (.double (dv x2)), .second] [(.int (1 : Int32))])) (fun X t q => XS.iconst X.here C.hx rfl (hb C.hby at_231) q) ?_
      refine Wk.st (g' := (mkF m 236 #[.val (.int i0), .val (.int i1), .val (.int i2), .val (.int i3), .val (.int i4), .val (.int (4 : Int32)), .val (.ref b238), .val (.ref b272), .val (.int (2 : Int32)), .val (.double (dv x2)), .second] [(.int (1 : Int32))])) (fun X t q => XS.goto X.here C.hx rfl (pc0 := 232) (pc' := 236) rfl (hb C.hby at_232) (by decide) (by decide) q) ?_
      exact Wk.retV C (t := .boolean) rfl rfl (Or.inl ⟨rfl, by simp, _, rfl⟩) at_236 (by decide) (by decide) ⟨rfl, trivial⟩
    · skip
      show Wk _ p l e _ s m _ below meth c n0 _ h308 2 8 (mkF m 132 #[.val (.int i0), .val (.int i1), .val (.int i2), .val (.int i3), .val (.int i4), .val (.int (4 : Int32)), .val (.ref b238), .val (.ref b272), .unset, .unset, .unset] [(.int (3 : Int32))])
      refine Wk.st (g' := (mkF m 134 #[.val (.int i0), .val (.int i1), .val (.int i2), .val (.int i3), .val (.int i4), .val (.int (4 : Int32)), .val (.ref b238), .val (.ref b272), .val (.int (3 : Int32)), .unset, .unset] [])) (fun X t q => XS.istore X.here C.hx rfl (hb C.hby at_132) rfl (l' := #[.val (.int i0), .val (.int i1), .val (.int i2), .val (.int i3), .val (.int i4), .val (.int (4 : Int32)), .val (.ref b238), .val (.ref b272), .val (.int (3 : Int32)), .unset, .unset]) rfl q) ?_
      refine Wk.st (g' := (mkF m 136 #[.val (.int i0), .val (.int i1), .val (.int i2), .val (.int i3), .val (.int i4), .val (.int (4 : Int32)), .val (.ref b238), .val (.ref b272), .val (.int (3 : Int32)), .unset, .unset] [(.int (4 : Int32))])) (fun X t q => XS.iload X.here C.hx rfl (hb C.hby at_134) rfl q) ?_
      refine Wk.st (g' := (mkF m 150 #[.val (.int i0), .val (.int i1), .val (.int i2), .val (.int i3), .val (.int i4), .val (.int (4 : Int32)), .val (.ref b238), .val (.ref b272), .val (.int (3 : Int32)), .unset, .unset] [])) (fun X t q => XS.ifYes X.here C.hx rfl (pc0 := 136) (pc' := 150) rfl (hb C.hby at_136) rfl (XT.i0_ne_t (by decide)) (by decide) (by decide) q) ?_
      refine Wk.st (g' := (mkF m 152 #[.val (.int i0), .val (.int i1), .val (.int i2), .val (.int i3), .val (.int i4), .val (.int (4 : Int32)), .val (.ref b238), .val (.ref b272), .val (.int (3 : Int32)), .unset, .unset] [(.int (3 : Int32))])) (fun X t q => XS.iload X.here C.hx rfl (hb C.hby at_150) rfl q) ?_
      refine Wk.st (g' := (mkF m 155 #[.val (.int i0), .val (.int i1), .val (.int i2), .val (.int i3), .val (.int i4), .val (.int (4 : Int32)), .val (.ref b238), .val (.ref b272), .val (.int (3 : Int32)), .unset, .unset] [])) (fun X t q => XS.ifNo X.here C.hx rfl (hb C.hby at_152) rfl (XT.i0_lt_f (by decide)) q) ?_
      refine Wk.st (g' := (mkF m 157 #[.val (.int i0), .val (.int i1), .val (.int i2), .val (.int i3), .val (.int i4), .val (.int (4 : Int32)), .val (.ref b238), .val (.ref b272), .val (.int (3 : Int32)), .unset, .unset] [(.int (3 : Int32))])) (fun X t q => XS.iload X.here C.hx rfl (hb C.hby at_155) rfl q) ?_
      refine Wk.st (g' := (mkF m 159 #[.val (.int i0), .val (.int i1), .val (.int i2), .val (.int i3), .val (.int i4), .val (.int (4 : Int32)), .val (.ref b238), .val (.ref b272), .val (.int (3 : Int32)), .unset, .unset] [(.int (4 : Int32)), (.int (3 : Int32))])) (fun X t q => XS.iload X.here C.hx rfl (hb C.hby at_157) rfl q) ?_
      refine Wk.st (g' := (mkF m 164 #[.val (.int i0), .val (.int i1), .val (.int i2), .val (.int i3), .val (.int i4), .val (.int (4 : Int32)), .val (.ref b238), .val (.ref b272), .val (.int (3 : Int32)), .unset, .unset] [])) (fun X t q => XS.icmpYes X.here C.hx rfl (pc0 := 159) (pc' := 164) rfl (hb C.hby at_159) rfl (XT.ii_lt_t (by decide)) (by decide) (by decide) q) ?_
      refine Wk.st (g' := (mkF m 166 #[.val (.int i0), .val (.int i1), .val (.int i2), .val (.int i3), .val (.int i4), .val (.int (4 : Int32)), .val (.ref b238), .val (.ref b272), .val (.int (3 : Int32)), .unset, .unset] [(.ref b238)])) (fun X t q => XS.aload X.here C.hx rfl (hb C.hby at_164) rfl rfl q) ?_
      refine Wk.st (g' := (mkF m 168 #[.val (.int i0), .val (.int i1), .val (.int i2), .val (.int i3), .val (.int i4), .val (.int (4 : Int32)), .val (.ref b238), .val (.ref b272), .val (.int (3 : Int32)), .unset, .unset] [(.int (3 : Int32)), (.ref b238)])) (fun X t q => XS.iload X.here C.hx rfl (hb C.hby at_166) rfl q) ?_
      refine Wk.fLdD C F312 (i := 3) (by decide) (by decide) (by decide) (v := (.double (dv x3))) (by simp [up]) at_168 ?_
      show Wk _ p l e _ s m _ below meth c n0 _ h308 2 8 (mkF m 169 #[.val (.int i0), .val (.int i1), .val (.int i2), .val (.int i3), .val (.int i4), .val (.int (4 : Int32)), .val (.ref b238), .val (.ref b272), .val (.int (3 : Int32)), .unset, .unset] [(.double (dv x3))])
      refine Wk.st (g' := (mkF m 171 #[.val (.int i0), .val (.int i1), .val (.int i2), .val (.int i3), .val (.int i4), .val (.int (4 : Int32)), .val (.ref b238), .val (.ref b272), .val (.int (3 : Int32)), .val (.double (dv x3)), .second] [])) (fun X t q => XS.dstore X.here C.hx rfl (hb C.hby at_169) rfl (l' := #[.val (.int i0), .val (.int i1), .val (.int i2), .val (.int i3), .val (.int i4), .val (.int (4 : Int32)), .val (.ref b238), .val (.ref b272), .val (.int (3 : Int32)), .val (.double (dv x3)), .second]) rfl q) ?_
      refine Wk.st (g' := (mkF m 173 #[.val (.int i0), .val (.int i1), .val (.int i2), .val (.int i3), .val (.int i4), .val (.int (4 : Int32)), .val (.ref b238), .val (.ref b272), .val (.int (3 : Int32)), .val (.double (dv x3)), .second] [(.ref b238)])) (fun X t q => XS.aload X.here C.hx rfl (hb C.hby at_171) rfl rfl q) ?_
      refine Wk.st (g' := (mkF m 175 #[.val (.int i0), .val (.int i1), .val (.int i2), .val (.int i3), .val (.int i4), .val (.int (4 : Int32)), .val (.ref b238), .val (.ref b272), .val (.int (3 : Int32)), .val (.double (dv x3)), .second] [(.int (4 : Int32)), (.ref b238)])) (fun X t q => XS.iload X.here C.hx rfl (hb C.hby at_173) rfl q) ?_
      refine Wk.st (g' := (mkF m 177 #[.val (.int i0), .val (.int i1), .val (.int i2), .val (.int i3), .val (.int i4), .val (.int (4 : Int32)), .val (.ref b238), .val (.ref b272), .val (.int (3 : Int32)), .val (.double (dv x3)), .second] [(.int (3 : Int32)), (.int (4 : Int32)), (.ref b238)])) (fun X t q => XS.iload X.here C.hx rfl (hb C.hby at_175) rfl q) ?_
      refine Wk.st (g' := (mkF m 178 #[.val (.int i0), .val (.int i1), .val (.int i2), .val (.int i3), .val (.int i4), .val (.int (4 : Int32)), .val (.ref b238), .val (.ref b272), .val (.int (3 : Int32)), .val (.double (dv x3)), .second] [(.int (0 : Int32)), (.int (3 : Int32)), (.int (4 : Int32)), (.ref b238)])) (fun X t q => XS.iconst X.here C.hx rfl (hb C.hby at_177) q) ?_
      refine Wk.st (g' := (mkF m 180 #[.val (.int i0), .val (.int i1), .val (.int i2), .val (.int i3), .val (.int i4), .val (.int (4 : Int32)), .val (.ref b238), .val (.ref b272), .val (.int (3 : Int32)), .val (.double (dv x3)), .second] [(.double (dv x3)), (.int (0 : Int32)), (.int (3 : Int32)), (.int (4 : Int32)), (.ref b238)])) (fun X t q => XS.dload X.here C.hx rfl (hb C.hby at_178) rfl q) ?_
      refine Wk.callS C (z := (⟨"com/example/understory/understory/ClassifierMostProbablePinLaw", "ok", "([DIIID)Z"⟩ : MethodName)) (hw _ (List.mem_of_getElem? (i := 7) rfl)) (hw _ (List.mem_of_getElem? (i := 8) rfl)) (hw _ (List.mem_of_getElem? (i := 9) rfl)) (hw _ (List.mem_of_getElem? (i := 10) rfl)) (by decide) (own_ok_4_3_0 l Z a0 hw n0 h308 b238 x0 x1 x2 x3 r_x0 r_x1 r_x2 r_x3 F312 (by omega)) (w := 0) (by decide) (by decide) pd_1 rfl (rest := []) rfl rfl (Nat.le_of_eq rfl) (by decide) (by decide) at_180 ?_
      rintro _ _ ⟨rfl, rfl⟩
      show Wk _ p l e _ s m _ below meth c n0 _ h308 2 8 (mkF m 183 #[.val (.int i0), .val (.int i1), .val (.int i2), .val (.int i3), .val (.int i4), .val (.int (4 : Int32)), .val (.ref b238), .val (.ref b272), .val (.int (3 : Int32)), .val (.double (dv x3)), .second] [(.int (1 : Int32))])
      refine Wk.st (g' := (mkF m 186 #[.val (.int i0), .val (.int i1), .val (.int i2), .val (.int i3), .val (.int i4), .val (.int (4 : Int32)), .val (.ref b238), .val (.ref b272), .val (.int (3 : Int32)), .val (.double (dv x3)), .second] [])) (fun X t q => XS.ifNo X.here C.hx rfl (hb C.hby at_183) rfl (XT.i0_eq_f (by decide)) q) ?_
      refine Wk.st (g' := (mkF m 188 #[.val (.int i0), .val (.int i1), .val (.int i2), .val (.int i3), .val (.int i4), .val (.int (4 : Int32)), .val (.ref b238), .val (.ref b272), .val (.int (3 : Int32)), .val (.double (dv x3)), .second] [(.ref b238)])) (fun X t q => XS.aload X.here C.hx rfl (hb C.hby at_186) rfl rfl q) ?_
      refine Wk.st (g' := (mkF m 190 #[.val (.int i0), .val (.int i1), .val (.int i2), .val (.int i3), .val (.int i4), .val (.int (4 : Int32)), .val (.ref b238), .val (.ref b272), .val (.int (3 : Int32)), .val (.double (dv x3)), .second] [(.int (4 : Int32)), (.ref b238)])) (fun X t q => XS.iload X.here C.hx rfl (hb C.hby at_188) rfl q) ?_
      refine Wk.st (g' := (mkF m 192 #[.val (.int i0), .val (.int i1), .val (.int i2), .val (.int i3), .val (.int i4), .val (.int (4 : Int32)), .val (.ref b238), .val (.ref b272), .val (.int (3 : Int32)), .val (.double (dv x3)), .second] [(.int (3 : Int32)), (.int (4 : Int32)), (.ref b238)])) (fun X t q => XS.iload X.here C.hx rfl (hb C.hby at_190) rfl q) ?_
      refine Wk.st (g' := (mkF m 193 #[.val (.int i0), .val (.int i1), .val (.int i2), .val (.int i3), .val (.int i4), .val (.int (4 : Int32)), .val (.ref b238), .val (.ref b272), .val (.int (3 : Int32)), .val (.double (dv x3)), .second] [(.int (1 : Int32)), (.int (3 : Int32)), (.int (4 : Int32)), (.ref b238)])) (fun X t q => XS.iconst X.here C.hx rfl (hb C.hby at_192) q) ?_
      refine Wk.st (g' := (mkF m 195 #[.val (.int i0), .val (.int i1), .val (.int i2), .val (.int i3), .val (.int i4), .val (.int (4 : Int32)), .val (.ref b238), .val (.ref b272), .val (.int (3 : Int32)), .val (.double (dv x3)), .second] [(.double (dv x3)), (.int (1 : Int32)), (.int (3 : Int32)), (.int (4 : Int32)), (.ref b238)])) (fun X t q => XS.dload X.here C.hx rfl (hb C.hby at_193) rfl q) ?_
      refine Wk.callS C (z := (⟨"com/example/understory/understory/ClassifierMostProbablePinLaw", "ok", "([DIIID)Z"⟩ : MethodName)) (hw _ (List.mem_of_getElem? (i := 7) rfl)) (hw _ (List.mem_of_getElem? (i := 8) rfl)) (hw _ (List.mem_of_getElem? (i := 9) rfl)) (hw _ (List.mem_of_getElem? (i := 10) rfl)) (by decide) (own_ok_4_3_1 l Z a0 hw n0 h308 b238 x0 x1 x2 x3 r_x0 r_x1 r_x2 r_x3 F312 (by omega)) (w := 0) (by decide) (by decide) pd_1 rfl (rest := []) rfl rfl (Nat.le_of_eq rfl) (by decide) (by decide) at_195 ?_
      rintro _ _ ⟨rfl, rfl⟩
      show Wk _ p l e _ s m _ below meth c n0 _ h308 2 8 (mkF m 198 #[.val (.int i0), .val (.int i1), .val (.int i2), .val (.int i3), .val (.int i4), .val (.int (4 : Int32)), .val (.ref b238), .val (.ref b272), .val (.int (3 : Int32)), .val (.double (dv x3)), .second] [(.int (1 : Int32))])
      refine Wk.st (g' := (mkF m 201 #[.val (.int i0), .val (.int i1), .val (.int i2), .val (.int i3), .val (.int i4), .val (.int (4 : Int32)), .val (.ref b238), .val (.ref b272), .val (.int (3 : Int32)), .val (.double (dv x3)), .second] [])) (fun X t q => XS.ifNo X.here C.hx rfl (hb C.hby at_198) rfl (XT.i0_eq_f (by decide)) q) ?_
      refine Wk.st (g' := (mkF m 203 #[.val (.int i0), .val (.int i1), .val (.int i2), .val (.int i3), .val (.int i4), .val (.int (4 : Int32)), .val (.ref b238), .val (.ref b272), .val (.int (3 : Int32)), .val (.double (dv x3)), .second] [(.ref b238)])) (fun X t q => XS.aload X.here C.hx rfl (hb C.hby at_201) rfl rfl q) ?_
      refine Wk.st (g' := (mkF m 205 #[.val (.int i0), .val (.int i1), .val (.int i2), .val (.int i3), .val (.int i4), .val (.int (4 : Int32)), .val (.ref b238), .val (.ref b272), .val (.int (3 : Int32)), .val (.double (dv x3)), .second] [(.int (4 : Int32)), (.ref b238)])) (fun X t q => XS.iload X.here C.hx rfl (hb C.hby at_203) rfl q) ?_
      refine Wk.st (g' := (mkF m 207 #[.val (.int i0), .val (.int i1), .val (.int i2), .val (.int i3), .val (.int i4), .val (.int (4 : Int32)), .val (.ref b238), .val (.ref b272), .val (.int (3 : Int32)), .val (.double (dv x3)), .second] [(.int (3 : Int32)), (.int (4 : Int32)), (.ref b238)])) (fun X t q => XS.iload X.here C.hx rfl (hb C.hby at_205) rfl q) ?_
      refine Wk.st (g' := (mkF m 208 #[.val (.int i0), .val (.int i1), .val (.int i2), .val (.int i3), .val (.int i4), .val (.int (4 : Int32)), .val (.ref b238), .val (.ref b272), .val (.int (3 : Int32)), .val (.double (dv x3)), .second] [(.int (2 : Int32)), (.int (3 : Int32)), (.int (4 : Int32)), (.ref b238)])) (fun X t q => XS.iconst X.here C.hx rfl (hb C.hby at_207) q) ?_
      refine Wk.st (g' := (mkF m 210 #[.val (.int i0), .val (.int i1), .val (.int i2), .val (.int i3), .val (.int i4), .val (.int (4 : Int32)), .val (.ref b238), .val (.ref b272), .val (.int (3 : Int32)), .val (.double (dv x3)), .second] [(.double (dv x3)), (.int (2 : Int32)), (.int (3 : Int32)), (.int (4 : Int32)), (.ref b238)])) (fun X t q => XS.dload X.here C.hx rfl (hb C.hby at_208) rfl q) ?_
      refine Wk.callS C (z := (⟨"com/example/understory/understory/ClassifierMostProbablePinLaw", "ok", "([DIIID)Z"⟩ : MethodName)) (hw _ (List.mem_of_getElem? (i := 7) rfl)) (hw _ (List.mem_of_getElem? (i := 8) rfl)) (hw _ (List.mem_of_getElem? (i := 9) rfl)) (hw _ (List.mem_of_getElem? (i := 10) rfl)) (by decide) (own_ok_4_3_2 l Z a0 hw n0 h308 b238 x0 x1 x2 x3 r_x0 r_x1 r_x2 r_x3 F312 (by omega)) (w := 0) (by decide) (by decide) pd_1 rfl (rest := []) rfl rfl (Nat.le_of_eq rfl) (by decide) (by decide) at_210 ?_
      rintro _ _ ⟨rfl, rfl⟩
      show Wk _ p l e _ s m _ below meth c n0 _ h308 2 8 (mkF m 213 #[.val (.int i0), .val (.int i1), .val (.int i2), .val (.int i3), .val (.int i4), .val (.int (4 : Int32)), .val (.ref b238), .val (.ref b272), .val (.int (3 : Int32)), .val (.double (dv x3)), .second] [(.int (1 : Int32))])
      refine Wk.st (g' := (mkF m 216 #[.val (.int i0), .val (.int i1), .val (.int i2), .val (.int i3), .val (.int i4), .val (.int (4 : Int32)), .val (.ref b238), .val (.ref b272), .val (.int (3 : Int32)), .val (.double (dv x3)), .second] [])) (fun X t q => XS.ifNo X.here C.hx rfl (hb C.hby at_213) rfl (XT.i0_eq_f (by decide)) q) ?_
      refine Wk.st (g' := (mkF m 218 #[.val (.int i0), .val (.int i1), .val (.int i2), .val (.int i3), .val (.int i4), .val (.int (4 : Int32)), .val (.ref b238), .val (.ref b272), .val (.int (3 : Int32)), .val (.double (dv x3)), .second] [(.ref b238)])) (fun X t q => XS.aload X.here C.hx rfl (hb C.hby at_216) rfl rfl q) ?_
      refine Wk.st (g' := (mkF m 220 #[.val (.int i0), .val (.int i1), .val (.int i2), .val (.int i3), .val (.int i4), .val (.int (4 : Int32)), .val (.ref b238), .val (.ref b272), .val (.int (3 : Int32)), .val (.double (dv x3)), .second] [(.int (4 : Int32)), (.ref b238)])) (fun X t q => XS.iload X.here C.hx rfl (hb C.hby at_218) rfl q) ?_
      refine Wk.st (g' := (mkF m 222 #[.val (.int i0), .val (.int i1), .val (.int i2), .val (.int i3), .val (.int i4), .val (.int (4 : Int32)), .val (.ref b238), .val (.ref b272), .val (.int (3 : Int32)), .val (.double (dv x3)), .second] [(.int (3 : Int32)), (.int (4 : Int32)), (.ref b238)])) (fun X t q => XS.iload X.here C.hx rfl (hb C.hby at_220) rfl q) ?_
      refine Wk.st (g' := (mkF m 223 #[.val (.int i0), .val (.int i1), .val (.int i2), .val (.int i3), .val (.int i4), .val (.int (4 : Int32)), .val (.ref b238), .val (.ref b272), .val (.int (3 : Int32)), .val (.double (dv x3)), .second] [(.int (3 : Int32)), (.int (3 : Int32)), (.int (4 : Int32)), (.ref b238)])) (fun X t q => XS.iconst X.here C.hx rfl (hb C.hby at_222) q) ?_
      refine Wk.st (g' := (mkF m 225 #[.val (.int i0), .val (.int i1), .val (.int i2), .val (.int i3), .val (.int i4), .val (.int (4 : Int32)), .val (.ref b238), .val (.ref b272), .val (.int (3 : Int32)), .val (.double (dv x3)), .second] [(.double (dv x3)), (.int (3 : Int32)), (.int (3 : Int32)), (.int (4 : Int32)), (.ref b238)])) (fun X t q => XS.dload X.here C.hx rfl (hb C.hby at_223) rfl q) ?_
      refine Wk.callS C (z := (⟨"com/example/understory/understory/ClassifierMostProbablePinLaw", "ok", "([DIIID)Z"⟩ : MethodName)) (hw _ (List.mem_of_getElem? (i := 7) rfl)) (hw _ (List.mem_of_getElem? (i := 8) rfl)) (hw _ (List.mem_of_getElem? (i := 9) rfl)) (hw _ (List.mem_of_getElem? (i := 10) rfl)) (by decide) (own_ok_4_3_3 l Z a0 hw n0 h308 b238 x0 x1 x2 x3 r_x0 r_x1 r_x2 r_x3 F312 (by omega)) (w := 0) (by decide) (by decide) pd_1 rfl (rest := []) rfl rfl (Nat.le_of_eq rfl) (by decide) (by decide) at_225 ?_
      rintro _ _ ⟨rfl, rfl⟩
      show Wk _ p l e _ s m _ below meth c n0 _ h308 2 8 (mkF m 228 #[.val (.int i0), .val (.int i1), .val (.int i2), .val (.int i3), .val (.int i4), .val (.int (4 : Int32)), .val (.ref b238), .val (.ref b272), .val (.int (3 : Int32)), .val (.double (dv x3)), .second] [(.int (1 : Int32))])
      refine Wk.st (g' := (mkF m 231 #[.val (.int i0), .val (.int i1), .val (.int i2), .val (.int i3), .val (.int i4), .val (.int (4 : Int32)), .val (.ref b238), .val (.ref b272), .val (.int (3 : Int32)), .val (.double (dv x3)), .second] [])) (fun X t q => XS.ifNo X.here C.hx rfl (hb C.hby at_228) rfl (XT.i0_eq_f (by decide)) q) ?_
      refine Wk.st (g' := (mkF m 232 #[.val (.int i0), .val (.int i1), .val (.int i2), .val (.int i3), .val (.int i4), .val (.int (4 : Int32)), .val (.ref b238), .val (.ref b272), .val (.int (3 : Int32)), .val (.double (dv x3)), .second] [(.int (1 : Int32))])) (fun X t q => XS.iconst X.here C.hx rfl (hb C.hby at_231) q) ?_
      refine Wk.st (g' := (mkF m 236 #[.val (.int i0), .val (.int i1), .val (.int i2), .val (.int i3), .val (.int i4), .val (.int (4 : Int32)), .val (.ref b238), .val (.ref b272), .val (.int (3 : Int32)), .val (.double (dv x3)), .second] [(.int (1 : Int32))])) (fun X t q => XS.goto X.here C.hx rfl (pc0 := 232) (pc' := 236) rfl (hb C.hby at_232) (by decide) (by decide) q) ?_
      exact Wk.retV C (t := .boolean) rfl rfl (Or.inl ⟨rfl, by simp, _, rfl⟩) at_236 (by decide) (by decide) ⟨rfl, trivial⟩
set_option maxRecDepth 65536 in
set_option maxHeartbeats 40000000 in
theorem comes_1 {Post : Tables → Env → Array Value → State → Outcome → State → Prop} (hpost : ∀ tb e args s v u, (limb_1_1.after args s (.returned v) u = true ∧ limb_1_2.after args s (.returned v) u = true ∧ True) → FrameEnd s (.returned v) u (Jvm.fieldLocs frame_1_writes args s ++ Jvm.arrayLocs frame_1_arrays args s ++ Jvm.staticLocs frame_1_statics s) 16 128 → Post tb e args s (.returned v) u) :
    ArmFor flags0 classFile x code maxLocals ret World_1 tables_1 room_1 Calls_1 rest_1 Pre_1 Post := by
  intro l hfl _ _ p e ha hc hk s m args below hf hA hF happ hP
  obtain ⟨hcalls, hrest, hpre⟩ := hP
  obtain ⟨-, -, -, hnamed, -, -, -, hat⟩ := (Spec.applies_iff hf).mp happ
  obtain ⟨hg, hn⟩ := and_e (Cond.before_iff.mp (show (Jvm.Cond.and given_1 narrow_1).before args s = true from hpre))
  obtain ⟨hcount, g0⟩ := and_e hg
  obtain ⟨v0, v1, v2, v3, v4, rfl⟩ : ∃ v0 v1 v2 v3 v4 : Value, args = #[v0, v1, v2, v3, v4] := by
    have hs : args.size = 5 := by simpa [Cond.value, given_1] using hcount
    obtain ⟨L⟩ := args
    match L, hs with
    | [v0, v1, v2, v3, v4], _ => exact ⟨v0, v1, v2, v3, v4, rfl⟩
  have hw := fun d (hd : d ∈ tables_1) => atoms_spec (ws := Jvm.Cond.code x code maxLocals ret :: tables_1) hat d (List.mem_cons_of_mem _ hd)
  have hfit : Fit s := fun {y c} hc i hi => by
    obtain ⟨ha, rfl⟩ := Array.getElem?_eq_some_iff.mp hc
    have q := List.all_eq_true.mp ((Array.all_eq_true_iff_forall_mem.mp hF) _ (Array.getElem_mem ha)) i (List.mem_range.mpr hi)
    simpa [Array.getElem?_eq_getElem hi] using q
  obtain ⟨e0, g1⟩ := and_e g0
  obtain ⟨i0, f0⟩ := is_v e0
  obtain rfl : v0 = (.int i0) := Option.some.inj f0
  obtain ⟨e1, g2⟩ := and_e g1
  obtain ⟨i1, f1⟩ := is_v e1
  obtain rfl : v1 = (.int i1) := Option.some.inj f1
  obtain ⟨e2, g3⟩ := and_e g2
  obtain ⟨i2, f2⟩ := is_v e2
  obtain rfl : v2 = (.int i2) := Option.some.inj f2
  obtain ⟨e3, g4⟩ := and_e g3
  obtain ⟨i3, f3⟩ := is_v e3
  obtain rfl : v3 = (.int i3) := Option.some.inj f3
  obtain ⟨i4, f4⟩ := is_v g4
  obtain rfl : v4 = (.int i4) := Option.some.inj f4
  obtain ⟨n, o, h1, h2, h3, _, L, rfl, ⟨⟨rfl, -⟩, N⟩, hq⟩ := law_met l s _ hw s.heap.size s.heap (Nat.le_refl _) i0 i1 i2 i3 i4 tables_1 p e ha hc hk s m _ below hf ((Spec.applies_iff_loose hf).mp happ).1 ⟨rfl, State.Warmed39.refl s, rfl⟩ trivial
  refine ⟨n, _, h1, h2, h3, hpost _ _ _ _ _ _ ⟨Cond.after_iff.mpr rfl, Cond.after_iff.mpr (eq_i res_at (Term.int_eval (1)) rfl), trivial⟩ ⟨hq.1, hq.2.1, (hq.2.2.sift fun y hy => Or.inr (N y hy)).mono (by decide) (by decide)⟩⟩
theorem main_1_1 : Claimed_1_1 := comes_1 fun _ _ _ _ _ _ h hF => ⟨h.1, hF⟩
theorem main_1_2 : Claimed_1_2 := comes_1 fun _ _ _ _ _ _ h hF => ⟨h.2.1, hF⟩
end Jvm.Pilot.@@N@@
namespace Jvm.Pilot.@@N@@
open Jvm Jvm.ClassFile Sem Op Lib Jvm.Free Jvm.Stand Jvm.Pilot.@@N@@.Jvm.D
/-! MADE BY PROGRAM (witnessworld.py) out of the Statement's table words and the real class files: 9 classes; the members and pool entries that the words name. The judged class is class 1, her method 1. -/
namespace start1
open Jvm.ClassFile
def u (s : String) : CpInfo := .utf8 (stringToUtf16 s)
/-- a pool by its gaps: so many unusable entries, then the entry; so many at the end -/
def gap : Nat → List CpInfo → List CpInfo
  | 0, r => r
  | n + 1, r => .unusable :: gap n r
def poolList (es : List (Nat × CpInfo)) (last : Nat) : List CpInfo := es.foldr (fun e r => gap e.1 (e.2 :: r)) (gap last [])
def pool (es : List (Nat × CpInfo)) (last : Nat) : Array CpInfo := ⟨poolList es last⟩
def fileOf (pool : Array CpInfo) (this : Nat) (attrs : Array Attribute := #[]) (ms : Array MethodInfo := #[]) (fl : Nat := 33) (sup : Nat := 0) (ifs : Array Nat := #[]) (fds : Array FieldInfo := #[]) : ClassFile where
  minorVersion := 0
  majorVersion := 65
  constantPool := pool
  accessFlags := fl
  thisClass := this
  superClass := sup
  interfaces := ifs
  fields := fds
  methods := ms
  attributes := attrs
def plain (name : String) (sup : Option ClassId) : Class where
  name := name
  kind := .ordinary
  loader := none
  accessFlags := 33
  super := sup
  interfaces := #[]
  cf := none
  fields := #[]
  methods := #[]
  instanceTypes := #[]
  staticTypes := #[]
  resolved := #[]
  callSites := []
  init := .initialized
  statics := none
  mirror := none

def pool0 : Array CpInfo := pool [(5, u "<init>"), (0, u "()V"), (1, .class_ 10), (1, u "java/lang/Object")] 113

def k0m0 : Method := { name := "<init>", desc := "()V", sig := { parameters := [], returnType := none }, accessFlags := 1, code := none }
/-- java/lang/Object -/
def k0 : Class := { plain "java/lang/Object" none with
  accessFlags := 33
  interfaces := #[]
  cf := some (fileOf pool0 8 #[] #[{ accessFlags := 1, nameIndex := 5, descriptorIndex := 6, attributes := #[] }] 33 0 #[] #[])
  fields := #[]
  methods := #[k0m0]
  instanceTypes := #[]
  staticTypes := #[]
  resolved := Array.replicate 124 none
  statics := none }

def pool1 : Array CpInfo := pool [(2, .class_ 4), (1, u "java/lang/Object"), (0, u "<init>"), (0, u "()V"), (0, .integer 2147483647), (0, .double 4620693217682128896), (1, .methodref 11 12), (0, .class_ 13), (0, .nameAndType 14 15), (0, u "com/example/understory/understory/Classifier"), (0, u "mostProbable"), (0, u "([D)I"), (0, .methodref 17 18), (0, .class_ 19), (0, .nameAndType 20 21), (0, u "com/example/understory/understory/ClassifierMostProbablePinLaw"), (0, u "ok"), (0, u "([DIIID)Z"), (2, u "law"), (0, u "(IIIII)Z")] 5

def k1m0 : Method := { name := "<init>", desc := "()V", sig := { parameters := [], returnType := none }, accessFlags := 2, code := none }
def k1c1 : Code := { maxStack := 6, maxLocals := 11, code := code, exceptionTable := #[], attributes := #[] }
def k1m1 : Method := { name := "law", desc := "(IIIII)Z", sig := { parameters := [.int, .int, .int, .int, .int], returnType := some .boolean }, accessFlags := 9, code := some k1c1 }
def k1c2 : Code := { maxStack := 4, maxLocals := 6, code := method_3_code, exceptionTable := #[], attributes := #[] }
def k1m2 : Method := { name := "ok", desc := "([DIIID)Z", sig := { parameters := [(.array .double), .int, .int, .int, .double], returnType := some .boolean }, accessFlags := 10, code := some k1c2 }
/-- com/example/understory/understory/ClassifierMostProbablePinLaw -/
def k1 : Class := { plain "com/example/understory/understory/ClassifierMostProbablePinLaw" (some 0) with
  accessFlags := 49
  interfaces := #[]
  cf := some (fileOf pool1 17 #[] #[{ accessFlags := 2, nameIndex := 5, descriptorIndex := 6, attributes := #[] }, { accessFlags := 9, nameIndex := 24, descriptorIndex := 25, attributes := #[] }, { accessFlags := 10, nameIndex := 20, descriptorIndex := 21, attributes := #[] }] 49 2 #[] #[])
  fields := #[]
  methods := #[k1m0, k1m1, k1m2]
  instanceTypes := #[]
  staticTypes := #[]
  resolved := Array.replicate 31 none
  statics := none }

def pool2 : Array CpInfo := pool [(2, .class_ 4), (1, u "java/lang/Object"), (3, .class_ 10), (1, u "com/example/understory/understory/Classifier"), (0, u "binding"), (0, u "Lcom/example/understory/understory/TreeNetwork$Binding;"), (4, u "pass"), (3, u "Lcom/example/understory/understory/TreePass;"), (2, u "latentVariables"), (3, u "Ljava/util/List;"), (8, u "nodes"), (0, u "[I"), (18, u "observed"), (53, u "mostProbable"), (0, u "([D)I")] 20

def k2c0 : Code := { maxStack := 4, maxLocals := 3, code := prog_1_method_4_code, exceptionTable := #[], attributes := #[] }
def k2m0 : Method := { name := "mostProbable", desc := "([D)I", sig := { parameters := [(.array .double)], returnType := some .int }, accessFlags := 9, code := some k2c0 }
/-- com/example/understory/understory/Classifier -/
def k2 : Class := { plain "com/example/understory/understory/Classifier" (some 0) with
  accessFlags := 49
  interfaces := #[]
  cf := some (fileOf pool2 8 #[] #[{ accessFlags := 9, nameIndex := 111, descriptorIndex := 112, attributes := #[] }] 49 2 #[] #[{ accessFlags := 18, nameIndex := 11, descriptorIndex := 12, attributes := #[] }, { accessFlags := 18, nameIndex := 17, descriptorIndex := 21, attributes := #[] }, { accessFlags := 18, nameIndex := 24, descriptorIndex := 28, attributes := #[] }, { accessFlags := 18, nameIndex := 37, descriptorIndex := 38, attributes := #[] }, { accessFlags := 18, nameIndex := 57, descriptorIndex := 38, attributes := #[] }])
  fields := #[{ name := "binding", type := (.object "com/example/understory/understory/TreeNetwork$Binding"), accessFlags := 18, slot := 0, constantValue := 0 }, { name := "pass", type := (.object "com/example/understory/understory/TreePass"), accessFlags := 18, slot := 1, constantValue := 0 }, { name := "latentVariables", type := (.object "java/util/List"), accessFlags := 18, slot := 2, constantValue := 0 }, { name := "nodes", type := (.array .int), accessFlags := 18, slot := 3, constantValue := 0 }, { name := "observed", type := (.array .int), accessFlags := 18, slot := 4, constantValue := 0 }]
  methods := #[k2m0]
  instanceTypes := #[(.object "com/example/understory/understory/TreeNetwork$Binding"), (.object "com/example/understory/understory/TreePass"), (.object "java/util/List"), (.array .int), (.array .int)]
  staticTypes := #[]
  resolved := Array.replicate 133 none
  statics := none }

def pool3 : Array CpInfo := pool [(1, u "java/lang/Cloneable"), (0, .class_ 1), (0, u "java/lang/Object"), (0, .class_ 3)] 3

/-- java/lang/Cloneable -/
def k3 : Class := { plain "java/lang/Cloneable" (some 0) with
  accessFlags := 1537
  interfaces := #[]
  cf := some (fileOf pool3 2 #[] #[] 1537 4 #[] #[])
  fields := #[]
  methods := #[]
  instanceTypes := #[]
  staticTypes := #[]
  resolved := Array.replicate 8 none
  statics := none }

def pool4 : Array CpInfo := pool [(1, u "java/io/Serializable"), (0, .class_ 1), (0, u "java/lang/Object"), (0, .class_ 3)] 3

/-- java/io/Serializable -/
def k4 : Class := { plain "java/io/Serializable" (some 0) with
  accessFlags := 1537
  interfaces := #[]
  cf := some (fileOf pool4 2 #[] #[] 1537 4 #[] #[])
  fields := #[]
  methods := #[]
  instanceTypes := #[]
  staticTypes := #[]
  resolved := Array.replicate 8 none
  statics := none }

/-- the primitive byte -/
def k5 : Class := { plain "byte" none with kind := .primitive 'B', accessFlags := 0x411 }
/-- [B -/
def k6 : Class := { plain "[B" (some 0) with kind := .array 5 .byte, interfaces := #[3, 4], accessFlags := 1041 }

/-- the primitive int -/
def k7 : Class := { plain "int" none with kind := .primitive 'I', accessFlags := 0x411 }
/-- [I -/
def k8 : Class := { plain "[I" (some 0) with kind := .array 7 .int, interfaces := #[3, 4], accessFlags := 1041 }

def heap : Heap := #[]
def k9 : Class := { plain "double" none with kind := .primitive 'D', accessFlags := 0x411 }
def k10 : Class := { plain "[D" (some 0) with kind := .array 9 .double, interfaces := #[3, 4], accessFlags := 1041 }
def classes : Array Class := #[k0, k1, k2, k3, k4, k5, k6, k7, k8, k9, k10]
def interned : List (Array UInt16 × Addr) := []
def slotsUsed : Nat := 0
def theMethod : MethodId := ⟨1, 1⟩
def args0 : Array Value := #[.int 5, .int 6, .int 7, .int 8, .int 9]
def aboutOver (below : List Frame) : State where
  vm := { classes := classes, interned := interned.toArray }
  heap := heap
  slotsUsed := slotsUsed
  threads := #[{ frames := .invoking theMethod args0 :: below }]
def below0 : List Frame := [.native { method := ⟨0, 0⟩, args := #[] }]
def about1 : State := aboutOver below0
def p0 : Program := .bare "" "" ""
def e0 : Env := launch0.env 0 0 0
theorem w_frames : about1.frames = Frame.invoking theMethod args0 :: below0 := rfl
set_option maxRecDepth 65536 in
theorem w_args : argsFit about1.vm theMethod args0 = true := by decide +kernel
set_option maxRecDepth 65536 in
theorem w_heap : heapFits about1 = true := by decide +kernel
set_option maxRecDepth 65536 in
theorem w_runnable : about1.curStatus? = some .runnable := by decide +kernel
set_option maxRecDepth 65536 in
theorem w_alone : about1.alone = true := by decide +kernel
set_option maxRecDepth 65536 in
theorem w_named : about1.methodNamed? x = some theMethod := by decide +kernel
set_option maxRecDepth 65536 in
theorem w_hears : about1.hears theMethod below0 = true := by decide +kernel
set_option maxRecDepth 65536 in
theorem w_ripe : about1.ripe theMethod args0 below0 = true := by decide +kernel
theorem w_running : about1.status = .running := rfl
set_option maxRecDepth 65536 in
theorem w_room : about1.hasRoom e0.platform room_1 = true :=
  launch0.hasRoom_least _ room_1 (by decide +kernel) (by decide +kernel) (by decide +kernel) (by decide +kernel) (by decide +kernel) (by decide +kernel)
theorem allAtoms_all (ts : List Jvm.Cond) (a : Array Jvm.Value) (st : Jvm.State) : (allAtoms ts).before a st = ts.all (fun c => c.before a st) := by
  induction ts with
  | nil => rfl
  | cons c t ih =>
    show (Jvm.Cond.and c (allAtoms t)).before a st = _
    rw [Jvm.Cond.before_and, ih, List.all_cons]
def words1 : List Jvm.Cond := Jvm.Cond.code x code maxLocals ret :: tables_1
/-- a 'code' word, met by the world's own term for the bytes: nothing is compared byte by byte -/
theorem code_word {y : MethodName} {bytes : ByteArray} {mx : Nat} {rt : Option FieldType} {a : Array Value} {s : State} {m : MethodId} {meth : Method} {c : Code} (h1 : s.methodNamed? y = some m) (h2 : s.vm.method? m = some meth) (h3 : meth.code = some c) (h4 : c.code = bytes)
    (h5 : (c.maxLocals == mx && c.exceptionTable.isEmpty && decide (c.maxStack ≤ mostOperands) && decide (meth.sig.returnType = rt) && !meth.locks && decide (parseMethodDescriptor y.desc = some meth.sig)) = true) : (Jvm.Cond.code y bytes mx rt).before a s = true := by
  simp only [Bool.and_eq_true, beq_iff_eq, Bool.not_eq_true', decide_eq_true_eq] at h5
  obtain ⟨⟨⟨⟨⟨g1, g2⟩, g3⟩, g4⟩, g5⟩, g6⟩ := h5
  simp [Cond.before, Cond.holds, Cond.value, h1, h2, h3, h4, g1, g2, g3, g4, g5, g6]
def isCode : Jvm.Cond → Bool
  | .code _ _ _ _ => true
  | _ => false
theorem all_split {L : List Jvm.Cond} {P : Jvm.Cond → Bool} (h1 : L.all (fun c => isCode c || P c) = true) (h2 : ∀ c ∈ L.filter isCode, P c = true) : L.all P = true := by
  refine List.all_eq_true.mpr fun c hc => ?_
  have h := List.all_eq_true.mp h1 c hc
  rcases Bool.eq_false_or_eq_true (isCode c) with hi | hi
  · exact h2 c (List.mem_filter.mpr ⟨hc, hi⟩)
  · simpa [hi] using h
set_option maxRecDepth 65536 in
theorem w_c0 : (Jvm.Cond.code x code maxLocals ret).before args0 about1 = true := code_word (m := ⟨1, 1⟩) (meth := k1m1) (c := k1c1) (by decide +kernel) rfl rfl rfl (by decide +kernel)
set_option maxRecDepth 65536 in
theorem w_c1 : (Jvm.Cond.code ({ cls := "com/example/understory/understory/Classifier", name := "mostProbable", desc := "([D)I" } : Jvm.MethodName) prog_1_method_4_code (3 : Nat) (Option.some Jvm.ClassFile.FieldType.int)).before args0 about1 = true := code_word (m := ⟨2, 0⟩) (meth := k2m0) (c := k2c0) (by decide +kernel) rfl rfl rfl (by decide +kernel)
set_option maxRecDepth 65536 in
theorem w_c2 : (Jvm.Cond.code ({ cls := "com/example/understory/understory/ClassifierMostProbablePinLaw", name := "ok", desc := "([DIIID)Z" } : Jvm.MethodName) method_3_code (6 : Nat) (Option.some Jvm.ClassFile.FieldType.boolean)).before args0 about1 = true := code_word (m := ⟨1, 2⟩) (meth := k1m2) (c := k1c2) (by decide +kernel) rfl rfl rfl (by decide +kernel)
def codes1 : List Jvm.Cond := [Jvm.Cond.code x code maxLocals ret, Jvm.Cond.code ({ cls := "com/example/understory/understory/Classifier", name := "mostProbable", desc := "([D)I" } : Jvm.MethodName) prog_1_method_4_code (3 : Nat) (Option.some Jvm.ClassFile.FieldType.int), Jvm.Cond.code ({ cls := "com/example/understory/understory/ClassifierMostProbablePinLaw", name := "ok", desc := "([DIIID)Z" } : Jvm.MethodName) method_3_code (6 : Nat) (Option.some Jvm.ClassFile.FieldType.boolean)]
set_option maxRecDepth 65536 in
theorem codes_eq : words1.filter isCode = codes1 := rfl
theorem w_codes : ∀ c ∈ words1.filter isCode, c.before args0 about1 = true := by
  rw [codes_eq]
  intro c hc
  simp only [codes1, List.mem_cons, List.not_mem_nil, or_false] at hc
  rcases hc with rfl | rfl | rfl
  · exact w_c0
  · exact w_c1
  · exact w_c2
set_option maxRecDepth 65536 in
theorem w_t1 : words1.all (fun c => isCode c || c.before args0 about1) = true := by decide +kernel
theorem w_tables : (allAtoms (Jvm.Cond.code x code maxLocals ret :: tables_1)).before args0 about1 = true := by
  rw [allAtoms_all]
  show words1.all (fun c => c.before args0 about1) = true
  refine all_split ?_ w_codes
  rw [w_t1]
set_option maxRecDepth 65536 in
theorem w_case : (Jvm.Cond.and given_1 narrow_1).before args0 about1 = true := by decide +kernel
theorem w_applies : (headSpec (Jvm.Cond.code x code maxLocals ret :: tables_1) room_1).applies x e0.platform about1 = true :=
  (Spec.applies_iff w_frames).mpr ⟨w_running, w_runnable, w_alone, w_named, w_hears, w_ripe, w_room, w_tables⟩
theorem atStart : AtStart classFile x code maxLocals ret World_1 tables_1 room_1 Calls_1 rest_1 Pre_1 launch0 p0 e0 about1 theMethod args0 below0 :=
  ⟨lists_1, trivial, launch0.admits_env _ _ _, launch0.least_env, fairChoices_fair.cas, fairChoices_fair.clock, w_frames, w_args, w_heap, w_applies, trivial, trivial, w_case⟩
end start1
theorem witness_1 : WitnessClaimed_1 := ⟨start1.p0, start1.e0, start1.about1, start1.theMethod, start1.args0, start1.below0, start1.atStart⟩
end Jvm.Pilot.@@N@@
