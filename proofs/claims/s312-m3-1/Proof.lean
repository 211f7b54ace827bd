import JvmDerived
import JvmDerived.Pilot.@@N@@Statement
import JvmDerived.Pilot.@@N@@Code
set_option linter.unusedVariables false
set_option linter.unusedSimpArgs false
namespace Jvm.Own
open Jvm Jvm.ClassFile Sem Op Lib Jvm.Free Jvm.Stand Jvm.LawKit Jvm.RoadKit
/-! MY LAYER: a goal 'Wk' over the library's Stand (from any state that stands here with the heap h, the walk comes to its end and Q holds), one rule a step; W: may the walk intern (wide frame). -/
def Bs (W : Bool) (s : State) (vm0 : Vm) (sz : Nat) : Prop := match W with
  | false => vm0 = s.vm
  | true => ∃ k0, s.Since vm0 k0 ∧ k0 ≤ sz
def En (W : Bool) (s : State) (o : Outcome) (t : State) (L : List Loc) (k n : Nat) : Prop := match W with
  | false => FrameEnd s o t L k n
  | true => ReturnedEndW s o t L k n
def Cx (Z : State) (p : Program) (s : State) (m : MethodId) (meth : Method) (c : Code) (y : MethodName) (bytes : ByteArray) (maxL : Nat) (ret : Option FieldType) : Prop :=
  p.tables.exec = Jvm.exec ∧ c.code = bytes ∧ c.maxLocals = maxL ∧ Z.Warmed39 s.vm ∧ s.vm.findClass y.cls = some m.cls ∧ meth.name = y.name ∧ meth.sig.returnType = ret ∧ meth.locks = false
def Wk (W : Bool) (p : Program) (l : Launch) (e : Env) (R : Room) (s : State) (m : MethodId) (args : Array Value) (below : List Frame) (meth : Method) (c : Code) (n0 : Nat) (Q : Option Value → Heap → Prop) (h : Heap) (k n : Nat) (g : JFrame) : Prop :=
  ∀ T L vm0, Stand p l e R (s.setVm vm0) m args below meth c T L k n → Bs W s vm0 h.size → T.heap = h → Fr n0 L →
    ∃ s₂ o, Steps p.tables e below (T.setTop g) s₂ ∧ s₂.status = .running ∧ Ended s₂ below o ∧ ∃ v L, o = .returned v ∧ (Q v s₂.heap ∧ Fr n0 L) ∧ En W s o s₂ L R.cells R.slots
def Met (W : Bool) (l : Launch) (Z : State) (n0 : Nat) (y : MethodName) (bytes : ByteArray) (maxL : Nat) (ret : Option FieldType) (rm : Room) (as : Array Value) (h : Heap) (Q : Option Value → Heap → Prop) : Prop :=
  ∀ ws, MetFree l y (head1 (Cond.code y bytes maxL ret :: ws) rm) (fun a U => a = as ∧ Z.Warmed39 U.vm ∧ U.heap = h) (fun _ _ _ _ _ => True)
    (fun _ U o U' => ∃ v L, o = .returned v ∧ (Q v U'.heap ∧ Fr n0 L) ∧ En W U o U' L rm.cells rm.slots)
theorem Bs.start (W : Bool) (s : State) (sz : Nat) : Bs W s s.vm sz := by
  cases W
  · rfl
  · exact ⟨0, (State.WarmedH.refl s).since 0, Nat.zero_le _⟩
theorem Bs.mono {W : Bool} {s : State} {vm0 : Vm} {a b : Nat} (B : Bs W s vm0 a) (q : a ≤ b) : Bs W s vm0 b := by
  cases W
  · exact B
  · obtain ⟨k0, h1, h2⟩ := B; exact ⟨k0, h1, Nat.le_trans h2 q⟩
theorem Bs.warm {W : Bool} {s : State} {vm0 : Vm} {a : Nat} (B : Bs W s vm0 a) : s.Warmed39 vm0 := by
  cases W
  · cases (B : vm0 = s.vm); exact State.Warmed39.refl s
  · obtain ⟨k0, h1, h2⟩ := B; exact h1.1
section Cxs
variable {W : Bool} {Z : State} {p : Program} {s : State} {m : MethodId} {meth : Method} {c : Code} {y : MethodName} {bytes : ByteArray} {maxL : Nat} {ret : Option FieldType}
theorem Cx.hx (C : Cx Z p s m meth c y bytes maxL ret) : p.tables.exec = Jvm.exec := C.1
theorem Cx.hby (C : Cx Z p s m meth c y bytes maxL ret) : c.code = bytes := C.2.1
theorem Cx.hml (C : Cx Z p s m meth c y bytes maxL ret) : c.maxLocals = maxL := C.2.2.1
theorem Cx.hZ (C : Cx Z p s m meth c y bytes maxL ret) : Z.Warmed39 s.vm := C.2.2.2.1
theorem Cx.hown (C : Cx Z p s m meth c y bytes maxL ret) : s.vm.findClass y.cls = some m.cls := C.2.2.2.2.1
theorem Cx.hnm (C : Cx Z p s m meth c y bytes maxL ret) : meth.name = y.name := C.2.2.2.2.2.1
theorem Cx.hret (C : Cx Z p s m meth c y bytes maxL ret) : meth.sig.returnType = ret := C.2.2.2.2.2.2.1
theorem Cx.hlk (C : Cx Z p s m meth c y bytes maxL ret) : meth.locks = false := C.2.2.2.2.2.2.2
theorem Cx.wZ (C : Cx Z p s m meth c y bytes maxL ret) {vm0 : Vm} {a : Nat} (B : Bs W s vm0 a) : Z.Warmed39 (s.setVm vm0).vm := State.Warmed39.trans (t := s) C.hZ B.warm
theorem Cx.wo (C : Cx Z p s m meth c y bytes maxL ret) {vm0 : Vm} {a : Nat} (B : Bs W s vm0 a) : (s.setVm vm0).vm.findClass y.cls = some m.cls := by
  show vm0.findClass y.cls = _
  rw [B.warm.alike.findClass]; exact C.hown
end Cxs
theorem Met.of {W : Bool} {l : Launch} {Z : State} {n0 : Nat} {y : MethodName} {bytes : ByteArray} {maxL : Nat} {ret : Option FieldType} {rm : Room} {as : Array Value} {h : Heap} {Q : Option Value → Heap → Prop}
    (hpn : plainFor y = true) (Ls : Array Slot) (hef : ∀ m, entryFrame m as maxL = mkF m 0 Ls [])
    (H : ∀ p e s m below meth c, Cx Z p s m meth c y bytes maxL ret → Wk W p l e rm s m as below meth c n0 Q h 0 0 (mkF m 0 Ls [])) : Met W l Z n0 y bytes maxL ret rm as h Q := by
  intro ws
  refine MetFree.of_bodySF hpn hisR ?_
  intro p e s m args below meth c s₁ Bd hml0 hP hK
  obtain ⟨ha, hZ, hh⟩ := hP
  have hown := findClass_of_methodNamed Bd.named
  have hnm := (name_of_methodNamed Bd.named Bd.method).1
  have e0 : s₁.heap = h := by rw [← hh, Bd.state]; rfl
  have X0 : Stand p l e rm s m args below meth c s₁ [] 0 0 := Stand.of_body Bd
  rw [ha] at X0 ⊢
  obtain ⟨s₂, o, h1, h2⟩ := H p e s m below meth c ⟨Bd.exec, Bd.bytes, hml0, hZ, hown, hnm, Bd.returns, Bd.notSynchronized⟩ s₁ [] s.vm X0 (Bs.start W s _) e0 (Fr.nil n0)
  exact ⟨s₂, o, castTop (hef m) h1, h2⟩
section Rules
variable {W : Bool} {Z : State} {p : Program} {l : Launch} {e : Env} {R : Room} {s : State} {m : MethodId} {args : Array Value} {below : List Frame} {meth : Method} {c : Code} {y : MethodName} {bytes : ByteArray} {maxL : Nat} {ret : Option FieldType} {n0 : Nat} {Q : Option Value → Heap → Prop} {h : Heap} {k n : Nat} {g g' : JFrame} {a0 : Array Value}
theorem Wk.more {k' n' : Nat} (q1 : k ≤ k') (q2 : n ≤ n') (H : Wk W p l e R s m args below meth c n0 Q h k' n' g) : Wk W p l e R s m args below meth c n0 Q h k n g :=
  fun T L vm0 X B eT N => H T L vm0 (X.more q1 q2) B eT N
theorem Wk.st (f : ∀ {T : State} {L : List Loc} {vm0 : Vm}, Stand p l e R (s.setVm vm0) m args below meth c T L k n → ∀ t, Steps p.tables e below (T.setTop g') t → Steps p.tables e below (T.setTop g) t)
    (H : Wk W p l e R s m args below meth c n0 Q h k n g') : Wk W p l e R s m args below meth c n0 Q h k n g := by
  intro T L vm0 X B eT N
  obtain ⟨s₂, o, h1, h2⟩ := H T L vm0 X B eT N
  exact ⟨s₂, o, f X _ h1, h2⟩
/-- a step that needs the tables (as they stand at vm0) and the heap, and leaves the heap -/
theorem Wk.stZ (C : Cx Z p s m meth c y bytes maxL ret) (f : ∀ {T : State} {L : List Loc} {vm0 : Vm}, Stand p l e R (s.setVm vm0) m args below meth c T L k n → Z.Warmed39 (s.setVm vm0).vm → (s.setVm vm0).vm.findClass y.cls = some m.cls → T.heap = h → ∃ T', Stand p l e R (s.setVm vm0) m args below meth c T' L k n ∧ T'.heap = h ∧ ∀ t, Steps p.tables e below (T'.setTop g') t → Steps p.tables e below (T.setTop g) t)
    (H : Wk W p l e R s m args below meth c n0 Q h k n g') : Wk W p l e R s m args below meth c n0 Q h k n g := by
  intro T L vm0 X B eT N
  obtain ⟨T', X', e', st⟩ := f X (C.wZ B) (C.wo B) eT
  obtain ⟨s₂, o, h1, h2⟩ := H T' L vm0 X' B e' N
  exact ⟨s₂, o, st _ h1, h2⟩
/-- a step that writes one place of a new cell -/
theorem Wk.stW (C : Cx Z p s m meth c y bytes maxL ret) {a : Addr} {sl : Nat} {v : Value} (ge : n0 ≤ a) (f : ∀ {T : State} {L : List Loc} {vm0 : Vm}, Stand p l e R (s.setVm vm0) m args below meth c T L k n → Z.Warmed39 (s.setVm vm0).vm → (s.setVm vm0).vm.findClass y.cls = some m.cls → T.heap = h → ∃ T' h', Stand p l e R (s.setVm vm0) m args below meth c T' (L ++ [⟨a, sl⟩]) k n ∧ T'.heap = h' ∧ Wr h h' a sl v ∧ ∀ t, Steps p.tables e below (T'.setTop g') t → Steps p.tables e below (T.setTop g) t)
    (H : ∀ h', Wr h h' a sl v → Wk W p l e R s m args below meth c n0 Q h' k n g') : Wk W p l e R s m args below meth c n0 Q h k n g := by
  intro T L vm0 X B eT N
  obtain ⟨T', h', X', e', Wh, st⟩ := f X (C.wZ B) (C.wo B) eT
  obtain ⟨s₂, o, h1, h2⟩ := H h' Wh T' _ vm0 X' (B.mono (Nat.le_of_eq Wh.size.symm)) e' (Fr.snoc X' N ge)
  exact ⟨s₂, o, st _ h1, h2⟩
theorem Wk.ldcI (C : Cx Z p s m meth c y bytes maxL ret) {index : Nat} {v : Int32} (w : (Cond.constant y.cls index v).before a0 Z = true) {pc : Nat} {Ls : Array Slot} {st : List Value} (hd : decode bytes pc = .ok (.ldc index, 2))
    (H : Wk W p l e R s m args below meth c n0 Q h k n (mkF m (pc + 2) Ls (.int v :: st))) : Wk W p l e R s m args below meth c n0 Q h k n (mkF m pc Ls st) :=
  Wk.stZ C (fun X hZ ho eT => ⟨_, X, eT, fun t q => X.ldcI C.hx ho (mvT hZ w) rfl (hb C.hby hd) q⟩) H
theorem Wk.ldc2J (C : Cx Z p s m meth c y bytes maxL ret) {index : Nat} {v : Int64} (w : (Cond.constantLong y.cls index v).before a0 Z = true) {pc : Nat} {Ls : Array Slot} {st : List Value} (hd : decode bytes pc = .ok (.ldc2_w index, 3))
    (H : Wk W p l e R s m args below meth c n0 Q h k n (mkF m (pc + 3) Ls (.long v :: st))) : Wk W p l e R s m args below meth c n0 Q h k n (mkF m pc Ls st) :=
  Wk.stZ C (fun X hZ ho eT => ⟨_, X, eT, fun t q => X.ldc2J C.hx ho (mvT hZ w) rfl (hb C.hby hd) q⟩) H
theorem Wk.ldcF (C : Cx Z p s m meth c y bytes maxL ret) {index : Nat} {v : UInt32} (w : (Cond.constantFloat y.cls index v).before a0 Z = true) {pc : Nat} {Ls : Array Slot} {st : List Value} (hd : decode bytes pc = .ok (.ldc index, 2))
    (H : Wk W p l e R s m args below meth c n0 Q h k n (mkF m (pc + 2) Ls (.float v :: st))) : Wk W p l e R s m args below meth c n0 Q h k n (mkF m pc Ls st) :=
  Wk.stZ C (fun X hZ ho eT => ⟨_, X, eT, fun t q => X.ldcFloatC C.hx ho (mvT hZ w) (g := mkF m pc Ls st) rfl (hb C.hby hd) _ q⟩) H
theorem Wk.cast (C : Cx Z p s m meth c y bytes maxL ret) {K : String} {index : Nat} (w : (Cond.classLink y.cls index K).before a0 Z = true) {a : Addr} (F : Ins Z h a K true) {pc : Nat} {Ls : Array Slot} {st : List Value} (hd : decode bytes pc = .ok (.checkcast index, 3))
    (H : Wk W p l e R s m args below meth c n0 Q h k n (mkF m (pc + 3) Ls (.ref a :: st))) : Wk W p l e R s m args below meth c n0 Q h k n (mkF m pc Ls (.ref a :: st)) :=
  Wk.stZ C (fun X hZ ho eT => castY X C.hx hZ ho w eT F (g := mkF m pc Ls (.ref a :: st)) rfl rfl (hb C.hby hd)) H
theorem Wk.getS (C : Cx Z p s m meth c y bytes maxL ret) {O nm d : String} {index : Nat} (w : (Cond.fieldLink y.cls index O nm d).before a0 Z = true) {v : Value} (F : Sta Z h O nm d v) {pc : Nat} {Ls : Array Slot} {st : List Value} (hd : decode bytes pc = .ok (.getstatic index, 3))
    (H : Wk W p l e R s m args below meth c n0 Q h k n (mkF m (pc + 3) Ls (v :: st))) : Wk W p l e R s m args below meth c n0 Q h k n (mkF m pc Ls st) :=
  Wk.stZ C (fun X hZ ho eT => Jvm.RoadKit.getS (host := "") X C.hx hZ ho w Via.refl eT F (g := mkF m pc Ls st) rfl (hb C.hby hd)) H
theorem Wk.getF (C : Cx Z p s m meth c y bytes maxL ret) {R0 O nm d : String} {index : Nat} (w : (Cond.fieldLink y.cls index R0 nm d).before a0 Z = true) (via : Via Z R0 O nm d) {a : Addr} {v : Value} (F : Fld Z h a O nm d v) {pc : Nat} {Ls : Array Slot} {st : List Value} (hd : decode bytes pc = .ok (.getfield index, 3))
    (H : Wk W p l e R s m args below meth c n0 Q h k n (mkF m (pc + 3) Ls (v :: st))) : Wk W p l e R s m args below meth c n0 Q h k n (mkF m pc Ls (.ref a :: st)) :=
  Wk.stZ C (fun X hZ ho eT => Jvm.RoadKit.getF (host := "") X C.hx hZ ho (Or.inl w) via eT F (g := mkF m pc Ls (.ref a :: st)) rfl rfl (hb C.hby hd)) H
theorem Wk.putF (C : Cx Z p s m meth c y bytes maxL ret) {R0 O nm d K : String} {index kk : Nat} {ty : FieldType} (w : (Cond.fieldLink y.cls index R0 nm d).before a0 Z = true) (via : Via Z R0 O nm d) {a : Addr} {v v' old : Value} (F : Fld Z h a O nm d old) (E : Exa Z h a K)
    (L : (Cond.lays K O nm d).before a0 Z = true ∨ ((Cond.laysFinal K O nm d).before a0 Z = true ∧ y.cls = O ∧ y.name = "<init>")) (wi : (Cond.instantiable K kk).before a0 Z = true) (hty : parseFieldDescriptor d = some ty) (hn : narrow ty v = v') (hf : fits ty v' = true) (ge : n0 ≤ a)
    {pc : Nat} {Ls : Array Slot} {st : List Value} (hd : decode bytes pc = .ok (.putfield index, 3))
    (H : ∀ h', Wr h h' a (Jvm.RoadKit.slotOf Z O nm d) v' → Wk W p l e R s m args below meth c n0 Q h' k n (mkF m (pc + 3) Ls st)) : Wk W p l e R s m args below meth c n0 Q h k n (mkF m pc Ls (v :: .ref a :: st)) :=
  Wk.stW C ge (fun X hZ ho eT => Jvm.RoadKit.putFN X C.hx hZ ho w via eT F E (L.imp id fun q => ⟨q.1, q.2.1, C.hnm.trans q.2.2⟩) wi hty hn hf (g := mkF m pc Ls (v :: .ref a :: st)) rfl rfl (hb C.hby hd)) H
theorem Wk.newO (C : Cx Z p s m meth c y bytes maxL ret) {K : String} {index sz : Nat} (w : (Cond.classLink y.cls index K).before a0 Z = true) (wi : (Cond.instantiable K sz).before a0 Z = true) (wz : (Cond.initialized K).before a0 Z = true) {pc : Nat} {Ls : Array Slot} {st : List Value} (hd : decode bytes pc = .ok (.new index, 3)) (hc : k + 1 ≤ R.cells) (hl : n + sz ≤ R.slots)
    (H : ∀ h' a, a = h.size → Ext h h' → Exa Z h' a K → (∀ {O nm d : String} {ty : FieldType}, Laid Z a0 K O nm d → parseFieldDescriptor d = some ty → Fld Z h' a O nm d (defaultValue ty)) → Wk W p l e R s m args below meth c n0 Q h' (k + 1) (n + sz) (mkF m (pc + 3) Ls (.ref a :: st))) :
    Wk W p l e R s m args below meth c n0 Q h k n (mkF m pc Ls st) := by
  intro T L vm0 X B eT N
  obtain ⟨T', h', X', e', E, A, D, -, st⟩ := Jvm.RoadKit.newO X C.hx (C.wZ B) (C.wo B) w wi wz eT (g := mkF m pc Ls st) rfl (hb C.hby hd) hc hl
  obtain ⟨s₂, o, h1, h2⟩ := H h' _ rfl E A D T' L vm0 X' (B.mono E.1) e' N
  exact ⟨s₂, o, st _ h1, h2⟩
theorem Wk.newP (C : Cx Z p s m meth c y bytes maxL ret) {aty : ArrayType} (w : (Cond.arrayClass (newarray.typeOf aty)).before a0 Z = true) {z : Int32} (hz : ¬ z < 0) {cap : Nat} (hcap : z.toNatClampNeg ≤ cap) (hbig : cap * 8 ≤ 536870912) {pc : Nat} {Ls : Array Slot} {st : List Value} (hd : decode bytes pc = .ok (.newarray aty, 2)) (hc : k + 1 ≤ R.cells) (hl : n + cap ≤ R.slots)
    (H : ∀ h' a cA, a = h.size → Ext h h' → Arr Z h' a (newA cA (newarray.typeOf aty) z) (newarray.typeOf aty) → Wk W p l e R s m args below meth c n0 Q h' (k + 1) (n + cap) (mkF m (pc + 2) Ls (.ref a :: st))) :
    Wk W p l e R s m args below meth c n0 Q h k n (mkF m pc Ls (.int z :: st)) := by
  intro T L vm0 X B eT N
  obtain ⟨T', h', cA, X', e', E, A, st⟩ := Jvm.RoadKit.newP X C.hx (C.wZ B) w eT (g := mkF m pc Ls (.int z :: st)) rfl (hb C.hby hd) rfl hz hcap hbig hc hl
  obtain ⟨s₂, o, h1, h2⟩ := H h' _ cA rfl E A T' L vm0 X' (B.mono E.1) e' N
  exact ⟨s₂, o, st _ h1, h2⟩
theorem Wk.newR (C : Cx Z p s m meth c y bytes maxL ret) {K : String} {index : Nat} (w1 : (Cond.classLink y.cls index K).before a0 Z = true) (w2 : (Cond.arrayOver (.object K)).before a0 Z = true) {z : Int32} (hz : ¬ z < 0) {cap : Nat} (hcap : z.toNatClampNeg ≤ cap) (hbig : cap * 8 ≤ 536870912) {pc : Nat} {Ls : Array Slot} {st : List Value} (hd : decode bytes pc = .ok (.anewarray index, 3)) (hc : k + 1 ≤ R.cells) (hl : n + cap ≤ R.slots)
    (H : ∀ h' a cA, a = h.size → Ext h h' → Arr Z h' a (newA cA (.object K) z) (.object K) → Ovr Z cA K → Wk W p l e R s m args below meth c n0 Q h' (k + 1) (n + cap) (mkF m (pc + 3) Ls (.ref a :: st))) :
    Wk W p l e R s m args below meth c n0 Q h k n (mkF m pc Ls (.int z :: st)) := by
  intro T L vm0 X B eT N
  obtain ⟨T', h', cA, X', e', E, A, O, st⟩ := Jvm.RoadKit.newR X C.hx (C.wZ B) (C.wo B) w1 w2 eT (g := mkF m pc Ls (.int z :: st)) rfl (hb C.hby hd) rfl hz hcap hbig hc hl
  obtain ⟨s₂, o, h1, h2⟩ := H h' _ cA rfl E A O T' L vm0 X' (B.mono E.1) e' N
  exact ⟨s₂, o, st _ h1, h2⟩
theorem Wk.stI (C : Cx Z p s m meth c y bytes maxL ret) {a : Addr} {cl : Cell} (A : Arr Z h a cl .int) {j x : Int32} (hj : ¬ (j < 0 ∨ cl.slots.size ≤ j.toNatClampNeg)) (ge : n0 ≤ a) {pc : Nat} {Ls : Array Slot} {st : List Value} (hd : decode bytes pc = .ok (.iastore, 1))
    (H : ∀ h', Wr h h' a j.toNatClampNeg (.int x) → Wk W p l e R s m args below meth c n0 Q h' k n (mkF m (pc + 1) Ls st)) : Wk W p l e R s m args below meth c n0 Q h k n (mkF m pc Ls (.int x :: .int j :: .ref a :: st)) :=
  Wk.stW C ge (fun X hZ ho eT => Jvm.RoadKit.stI X C.hx hZ eT A hj (g := mkF m pc Ls (.int x :: .int j :: .ref a :: st)) rfl rfl (hb C.hby hd)) H
theorem Wk.stJ (C : Cx Z p s m meth c y bytes maxL ret) {a : Addr} {cl : Cell} (A : Arr Z h a cl .long) {j : Int32} {x : Int64} (hj : ¬ (j < 0 ∨ cl.slots.size ≤ j.toNatClampNeg)) (ge : n0 ≤ a) {pc : Nat} {Ls : Array Slot} {st : List Value} (hd : decode bytes pc = .ok (.lastore, 1))
    (H : ∀ h', Wr h h' a j.toNatClampNeg (.long x) → Wk W p l e R s m args below meth c n0 Q h' k n (mkF m (pc + 1) Ls st)) : Wk W p l e R s m args below meth c n0 Q h k n (mkF m pc Ls (.long x :: .int j :: .ref a :: st)) :=
  Wk.stW C ge (fun X hZ ho eT => Jvm.RoadKit.stJ X C.hx hZ eT A hj (g := mkF m pc Ls (.long x :: .int j :: .ref a :: st)) rfl rfl (hb C.hby hd)) H
theorem Wk.stR (C : Cx Z p s m meth c y bytes maxL ret) {a : Addr} {cl : Cell} {ty : FieldType} (A : Arr Z h a cl ty) {j : Int32} {v : Value} (hj : ¬ (j < 0 ∨ cl.slots.size ≤ j.toNatClampNeg)) (hty : ty.isReference = true) (F : Sto Z h a v) (ge : n0 ≤ a) {pc : Nat} {Ls : Array Slot} {st : List Value} (hd : decode bytes pc = .ok (.aastore, 1))
    (H : ∀ h', Wr h h' a j.toNatClampNeg v → Wk W p l e R s m args below meth c n0 Q h' k n (mkF m (pc + 1) Ls st)) : Wk W p l e R s m args below meth c n0 Q h k n (mkF m pc Ls (v :: .int j :: .ref a :: st)) :=
  Wk.stW C ge (fun X hZ ho eT => Jvm.RoadKit.stR X C.hx hZ eT A hj hty F (g := mkF m pc Ls (v :: .int j :: .ref a :: st)) rfl rfl (hb C.hby hd)) H
theorem Wk.len (C : Cx Z p s m meth c y bytes maxL ret) {a : Addr} {cl : Cell} {ty : FieldType} (A : Arr Z h a cl ty) {pc : Nat} {Ls : Array Slot} {st : List Value} (hd : decode bytes pc = .ok (.arraylength, 1))
    (H : Wk W p l e R s m args below meth c n0 Q h k n (mkF m (pc + 1) Ls (.int cl.slots.size.toInt32 :: st))) : Wk W p l e R s m args below meth c n0 Q h k n (mkF m pc Ls (.ref a :: st)) :=
  Wk.stZ C (fun X hZ ho eT => ⟨_, X, eT, X.arraylength C.hx (by rw [eT]; exact A.1) (State.isArrayOf_alike hZ.alike A.2.1) (g := mkF m pc Ls (.ref a :: st)) rfl rfl (hb C.hby hd)⟩) H
theorem Wk.ldI (C : Cx Z p s m meth c y bytes maxL ret) {a : Addr} {cl : Cell} (A : Arr Z h a cl .int) {j : Int32} {v : Value} (hj : ¬ (j < 0 ∨ cl.slots.size ≤ j.toNatClampNeg)) (hv : cl.slots[j.toNatClampNeg]? = some v) {pc : Nat} {Ls : Array Slot} {st : List Value} (hd : decode bytes pc = .ok (.iaload, 1))
    (H : Wk W p l e R s m args below meth c n0 Q h k n (mkF m (pc + 1) Ls (v :: st))) : Wk W p l e R s m args below meth c n0 Q h k n (mkF m pc Ls (.int j :: .ref a :: st)) :=
  Wk.stZ C (fun X hZ ho eT => ⟨_, X, eT, X.iaload C.hx (by rw [eT]; exact A.1) (State.isArrayOf_alike hZ.alike A.2.1) A.2.2 hj hv (g := mkF m pc Ls (.int j :: .ref a :: st)) rfl rfl (hb C.hby hd)⟩) H
theorem Wk.ldJ (C : Cx Z p s m meth c y bytes maxL ret) {a : Addr} {cl : Cell} (A : Arr Z h a cl .long) {j : Int32} {v : Value} (hj : ¬ (j < 0 ∨ cl.slots.size ≤ j.toNatClampNeg)) (hv : cl.slots[j.toNatClampNeg]? = some v) {pc : Nat} {Ls : Array Slot} {st : List Value} (hd : decode bytes pc = .ok (.laload, 1))
    (H : Wk W p l e R s m args below meth c n0 Q h k n (mkF m (pc + 1) Ls (v :: st))) : Wk W p l e R s m args below meth c n0 Q h k n (mkF m pc Ls (.int j :: .ref a :: st)) :=
  Wk.stZ C (fun X hZ ho eT => ⟨_, X, eT, X.laload C.hx (by rw [eT]; exact A.1) (State.isArrayOf_alike hZ.alike A.2.1) A.2.2 hj hv (g := mkF m pc Ls (.int j :: .ref a :: st)) rfl rfl (hb C.hby hd)⟩) H
theorem Wk.ldR (C : Cx Z p s m meth c y bytes maxL ret) {a : Addr} {cl : Cell} {ty : FieldType} (A : Arr Z h a cl ty) (hty : ty.isReference = true) {j : Int32} {v : Value} (hj : ¬ (j < 0 ∨ cl.slots.size ≤ j.toNatClampNeg)) (hv : cl.slots[j.toNatClampNeg]? = some v) {pc : Nat} {Ls : Array Slot} {st : List Value} (hd : decode bytes pc = .ok (.aaload, 1))
    (H : Wk W p l e R s m args below meth c n0 Q h k n (mkF m (pc + 1) Ls (v :: st))) : Wk W p l e R s m args below meth c n0 Q h k n (mkF m pc Ls (.int j :: .ref a :: st)) :=
  Wk.stZ C (fun X hZ ho eT => ⟨_, X, eT, X.aaload C.hx (by rw [eT]; exact A.1) (State.isArrayOf_alike hZ.alike A.2.1) hty A.2.2 hj hv (g := mkF m pc Ls (.int j :: .ref a :: st)) rfl rfl (hb C.hby hd)⟩) H
theorem Wk.ldZ (C : Cx Z p s m meth c y bytes maxL ret) {a : Addr} {cl : Cell} (A : Arr Z h a cl .boolean) {j : Int32} {v : Value} (hj : ¬ (j < 0 ∨ cl.slots.size ≤ j.toNatClampNeg)) (hv : cl.slots[j.toNatClampNeg]? = some v) {pc : Nat} {Ls : Array Slot} {st : List Value} (hd : decode bytes pc = .ok (.baload, 1))
    (H : Wk W p l e R s m args below meth c n0 Q h k n (mkF m (pc + 1) Ls (v :: st))) : Wk W p l e R s m args below meth c n0 Q h k n (mkF m pc Ls (.int j :: .ref a :: st)) :=
  Wk.stZ C (fun X hZ ho eT => ⟨_, X, eT, X.baloadBooleans C.hx (by rw [eT]; exact A.1) (State.isArrayOf_alike hZ.alike A.2.1) A.2.2 hj hv (g := mkF m pc Ls (.int j :: .ref a :: st)) rfl rfl (hb C.hby hd)⟩) H
theorem Wk.ldC (C : Cx Z p s m meth c y bytes maxL ret) {a : Addr} {cl : Cell} (A : Arr Z h a cl .char) {j : Int32} {v : Value} (hj : ¬ (j < 0 ∨ cl.slots.size ≤ j.toNatClampNeg)) (hv : cl.slots[j.toNatClampNeg]? = some v) {pc : Nat} {Ls : Array Slot} {st : List Value} (hd : decode bytes pc = .ok (.caload, 1))
    (H : Wk W p l e R s m args below meth c n0 Q h k n (mkF m (pc + 1) Ls (v :: st))) : Wk W p l e R s m args below meth c n0 Q h k n (mkF m pc Ls (.int j :: .ref a :: st)) :=
  Wk.stZ C (fun X hZ ho eT => ⟨_, X, eT, X.caload C.hx (by rw [eT]; exact A.1) (State.isArrayOf_alike hZ.alike A.2.1) A.2.2 hj hv (g := mkF m pc Ls (.int j :: .ref a :: st)) rfl rfl (hb C.hby hd)⟩) H
theorem Wk.ldB (C : Cx Z p s m meth c y bytes maxL ret) {a : Addr} {cl : Cell} (A : Arr Z h a cl .byte) {j : Int32} {v : Value} (hj : ¬ (j < 0 ∨ cl.slots.size ≤ j.toNatClampNeg)) (hv : cl.slots[j.toNatClampNeg]? = some v) {pc : Nat} {Ls : Array Slot} {st : List Value} (hd : decode bytes pc = .ok (.baload, 1))
    (H : Wk W p l e R s m args below meth c n0 Q h k n (mkF m (pc + 1) Ls (v :: st))) : Wk W p l e R s m args below meth c n0 Q h k n (mkF m pc Ls (.int j :: .ref a :: st)) :=
  Wk.stZ C (fun X hZ ho eT => ⟨_, X, eT, X.baloadBytes C.hx (by rw [eT]; exact A.1) (State.isArrayOf_alike hZ.alike A.2.1) A.2.2 hj hv (g := mkF m pc Ls (.int j :: .ref a :: st)) rfl rfl (hb C.hby hd)⟩) H
theorem Wk.stZb (C : Cx Z p s m meth c y bytes maxL ret) {a : Addr} {cl : Cell} (A : Arr Z h a cl .boolean) {j x : Int32} (hj : ¬ (j < 0 ∨ cl.slots.size ≤ j.toNatClampNeg)) (ge : n0 ≤ a) {pc : Nat} {Ls : Array Slot} {st : List Value} (hd : decode bytes pc = .ok (.bastore, 1))
    (H : ∀ h', Wr h h' a j.toNatClampNeg (.int (nar .boolean x)) → Wk W p l e R s m args below meth c n0 Q h' k n (mkF m (pc + 1) Ls st)) : Wk W p l e R s m args below meth c n0 Q h k n (mkF m pc Ls (.int x :: .int j :: .ref a :: st)) :=
  Wk.stW C ge (fun X hZ ho eT => Jvm.RoadKit.stZ X C.hx hZ eT A hj (g := mkF m pc Ls (.int x :: .int j :: .ref a :: st)) rfl rfl (hb C.hby hd)) H
theorem Wk.stB (C : Cx Z p s m meth c y bytes maxL ret) {a : Addr} {cl : Cell} (A : Arr Z h a cl .byte) {j x : Int32} (hj : ¬ (j < 0 ∨ cl.slots.size ≤ j.toNatClampNeg)) (ge : n0 ≤ a) {pc : Nat} {Ls : Array Slot} {st : List Value} (hd : decode bytes pc = .ok (.bastore, 1))
    (H : ∀ h', Wr h h' a j.toNatClampNeg (.int (nar .byte x)) → Wk W p l e R s m args below meth c n0 Q h' k n (mkF m (pc + 1) Ls st)) : Wk W p l e R s m args below meth c n0 Q h k n (mkF m pc Ls (.int x :: .int j :: .ref a :: st)) :=
  Wk.stW C ge (fun X hZ ho eT => Jvm.RoadKit.stB X C.hx hZ eT A hj (g := mkF m pc Ls (.int x :: .int j :: .ref a :: st)) rfl rfl (hb C.hby hd)) H
theorem Wk.stC (C : Cx Z p s m meth c y bytes maxL ret) {a : Addr} {cl : Cell} (A : Arr Z h a cl .char) {j x : Int32} (hj : ¬ (j < 0 ∨ cl.slots.size ≤ j.toNatClampNeg)) (ge : n0 ≤ a) {pc : Nat} {Ls : Array Slot} {st : List Value} (hd : decode bytes pc = .ok (.castore, 1))
    (H : ∀ h', Wr h h' a j.toNatClampNeg (.int (nar .char x)) → Wk W p l e R s m args below meth c n0 Q h' k n (mkF m (pc + 1) Ls st)) : Wk W p l e R s m args below meth c n0 Q h k n (mkF m pc Ls (.int x :: .int j :: .ref a :: st)) :=
  Wk.stW C ge (fun X hZ ho eT => Jvm.RoadKit.stC X C.hx hZ eT A hj (g := mkF m pc Ls (.int x :: .int j :: .ref a :: st)) rfl rfl (hb C.hby hd)) H
theorem Wk.initO (C : Cx Z p s m meth c y bytes maxL ret) {index : Nat} (w1 : (Cond.methodLink y.cls index Lib.objectInit).before a0 Z = true) (w2 : (Cond.instanceMethod Lib.objectInit).before a0 Z = true) (w3 : (Cond.code Lib.objectInit ⟨#[0xb1]⟩ 1 none).before a0 Z = true) {a : Addr} {w : Nat} {pc : Nat} {Ls : Array Slot} {st : List Value} (hls : Ls.size = maxL) (hd : decode bytes pc = .ok (.invokespecial index, 3)) (hf : 1 ≤ R.frames) (hw : (st.map fun v => v.category).sum ≤ w) (hl : w + 12 ≤ R.locals)
    (H : Wk W p l e R s m args below meth c n0 Q h k n (mkF m (pc + 3) Ls st)) : Wk W p l e R s m args below meth c n0 Q h k n (mkF m pc Ls (.ref a :: st)) :=
  Wk.stZ C (fun X hZ ho eT => Jvm.RoadKit.initO X C.hx hZ ho w1 w2 w3 eT (g := mkF m pc Ls (.ref a :: st)) rfl (hls.trans C.hml.symm) rfl (hb C.hby hd) hf (W := w) (by show 2 * 0 + _ ≤ _; omega) hl) H
theorem Wk.retV (C : Cx Z p s m meth c y bytes maxL ret) {pc : Nat} {Ls : Array Slot} {w : Value} {t : FieldType} {i : Instr} {rest : List Value} (ht : ret = some t) (hn : narrow t w = w)
    (hi : (i = .ireturn ∧ (t = .int ∨ t = .boolean ∨ t = .byte ∨ t = .char ∨ t = .short) ∧ ∃ z, w = .int z) ∨ (i = .lreturn ∧ t = .long ∧ ∃ z, w = .long z) ∨ (i = .dreturn ∧ t = .double ∧ ∃ z, w = .double z) ∨ (i = .freturn ∧ t = .float ∧ ∃ z, w = .float z) ∨ (i = .areturn ∧ t.isReference = true ∧ w.isRef = true))
    (hd : decode bytes pc = .ok (i, 1)) (hk : k ≤ R.cells) (hs : n ≤ R.slots) (hq : Q (some w) h) : Wk W p l e R s m args below meth c n0 Q h k n (mkF m pc Ls (w :: rest)) := by
  intro T L vm0 X B eT N
  have hlk := C.hlk
  have hv : meth.sig.returnType = none → (some w : Option Value) = none := fun h => by rw [C.hret, ht] at h; cases h
  cases W
  · cases (B : vm0 = s.vm)
    obtain ⟨fs, hr, hrun, hended, hW, hsame⟩ := Stand.leave (s := s) X (v := some w) hv hlk
    refine ⟨_, _, retOut X C.hx (C.hret.trans ht) hn hi (hb C.hby hd) hr, hrun, hended, _, L, rfl, ⟨?_, N⟩, ⟨_, rfl⟩, hW, hsame.mono hk hs⟩
    show Q (some w) T.heap
    rw [eT]; exact hq
  · obtain ⟨k0, hS, hk0⟩ := (B : ∃ k0, s.Since vm0 k0 ∧ k0 ≤ h.size)
    obtain ⟨fs, hr, hrun, hended, hE⟩ := X.leaveW hS (by rw [eT]; exact hk0) (v := some w) hv hlk
    refine ⟨_, _, retOut X C.hx (C.hret.trans ht) hn hi (hb C.hby hd) hr, hrun, hended, _, L, rfl, ⟨?_, N⟩, hE.1, hE.2.1, hE.2.2.1, hE.2.2.2.mono hk hs⟩
    show Q (some w) T.heap
    rw [eT]; exact hq
theorem Wk.retN0 (C : Cx Z p s m meth c y bytes maxL ret) {pc : Nat} {Ls : Array Slot} (ht : ret = none) (hd : decode bytes pc = .ok (.return_, 1)) (hk : k ≤ R.cells) (hs : n ≤ R.slots) (hq : Q none h) : Wk W p l e R s m args below meth c n0 Q h k n (mkF m pc Ls []) := by
  intro T L vm0 X B eT N
  have hlk := C.hlk
  have hv : meth.sig.returnType = none → (none : Option Value) = none := fun _ => rfl
  cases W
  · cases (B : vm0 = s.vm)
    obtain ⟨fs, hr, hrun, hended, hW, hsame⟩ := Stand.leave (s := s) X (v := none) hv hlk
    refine ⟨_, _, X.returnOut C.hx (C.hret.trans ht) (hb C.hby hd) hr, hrun, hended, _, L, rfl, ⟨?_, N⟩, ⟨_, rfl⟩, hW, hsame.mono hk hs⟩
    show Q none T.heap
    rw [eT]; exact hq
  · obtain ⟨k0, hS, hk0⟩ := (B : ∃ k0, s.Since vm0 k0 ∧ k0 ≤ h.size)
    obtain ⟨fs, hr, hrun, hended, hE⟩ := X.leaveW hS (by rw [eT]; exact hk0) (v := none) hv hlk
    refine ⟨_, _, X.returnOut C.hx (C.hret.trans ht) (hb C.hby hd) hr, hrun, hended, _, L, rfl, ⟨?_, N⟩, hE.1, hE.2.1, hE.2.2.1, hE.2.2.2.mono hk hs⟩
    show Q none T.heap
    rw [eT]; exact hq
/-- the three calls, by the callee's contract -/
theorem Wk.callS (C : Cx Z p s m meth c y bytes maxL ret) {z : MethodName} {index : Nat} {bz : ByteArray} {mz : Nat} {rz : Option FieldType} {rm : Room} {asL : List Value} {Qz : Option Value → Heap → Prop}
    (w1 : (Cond.methodLink y.cls index z).before a0 Z = true) (w2 : (Cond.static z).before a0 Z = true) (w3 : (Cond.initialized z.cls).before a0 Z = true) (w4 : (Cond.code z bz mz rz).before a0 Z = true)
    (hz : z.cls ≠ "java/lang/invoke/MethodHandle" ∧ z.cls ≠ "java/lang/invoke/VarHandle") (M : Met W l Z n0 z bz mz rz rm asL.toArray h Qz) {w : Nat} (hf : rm.frames + 1 ≤ R.frames) (hl : w + (mz + 11) + rm.locals ≤ R.locals)
    {ps : List FieldType} {r : Option FieldType} (hlen : parseMethodDescriptor z.desc = some ⟨ps, r⟩) (hps : asL.length = ps.length) {pc : Nat} {Ls : Array Slot} {st rest : List Value} (hls : Ls.size = maxL) (hst : st = asL.reverse ++ rest) (hw : (rest.map fun v => v.category).sum ≤ w)
    (hc : k + rm.cells ≤ R.cells) (hs : n + rm.slots ≤ R.slots) (hd : decode bytes pc = .ok (.invokestatic index, 3))
    (H : ∀ v h', Qz v h' → Wk W p l e R s m args below meth c n0 Q h' (k + rm.cells) (n + rm.slots) (mkF m (pc + 3) Ls (v.toList ++ rest))) : Wk W p l e R s m args below meth c n0 Q h k n (mkF m pc Ls st) := by
  intro T L vm0 X B eT N
  subst hst
  have hZ := C.wZ B
  have ho := C.wo B
  have hw' : 2 * (mkF m pc Ls (asL.reverse ++ rest)).monitorRoom + (rest.map fun v => v.category).sum ≤ w := by show 2 * 0 + _ ≤ _; omega
  cases W
  · obtain ⟨v, vm₁, ⟨T', L', k', n'⟩, -, X', ⟨Lc, hQ, l1, y1, z1⟩, st⟩ := Jvm.LawKit.callS X C.hx ho (mvT hZ w1) (mvT hZ w2) (mvT hZ w3) (mvT hZ w4) hz (backOf (W := w) (Q := fun v h L => Qz v h ∧ Fr n0 L) (M []) hZ w4 w3 hf hl) (g := mkF m pc Ls (asL.reverse ++ rest)) rfl (hls.trans C.hml.symm) (argsL := asL) (rest := rest) (lenOf hlen hps) rfl hw' (hb C.hby hd) (fun _ _ => ⟨rfl, eT, hc, hs⟩)
    dsimp only [Pt.U, Pt.locs, Pt.cells, Pt.slots] at X' l1 y1 z1 st hQ
    subst l1 y1 z1
    obtain ⟨s₂, o, h1, h2⟩ := H v T'.heap hQ.1 T' _ vm0 X' (B : vm0 = s.vm) rfl (N.app hQ.2)
    exact ⟨s₂, o, st _ h1, h2⟩
  · obtain ⟨v, vm₁, ⟨T', L', k', n'⟩, -, X', hS', hgr, ⟨Lc, hQ, l1, y1, z1⟩, st⟩ := callSS X C.hx ho (mvT hZ w1) (mvT hZ w2) (mvT hZ w3) (mvT hZ w4) hz (backOfS (W := w) (Q := fun v h L => Qz v h ∧ Fr n0 L) (M []) hZ w4 w3 hf hl) (g := mkF m pc Ls (asL.reverse ++ rest)) rfl (hls.trans C.hml.symm) (argsL := asL) (rest := rest) (lenOf hlen hps) rfl hw' (hb C.hby hd) (fun _ _ => ⟨rfl, eT, hc, hs⟩)
    dsimp only [Pt.U, Pt.locs, Pt.cells, Pt.slots] at X' hS' hgr l1 y1 z1 st hQ
    subst l1 y1 z1
    obtain ⟨k0, hS, hk0⟩ := (B : ∃ k0, s.Since vm0 k0 ∧ k0 ≤ h.size)
    obtain ⟨s₂, o, h1, h2⟩ := H v T'.heap hQ.1 T' _ T'.vm X' ⟨_, foldS hS (by rw [eT]; exact hk0) hS' hgr, Nat.le_refl _⟩ rfl (N.app hQ.2)
    exact ⟨s₂, o, st.trans h1, h2⟩
theorem Wk.callI (C : Cx Z p s m meth c y bytes maxL ret) {z : MethodName} {index : Nat} {bz : ByteArray} {mz : Nat} {rm : Room} {a : Addr} {asL : List Value} {Qz : Option Value → Heap → Prop} (hz1 : z.name = "<init>")
    (w1 : (Cond.methodLink y.cls index z).before a0 Z = true) (w2 : (Cond.instanceMethod z).before a0 Z = true) (w3 : (Cond.initialized z.cls).before a0 Z = true) (w4 : (Cond.code z bz mz none).before a0 Z = true)
    (hz : z.cls ≠ "java/lang/invoke/MethodHandle" ∧ z.cls ≠ "java/lang/invoke/VarHandle") (M : Met W l Z n0 z bz mz none rm (.ref a :: asL).toArray h Qz) {w : Nat} (hf : rm.frames + 1 ≤ R.frames) (hl : w + (mz + 11) + rm.locals ≤ R.locals)
    {ps : List FieldType} {r : Option FieldType} (hlen : parseMethodDescriptor z.desc = some ⟨ps, r⟩) (hps : asL.length = ps.length) {pc : Nat} {Ls : Array Slot} {st rest : List Value} (hls : Ls.size = maxL) (hst : st = asL.reverse ++ .ref a :: rest) (hw : (rest.map fun v => v.category).sum ≤ w)
    (hc : k + rm.cells ≤ R.cells) (hs : n + rm.slots ≤ R.slots) (hd : decode bytes pc = .ok (.invokespecial index, 3))
    (H : ∀ v h', Qz v h' → Wk W p l e R s m args below meth c n0 Q h' (k + rm.cells) (n + rm.slots) (mkF m (pc + 3) Ls (v.toList ++ rest))) : Wk W p l e R s m args below meth c n0 Q h k n (mkF m pc Ls st) := by
  intro T L vm0 X B eT N
  subst hst
  have hZ := C.wZ B
  have ho := C.wo B
  have hw' : 2 * (mkF m pc Ls (asL.reverse ++ .ref a :: rest)).monitorRoom + (rest.map fun v => v.category).sum ≤ w := by show 2 * 0 + _ ≤ _; omega
  cases W
  · obtain ⟨v, vm₁, ⟨T', L', k', n'⟩, -, X', ⟨Lc, hQ, l1, y1, z1⟩, st⟩ := X.specialBack C.hx hz1 ho (mvT hZ w1) (mvT hZ w2) (mvT hZ w4) hz (backOf (W := w) (Q := fun v h L => Qz v h ∧ Fr n0 L) (M []) hZ w4 w3 hf hl) (g := mkF m pc Ls (asL.reverse ++ .ref a :: rest)) rfl (hls.trans C.hml.symm) (Steps.refl _) (a := a) (argsL := asL) (rest := rest) (lenOf hlen hps) rfl hw' (hb C.hby hd) (fun _ _ => ⟨rfl, eT, hc, hs⟩)
    dsimp only [Pt.U, Pt.locs, Pt.cells, Pt.slots] at X' l1 y1 z1 st hQ
    subst l1 y1 z1
    obtain ⟨s₂, o, h1, h2⟩ := H v T'.heap hQ.1 T' _ vm0 X' (B : vm0 = s.vm) rfl (N.app hQ.2)
    exact ⟨s₂, o, st.trans h1, h2⟩
  · obtain ⟨v, vm₁, ⟨T', L', k', n'⟩, -, X', hS', hgr, ⟨Lc, hQ, l1, y1, z1⟩, st⟩ := X.specialBackS C.hx hz1 ho (mvT hZ w1) (mvT hZ w2) (mvT hZ w4) hz (backOfS (W := w) (Q := fun v h L => Qz v h ∧ Fr n0 L) (M []) hZ w4 w3 hf hl) (g := mkF m pc Ls (asL.reverse ++ .ref a :: rest)) rfl (hls.trans C.hml.symm) (Steps.refl _) (a := a) (argsL := asL) (rest := rest) (lenOf hlen hps) rfl hw' (hb C.hby hd) (fun _ _ => ⟨rfl, eT, hc, hs⟩)
    dsimp only [Pt.U, Pt.locs, Pt.cells, Pt.slots] at X' hS' hgr l1 y1 z1 st hQ
    subst l1 y1 z1
    obtain ⟨k0, hS, hk0⟩ := (B : ∃ k0, s.Since vm0 k0 ∧ k0 ≤ h.size)
    obtain ⟨s₂, o, h1, h2⟩ := H v T'.heap hQ.1 T' _ T'.vm X' ⟨_, foldS hS (by rw [eT]; exact hk0) hS' hgr, Nat.le_refl _⟩ rfl (N.app hQ.2)
    exact ⟨s₂, o, st.trans h1, h2⟩
theorem Wk.callV (C : Cx Z p s m meth c y bytes maxL ret) {x z : MethodName} {K : String} {index : Nat} {bz : ByteArray} {mz : Nat} {rz : Option FieldType} {rm : Room} {a : Addr} {asL : List Value} {Qz : Option Value → Heap → Prop}
    (w1 : (Cond.methodLink y.cls index x).before a0 Z = true) (w2 : (Cond.declares x).before a0 Z = true) (w5 : (Cond.selects K x z).before a0 Z = true) (w6 : (Cond.instanceMethod z).before a0 Z = true) (w3 : (Cond.initialized z.cls).before a0 Z = true) (w4 : (Cond.code z bz mz rz).before a0 Z = true)
    (hz : x.cls ≠ "java/lang/invoke/MethodHandle" ∧ x.cls ≠ "java/lang/invoke/VarHandle") (hnf : ∀ s' : State, Z.Warmed39 s'.vm → NotFace s' x) (E : Exa Z h a K) (M : Met W l Z n0 z bz mz rz rm (.ref a :: asL).toArray h Qz) {w : Nat} (hf : rm.frames + 1 ≤ R.frames) (hl : w + (mz + 11) + rm.locals ≤ R.locals)
    {ps : List FieldType} {r : Option FieldType} (hlen : parseMethodDescriptor x.desc = some ⟨ps, r⟩) (hps : asL.length = ps.length) {pc : Nat} {Ls : Array Slot} {st rest : List Value} (hls : Ls.size = maxL) (hst : st = asL.reverse ++ .ref a :: rest) (hw : (rest.map fun v => v.category).sum ≤ w)
    (hc : k + rm.cells ≤ R.cells) (hs : n + rm.slots ≤ R.slots) (hd : decode bytes pc = .ok (.invokevirtual index, 3))
    (H : ∀ v h', Qz v h' → Wk W p l e R s m args below meth c n0 Q h' (k + rm.cells) (n + rm.slots) (mkF m (pc + 3) Ls (v.toList ++ rest))) : Wk W p l e R s m args below meth c n0 Q h k n (mkF m pc Ls st) := by
  intro T L vm0 X B eT N
  subst hst
  have hZ := C.wZ B
  have ho := C.wo B
  have hw' : 2 * (mkF m pc Ls (asL.reverse ++ .ref a :: rest)).monitorRoom + (rest.map fun v => v.category).sum ≤ w := by show 2 * 0 + _ ≤ _; omega
  obtain ⟨cq, kq, qa, qb, qc⟩ := isOf hZ eT E
  cases W
  · obtain ⟨v, vm₁, ⟨T', L', k', n'⟩, -, X', ⟨Lc, hQ, l1, y1, z1⟩, st⟩ := X.virtualBack C.hx (y := x) (z := z) ho (mvT hZ w1) (mvT hZ w2) (hnf _ hZ) (mvT hZ w5) (mvT hZ w6) hz (backOf (W := w) (Q := fun v h L => Qz v h ∧ Fr n0 L) (M []) hZ w4 w3 hf hl) qa qc (g := mkF m pc Ls (asL.reverse ++ .ref a :: rest)) rfl (hls.trans C.hml.symm) (Steps.refl _) (argsL := asL) (rest := rest) (lenOf hlen hps) rfl hw' (hb C.hby hd) (fun _ _ => ⟨rfl, eT, hc, hs⟩)
    dsimp only [Pt.U, Pt.locs, Pt.cells, Pt.slots] at X' l1 y1 z1 st hQ
    subst l1 y1 z1
    obtain ⟨s₂, o, h1, h2⟩ := H v T'.heap hQ.1 T' _ vm0 X' (B : vm0 = s.vm) rfl (N.app hQ.2)
    exact ⟨s₂, o, st.trans h1, h2⟩
  · obtain ⟨v, vm₁, ⟨T', L', k', n'⟩, -, X', hS', hgr, ⟨Lc, hQ, l1, y1, z1⟩, st⟩ := X.virtualBackS C.hx (y := x) (z := z) ho (mvT hZ w1) (mvT hZ w2) (hnf _ hZ) (mvT hZ w5) (mvT hZ w6) hz (backOfS (W := w) (Q := fun v h L => Qz v h ∧ Fr n0 L) (M []) hZ w4 w3 hf hl) qa qc (g := mkF m pc Ls (asL.reverse ++ .ref a :: rest)) rfl (hls.trans C.hml.symm) (Steps.refl _) (argsL := asL) (rest := rest) (lenOf hlen hps) rfl hw' (hb C.hby hd) (fun _ _ => ⟨rfl, eT, hc, hs⟩)
    dsimp only [Pt.U, Pt.locs, Pt.cells, Pt.slots] at X' hS' hgr l1 y1 z1 st hQ
    subst l1 y1 z1
    obtain ⟨k0, hS, hk0⟩ := (B : ∃ k0, s.Since vm0 k0 ∧ k0 ≤ h.size)
    obtain ⟨s₂, o, h1, h2⟩ := H v T'.heap hQ.1 T' _ T'.vm X' ⟨_, foldS hS (by rw [eT]; exact hk0) hS' hgr, Nat.le_refl _⟩ rfl (N.app hQ.2)
    exact ⟨s₂, o, st.trans h1, h2⟩
theorem Wk.callU (C : Cx Z p s m meth c y bytes maxL ret) {x z : MethodName} {K owner : String} {index : Nat} {bz : ByteArray} {mz : Nat} {rz : Option FieldType} {rm : Room} {a : Addr} {asL : List Value} {Qz : Option Value → Heap → Prop}
    (w1 : (Cond.methodLink y.cls index x).before a0 Z = true) (w7 : (Cond.sameMethod x.cls owner x.name x.desc).before a0 Z = true) (w2 : (Cond.declares ⟨owner, x.name, x.desc⟩).before a0 Z = true) (w5 : (Cond.selects K x z).before a0 Z = true) (w6 : (Cond.instanceMethod z).before a0 Z = true) (w3 : (Cond.initialized z.cls).before a0 Z = true) (w4 : (Cond.code z bz mz rz).before a0 Z = true)
    (hz : owner ≠ "java/lang/invoke/MethodHandle" ∧ owner ≠ "java/lang/invoke/VarHandle") (E : Exa Z h a K) (M : Met W l Z n0 z bz mz rz rm (.ref a :: asL).toArray h Qz) {w : Nat} (hf : rm.frames + 1 ≤ R.frames) (hl : w + (mz + 11) + rm.locals ≤ R.locals)
    {ps : List FieldType} {r : Option FieldType} (hlen : parseMethodDescriptor x.desc = some ⟨ps, r⟩) (hps : asL.length = ps.length) {pc : Nat} {Ls : Array Slot} {st rest : List Value} (hls : Ls.size = maxL) (hst : st = asL.reverse ++ .ref a :: rest) (hw : (rest.map fun v => v.category).sum ≤ w)
    (hc : k + rm.cells ≤ R.cells) (hs : n + rm.slots ≤ R.slots) (hd : decode bytes pc = .ok (.invokevirtual index, 3))
    (H : ∀ v h', Qz v h' → Wk W p l e R s m args below meth c n0 Q h' (k + rm.cells) (n + rm.slots) (mkF m (pc + 3) Ls (v.toList ++ rest))) : Wk W p l e R s m args below meth c n0 Q h k n (mkF m pc Ls st) := by
  intro T L vm0 X B eT N
  subst hst
  have hZ := C.wZ B
  have ho := C.wo B
  have hw' : 2 * (mkF m pc Ls (asL.reverse ++ .ref a :: rest)).monitorRoom + (rest.map fun v => v.category).sum ≤ w := by show 2 * 0 + _ ≤ _; omega
  obtain ⟨cq, kq, qa, qb, qc⟩ := isOf hZ eT E
  cases W
  · obtain ⟨v, vm₁, ⟨T', L', k', n'⟩, -, X', ⟨Lc, hQ, l1, y1, z1⟩, st⟩ := X.virtualBackUp C.hx (x := x) (y := z) ho (mvT hZ w1) (mvT hZ w7) (mvT hZ w2) hz (mvT hZ w5) (mvT hZ w6) (backOf (W := w) (Q := fun v h L => Qz v h ∧ Fr n0 L) (M []) hZ w4 w3 hf hl) qa qc (g := mkF m pc Ls (asL.reverse ++ .ref a :: rest)) rfl (hls.trans C.hml.symm) (Steps.refl _) (argsL := asL) (rest := rest) (lenOf hlen hps) rfl hw' (hb C.hby hd) (fun _ _ => ⟨rfl, eT, hc, hs⟩)
    dsimp only [Pt.U, Pt.locs, Pt.cells, Pt.slots] at X' l1 y1 z1 st hQ
    subst l1 y1 z1
    obtain ⟨s₂, o, h1, h2⟩ := H v T'.heap hQ.1 T' _ vm0 X' (B : vm0 = s.vm) rfl (N.app hQ.2)
    exact ⟨s₂, o, st.trans h1, h2⟩
  · obtain ⟨v, vm₁, ⟨T', L', k', n'⟩, -, X', hS', hgr, ⟨Lc, hQ, l1, y1, z1⟩, st⟩ := X.virtualBackUpS C.hx (x := x) (y := z) ho (mvT hZ w1) (mvT hZ w7) (mvT hZ w2) hz (mvT hZ w5) (mvT hZ w6) (backOfS (W := w) (Q := fun v h L => Qz v h ∧ Fr n0 L) (M []) hZ w4 w3 hf hl) qa qc (g := mkF m pc Ls (asL.reverse ++ .ref a :: rest)) rfl (hls.trans C.hml.symm) (Steps.refl _) (argsL := asL) (rest := rest) (lenOf hlen hps) rfl hw' (hb C.hby hd) (fun _ _ => ⟨rfl, eT, hc, hs⟩)
    dsimp only [Pt.U, Pt.locs, Pt.cells, Pt.slots] at X' hS' hgr l1 y1 z1 st hQ
    subst l1 y1 z1
    obtain ⟨k0, hS, hk0⟩ := (B : ∃ k0, s.Since vm0 k0 ∧ k0 ≤ h.size)
    obtain ⟨s₂, o, h1, h2⟩ := H v T'.heap hQ.1 T' _ T'.vm X' ⟨_, foldS hS (by rw [eT]; exact hk0) hS' hgr, Nat.le_refl _⟩ rfl (N.app hQ.2)
    exact ⟨s₂, o, st.trans h1, h2⟩
theorem Wk.ldcS (C : Cx Z p s m meth c y bytes maxL ret) {index : Nat} {text : String} (w : (Cond.stringLink y.cls index text).before a0 Z = true) (wS : ∀ d ∈ Bundle.stringAtoms, d.before a0 Z = true) {N : Nat} (hn : 4 * text.toList.length ≤ N) (hbig : N ≤ 536870912) {pc : Nat} {Ls : Array Slot} {st : List Value} (hd : decode bytes pc = .ok (.ldc index, 2)) (hc : k + 2 ≤ R.cells) (hl : n + (N + 4) ≤ R.slots)
    (H : ∀ h' a, Ext h h' → Wk true p l e R s m args below meth c n0 Q h' (k + 2) (n + (N + 4)) (mkF m (pc + 2) Ls (.ref a :: st))) : Wk true p l e R s m args below meth c n0 Q h k n (mkF m pc Ls st) := by
  intro T L vm0 X B eT N'
  have hZ := C.wZ B
  have ho := C.wo B
  obtain ⟨k0, hS, hk0⟩ := (B : ∃ k0, s.Since vm0 k0 ∧ k0 ≤ h.size)
  obtain ⟨a, T', h', k1, X', e', E, hS', hk1, -, -, st⟩ := Jvm.RoadKit.ldcS X C.hx hZ ho w wS eT hS hk0 (g := mkF m pc Ls st) rfl (hb C.hby hd) hn hbig hc hl
  obtain ⟨s₂, o, h1, h2⟩ := H h' a E T' L T'.vm X' ⟨k1, hS', hk1⟩ e' N'
  exact ⟨s₂, o, st _ h1, h2⟩
end Rules
theorem ext_trans {h h' h'' : Heap} (E : Ext h h') (E' : Ext h' h'') : Ext h h'' := ⟨Nat.le_trans E.1 E'.1, fun a c q => E'.2 a c (E.2 a c q)⟩
theorem ext_refl (h : Heap) : Ext h h := ⟨Nat.le_refl _, fun _ _ q => q⟩
end Jvm.Own
namespace Jvm.Own
open Jvm Jvm.ClassFile Sem Op Lib Jvm.Free Jvm.Stand Jvm.LawKit Jvm.RoadKit
/-! statics that hold objects, told apart by a field -/
theorem stat_exa {args : Array Value} {s : State} {C n d K : String} (wi : (Cond.initialized C).before args s = true) (wl : (Cond.laysStatic C n d).before args s = true) (hx : (Cond.exactly (Term.static C n d) K).value args s none s [] = some true) :
    ∃ a, (Term.static C n d).eval args s none [] s = some (.ref a) ∧ Sta s s.heap C n d (.ref a) ∧ Exa s s.heap a K := by
  obtain ⟨a, ev⟩ := exa_v hx
  exact ⟨a, ev, Sta.start ev (Or.inr ⟨wi, wl⟩), Exa.start ev hx⟩
theorem fld_int {args : Array Value} {s : State} {t : Term} {a : Addr} {O f d : String} {i : Int32} (ev : t.eval args s none [] s = some (.ref a)) (hq : (Cond.eq (Term.field t O f d) (Term.int i)).value args s none s [] = some true) : Fld s s.heap a O f d (.int i) := by
  refine Fld.start ?_
  obtain ⟨x, y, h1, h2, k1, k2⟩ := cmp_v (Or.inl hq)
  cases (show some (Value.int i) = some y from h2)
  obtain ⟨z, rfl⟩ := k2
  have q := gotT (show (Cond.eq (Term.field t O f d) (Term.int i)).value args s none s [] = some (decide (z = i)) by simp [Cond.value, h1, h2]) hq
  subst q
  rw [fld_at ev] at h1; exact h1
theorem fld_uniq {Z : State} {h : Heap} {a : Addr} {O f d : String} {v w : Value} (F : Fld Z h a O f d v) (G : Fld Z h a O f d w) : v = w := by
  obtain ⟨c1, cf, k, i, fd, h1, h2, -, -, -, -, h7⟩ := F
  obtain ⟨c2, cf', k', i', fd', g1, g2, -, -, -, -, g7⟩ := G
  cases h1.symm.trans g1
  cases h2.symm.trans g2
  exact Option.some.inj (h7.symm.trans g7)
theorem ne_fld {Z : State} {h : Heap} {a b : Addr} {O f d : String} {v w : Value} (F : Fld Z h a O f d v) (G : Fld Z h b O f d w) (q : v ≠ w) : a ≠ b := fun e => by
  subst e; exact q (fld_uniq F G)
theorem mod_range (p k : Int32) (d : Int) (hd : k.toInt = d) (h0 : 0 < d) : 0 ≤ ((p &&& 2147483647) % k).toInt ∧ ((p &&& 2147483647) % k).toInt < d := by
  have h1 := (c_andS p 2147483647).2.2 (by decide)
  have h2 := (c_irem (p &&& 2147483647) k d hd).1 h1
  rw [h2]
  exact ⟨Int.emod_nonneg _ (by omega), Int.emod_lt_of_pos _ h0⟩
theorem mod6 (p : Int32) : (p &&& 2147483647) % 6 = 0 ∨ (p &&& 2147483647) % 6 = 1 ∨ (p &&& 2147483647) % 6 = 2 ∨ (p &&& 2147483647) % 6 = 3 ∨ (p &&& 2147483647) % 6 = 4 ∨ (p &&& 2147483647) % 6 = 5 := by
  have h := mod_range p 6 6 (by decide) (by decide)
  generalize (p &&& 2147483647) % 6 = r at h ⊢
  have q : r.toInt = 0 ∨ r.toInt = 1 ∨ r.toInt = 2 ∨ r.toInt = 3 ∨ r.toInt = 4 ∨ r.toInt = 5 := by omega
  rcases q with q | q | q | q | q | q
  · exact Or.inl (Int32.toInt_inj.mp q)
  · exact Or.inr (Or.inl (Int32.toInt_inj.mp q))
  · exact Or.inr (Or.inr (Or.inl (Int32.toInt_inj.mp q)))
  · exact Or.inr (Or.inr (Or.inr (Or.inl (Int32.toInt_inj.mp q))))
  · exact Or.inr (Or.inr (Or.inr (Or.inr (Or.inl (Int32.toInt_inj.mp q)))))
  · exact Or.inr (Or.inr (Or.inr (Or.inr (Or.inr (Int32.toInt_inj.mp q)))))
theorem mod3 (p : Int32) : (p &&& 2147483647) % 3 = 0 ∨ (p &&& 2147483647) % 3 = 1 ∨ (p &&& 2147483647) % 3 = 2 := by
  have h := mod_range p 3 3 (by decide) (by decide)
  generalize (p &&& 2147483647) % 3 = r at h ⊢
  have q : r.toInt = 0 ∨ r.toInt = 1 ∨ r.toInt = 2 := by omega
  rcases q with q | q | q
  · exact Or.inl (Int32.toInt_inj.mp q)
  · exact Or.inr (Or.inl (Int32.toInt_inj.mp q))
  · exact Or.inr (Or.inr (Int32.toInt_inj.mp q))
end Jvm.Own
namespace Jvm.Own
open Jvm Jvm.ClassFile Sem Op Lib Jvm.Free Jvm.Stand Jvm.LawKit Jvm.RoadKit
/-! an array by what it holds at each place -/
def up {α : Type} (f : Nat → α) (i : Nat) (v : α) : Nat → α := fun k => if k = i then v else f k
theorem up_eq {α : Type} {f : Nat → α} {i k : Nat} {v : α} (q : k = i) : up f i v k = v := by simp [up, q]
theorem up_ne {α : Type} {f : Nat → α} {i k : Nat} {v : α} (q : k ≠ i) : up f i v k = f k := by simp [up, q]
def Fa (Z : State) (h : Heap) (a : Addr) (ty : FieldType) (n : Nat) (f : Nat → Value) : Prop :=
  ∃ c : Cell, Arr Z h a c ty ∧ c.slots.size = n ∧ n < 2 ^ 31 ∧ ∀ i, i < n → c.slots[i]? = some (f i)
/-- .. of objects of the class K -/
def FaO (Z : State) (h : Heap) (a : Addr) (K : String) (n : Nat) (f : Nat → Value) : Prop :=
  ∃ c : Cell, Arr Z h a c (.object K) ∧ Ovr Z c.cls K ∧ c.slots.size = n ∧ n < 2 ^ 31 ∧ ∀ i, i < n → c.slots[i]? = some (f i)
/-- .. of arrays, whose class is named K -/
def FaA (Z : State) (h : Heap) (a : Addr) (ty : FieldType) (K : String) (n : Nat) (f : Nat → Value) : Prop :=
  ∃ c : Cell, Arr Z h a c (.array ty) ∧ OvrA Z c.cls ty K ∧ c.slots.size = n ∧ n < 2 ^ 31 ∧ ∀ i, i < n → c.slots[i]? = some (f i)
section Facts
variable {Z : State} {h h' : Heap} {a b : Addr} {ty : FieldType} {K : String} {n : Nat} {f g : Nat → Value} {sl : Nat} {v : Value} {ws : List Addr}
theorem inb {c : Cell} {j : Int32} (S : c.slots.size = n) (h0 : ¬ j < 0) (hi : j.toNatClampNeg < n) : ¬ (j < 0 ∨ c.slots.size ≤ j.toNatClampNeg) := by
  rintro (q | q)
  · exact h0 q
  · omega
theorem set_at {c : Cell} (S : c.slots.size = n) (H : ∀ i, i < n → c.slots[i]? = some (f i)) (hs : sl < n) : ∀ i, i < n → (c.setSlot sl v).slots[i]? = some (up f sl v i) := fun i hi => by
  by_cases q : i = sl
  · subst q; rw [up_eq rfl]; simp [Cell.setSlot, S, hi]
  · rw [up_ne q, ← H i hi]; exact Array.getElem?_setIfInBounds_ne (Ne.symm q)
theorem new_at {cA : ClassId} {z : Int32} : ∀ i, i < z.toNatClampNeg → (newA cA ty z).slots[i]? = some (defaultValue ty) := fun i hi => by simp [newA, hi]
theorem clamp_lt (z : Int32) : z.toNatClampNeg < 2 ^ 31 := by
  have := Int32.toInt_lt z; simp only [Int32.toNatClampNeg]; omega
theorem Fa.lt (F : Fa Z h a ty n f) : a < h.size := by obtain ⟨c, A, -⟩ := F; exact A.lt
theorem Fa.ext (F : Fa Z h a ty n f) (E : Ext h h') : Fa Z h' a ty n f := by obtain ⟨c, A, r⟩ := F; exact ⟨c, A.ext E, r⟩
theorem Fa.other (F : Fa Z h b ty n f) (W : Wr h h' a sl v) (q : b ≠ a) : Fa Z h' b ty n f := by obtain ⟨c, A, r⟩ := F; exact ⟨c, A.other W q, r⟩
theorem Fa.keep (F : Fa Z h a ty n f) (K : Keep h h' ws) (q : a ∉ ws) : Fa Z h' a ty n f := by obtain ⟨c, A, r⟩ := F; exact ⟨c, ⟨K.2.1 a c A.1 q, A.2⟩, r⟩
theorem Fa.set (F : Fa Z h a ty n f) (W : Wr h h' a sl v) (hs : sl < n) : Fa Z h' a ty n (up f sl v) := by
  obtain ⟨c, A, S, N, H⟩ := F; exact ⟨_, A.same W, (sz_set _ _ _).trans S, N, set_at S H hs⟩
theorem Fa.new {cA : ClassId} {z : Int32} (A : Arr Z h a (newA cA ty z) ty) : Fa Z h a ty z.toNatClampNeg (fun _ => defaultValue ty) := ⟨_, A, sz_new _ _ _, clamp_lt z, new_at⟩
theorem Fa.congr (F : Fa Z h a ty n f) (q : ∀ i, i < n → f i = g i) : Fa Z h a ty n g := by obtain ⟨c, A, S, N, H⟩ := F; exact ⟨c, A, S, N, fun i hi => (H i hi).trans (congrArg some (q i hi))⟩
theorem FaO.lt (F : FaO Z h a K n f) : a < h.size := by obtain ⟨c, A, -⟩ := F; exact A.lt
theorem FaO.ext (F : FaO Z h a K n f) (E : Ext h h') : FaO Z h' a K n f := by obtain ⟨c, A, r⟩ := F; exact ⟨c, A.ext E, r⟩
theorem FaO.other (F : FaO Z h b K n f) (W : Wr h h' a sl v) (q : b ≠ a) : FaO Z h' b K n f := by obtain ⟨c, A, r⟩ := F; exact ⟨c, A.other W q, r⟩
theorem FaO.set (F : FaO Z h a K n f) (W : Wr h h' a sl v) (hs : sl < n) : FaO Z h' a K n (up f sl v) := by
  obtain ⟨c, A, O, S, N, H⟩ := F; exact ⟨_, A.same W, O, (sz_set _ _ _).trans S, N, set_at S H hs⟩
theorem FaO.new {cA : ClassId} {z : Int32} (A : Arr Z h a (newA cA (.object K) z) (.object K)) (O : Ovr Z cA K) : FaO Z h a K z.toNatClampNeg (fun _ => .null) := ⟨_, A, O, sz_new _ _ _, clamp_lt z, new_at⟩
theorem FaO.sto (F : FaO Z h a K n f) {y : Addr} (E : Exa Z h y K) : Sto Z h a (.ref y) := by obtain ⟨c, A, O, -⟩ := F; exact Sto.of A O (Ins.self E)
theorem FaA.lt (F : FaA Z h a ty K n f) : a < h.size := by obtain ⟨c, A, -⟩ := F; exact A.lt
theorem FaA.ext (F : FaA Z h a ty K n f) (E : Ext h h') : FaA Z h' a ty K n f := by obtain ⟨c, A, r⟩ := F; exact ⟨c, A.ext E, r⟩
theorem FaA.other (F : FaA Z h b ty K n f) (W : Wr h h' a sl v) (q : b ≠ a) : FaA Z h' b ty K n f := by obtain ⟨c, A, r⟩ := F; exact ⟨c, A.other W q, r⟩
theorem FaA.keep (F : FaA Z h a ty K n f) (Kp : Keep h h' ws) (q : a ∉ ws) : FaA Z h' a ty K n f := by obtain ⟨c, A, r⟩ := F; exact ⟨c, ⟨Kp.2.1 a c A.1 q, A.2⟩, r⟩
theorem FaA.set (F : FaA Z h a ty K n f) (W : Wr h h' a sl v) (hs : sl < n) : FaA Z h' a ty K n (up f sl v) := by
  obtain ⟨c, A, O, S, N, H⟩ := F; exact ⟨_, A.same W, O, (sz_set _ _ _).trans S, N, set_at S H hs⟩
theorem FaA.new {cA : ClassId} {z : Int32} (A : Arr Z h a (newA cA (.array ty) z) (.array ty)) (O : OvrA Z cA ty K) : FaA Z h a ty K z.toNatClampNeg (fun _ => .null) := ⟨_, A, O, sz_new _ _ _, clamp_lt z, new_at⟩
end Facts
section Rules
variable {W : Bool} {Z : State} {p : Program} {l : Launch} {e : Env} {R : Room} {s : State} {m : MethodId} {args : Array Value} {below : List Frame} {meth : Method} {c : Code} {y : MethodName} {bytes : ByteArray} {maxL : Nat} {ret : Option FieldType} {n0 : Nat} {Q : Option Value → Heap → Prop} {h : Heap} {k n : Nat} {a0 : Array Value}
variable {a : Addr} {ty : FieldType} {K : String} {N : Nat} {f : Nat → Value} {j : Int32} {v : Value} {pc : Nat} {Ls : Array Slot} {st : List Value}
theorem Wk.fLen (C : Cx Z p s m meth c y bytes maxL ret) (F : Fa Z h a ty N f) {z : Int32} (hz : N.toInt32 = z) (hd : decode bytes pc = .ok (.arraylength, 1))
    (H : Wk W p l e R s m args below meth c n0 Q h k n (mkF m (pc + 1) Ls (.int z :: st))) : Wk W p l e R s m args below meth c n0 Q h k n (mkF m pc Ls (.ref a :: st)) := by
  obtain ⟨cl, A, S, -⟩ := F; exact Wk.len C A hd (by rw [S, hz]; exact H)
theorem Wk.fLenA (C : Cx Z p s m meth c y bytes maxL ret) (F : FaA Z h a ty K N f) {z : Int32} (hz : N.toInt32 = z) (hd : decode bytes pc = .ok (.arraylength, 1))
    (H : Wk W p l e R s m args below meth c n0 Q h k n (mkF m (pc + 1) Ls (.int z :: st))) : Wk W p l e R s m args below meth c n0 Q h k n (mkF m pc Ls (.ref a :: st)) := by
  obtain ⟨cl, A, -, S, -⟩ := F; exact Wk.len C A hd (by rw [S, hz]; exact H)
theorem Wk.fLdI (C : Cx Z p s m meth c y bytes maxL ret) (F : Fa Z h a .int N f) {i : Nat} (hj : j.toNatClampNeg = i) (h0 : ¬ j < 0) (hi : i < N) (hv : f i = v) (hd : decode bytes pc = .ok (.iaload, 1))
    (H : Wk W p l e R s m args below meth c n0 Q h k n (mkF m (pc + 1) Ls (v :: st))) : Wk W p l e R s m args below meth c n0 Q h k n (mkF m pc Ls (.int j :: .ref a :: st)) := by
  subst hj
  obtain ⟨cl, A, S, -, Hs⟩ := F; exact Wk.ldI C A (inb S h0 hi) (hv ▸ Hs _ hi) hd H
theorem Wk.fLdJ (C : Cx Z p s m meth c y bytes maxL ret) (F : Fa Z h a .long N f) {i : Nat} (hj : j.toNatClampNeg = i) (h0 : ¬ j < 0) (hi : i < N) (hv : f i = v) (hd : decode bytes pc = .ok (.laload, 1))
    (H : Wk W p l e R s m args below meth c n0 Q h k n (mkF m (pc + 1) Ls (v :: st))) : Wk W p l e R s m args below meth c n0 Q h k n (mkF m pc Ls (.int j :: .ref a :: st)) := by
  subst hj
  obtain ⟨cl, A, S, -, Hs⟩ := F; exact Wk.ldJ C A (inb S h0 hi) (hv ▸ Hs _ hi) hd H
theorem Wk.fLdZ (C : Cx Z p s m meth c y bytes maxL ret) (F : Fa Z h a .boolean N f) {i : Nat} (hj : j.toNatClampNeg = i) (h0 : ¬ j < 0) (hi : i < N) (hv : f i = v) (hd : decode bytes pc = .ok (.baload, 1))
    (H : Wk W p l e R s m args below meth c n0 Q h k n (mkF m (pc + 1) Ls (v :: st))) : Wk W p l e R s m args below meth c n0 Q h k n (mkF m pc Ls (.int j :: .ref a :: st)) := by
  subst hj
  obtain ⟨cl, A, S, -, Hs⟩ := F; exact Wk.ldZ C A (inb S h0 hi) (hv ▸ Hs _ hi) hd H
theorem Wk.fLdC (C : Cx Z p s m meth c y bytes maxL ret) (F : Fa Z h a .char N f) {i : Nat} (hj : j.toNatClampNeg = i) (h0 : ¬ j < 0) (hi : i < N) (hv : f i = v) (hd : decode bytes pc = .ok (.caload, 1))
    (H : Wk W p l e R s m args below meth c n0 Q h k n (mkF m (pc + 1) Ls (v :: st))) : Wk W p l e R s m args below meth c n0 Q h k n (mkF m pc Ls (.int j :: .ref a :: st)) := by
  subst hj
  obtain ⟨cl, A, S, -, Hs⟩ := F; exact Wk.ldC C A (inb S h0 hi) (hv ▸ Hs _ hi) hd H
theorem Wk.fLdB (C : Cx Z p s m meth c y bytes maxL ret) (F : Fa Z h a .byte N f) {i : Nat} (hj : j.toNatClampNeg = i) (h0 : ¬ j < 0) (hi : i < N) (hv : f i = v) (hd : decode bytes pc = .ok (.baload, 1))
    (H : Wk W p l e R s m args below meth c n0 Q h k n (mkF m (pc + 1) Ls (v :: st))) : Wk W p l e R s m args below meth c n0 Q h k n (mkF m pc Ls (.int j :: .ref a :: st)) := by
  subst hj
  obtain ⟨cl, A, S, -, Hs⟩ := F; exact Wk.ldB C A (inb S h0 hi) (hv ▸ Hs _ hi) hd H
theorem Wk.fLdO (C : Cx Z p s m meth c y bytes maxL ret) (F : FaO Z h a K N f) {i : Nat} (hj : j.toNatClampNeg = i) (h0 : ¬ j < 0) (hi : i < N) (hv : f i = v) (hd : decode bytes pc = .ok (.aaload, 1))
    (H : Wk W p l e R s m args below meth c n0 Q h k n (mkF m (pc + 1) Ls (v :: st))) : Wk W p l e R s m args below meth c n0 Q h k n (mkF m pc Ls (.int j :: .ref a :: st)) := by
  subst hj
  obtain ⟨cl, A, -, S, -, Hs⟩ := F; exact Wk.ldR C A rfl (inb S h0 hi) (hv ▸ Hs _ hi) hd H
theorem Wk.fLdA (C : Cx Z p s m meth c y bytes maxL ret) (F : FaA Z h a ty K N f) {i : Nat} (hj : j.toNatClampNeg = i) (h0 : ¬ j < 0) (hi : i < N) (hv : f i = v) (hd : decode bytes pc = .ok (.aaload, 1))
    (H : Wk W p l e R s m args below meth c n0 Q h k n (mkF m (pc + 1) Ls (v :: st))) : Wk W p l e R s m args below meth c n0 Q h k n (mkF m pc Ls (.int j :: .ref a :: st)) := by
  subst hj
  obtain ⟨cl, A, -, S, -, Hs⟩ := F; exact Wk.ldR C A rfl (inb S h0 hi) (hv ▸ Hs _ hi) hd H
theorem Wk.fStI (C : Cx Z p s m meth c y bytes maxL ret) (F : Fa Z h a .int N f) {x : Int32} {i : Nat} (hj : j.toNatClampNeg = i) (h0 : ¬ j < 0) (hi : i < N) (ge : n0 ≤ a) (hd : decode bytes pc = .ok (.iastore, 1))
    (H : ∀ h', Wr h h' a i (.int x) → Fa Z h' a .int N (up f i (.int x)) → Wk W p l e R s m args below meth c n0 Q h' k n (mkF m (pc + 1) Ls st)) : Wk W p l e R s m args below meth c n0 Q h k n (mkF m pc Ls (.int x :: .int j :: .ref a :: st)) := by
  subst hj
  obtain ⟨cl, A, S, r⟩ := id F; exact Wk.stI C A (inb S h0 hi) ge hd fun h' Wh => H h' Wh (F.set Wh hi)
theorem Wk.fStJ (C : Cx Z p s m meth c y bytes maxL ret) (F : Fa Z h a .long N f) {x : Int64} {i : Nat} (hj : j.toNatClampNeg = i) (h0 : ¬ j < 0) (hi : i < N) (ge : n0 ≤ a) (hd : decode bytes pc = .ok (.lastore, 1))
    (H : ∀ h', Wr h h' a i (.long x) → Fa Z h' a .long N (up f i (.long x)) → Wk W p l e R s m args below meth c n0 Q h' k n (mkF m (pc + 1) Ls st)) : Wk W p l e R s m args below meth c n0 Q h k n (mkF m pc Ls (.long x :: .int j :: .ref a :: st)) := by
  subst hj
  obtain ⟨cl, A, S, r⟩ := id F; exact Wk.stJ C A (inb S h0 hi) ge hd fun h' Wh => H h' Wh (F.set Wh hi)
theorem Wk.fStZ (C : Cx Z p s m meth c y bytes maxL ret) (F : Fa Z h a .boolean N f) {x x' : Int32} (hx : nar .boolean x = x') {i : Nat} (hj : j.toNatClampNeg = i) (h0 : ¬ j < 0) (hi : i < N) (ge : n0 ≤ a) (hd : decode bytes pc = .ok (.bastore, 1))
    (H : ∀ h', Wr h h' a i (.int x') → Fa Z h' a .boolean N (up f i (.int x')) → Wk W p l e R s m args below meth c n0 Q h' k n (mkF m (pc + 1) Ls st)) : Wk W p l e R s m args below meth c n0 Q h k n (mkF m pc Ls (.int x :: .int j :: .ref a :: st)) := by
  subst hx
  subst hj
  obtain ⟨cl, A, S, r⟩ := id F; exact Wk.stZb C A (inb S h0 hi) ge hd fun h' Wh => H h' Wh (F.set Wh hi)
theorem Wk.fStB (C : Cx Z p s m meth c y bytes maxL ret) (F : Fa Z h a .byte N f) {x x' : Int32} (hx : nar .byte x = x') {i : Nat} (hj : j.toNatClampNeg = i) (h0 : ¬ j < 0) (hi : i < N) (ge : n0 ≤ a) (hd : decode bytes pc = .ok (.bastore, 1))
    (H : ∀ h', Wr h h' a i (.int x') → Fa Z h' a .byte N (up f i (.int x')) → Wk W p l e R s m args below meth c n0 Q h' k n (mkF m (pc + 1) Ls st)) : Wk W p l e R s m args below meth c n0 Q h k n (mkF m pc Ls (.int x :: .int j :: .ref a :: st)) := by
  subst hx
  subst hj
  obtain ⟨cl, A, S, r⟩ := id F; exact Wk.stB C A (inb S h0 hi) ge hd fun h' Wh => H h' Wh (F.set Wh hi)
theorem Wk.fStC (C : Cx Z p s m meth c y bytes maxL ret) (F : Fa Z h a .char N f) {x x' : Int32} (hx : nar .char x = x') {i : Nat} (hj : j.toNatClampNeg = i) (h0 : ¬ j < 0) (hi : i < N) (ge : n0 ≤ a) (hd : decode bytes pc = .ok (.castore, 1))
    (H : ∀ h', Wr h h' a i (.int x') → Fa Z h' a .char N (up f i (.int x')) → Wk W p l e R s m args below meth c n0 Q h' k n (mkF m (pc + 1) Ls st)) : Wk W p l e R s m args below meth c n0 Q h k n (mkF m pc Ls (.int x :: .int j :: .ref a :: st)) := by
  subst hx
  subst hj
  obtain ⟨cl, A, S, r⟩ := id F; exact Wk.stC C A (inb S h0 hi) ge hd fun h' Wh => H h' Wh (F.set Wh hi)
theorem Wk.fStO (C : Cx Z p s m meth c y bytes maxL ret) (F : FaO Z h a K N f) {i : Nat} (hj : j.toNatClampNeg = i) (h0 : ¬ j < 0) (hi : i < N) (So : Sto Z h a v) (ge : n0 ≤ a) (hd : decode bytes pc = .ok (.aastore, 1))
    (H : ∀ h', Wr h h' a i v → FaO Z h' a K N (up f i v) → Wk W p l e R s m args below meth c n0 Q h' k n (mkF m (pc + 1) Ls st)) : Wk W p l e R s m args below meth c n0 Q h k n (mkF m pc Ls (v :: .int j :: .ref a :: st)) := by
  subst hj
  obtain ⟨cl, A, O, S, r⟩ := id F; exact Wk.stR C A (inb S h0 hi) rfl So ge hd fun h' Wh => H h' Wh (F.set Wh hi)
theorem Wk.fStA (C : Cx Z p s m meth c y bytes maxL ret) (F : FaA Z h a ty K N f) {i : Nat} (hj : j.toNatClampNeg = i) (h0 : ¬ j < 0) (hi : i < N) (So : Sto Z h a v) (ge : n0 ≤ a) (hd : decode bytes pc = .ok (.aastore, 1))
    (H : ∀ h', Wr h h' a i v → FaA Z h' a ty K N (up f i v) → Wk W p l e R s m args below meth c n0 Q h' k n (mkF m (pc + 1) Ls st)) : Wk W p l e R s m args below meth c n0 Q h k n (mkF m pc Ls (v :: .int j :: .ref a :: st)) := by
  subst hj
  obtain ⟨cl, A, O, S, r⟩ := id F; exact Wk.stR C A (inb S h0 hi) rfl So ge hd fun h' Wh => H h' Wh (F.set Wh hi)
theorem Wk.fNewP (C : Cx Z p s m meth c y bytes maxL ret) {aty : ArrayType} (w : (Cond.arrayClass (newarray.typeOf aty)).before a0 Z = true) {z : Int32} {dv : Value} {ad : String} (hty : newarray.typeOf aty = ty) (hdv : defaultValue ty = dv) (hN : z.toNatClampNeg = N) (had : "[" ++ (newarray.typeOf aty).toString = ad) (hz : ¬ z < 0) {cap : Nat} (hcap : N ≤ cap) (hbig : cap * 8 ≤ 536870912) (hd : decode bytes pc = .ok (.newarray aty, 2)) (hc : k + 1 ≤ R.cells) (hl : n + cap ≤ R.slots)
    (H : ∀ h' a, a = h.size → Ext h h' → Exa Z h' a ad → Fa Z h' a ty N (fun _ => dv) → Wk W p l e R s m args below meth c n0 Q h' (k + 1) (n + cap) (mkF m (pc + 2) Ls (.ref a :: st))) :
    Wk W p l e R s m args below meth c n0 Q h k n (mkF m pc Ls (.int z :: st)) := by
  intro T L vm0 X B eT Nn
  subst hty hdv hN
  obtain ⟨T', h', cA, X', e', E, A, Ex, st⟩ := Jvm.RoadKit.newPE X C.hx (C.wZ B) w eT (g := mkF m pc Ls (.int z :: st)) rfl (hb C.hby hd) rfl hz hcap hbig hc hl had
  obtain ⟨s₂, o, h1, h2⟩ := H h' _ rfl E Ex (Fa.new A) T' L vm0 X' (B.mono E.1) e' Nn
  exact ⟨s₂, o, st _ h1, h2⟩
theorem Wk.fNewA (C : Cx Z p s m meth c y bytes maxL ret) {index : Nat} {z : Int32} {ad : String} (hK : (FieldType.array ty).toString = K) (w1 : (Cond.classLink y.cls index K).before a0 Z = true) (w2 : (Cond.arrayOver (.array ty)).before a0 Z = true) (hN : z.toNatClampNeg = N) (had : "[" ++ K = ad) (hz : ¬ z < 0) {cap : Nat} (hcap : N ≤ cap) (hbig : cap * 8 ≤ 536870912) (hd : decode bytes pc = .ok (.anewarray index, 3)) (hc : k + 1 ≤ R.cells) (hl : n + cap ≤ R.slots)
    (H : ∀ h' a, a = h.size → Ext h h' → Exa Z h' a ad → FaA Z h' a ty K N (fun _ => .null) → Wk W p l e R s m args below meth c n0 Q h' (k + 1) (n + cap) (mkF m (pc + 3) Ls (.ref a :: st))) :
    Wk W p l e R s m args below meth c n0 Q h k n (mkF m pc Ls (.int z :: st)) := by
  intro T L vm0 X B eT Nn
  subst hN
  obtain ⟨T', h', cA, X', e', E, A, Ex, O, st⟩ := Jvm.RoadKit.newRA X C.hx (C.wZ B) (C.wo B) hK w1 w2 eT (g := mkF m pc Ls (.int z :: st)) rfl (hb C.hby hd) rfl hz hcap hbig hc hl had
  obtain ⟨s₂, o, h1, h2⟩ := H h' _ rfl E Ex (FaA.new A O) T' L vm0 X' (B.mono E.1) e' Nn
  exact ⟨s₂, o, st _ h1, h2⟩
theorem Wk.fNewO (C : Cx Z p s m meth c y bytes maxL ret) {index : Nat} {z : Int32} (w1 : (Cond.classLink y.cls index K).before a0 Z = true) (w2 : (Cond.arrayOver (.object K)).before a0 Z = true) (hN : z.toNatClampNeg = N) (hz : ¬ z < 0) {cap : Nat} (hcap : N ≤ cap) (hbig : cap * 8 ≤ 536870912) (hd : decode bytes pc = .ok (.anewarray index, 3)) (hc : k + 1 ≤ R.cells) (hl : n + cap ≤ R.slots)
    (H : ∀ h' a, a = h.size → Ext h h' → FaO Z h' a K N (fun _ => .null) → Wk W p l e R s m args below meth c n0 Q h' (k + 1) (n + cap) (mkF m (pc + 3) Ls (.ref a :: st))) :
    Wk W p l e R s m args below meth c n0 Q h k n (mkF m pc Ls (.int z :: st)) := by
  subst hN
  exact Wk.newR C w1 w2 hz hcap hbig hd hc hl fun h' a cA g E A O => H h' a g E (FaO.new A O)
theorem FaA.sto {f : Nat → Value} (F : FaA Z h a ty K N f) {b : Addr} (E : Exa Z h b K) : Sto Z h a (.ref b) := by obtain ⟨c, A, O, -⟩ := F; exact Sto.ofVA A rfl O (Ins.self E)
end Rules
end Jvm.Own
namespace Jvm.Own
theorem nm0 {a : Nat} : a ∉ ([] : List Nat) := by simp
theorem nmS {a b : Nat} {ws : List Nat} (h : a ≠ b) (t : a ∉ ws) : a ∉ b :: ws := by simp [h, t]
theorem nv0 {P : Nat → Prop} : ∀ x ∈ ([] : List Nat), P x := fun _ q => nomatch q
theorem nvS {P : Nat → Prop} {b : Nat} {ws : List Nat} (h : P b) (t : ∀ x ∈ ws, P x) : ∀ x ∈ b :: ws, P x := fun x q => (List.mem_cons.mp q).elim (fun e => e ▸ h) (t x)
end Jvm.Own
namespace Jvm.Own
open Jvm Jvm.ClassFile Sem Op Lib Jvm.Free Jvm.Stand Jvm.LawKit Jvm.RoadKit
theorem dupX2 {tb : Tables} [Ours tb] {e : Env} {below : List Frame} {T target : State} {m : MethodId} {c : Code} {g : JFrame} (h : At T m c below) (hx : tb.exec = Jvm.exec) (hg : g.method = m) {x y z : Value} {rest : List Value} (hd : decode c.code g.pc = .ok (.dup_x2, 1)) (hs : g.stack = x :: y :: z :: rest) (hc : x.category = 1) (hc2 : y.category = 1) (hc3 : z.category = 1)
    (hr : Steps tb e below (T.setTop { g with pc := g.pc + 1, stack := x :: y :: z :: x :: rest }) target) : Steps tb e below (T.setTop g) target := by
  subst hg
  jvm_step h [h.top, hx, hd, hs, hc, hc2, hc3, dup_x2.wp_sem]
  exact hr
end Jvm.Own
namespace Jvm.Own
open Jvm Jvm.ClassFile Sem Op Lib Jvm.Free Jvm.Stand Jvm.LawKit Jvm.RoadKit
theorem fld_known {Z : State} {h : Heap} {a : Addr} {C n d : String} {v : Value} (F : Fld Z h a C n d v) : ∃ cell : Cell, h[a]? = some cell ∧ cell.vm ≠ .unknown := by
  obtain ⟨cell, _, _, _, _, h1, -, -, h4, -⟩ := F; exact ⟨cell, h1, h4⟩
end Jvm.Own
namespace Jvm.Own
open Jvm Jvm.ClassFile Sem Op Lib Jvm.Free Jvm.Stand Jvm.LawKit Jvm.RoadKit
/-! the same layer where one String constant's entry is followed: lt = some (class, entry, object) once it is loaded; a second load makes nothing -/
def Lx (Z : State) (lt : Option (String × Nat × Addr)) (s : State) : Prop := match lt with
  | none => True
  | some (o, i, a) => if o = "" then IB Z s.vm [] else Lit s o i a
theorem Lx.of_vm {Z : State} {lt : Option (String × Nat × Addr)} {s t : State} (h : Lx Z lt s) (e : t.vm = s.vm) : Lx Z lt t := by
  rcases lt with _ | ⟨o, i, a⟩
  · trivial
  · by_cases q : o = ""
    · simp only [Lx, q, if_true] at h ⊢; rw [e]; exact h
    · simp only [Lx, q, if_false] at h ⊢
      exact (show t.resolvedAt? o i = (s.setVm t.vm).resolvedAt? o i from rfl).trans (by rw [e]; exact h)
theorem Lx.staysH {Z : State} {lt : Option (String × Nat × Addr)} {s : State} {vm' : Vm} (h : Lx Z lt s) (hW : s.WarmedH vm') : Lx Z lt (s.setVm vm') := by
  rcases lt with _ | ⟨o, i, a⟩
  · trivial
  · by_cases q : o = ""
    · simp only [Lx, q, if_true] at h ⊢
      obtain ⟨more, e, hm⟩ := h
      exact ⟨more, (show vm'.interned = _ from hW.interned_eq.trans e), hm⟩
    · simp only [Lx, q, if_false] at h ⊢
      exact State.resolvedAt?_warmed39 hW.wide h
def Wl (Z : State) (p : Program) (l : Launch) (e : Env) (R : Room) (s : State) (m : MethodId) (args : Array Value) (below : List Frame) (meth : Method) (c : Code) (n0 : Nat) (Q : Option Value → Heap → Option (String × Nat × Addr) → Prop) (lt : Option (String × Nat × Addr)) (h : Heap) (k n : Nat) (g : JFrame) : Prop :=
  ∀ T L vm0, Stand p l e R (s.setVm vm0) m args below meth c T L k n → Bs true s vm0 h.size → T.heap = h → Fr n0 L → Lx Z lt (s.setVm vm0) →
    ∃ s₂ o, Steps p.tables e below (T.setTop g) s₂ ∧ s₂.status = .running ∧ Ended s₂ below o ∧ ∃ v L lt', o = .returned v ∧ (Q v s₂.heap lt' ∧ Fr n0 L) ∧ Lx Z lt' s₂ ∧ ReturnedEndW s o s₂ L R.cells R.slots
def MetL (l : Launch) (Z : State) (n0 : Nat) (y : MethodName) (bytes : ByteArray) (maxL : Nat) (ret : Option FieldType) (rm : Room) (as : Array Value) (lt : Option (String × Nat × Addr)) (h : Heap) (Q : Option Value → Heap → Option (String × Nat × Addr) → Prop) : Prop :=
  ∀ ws, MetFree l y (head1 (Cond.code y bytes maxL ret :: ws) rm) (fun a U => a = as ∧ Z.Warmed39 U.vm ∧ U.heap = h ∧ Lx Z lt U) (fun _ _ _ _ _ => True)
    (fun _ U o U' => ∃ v L lt', o = .returned v ∧ (Q v U'.heap lt' ∧ Fr n0 L) ∧ Lx Z lt' U' ∧ ReturnedEndW U o U' L rm.cells rm.slots)
theorem Met.toL {l : Launch} {Z : State} {n0 : Nat} {y : MethodName} {bytes : ByteArray} {maxL : Nat} {ret : Option FieldType} {rm : Room} {as : Array Value} {h : Heap} {Q : Option Value → Heap → Prop} (M : Met true l Z n0 y bytes maxL ret rm as h Q) (lt : Option (String × Nat × Addr)) : MetL l Z n0 y bytes maxL ret rm as lt h (fun v h' lt' => Q v h' ∧ lt' = none) := by
  intro ws p e ha hc hk s m args below hf happ hP hK
  obtain ⟨q1, q2, q3, q4⟩ := hP
  obtain ⟨n, o, h1, h2, h3, v, L, h4, ⟨h5, h6⟩, h7⟩ := M ws p e ha hc hk s m args below hf happ ⟨q1, q2, q3⟩ hK
  exact ⟨n, o, h1, h2, h3, v, L, none, h4, ⟨⟨h5, rfl⟩, h6⟩, trivial, h7⟩
theorem MetL.of {l : Launch} {Z : State} {n0 : Nat} {y : MethodName} {bytes : ByteArray} {maxL : Nat} {ret : Option FieldType} {rm : Room} {as : Array Value} {lt : Option (String × Nat × Addr)} {h : Heap} {Q : Option Value → Heap → Option (String × Nat × Addr) → Prop}
    (hpn : plainFor y = true) (Ls : Array Slot) (hef : ∀ m, entryFrame m as maxL = mkF m 0 Ls [])
    (H : ∀ p e s m below meth c, Cx Z p s m meth c y bytes maxL ret → Wl Z p l e rm s m as below meth c n0 Q lt h 0 0 (mkF m 0 Ls [])) : MetL l Z n0 y bytes maxL ret rm as lt h Q := by
  intro ws
  refine MetFree.of_bodySF hpn hisR ?_
  intro p e s m args below meth c s₁ Bd hml0 hP hK
  obtain ⟨ha, hZ, hh, hl⟩ := hP
  have hown := findClass_of_methodNamed Bd.named
  have hnm := (name_of_methodNamed Bd.named Bd.method).1
  have e0 : s₁.heap = h := by rw [← hh, Bd.state]; rfl
  have X0 : Stand p l e rm s m args below meth c s₁ [] 0 0 := Stand.of_body Bd
  rw [ha] at X0 ⊢
  obtain ⟨s₂, o, h1, h2⟩ := H p e s m below meth c ⟨Bd.exec, Bd.bytes, hml0, hZ, hown, hnm, Bd.returns, Bd.notSynchronized⟩ s₁ [] s.vm X0 (Bs.start true s _) e0 (Fr.nil n0) (hl.of_vm rfl)
  exact ⟨s₂, o, castTop (hef m) h1, h2⟩
section Rules
variable {Z : State} {p : Program} {l : Launch} {e : Env} {R : Room} {s : State} {m : MethodId} {args : Array Value} {below : List Frame} {meth : Method} {c : Code} {y : MethodName} {bytes : ByteArray} {maxL : Nat} {ret : Option FieldType} {n0 : Nat} {Q : Option Value → Heap → Option (String × Nat × Addr) → Prop} {lt : Option (String × Nat × Addr)} {h : Heap} {k n : Nat} {g g' : JFrame} {a0 : Array Value}
theorem Wl.st (f : ∀ {T : State} {L : List Loc} {vm0 : Vm}, Stand p l e R (s.setVm vm0) m args below meth c T L k n → ∀ t, Steps p.tables e below (T.setTop g') t → Steps p.tables e below (T.setTop g) t)
    (H : Wl Z p l e R s m args below meth c n0 Q lt h k n g') : Wl Z p l e R s m args below meth c n0 Q lt h k n g := by
  intro T L vm0 X B eT N Lz
  obtain ⟨s₂, o, h1, h2⟩ := H T L vm0 X B eT N Lz
  exact ⟨s₂, o, f X _ h1, h2⟩
theorem Wl.stZ (C : Cx Z p s m meth c y bytes maxL ret) (f : ∀ {T : State} {L : List Loc} {vm0 : Vm}, Stand p l e R (s.setVm vm0) m args below meth c T L k n → Z.Warmed39 (s.setVm vm0).vm → (s.setVm vm0).vm.findClass y.cls = some m.cls → T.heap = h → ∃ T', Stand p l e R (s.setVm vm0) m args below meth c T' L k n ∧ T'.heap = h ∧ ∀ t, Steps p.tables e below (T'.setTop g') t → Steps p.tables e below (T.setTop g) t)
    (H : Wl Z p l e R s m args below meth c n0 Q lt h k n g') : Wl Z p l e R s m args below meth c n0 Q lt h k n g := by
  intro T L vm0 X B eT N Lz
  obtain ⟨T', X', e', st⟩ := f X (C.wZ B) (C.wo B) eT
  obtain ⟨s₂, o, h1, h2⟩ := H T' L vm0 X' B e' N Lz
  exact ⟨s₂, o, st _ h1, h2⟩
theorem Wl.ldcI (C : Cx Z p s m meth c y bytes maxL ret) {index : Nat} {v : Int32} (w : (Cond.constant y.cls index v).before a0 Z = true) {pc : Nat} {Ls : Array Slot} {st : List Value} (hd : decode bytes pc = .ok (.ldc index, 2))
    (H : Wl Z p l e R s m args below meth c n0 Q lt h k n (mkF m (pc + 2) Ls (.int v :: st))) : Wl Z p l e R s m args below meth c n0 Q lt h k n (mkF m pc Ls st) :=
  Wl.stZ C (fun X hZ ho eT => ⟨_, X, eT, fun t q => X.ldcI C.hx ho (mvT hZ w) rfl (hb C.hby hd) q⟩) H
theorem Wl.getS (C : Cx Z p s m meth c y bytes maxL ret) {O nm d : String} {index : Nat} (w : (Cond.fieldLink y.cls index O nm d).before a0 Z = true) {v : Value} (F : Sta Z h O nm d v) {pc : Nat} {Ls : Array Slot} {st : List Value} (hd : decode bytes pc = .ok (.getstatic index, 3))
    (H : Wl Z p l e R s m args below meth c n0 Q lt h k n (mkF m (pc + 3) Ls (v :: st))) : Wl Z p l e R s m args below meth c n0 Q lt h k n (mkF m pc Ls st) :=
  Wl.stZ C (fun X hZ ho eT => Jvm.RoadKit.getS (host := "") X C.hx hZ ho w Via.refl eT F (g := mkF m pc Ls st) rfl (hb C.hby hd)) H
theorem Wl.retV (C : Cx Z p s m meth c y bytes maxL ret) {pc : Nat} {Ls : Array Slot} {w : Value} {t : FieldType} {i : Instr} {rest : List Value} (ht : ret = some t) (hn : narrow t w = w)
    (hi : (i = .ireturn ∧ (t = .int ∨ t = .boolean ∨ t = .byte ∨ t = .char ∨ t = .short) ∧ ∃ z, w = .int z) ∨ (i = .lreturn ∧ t = .long ∧ ∃ z, w = .long z) ∨ (i = .dreturn ∧ t = .double ∧ ∃ z, w = .double z) ∨ (i = .freturn ∧ t = .float ∧ ∃ z, w = .float z) ∨ (i = .areturn ∧ t.isReference = true ∧ w.isRef = true))
    (hd : decode bytes pc = .ok (i, 1)) (hk : k ≤ R.cells) (hs : n ≤ R.slots) (hq : Q (some w) h lt) : Wl Z p l e R s m args below meth c n0 Q lt h k n (mkF m pc Ls (w :: rest)) := by
  intro T L vm0 X B eT N Lz
  have hlk := C.hlk
  have hv : meth.sig.returnType = none → (some w : Option Value) = none := fun h => by rw [C.hret, ht] at h; cases h
  obtain ⟨k0, hS, hk0⟩ := (B : ∃ k0, s.Since vm0 k0 ∧ k0 ≤ h.size)
  obtain ⟨fs, hr, hrun, hended, hE⟩ := X.leaveW hS (by rw [eT]; exact hk0) (v := some w) hv hlk
  refine ⟨_, _, retOut X C.hx (C.hret.trans ht) hn hi (hb C.hby hd) hr, hrun, hended, _, L, lt, rfl, ⟨?_, N⟩, (Lz.staysH X.warmed).of_vm rfl, hE.1, hE.2.1, hE.2.2.1, hE.2.2.2.mono hk hs⟩
  show Q (some w) T.heap lt
  rw [eT]; exact hq
theorem backL {y : MethodName} {bytes : ByteArray} {maxL : Nat} {ret : Option FieldType} {rm : Room} {len W : Nat} {as' : Array Value} {Q : Option Value → Heap → Option (String × Nat × Addr) → Prop}
    (hM : MetL l Z n0 y bytes maxL ret rm as' lt h Q) {vm0 : Vm} (hZ : Z.Warmed39 (s.setVm vm0).vm) (hl0 : Lx Z lt (s.setVm vm0)) (wc : (Cond.code y bytes maxL ret).before a0 Z = true) (wz : (Cond.initialized y.cls).before a0 Z = true) (hf : rm.frames + 1 ≤ R.frames) (hl : W + (maxL + 11) + rm.locals ≤ R.locals) :
    BackS l R p e below (s.setVm vm0) args y len W (fun A a => a = as' ∧ A.U.heap = h ∧ A.cells + rm.cells ≤ R.cells ∧ A.slots + rm.slots ≤ R.slots)
      (fun A _ v B => ∃ L lt', (Q v B.U.heap lt' ∧ Fr n0 L) ∧ Lx Z lt' B.U ∧ B.locs = A.locs ++ L ∧ B.cells = A.cells + rm.cells ∧ B.slots = A.slots + rm.slots) :=
  BackS.of_freeW (bytes := bytes) (maxL := maxL) (ret := ret) (E := fun _ _ o t L k n => k = rm.cells ∧ n = rm.slots ∧ ∃ v lt', o = .returned v ∧ (Q v t.heap lt' ∧ Fr n0 L) ∧ Lx Z lt' t) (hM []) hf hl
    (fun m meth c A a Y hp => have hU : Z.Warmed39 A.U.vm := wtrans hZ Y.warmed
      ⟨by show (Cond.and _ .tt).before a A.U = true; rw [Cond.before_and, mv hU wc]; rfl, mv hU wc, mv hU wz, hp.2.2.1, hp.2.2.2⟩)
    (fun m meth c A a g mk Y hp => ⟨hp.1, wtrans hZ Y.warmed, hp.2.1, (hl0.staysH Y.warmed).of_vm rfl⟩) (fun _ _ _ _ _ _ _ _ _ => trivial)
    (fun _ _ _ _ ⟨v, L, lt', h1, h2, h3, h4⟩ => ⟨L, _, _, h4, rfl, rfl, v, lt', h1, h2, h3⟩)
    (fun m meth c A a g mk v t L k n Y hp _ _ ⟨e1, e2, v', lt', e3, e4, e5⟩ => by cases e3; subst e1 e2; exact ⟨L, lt', e4, e5.of_vm rfl, rfl, rfl, rfl⟩)
theorem Wl.callS (C : Cx Z p s m meth c y bytes maxL ret) {z : MethodName} {index : Nat} {bz : ByteArray} {mz : Nat} {rz : Option FieldType} {rm : Room} {asL : List Value} {Qz : Option Value → Heap → Option (String × Nat × Addr) → Prop}
    (w1 : (Cond.methodLink y.cls index z).before a0 Z = true) (w2 : (Cond.static z).before a0 Z = true) (w3 : (Cond.initialized z.cls).before a0 Z = true) (w4 : (Cond.code z bz mz rz).before a0 Z = true)
    (hz : z.cls ≠ "java/lang/invoke/MethodHandle" ∧ z.cls ≠ "java/lang/invoke/VarHandle") (M : MetL l Z n0 z bz mz rz rm asL.toArray lt h Qz) {w : Nat} (hf : rm.frames + 1 ≤ R.frames) (hl : w + (mz + 11) + rm.locals ≤ R.locals)
    {ps : List FieldType} {r : Option FieldType} (hlen : parseMethodDescriptor z.desc = some ⟨ps, r⟩) (hps : asL.length = ps.length) {pc : Nat} {Ls : Array Slot} {st rest : List Value} (hls : Ls.size = maxL) (hst : st = asL.reverse ++ rest) (hw : (rest.map fun v => v.category).sum ≤ w)
    (hc : k + rm.cells ≤ R.cells) (hs : n + rm.slots ≤ R.slots) (hd : decode bytes pc = .ok (.invokestatic index, 3))
    (H : ∀ v h' lt', Qz v h' lt' → Wl Z p l e R s m args below meth c n0 Q lt' h' (k + rm.cells) (n + rm.slots) (mkF m (pc + 3) Ls (v.toList ++ rest))) : Wl Z p l e R s m args below meth c n0 Q lt h k n (mkF m pc Ls st) := by
  intro T L vm0 X B eT N Lz
  subst hst
  have hZ := C.wZ B
  have ho := C.wo B
  have hw' : 2 * (mkF m pc Ls (asL.reverse ++ rest)).monitorRoom + (rest.map fun v => v.category).sum ≤ w := by show 2 * 0 + _ ≤ _; omega
  obtain ⟨v, vm₁, ⟨T', L', k', n'⟩, -, X', hS', hgr, ⟨Lc, lt', hQ, hL, l1, y1, z1⟩, st⟩ := callSS X C.hx ho (mvT hZ w1) (mvT hZ w2) (mvT hZ w3) (mvT hZ w4) hz (backL (W := w) M hZ Lz w4 w3 hf hl) (g := mkF m pc Ls (asL.reverse ++ rest)) rfl (hls.trans C.hml.symm) (argsL := asL) (rest := rest) (lenOf hlen hps) rfl hw' (hb C.hby hd) (fun _ _ => ⟨rfl, eT, hc, hs⟩)
  dsimp only [Pt.U, Pt.locs, Pt.cells, Pt.slots] at X' hS' hgr l1 y1 z1 st hQ hL
  subst l1 y1 z1
  obtain ⟨k0, hS, hk0⟩ := (B : ∃ k0, s.Since vm0 k0 ∧ k0 ≤ h.size)
  obtain ⟨s₂, o, h1, h2⟩ := H v T'.heap lt' hQ.1 T' _ T'.vm X' ⟨_, foldS hS (by rw [eT]; exact hk0) hS' hgr, Nat.le_refl _⟩ rfl (N.app hQ.2) (hL.of_vm rfl)
  exact ⟨s₂, o, st.trans h1, h2⟩
theorem Wl.callV (C : Cx Z p s m meth c y bytes maxL ret) {x z : MethodName} {K : String} {index : Nat} {bz : ByteArray} {mz : Nat} {rz : Option FieldType} {rm : Room} {a : Addr} {asL : List Value} {Qz : Option Value → Heap → Option (String × Nat × Addr) → Prop}
    (w1 : (Cond.methodLink y.cls index x).before a0 Z = true) (w2 : (Cond.declares x).before a0 Z = true) (w5 : (Cond.selects K x z).before a0 Z = true) (w6 : (Cond.instanceMethod z).before a0 Z = true) (w3 : (Cond.initialized z.cls).before a0 Z = true) (w4 : (Cond.code z bz mz rz).before a0 Z = true)
    (hz : x.cls ≠ "java/lang/invoke/MethodHandle" ∧ x.cls ≠ "java/lang/invoke/VarHandle") (hnf : ∀ s' : State, Z.Warmed39 s'.vm → NotFace s' x) (E : Exa Z h a K) (M : MetL l Z n0 z bz mz rz rm (.ref a :: asL).toArray lt h Qz) {w : Nat} (hf : rm.frames + 1 ≤ R.frames) (hl : w + (mz + 11) + rm.locals ≤ R.locals)
    {ps : List FieldType} {r : Option FieldType} (hlen : parseMethodDescriptor x.desc = some ⟨ps, r⟩) (hps : asL.length = ps.length) {pc : Nat} {Ls : Array Slot} {st rest : List Value} (hls : Ls.size = maxL) (hst : st = asL.reverse ++ .ref a :: rest) (hw : (rest.map fun v => v.category).sum ≤ w)
    (hc : k + rm.cells ≤ R.cells) (hs : n + rm.slots ≤ R.slots) (hd : decode bytes pc = .ok (.invokevirtual index, 3))
    (H : ∀ v h' lt', Qz v h' lt' → Wl Z p l e R s m args below meth c n0 Q lt' h' (k + rm.cells) (n + rm.slots) (mkF m (pc + 3) Ls (v.toList ++ rest))) : Wl Z p l e R s m args below meth c n0 Q lt h k n (mkF m pc Ls st) := by
  intro T L vm0 X B eT N Lz
  subst hst
  have hZ := C.wZ B
  have ho := C.wo B
  have hw' : 2 * (mkF m pc Ls (asL.reverse ++ .ref a :: rest)).monitorRoom + (rest.map fun v => v.category).sum ≤ w := by show 2 * 0 + _ ≤ _; omega
  obtain ⟨cq, kq, qa, qb, qc⟩ := isOf hZ eT E
  obtain ⟨v, vm₁, ⟨T', L', k', n'⟩, -, X', hS', hgr, ⟨Lc, lt', hQ, hL, l1, y1, z1⟩, st⟩ := X.virtualBackS C.hx (y := x) (z := z) ho (mvT hZ w1) (mvT hZ w2) (hnf _ hZ) (mvT hZ w5) (mvT hZ w6) hz (backL (W := w) M hZ Lz w4 w3 hf hl) qa qc (g := mkF m pc Ls (asL.reverse ++ .ref a :: rest)) rfl (hls.trans C.hml.symm) (Steps.refl _) (argsL := asL) (rest := rest) (lenOf hlen hps) rfl hw' (hb C.hby hd) (fun _ _ => ⟨rfl, eT, hc, hs⟩)
  dsimp only [Pt.U, Pt.locs, Pt.cells, Pt.slots] at X' hS' hgr l1 y1 z1 st hQ hL
  subst l1 y1 z1
  obtain ⟨k0, hS, hk0⟩ := (B : ∃ k0, s.Since vm0 k0 ∧ k0 ≤ h.size)
  obtain ⟨s₂, o, h1, h2⟩ := H v T'.heap lt' hQ.1 T' _ T'.vm X' ⟨_, foldS hS (by rw [eT]; exact hk0) hS' hgr, Nat.le_refl _⟩ rfl (N.app hQ.2) (hL.of_vm rfl)
  exact ⟨s₂, o, st.trans h1, h2⟩
theorem Wl.callU (C : Cx Z p s m meth c y bytes maxL ret) {x z : MethodName} {K owner : String} {index : Nat} {bz : ByteArray} {mz : Nat} {rz : Option FieldType} {rm : Room} {a : Addr} {asL : List Value} {Qz : Option Value → Heap → Option (String × Nat × Addr) → Prop}
    (w1 : (Cond.methodLink y.cls index x).before a0 Z = true) (w7 : (Cond.sameMethod x.cls owner x.name x.desc).before a0 Z = true) (w2 : (Cond.declares ⟨owner, x.name, x.desc⟩).before a0 Z = true) (w5 : (Cond.selects K x z).before a0 Z = true) (w6 : (Cond.instanceMethod z).before a0 Z = true) (w3 : (Cond.initialized z.cls).before a0 Z = true) (w4 : (Cond.code z bz mz rz).before a0 Z = true)
    (hz : owner ≠ "java/lang/invoke/MethodHandle" ∧ owner ≠ "java/lang/invoke/VarHandle") (E : Exa Z h a K) (M : MetL l Z n0 z bz mz rz rm (.ref a :: asL).toArray lt h Qz) {w : Nat} (hf : rm.frames + 1 ≤ R.frames) (hl : w + (mz + 11) + rm.locals ≤ R.locals)
    {ps : List FieldType} {r : Option FieldType} (hlen : parseMethodDescriptor x.desc = some ⟨ps, r⟩) (hps : asL.length = ps.length) {pc : Nat} {Ls : Array Slot} {st rest : List Value} (hls : Ls.size = maxL) (hst : st = asL.reverse ++ .ref a :: rest) (hw : (rest.map fun v => v.category).sum ≤ w)
    (hc : k + rm.cells ≤ R.cells) (hs : n + rm.slots ≤ R.slots) (hd : decode bytes pc = .ok (.invokevirtual index, 3))
    (H : ∀ v h' lt', Qz v h' lt' → Wl Z p l e R s m args below meth c n0 Q lt' h' (k + rm.cells) (n + rm.slots) (mkF m (pc + 3) Ls (v.toList ++ rest))) : Wl Z p l e R s m args below meth c n0 Q lt h k n (mkF m pc Ls st) := by
  intro T L vm0 X B eT N Lz
  subst hst
  have hZ := C.wZ B
  have ho := C.wo B
  have hw' : 2 * (mkF m pc Ls (asL.reverse ++ .ref a :: rest)).monitorRoom + (rest.map fun v => v.category).sum ≤ w := by show 2 * 0 + _ ≤ _; omega
  obtain ⟨cq, kq, qa, qb, qc⟩ := isOf hZ eT E
  obtain ⟨v, vm₁, ⟨T', L', k', n'⟩, -, X', hS', hgr, ⟨Lc, lt', hQ, hL, l1, y1, z1⟩, st⟩ := X.virtualBackUpS C.hx (x := x) (y := z) ho (mvT hZ w1) (mvT hZ w7) (mvT hZ w2) hz (mvT hZ w5) (mvT hZ w6) (backL (W := w) M hZ Lz w4 w3 hf hl) qa qc (g := mkF m pc Ls (asL.reverse ++ .ref a :: rest)) rfl (hls.trans C.hml.symm) (Steps.refl _) (argsL := asL) (rest := rest) (lenOf hlen hps) rfl hw' (hb C.hby hd) (fun _ _ => ⟨rfl, eT, hc, hs⟩)
  dsimp only [Pt.U, Pt.locs, Pt.cells, Pt.slots] at X' hS' hgr l1 y1 z1 st hQ hL
  subst l1 y1 z1
  obtain ⟨k0, hS, hk0⟩ := (B : ∃ k0, s.Since vm0 k0 ∧ k0 ≤ h.size)
  obtain ⟨s₂, o, h1, h2⟩ := H v T'.heap lt' hQ.1 T' _ T'.vm X' ⟨_, foldS hS (by rw [eT]; exact hk0) hS' hgr, Nat.le_refl _⟩ rfl (N.app hQ.2) (hL.of_vm rfl)
  exact ⟨s₂, o, st.trans h1, h2⟩
theorem Wl.ofWk {Q1 : Option Value → Heap → Prop} (H : Wk true p l e R s m args below meth c n0 Q1 h k n g) : Wl Z p l e R s m args below meth c n0 (fun v h' _ => Q1 v h') lt h k n g := by
  intro T L vm0 X B eT N Lz
  obtain ⟨s₂, o, h1, h2, h3, v, L', h4, ⟨h5, h6⟩, h7⟩ := H T L vm0 X B eT N
  exact ⟨s₂, o, h1, h2, h3, v, L', none, h4, ⟨h5, h6⟩, trivial, h7⟩
theorem Wl.newO (C : Cx Z p s m meth c y bytes maxL ret) {K : String} {index sz : Nat} (w : (Cond.classLink y.cls index K).before a0 Z = true) (wi : (Cond.instantiable K sz).before a0 Z = true) (wz : (Cond.initialized K).before a0 Z = true) {pc : Nat} {Ls : Array Slot} {st : List Value} (hd : decode bytes pc = .ok (.new index, 3)) (hc : k + 1 ≤ R.cells) (hl : n + sz ≤ R.slots)
    (H : ∀ h' a, a = h.size → Ext h h' → Exa Z h' a K → (∀ {O nm d : String} {ty : FieldType}, Laid Z a0 K O nm d → parseFieldDescriptor d = some ty → Fld Z h' a O nm d (defaultValue ty)) → Wl Z p l e R s m args below meth c n0 Q lt h' (k + 1) (n + sz) (mkF m (pc + 3) Ls (.ref a :: st))) :
    Wl Z p l e R s m args below meth c n0 Q lt h k n (mkF m pc Ls st) := by
  intro T L vm0 X B eT N Lz
  obtain ⟨T', h', X', e', E, A, D, -, st⟩ := Jvm.RoadKit.newO X C.hx (C.wZ B) (C.wo B) w wi wz eT (g := mkF m pc Ls st) rfl (hb C.hby hd) hc hl
  obtain ⟨s₂, o, h1, h2⟩ := H h' _ rfl E A D T' L vm0 X' (B.mono E.1) e' N Lz
  exact ⟨s₂, o, st _ h1, h2⟩
theorem Wl.fNewP (C : Cx Z p s m meth c y bytes maxL ret) {aty : ArrayType} {ty : FieldType} {N : Nat} (w : (Cond.arrayClass (newarray.typeOf aty)).before a0 Z = true) {z : Int32} {dv : Value} {ad : String} (hty : newarray.typeOf aty = ty) (hdv : defaultValue ty = dv) (hN : z.toNatClampNeg = N) (had : "[" ++ (newarray.typeOf aty).toString = ad) (hz : ¬ z < 0) {cap : Nat} (hcap : N ≤ cap) (hbig : cap * 8 ≤ 536870912) {pc : Nat} {Ls : Array Slot} {st : List Value} (hd : decode bytes pc = .ok (.newarray aty, 2)) (hc : k + 1 ≤ R.cells) (hl : n + cap ≤ R.slots)
    (H : ∀ h' a, a = h.size → Ext h h' → Exa Z h' a ad → Fa Z h' a ty N (fun _ => dv) → Wl Z p l e R s m args below meth c n0 Q lt h' (k + 1) (n + cap) (mkF m (pc + 2) Ls (.ref a :: st))) :
    Wl Z p l e R s m args below meth c n0 Q lt h k n (mkF m pc Ls (.int z :: st)) := by
  intro T L vm0 X B eT Nn Lz
  subst hty hdv hN
  obtain ⟨T', h', cA, X', e', E, A, Ex, st⟩ := Jvm.RoadKit.newPE X C.hx (C.wZ B) w eT (g := mkF m pc Ls (.int z :: st)) rfl (hb C.hby hd) rfl hz hcap hbig hc hl had
  obtain ⟨s₂, o, h1, h2⟩ := H h' _ rfl E Ex (Fa.new A) T' L vm0 X' (B.mono E.1) e' Nn Lz
  exact ⟨s₂, o, st _ h1, h2⟩
theorem Wl.fLen (C : Cx Z p s m meth c y bytes maxL ret) {a : Addr} {ty : FieldType} {N : Nat} {f : Nat → Value} (F : Fa Z h a ty N f) {z : Int32} (hz : N.toInt32 = z) {pc : Nat} {Ls : Array Slot} {st : List Value} (hd : decode bytes pc = .ok (.arraylength, 1))
    (H : Wl Z p l e R s m args below meth c n0 Q lt h k n (mkF m (pc + 1) Ls (.int z :: st))) : Wl Z p l e R s m args below meth c n0 Q lt h k n (mkF m pc Ls (.ref a :: st)) := by
  obtain ⟨cl, A, S, -⟩ := F
  exact Wl.stZ C (fun X hZ ho eT => ⟨_, X, eT, by rw [← hz, ← S]; exact X.arraylength C.hx (by rw [eT]; exact A.1) (State.isArrayOf_alike hZ.alike A.2.1) (g := mkF m pc Ls (.ref a :: st)) rfl rfl (hb C.hby hd)⟩) H
theorem Wl.retN0 (C : Cx Z p s m meth c y bytes maxL ret) {pc : Nat} {Ls : Array Slot} (ht : ret = none) (hd : decode bytes pc = .ok (.return_, 1)) (hk : k ≤ R.cells) (hs : n ≤ R.slots) (hq : Q none h lt) : Wl Z p l e R s m args below meth c n0 Q lt h k n (mkF m pc Ls []) := by
  intro T L vm0 X B eT N Lz
  have hlk := C.hlk
  have hv : meth.sig.returnType = none → (none : Option Value) = none := fun _ => rfl
  obtain ⟨k0, hS, hk0⟩ := (B : ∃ k0, s.Since vm0 k0 ∧ k0 ≤ h.size)
  obtain ⟨fs, hr, hrun, hended, hE⟩ := X.leaveW hS (by rw [eT]; exact hk0) (v := none) hv hlk
  refine ⟨_, _, X.returnOut C.hx (C.hret.trans ht) (hb C.hby hd) hr, hrun, hended, _, L, lt, rfl, ⟨?_, N⟩, (Lz.staysH X.warmed).of_vm rfl, hE.1, hE.2.1, hE.2.2.1, hE.2.2.2.mono hk hs⟩
  show Q none T.heap lt
  rw [eT]; exact hq
theorem Wl.callI (C : Cx Z p s m meth c y bytes maxL ret) {z : MethodName} {index : Nat} {bz : ByteArray} {mz : Nat} {rm : Room} {a : Addr} {asL : List Value} {Qz : Option Value → Heap → Option (String × Nat × Addr) → Prop} (hz1 : z.name = "<init>")
    (w1 : (Cond.methodLink y.cls index z).before a0 Z = true) (w2 : (Cond.instanceMethod z).before a0 Z = true) (w3 : (Cond.initialized z.cls).before a0 Z = true) (w4 : (Cond.code z bz mz none).before a0 Z = true)
    (hz : z.cls ≠ "java/lang/invoke/MethodHandle" ∧ z.cls ≠ "java/lang/invoke/VarHandle") (M : MetL l Z n0 z bz mz none rm (.ref a :: asL).toArray lt h Qz) {w : Nat} (hf : rm.frames + 1 ≤ R.frames) (hl : w + (mz + 11) + rm.locals ≤ R.locals)
    {ps : List FieldType} {r : Option FieldType} (hlen : parseMethodDescriptor z.desc = some ⟨ps, r⟩) (hps : asL.length = ps.length) {pc : Nat} {Ls : Array Slot} {st rest : List Value} (hls : Ls.size = maxL) (hst : st = asL.reverse ++ .ref a :: rest) (hw : (rest.map fun v => v.category).sum ≤ w)
    (hc : k + rm.cells ≤ R.cells) (hs : n + rm.slots ≤ R.slots) (hd : decode bytes pc = .ok (.invokespecial index, 3))
    (H : ∀ v h' lt', Qz v h' lt' → Wl Z p l e R s m args below meth c n0 Q lt' h' (k + rm.cells) (n + rm.slots) (mkF m (pc + 3) Ls (v.toList ++ rest))) : Wl Z p l e R s m args below meth c n0 Q lt h k n (mkF m pc Ls st) := by
  intro T L vm0 X B eT N Lz
  subst hst
  have hZ := C.wZ B
  have ho := C.wo B
  have hw' : 2 * (mkF m pc Ls (asL.reverse ++ .ref a :: rest)).monitorRoom + (rest.map fun v => v.category).sum ≤ w := by show 2 * 0 + _ ≤ _; omega
  obtain ⟨v, vm₁, ⟨T', L', k', n'⟩, -, X', hS', hgr, ⟨Lc, lt', hQ, hL, l1, y1, z1⟩, st⟩ := X.specialBackS C.hx hz1 ho (mvT hZ w1) (mvT hZ w2) (mvT hZ w4) hz (backL (W := w) M hZ Lz w4 w3 hf hl) (g := mkF m pc Ls (asL.reverse ++ .ref a :: rest)) rfl (hls.trans C.hml.symm) (Steps.refl _) (a := a) (argsL := asL) (rest := rest) (lenOf hlen hps) rfl hw' (hb C.hby hd) (fun _ _ => ⟨rfl, eT, hc, hs⟩)
  dsimp only [Pt.U, Pt.locs, Pt.cells, Pt.slots] at X' hS' hgr l1 y1 z1 st hQ hL
  subst l1 y1 z1
  obtain ⟨k0, hS, hk0⟩ := (B : ∃ k0, s.Since vm0 k0 ∧ k0 ≤ h.size)
  obtain ⟨s₂, o, h1, h2⟩ := H v T'.heap lt' hQ.1 T' _ T'.vm X' ⟨_, foldS hS (by rw [eT]; exact hk0) hS' hgr, Nat.le_refl _⟩ rfl (N.app hQ.2) (hL.of_vm rfl)
  exact ⟨s₂, o, st.trans h1, h2⟩
end Rules
end Jvm.Own
namespace Jvm.Pilot.@@N@@
open Jvm Jvm.ClassFile Sem Op Lib Jvm.Free Jvm.Stand Jvm.LawKit Jvm.RoadKit Bundle Jvm.Own Jvm.Pilot.@@N@@.Jvm.D
theorem pn_0 : plainName "java/lang/String" = true := by first | (simp [plainName, overriddenIn]; done) | decide +kernel
theorem pn_1 : plainName "com/example/tripleshelf/tripleshelf/cli/OptionTakesValuePinLaw" = true := by first | (simp [plainName, overriddenIn]; done) | decide +kernel
theorem pn_2 : plainName "java/lang/StringUTF16" = true := by first | (simp [plainName, overriddenIn]; done) | decide +kernel
theorem pn_3 : plainName "java/lang/StringLatin1" = true := by first | (simp [plainName, overriddenIn]; done) | decide +kernel
theorem pn_4 : plainName "java/lang/Record" = true := by first | (simp [plainName, overriddenIn]; done) | decide +kernel
theorem pn_5 : plainName "com/example/tripleshelf/tripleshelf/cli/Option" = true := by first | (simp [plainName, overriddenIn]; done) | decide +kernel
theorem pd_0 : parseMethodDescriptor "([CIILjava/lang/Void;)V" = some ⟨[(.array .char), .int, .int, (.object "java/lang/Void")], none⟩ := by decide +kernel
theorem pd_1 : parseMethodDescriptor "([C)V" = some ⟨[(.array .char)], none⟩ := by decide +kernel
theorem pd_2 : parseMethodDescriptor "(II)Ljava/lang/String;" = some ⟨[.int, .int], some (.object "java/lang/String")⟩ := by decide +kernel
theorem pd_3 : parseMethodDescriptor "([CII)[B" = some ⟨[(.array .char), .int, .int], some (.array .byte)⟩ := by decide +kernel
theorem pd_4 : parseMethodDescriptor "([CI[BII)I" = some ⟨[(.array .char), .int, (.array .byte), .int, .int], some .int⟩ := by decide +kernel
theorem pd_5 : parseMethodDescriptor "([BI)B" = some ⟨[(.array .byte), .int], some .byte⟩ := by decide +kernel
theorem pd_6 : parseMethodDescriptor "(C)Ljava/lang/String;" = some ⟨[.char], some (.object "java/lang/String")⟩ := by decide +kernel
theorem pd_7 : parseMethodDescriptor "(C)Z" = some ⟨[.char], some .boolean⟩ := by decide +kernel
theorem pd_8 : parseMethodDescriptor "(C)[B" = some ⟨[.char], some (.array .byte)⟩ := by decide +kernel
theorem pd_9 : parseMethodDescriptor "([BB)V" = some ⟨[(.array .byte), .byte], none⟩ := by decide +kernel
theorem pd_10 : parseMethodDescriptor "(Ljava/lang/String;Ljava/lang/String;ZLjava/lang/String;)V" = some ⟨[(.object "java/lang/String"), (.object "java/lang/String"), .boolean, (.object "java/lang/String")], none⟩ := by decide +kernel
theorem pd_11 : parseMethodDescriptor "()V" = some ⟨[], none⟩ := by decide +kernel
theorem pd_12 : parseMethodDescriptor "()Z" = some ⟨[], some .boolean⟩ := by decide +kernel
theorem own_wS {a0 : Array Value} {Z : State} (hw : ∀ d ∈ tables_1, d.before a0 Z = true) : ∀ d ∈ Bundle.stringAtoms, d.before a0 Z = true := by
  intro d hd
  simp only [Bundle.stringAtoms, List.mem_cons, List.not_mem_nil, or_false] at hd
  rcases hd with rfl | rfl | rfl | rfl | rfl | rfl | rfl
  · exact (hw _ (List.mem_of_getElem? (i := 7) rfl))
  · exact (hw _ (List.mem_of_getElem? (i := 6) rfl))
  · exact (hw _ (List.mem_of_getElem? (i := 23) rfl))
  · exact (hw _ (List.mem_of_getElem? (i := 33) rfl))
  · exact (hw _ (List.mem_of_getElem? (i := 31) rfl))
  · exact (hw _ (List.mem_of_getElem? (i := 74) rfl))
  · exact (hw _ (List.mem_of_getElem? (i := 75) rfl))
theorem lat0 (y : Int32) : ¬ (255 : Int32) < ((y &&& (255 : Int32)).toUInt32.toUInt16.toUInt32.toInt32) := by
  rw [Int32.lt_iff_toInt_lt]
  have h1 := c_i2c (y &&& (255 : Int32))
  have h2 := c_mask y 255 8 (by decide) (by decide)
  have e : (255 : Int32).toInt = 255 := rfl
  omega
theorem latn (y : Int32) : ¬ (255 : Int32) < (nar .char ((y &&& (255 : Int32)).toUInt32.toUInt16.toUInt32.toInt32)) := by
  show ¬ (255 : Int32) < ((((y &&& (255 : Int32)).toUInt32.toUInt16.toUInt32.toInt32)).toUInt32.toUInt16.toUInt32.toInt32)
  rw [Int32.lt_iff_toInt_lt]
  have h0 := c_i2c ((y &&& (255 : Int32)).toUInt32.toUInt16.toUInt32.toInt32)
  have h1 := c_i2c (y &&& (255 : Int32))
  have h2 := c_mask y 255 8 (by decide) (by decide)
  have e : (255 : Int32).toInt = 255 := rfl
  omega
theorem and3 (x : Int32) : x &&& (3 : Int32) = 0 ∨ x &&& (3 : Int32) = 1 ∨ x &&& (3 : Int32) = 2 ∨ x &&& (3 : Int32) = 3 := by
  have h := c_mask x 3 2 (by decide) (by decide)
  generalize x &&& (3 : Int32) = r at h ⊢
  have q : r.toInt = 0 ∨ r.toInt = 1 ∨ r.toInt = 2 ∨ r.toInt = 3 := by omega
  rcases q with q | q | q | q
  · exact Or.inl (Int32.toInt_inj.mp q)
  · exact Or.inr (Or.inl (Int32.toInt_inj.mp q))
  · exact Or.inr (Or.inr (Or.inl (Int32.toInt_inj.mp q)))
  · exact Or.inr (Or.inr (Or.inr (Int32.toInt_inj.mp q)))
theorem d3_0 : decode jdk_42_method_149_code 0 = .ok (.aload_n 0, 1) := by decide +kernel
theorem d3_1 : decode jdk_42_method_149_code 1 = .ok (.invokespecial 1, 3) := by decide +kernel
theorem d3_4 : decode jdk_42_method_149_code 4 = .ok (.iload_n 3, 1) := by decide +kernel
theorem d3_5 : decode jdk_42_method_149_code 5 = .ok (.ifCond .ne 22, 3) := by decide +kernel
theorem d3_8 : decode jdk_42_method_149_code 8 = .ok (.aload_n 0, 1) := by decide +kernel
theorem d3_9 : decode jdk_42_method_149_code 9 = .ok (.ldc 7, 2) := by decide +kernel
theorem d3_11 : decode jdk_42_method_149_code 11 = .ok (.getfield 9, 3) := by decide +kernel
theorem d3_14 : decode jdk_42_method_149_code 14 = .ok (.putfield 9, 3) := by decide +kernel
theorem d3_17 : decode jdk_42_method_149_code 17 = .ok (.aload_n 0, 1) := by decide +kernel
theorem d3_18 : decode jdk_42_method_149_code 18 = .ok (.ldc 7, 2) := by decide +kernel
theorem d3_20 : decode jdk_42_method_149_code 20 = .ok (.getfield 15, 3) := by decide +kernel
theorem d3_23 : decode jdk_42_method_149_code 23 = .ok (.putfield 15, 3) := by decide +kernel
theorem d3_26 : decode jdk_42_method_149_code 26 = .ok (.return_, 1) := by decide +kernel
theorem d3_27 : decode jdk_42_method_149_code 27 = .ok (.getstatic 38, 3) := by decide +kernel
theorem d3_30 : decode jdk_42_method_149_code 30 = .ok (.ifCond .eq 28, 3) := by decide +kernel
theorem d3_33 : decode jdk_42_method_149_code 33 = .ok (.aload_n 1, 1) := by decide +kernel
theorem d3_34 : decode jdk_42_method_149_code 34 = .ok (.iload_n 2, 1) := by decide +kernel
theorem d3_35 : decode jdk_42_method_149_code 35 = .ok (.iload_n 3, 1) := by decide +kernel
theorem d3_36 : decode jdk_42_method_149_code 36 = .ok (.invokestatic 177, 3) := by decide +kernel
theorem d3_39 : decode jdk_42_method_149_code 39 = .ok (.astore 5, 2) := by decide +kernel
theorem d3_41 : decode jdk_42_method_149_code 41 = .ok (.aload_n 0, 1) := by decide +kernel
theorem d3_42 : decode jdk_42_method_149_code 42 = .ok (.aload 5, 2) := by decide +kernel
theorem d3_44 : decode jdk_42_method_149_code 44 = .ok (.iload_n 3, 1) := by decide +kernel
theorem d3_45 : decode jdk_42_method_149_code 45 = .ok (.invokestatic 47, 3) := by decide +kernel
theorem d3_48 : decode jdk_42_method_149_code 48 = .ok (.putfield 15, 3) := by decide +kernel
theorem d3_51 : decode jdk_42_method_149_code 51 = .ok (.aload_n 0, 1) := by decide +kernel
theorem d3_52 : decode jdk_42_method_149_code 52 = .ok (.aload 5, 2) := by decide +kernel
theorem d3_54 : decode jdk_42_method_149_code 54 = .ok (.putfield 9, 3) := by decide +kernel
theorem d3_57 : decode jdk_42_method_149_code 57 = .ok (.return_, 1) := by decide +kernel
theorem d3_58 : decode jdk_42_method_149_code 58 = .ok (.aload_n 0, 1) := by decide +kernel
theorem d3_59 : decode jdk_42_method_149_code 59 = .ok (.iconst 1, 1) := by decide +kernel
theorem d3_60 : decode jdk_42_method_149_code 60 = .ok (.putfield 15, 3) := by decide +kernel
theorem d3_63 : decode jdk_42_method_149_code 63 = .ok (.aload_n 0, 1) := by decide +kernel
theorem d3_64 : decode jdk_42_method_149_code 64 = .ok (.aload_n 1, 1) := by decide +kernel
theorem d3_65 : decode jdk_42_method_149_code 65 = .ok (.iload_n 2, 1) := by decide +kernel
theorem d3_66 : decode jdk_42_method_149_code 66 = .ok (.iload_n 3, 1) := by decide +kernel
theorem d3_67 : decode jdk_42_method_149_code 67 = .ok (.invokestatic 180, 3) := by decide +kernel
theorem d3_70 : decode jdk_42_method_149_code 70 = .ok (.putfield 9, 3) := by decide +kernel
theorem d3_73 : decode jdk_42_method_149_code 73 = .ok (.return_, 1) := by decide +kernel
set_option maxRecDepth 65536 in
set_option maxHeartbeats 40000000 in
theorem own_initE (l : Launch) (Z : State) (a0 : Array Value) (hw : ∀ d ∈ tables_1, d.before a0 Z = true) (n0 : Nat) (h0 : Heap) (hsz : n0 ≤ h0.size) (o b : Addr) (cs : Int32) (v0 v1 : Value) (SC : Sta Z h0 "java/lang/String" "COMPACT_STRINGS" "Z" (.int cs)) (EO : Exa Z h0 o "java/lang/String") (FV : Fld Z h0 o "java/lang/String" "value" "[B" v0) (FC : Fld Z h0 o "java/lang/String" "coder" "B" v1) (G : n0 ≤ o) (hh : Jvm.Lit.constHeld Z "java/lang/String" 7) (hcw : Jvm.Lit.compactW.before a0 Z = true) (hkp : ∀ (b : Addr) (cl : Cell), Z.heap[b]? = some cl → h0[b]? = some cl) :
    MetL l Z n0 (⟨"java/lang/String", "<init>", "([CIILjava/lang/Void;)V"⟩ : MethodName) jdk_42_method_149_code 6 none ({ frames := 1, cells := 2, slots := 4, locals := 12 } : Room) #[(.ref o), (.ref b), (.int (0 : Int32)), (.int (0 : Int32)), .null] (some ("", 0, 0)) h0 (fun v h lt => (v = none ∧ Keep h0 h [o] ∧ Sta Z h "java/lang/String" "COMPACT_STRINGS" "Z" (.int cs)) ∧ lt = none) := by
  intro ws
  refine MetFree.of_bodySF (plainFor_of_name pn_0) hisR ?_
  intro p e s m args below meth c s₁ Bd hml0 hP hK
  obtain ⟨ha, hZ, hh0, hl⟩ := hP
  have hown : s.vm.findClass "java/lang/String" = some m.cls := findClass_of_methodNamed Bd.named
  have hnm := (name_of_methodNamed Bd.named Bd.method).1
  have hx := Bd.exec
  have hby := Bd.bytes
  have e0 : s₁.heap = h0 := by rw [← hh0, Bd.state]; rfl
  have X0 : Stand p l e ({ frames := 1, cells := 2, slots := 4, locals := 12 } : Room) s m args below meth c s₁ [] 0 0 := Stand.of_body Bd
  rw [ha] at X0 ⊢
  have I0 : IB Z s.vm [] := by simpa [Lx] using hl
  obtain ⟨T1, X1, e1, st1⟩ := initO X0 hx hZ hown (hw _ (List.mem_of_getElem? (i := 15) rfl)) (hw _ (List.mem_of_getElem? (i := 16) rfl)) (hw _ (List.mem_of_getElem? (i := 17) rfl)) e0 (g := mkF m 1 #[.val (.ref o), .val (.ref b), .val (.int (0 : Int32)), .val (.int (0 : Int32)), .val .null, .unset] [.ref o]) rfl hml0.symm rfl (hb hby d3_1) (by decide) (W := 0) (Nat.le_of_eq rfl) (by decide)
  obtain ⟨a, T2, h2, k1, bb, kk, X2, e2, E2, hS2, hk2, hZ2, ho2, EA, FCa, FVa, -, la, lb, -, L2, st2⟩ := ldcSVL (s := s) (vm0 := s.vm) X1 hx hZ hown (hw _ (List.mem_of_getElem? (i := 73) rfl)) (own_wS hw) e1 ((State.WarmedH.refl s).since 0) (Nat.zero_le _) (Fr.nil _) (fun b cl q => by rw [hh0]; exact hkp b cl q) I0 (by simp) hh hcw (vs := []) (z := 0) ⟨by simp, rfl⟩ (by decide) (by decide) (g := mkF m 9 #[.val (.ref o), .val (.ref b), .val (.int (0 : Int32)), .val (.int (0 : Int32)), .val .null, .unset] [.ref o]) rfl (hb hby d3_9) (n := 0) (by decide) (by decide) (by decide) (by decide)
  obtain ⟨T3, X3, e3, st3⟩ := getF X2 hx hZ2 ho2 (host := "") (Or.inl (hw _ (List.mem_of_getElem? (i := 32) rfl))) Via.refl e2 FVa (g := mkF m 11 #[.val (.ref o), .val (.ref b), .val (.int (0 : Int32)), .val (.int (0 : Int32)), .val .null, .unset] [.ref a, .ref o]) rfl rfl (hb hby d3_11)
  obtain ⟨T4, h4, X4, e4, W4, st4⟩ := putF X3 hx hZ2 ho2 (host := "") (Or.inl (hw _ (List.mem_of_getElem? (i := 32) rfl))) Via.refl e3 (FV.ext E2) (EO.ext E2) (Or.inr ⟨(hw _ (List.mem_of_getElem? (i := 33) rfl)), rfl, hnm⟩) (hw _ (List.mem_of_getElem? (i := 6) rfl)) (ty := .array .byte) (by decide) rfl rfl (g := mkF m 14 #[.val (.ref o), .val (.ref b), .val (.int (0 : Int32)), .val (.int (0 : Int32)), .val .null, .unset] [.ref bb, .ref o]) rfl rfl (hb hby d3_14)
  have FCa4 := FCa.other W4 (Or.inr (slot_ne (Or.inr (hw _ (List.mem_of_getElem? (i := 31) rfl))) (Or.inr (hw _ (List.mem_of_getElem? (i := 33) rfl))) (by decide) (t := .byte) (t' := .array .byte) (by decide) (by decide)))
  have FCo4 := (FC.ext E2).other W4 (Or.inr (slot_ne (Or.inr (hw _ (List.mem_of_getElem? (i := 31) rfl))) (Or.inr (hw _ (List.mem_of_getElem? (i := 33) rfl))) (by decide) (t := .byte) (t' := .array .byte) (by decide) (by decide)))
  have st5 := ldcAgain X4 hx hZ2 ho2 (hw _ (List.mem_of_getElem? (i := 73) rfl)) L2 (g := mkF m 18 #[.val (.ref o), .val (.ref b), .val (.int (0 : Int32)), .val (.int (0 : Int32)), .val .null, .unset] [.ref o]) rfl (hb hby d3_18)
  obtain ⟨T6, X6, e6, st6⟩ := getF X4 hx hZ2 ho2 (host := "") (Or.inl (hw _ (List.mem_of_getElem? (i := 30) rfl))) Via.refl e4 FCa4 (g := mkF m 20 #[.val (.ref o), .val (.ref b), .val (.int (0 : Int32)), .val (.int (0 : Int32)), .val .null, .unset] [.ref a, .ref o]) rfl rfl (hb hby d3_20)
  obtain ⟨T7, h7, X7, e7, W7, st7⟩ := putFN X6 hx hZ2 ho2 (hw _ (List.mem_of_getElem? (i := 30) rfl)) Via.refl e6 FCo4 ((EO.ext E2).wr W4) (Or.inr ⟨(hw _ (List.mem_of_getElem? (i := 31) rfl)), rfl, hnm⟩) (hw _ (List.mem_of_getElem? (i := 6) rfl)) (ty := .byte) (v' := .int 0) (by decide) rfl (by decide) (g := mkF m 23 #[.val (.ref o), .val (.ref b), .val (.int (0 : Int32)), .val (.int (0 : Int32)), .val .null, .unset] [.int 0, .ref o]) rfl rfl (hb hby d3_23)
  have N7 := Fr.snoc X7 (Fr.snoc X4 (Fr.nil n0) G) G
  have K7 : Keep h0 h7 [o] := (((Keep.refl h0 [o]).ext E2).wr W4 (Or.inl (by simp))).wr W7 (Or.inl (by simp))
  have S7 := ((SC.ext E2).wr W4).wr W7
  have hlk := Bd.notSynchronized
  obtain ⟨fs, hr, hrun, hended, hE⟩ := X7.leaveW hS2 (by rw [e7]; exact Nat.le_trans hk2 (Nat.le_of_eq (by rw [W7.size, W4.size]))) (v := none) (fun _ => rfl) hlk
  refine ⟨_, _, castTop (show entryFrame m _ 6 = mkF m 0 #[.val (.ref o), .val (.ref b), .val (.int (0 : Int32)), .val (.int (0 : Int32)), .val .null, .unset] [] by first | (simp [entryFrame, mkF, argsToLocals, Value.category]; done) | rfl) ?_, hrun, hended, _, _, none, rfl, ⟨⟨⟨rfl, ?_, ?_⟩, rfl⟩, N7⟩, trivial, hE.1, hE.2.1, hE.2.2.1, hE.2.2.2.mono (by decide) (by decide)⟩
  · refine XS.aloadN X0.here hx rfl (hb hby d3_0) rfl rfl ?_
    refine st1 _ ?_
    show Steps p.tables e below (T1.setTop (mkF m 4 #[.val (.ref o), .val (.ref b), .val (.int (0 : Int32)), .val (.int (0 : Int32)), .val .null, .unset] [])) _
    refine XS.iloadN X1.here hx rfl (hb hby d3_4) rfl ?_
    show Steps p.tables e below (T1.setTop (mkF m 5 #[.val (.ref o), .val (.ref b), .val (.int (0 : Int32)), .val (.int (0 : Int32)), .val .null, .unset] [.int (0 : Int32)])) _
    refine XS.ifNo X1.here hx rfl (hb hby d3_5) rfl (XT.i0_ne_f (by decide)) ?_
    show Steps p.tables e below (T1.setTop (mkF m 8 #[.val (.ref o), .val (.ref b), .val (.int (0 : Int32)), .val (.int (0 : Int32)), .val .null, .unset] [])) _
    refine XS.aloadN X1.here hx rfl (hb hby d3_8) rfl rfl ?_
    show Steps p.tables e below (T1.setTop (mkF m 9 #[.val (.ref o), .val (.ref b), .val (.int (0 : Int32)), .val (.int (0 : Int32)), .val .null, .unset] [.ref o])) _
    refine st2 _ (st3 _ (st4 _ ?_))
    show Steps p.tables e below (T4.setTop (mkF m 17 #[.val (.ref o), .val (.ref b), .val (.int (0 : Int32)), .val (.int (0 : Int32)), .val .null, .unset] [])) _
    refine XS.aloadN X4.here hx rfl (hb hby d3_17) rfl rfl ?_
    show Steps p.tables e below (T4.setTop (mkF m 18 #[.val (.ref o), .val (.ref b), .val (.int (0 : Int32)), .val (.int (0 : Int32)), .val .null, .unset] [.ref o])) _
    refine st5 _ (st6 _ (st7 _ ?_))
    show Steps p.tables e below (T7.setTop (mkF m 26 #[.val (.ref o), .val (.ref b), .val (.int (0 : Int32)), .val (.int (0 : Int32)), .val .null, .unset] [])) _
    exact X7.returnOut hx Bd.returns (hb hby d3_26) hr
  · show Keep h0 T7.heap [o]
    rw [e7]; exact K7
  · show Sta Z T7.heap _ _ _ _
    rw [e7]; exact S7
theorem d2_0 : decode jdk_42_method_3_code 0 = .ok (.aload_n 0, 1) := by decide +kernel
theorem d2_1 : decode jdk_42_method_3_code 1 = .ok (.aload_n 1, 1) := by decide +kernel
theorem d2_2 : decode jdk_42_method_3_code 2 = .ok (.iconst 0, 1) := by decide +kernel
theorem d2_3 : decode jdk_42_method_3_code 3 = .ok (.aload_n 1, 1) := by decide +kernel
theorem d2_4 : decode jdk_42_method_3_code 4 = .ok (.arraylength, 1) := by decide +kernel
theorem d2_5 : decode jdk_42_method_3_code 5 = .ok (.aconst_null, 1) := by decide +kernel
theorem d2_6 : decode jdk_42_method_3_code 6 = .ok (.invokespecial 27, 3) := by decide +kernel
theorem d2_9 : decode jdk_42_method_3_code 9 = .ok (.return_, 1) := by decide +kernel
set_option maxRecDepth 65536 in
set_option maxHeartbeats 40000000 in
theorem own_init0 (l : Launch) (Z : State) (a0 : Array Value) (hw : ∀ d ∈ tables_1, d.before a0 Z = true) (n0 : Nat) (h0 : Heap) (hsz : n0 ≤ h0.size) (o b : Addr) (cs : Int32) (v0 v1 : Value) (SC : Sta Z h0 "java/lang/String" "COMPACT_STRINGS" "Z" (.int cs)) (EO : Exa Z h0 o "java/lang/String") (FV : Fld Z h0 o "java/lang/String" "value" "[B" v0) (FC : Fld Z h0 o "java/lang/String" "coder" "B" v1) (G : n0 ≤ o) (hh : Jvm.Lit.constHeld Z "java/lang/String" 7) (hcw : Jvm.Lit.compactW.before a0 Z = true) (hkp : ∀ (b : Addr) (cl : Cell), Z.heap[b]? = some cl → h0[b]? = some cl) (FB : Fa Z h0 b .char 0 (fun _ => (.int (0 : Int32)))) :
    MetL l Z n0 (⟨"java/lang/String", "<init>", "([C)V"⟩ : MethodName) jdk_42_method_3_code 2 none ({ frames := 2, cells := 2, slots := 4, locals := 29 } : Room) #[(.ref o), (.ref b)] (some ("", 0, 0)) h0 (fun v h lt => (v = none ∧ Keep h0 h [o] ∧ Sta Z h "java/lang/String" "COMPACT_STRINGS" "Z" (.int cs)) ∧ lt = none) := by
  refine MetL.of (plainFor_of_name pn_0) #[.val (.ref o), .val (.ref b)] (fun m => by first | (simp [entryFrame, mkF, argsToLocals, Value.category]; done) | rfl) ?_
  intro p e s m below meth c C
  refine Wl.st (g' := (mkF m 1 #[.val (.ref o), .val (.ref b)] [(.ref o)])) (fun X t q => XS.aloadN X.here C.hx rfl (hb C.hby d2_0) rfl rfl q) ?_
  refine Wl.st (g' := (mkF m 2 #[.val (.ref o), .val (.ref b)] [(.ref b), (.ref o)])) (fun X t q => XS.aloadN X.here C.hx rfl (hb C.hby d2_1) rfl rfl q) ?_
  refine Wl.st (g' := (mkF m 3 #[.val (.ref o), .val (.ref b)] [(.int (0 : Int32)), (.ref b), (.ref o)])) (fun X t q => XS.iconst X.here C.hx rfl (hb C.hby d2_2) q) ?_
  refine Wl.st (g' := (mkF m 4 #[.val (.ref o), .val (.ref b)] [(.ref b), (.int (0 : Int32)), (.ref b), (.ref o)])) (fun X t q => XS.aloadN X.here C.hx rfl (hb C.hby d2_3) rfl rfl q) ?_
  refine Wl.fLen C FB (z := (0 : Int32)) (by decide) d2_4 ?_
  show Wl _ p l e _ s m _ below meth c n0 _ (some ("", 0, 0)) h0 0 0 (mkF m 5 #[.val (.ref o), .val (.ref b)] [(.int (0 : Int32)), (.int (0 : Int32)), (.ref b), (.ref o)])
  refine Wl.st (g' := (mkF m 6 #[.val (.ref o), .val (.ref b)] [.null, (.int (0 : Int32)), (.int (0 : Int32)), (.ref b), (.ref o)])) (fun X t q => XS.aconstNull X.here C.hx rfl (hb C.hby d2_5) q) ?_
  refine Wl.callI C (z := (⟨"java/lang/String", "<init>", "([CIILjava/lang/Void;)V"⟩ : MethodName)) rfl (hw _ (List.mem_of_getElem? (i := 11) rfl)) (hw _ (List.mem_of_getElem? (i := 12) rfl)) (hw _ (List.mem_of_getElem? (i := 7) rfl)) (hw _ (List.mem_of_getElem? (i := 14) rfl)) (by decide) (own_initE l Z a0 hw n0 h0 hsz o b cs v0 v1 SC EO FV FC G hh hcw hkp) (w := 0) (by decide) (by decide) pd_0 rfl (rest := []) rfl rfl (Nat.le_of_eq rfl) (by decide) (by decide) d2_6 ?_
  rintro _ h1 _ ⟨⟨rfl, K1, S1⟩, rfl⟩
  show Wl _ p l e _ s m _ below meth c n0 _ none h1 2 4 (mkF m 9 #[.val (.ref o), .val (.ref b)] [])
  exact Wl.retN0 C rfl d2_9 (by decide) (by decide) ⟨⟨rfl, K1, S1⟩, rfl⟩
theorem d1_0 : decode method_2_code 0 = .ok (.iload_n 0, 1) := by decide +kernel
theorem d1_1 : decode method_2_code 1 = .ok (.ifCond .ne 5, 3) := by decide +kernel
theorem d1_4 : decode method_2_code 4 = .ok (.aconst_null, 1) := by decide +kernel
theorem d1_5 : decode method_2_code 5 = .ok (.areturn, 1) := by decide +kernel
theorem d1_6 : decode method_2_code 6 = .ok (.iload_n 0, 1) := by decide +kernel
theorem d1_7 : decode method_2_code 7 = .ok (.iconst 1, 1) := by decide +kernel
theorem d1_8 : decode method_2_code 8 = .ok (.if_icmp .ne 14, 3) := by decide +kernel
theorem d1_11 : decode method_2_code 11 = .ok (.new 7, 3) := by decide +kernel
theorem d1_14 : decode method_2_code 14 = .ok (.dup, 1) := by decide +kernel
theorem d1_15 : decode method_2_code 15 = .ok (.iconst 0, 1) := by decide +kernel
theorem d1_16 : decode method_2_code 16 = .ok (.newarray .char, 2) := by decide +kernel
theorem d1_18 : decode method_2_code 18 = .ok (.invokespecial 9, 3) := by decide +kernel
theorem d1_21 : decode method_2_code 21 = .ok (.areturn, 1) := by decide +kernel
theorem d1_22 : decode method_2_code 22 = .ok (.iload_n 0, 1) := by decide +kernel
theorem d1_23 : decode method_2_code 23 = .ok (.iconst 2, 1) := by decide +kernel
theorem d1_24 : decode method_2_code 24 = .ok (.if_icmp .ne 25, 3) := by decide +kernel
theorem d1_27 : decode method_2_code 27 = .ok (.iconst 1, 1) := by decide +kernel
theorem d1_28 : decode method_2_code 28 = .ok (.newarray .char, 2) := by decide +kernel
theorem d1_30 : decode method_2_code 30 = .ok (.astore_n 2, 1) := by decide +kernel
theorem d1_31 : decode method_2_code 31 = .ok (.aload_n 2, 1) := by decide +kernel
theorem d1_32 : decode method_2_code 32 = .ok (.iconst 0, 1) := by decide +kernel
theorem d1_33 : decode method_2_code 33 = .ok (.iload_n 1, 1) := by decide +kernel
theorem d1_34 : decode method_2_code 34 = .ok (.sipush 255, 3) := by decide +kernel
theorem d1_37 : decode method_2_code 37 = .ok (.iand, 1) := by decide +kernel
theorem d1_38 : decode method_2_code 38 = .ok (.i2c, 1) := by decide +kernel
theorem d1_39 : decode method_2_code 39 = .ok (.castore, 1) := by decide +kernel
theorem d1_40 : decode method_2_code 40 = .ok (.new 7, 3) := by decide +kernel
theorem d1_43 : decode method_2_code 43 = .ok (.dup, 1) := by decide +kernel
theorem d1_44 : decode method_2_code 44 = .ok (.aload_n 2, 1) := by decide +kernel
theorem d1_45 : decode method_2_code 45 = .ok (.invokespecial 9, 3) := by decide +kernel
theorem d1_48 : decode method_2_code 48 = .ok (.areturn, 1) := by decide +kernel
theorem d1_49 : decode method_2_code 49 = .ok (.iconst 2, 1) := by decide +kernel
theorem d1_50 : decode method_2_code 50 = .ok (.newarray .char, 2) := by decide +kernel
theorem d1_52 : decode method_2_code 52 = .ok (.astore_n 2, 1) := by decide +kernel
theorem d1_53 : decode method_2_code 53 = .ok (.aload_n 2, 1) := by decide +kernel
theorem d1_54 : decode method_2_code 54 = .ok (.iconst 0, 1) := by decide +kernel
theorem d1_55 : decode method_2_code 55 = .ok (.iload_n 1, 1) := by decide +kernel
theorem d1_56 : decode method_2_code 56 = .ok (.sipush 255, 3) := by decide +kernel
theorem d1_59 : decode method_2_code 59 = .ok (.iand, 1) := by decide +kernel
theorem d1_60 : decode method_2_code 60 = .ok (.i2c, 1) := by decide +kernel
theorem d1_61 : decode method_2_code 61 = .ok (.castore, 1) := by decide +kernel
theorem d1_62 : decode method_2_code 62 = .ok (.aload_n 2, 1) := by decide +kernel
theorem d1_63 : decode method_2_code 63 = .ok (.iconst 1, 1) := by decide +kernel
theorem d1_64 : decode method_2_code 64 = .ok (.iload_n 1, 1) := by decide +kernel
theorem d1_65 : decode method_2_code 65 = .ok (.bipush 8, 2) := by decide +kernel
theorem d1_67 : decode method_2_code 67 = .ok (.iushr, 1) := by decide +kernel
theorem d1_68 : decode method_2_code 68 = .ok (.sipush 255, 3) := by decide +kernel
theorem d1_71 : decode method_2_code 71 = .ok (.iand, 1) := by decide +kernel
theorem d1_72 : decode method_2_code 72 = .ok (.i2c, 1) := by decide +kernel
theorem d1_73 : decode method_2_code 73 = .ok (.castore, 1) := by decide +kernel
theorem d1_74 : decode method_2_code 74 = .ok (.new 7, 3) := by decide +kernel
theorem d1_77 : decode method_2_code 77 = .ok (.dup, 1) := by decide +kernel
theorem d1_78 : decode method_2_code 78 = .ok (.aload_n 2, 1) := by decide +kernel
theorem d1_79 : decode method_2_code 79 = .ok (.invokespecial 9, 3) := by decide +kernel
theorem d1_82 : decode method_2_code 82 = .ok (.areturn, 1) := by decide +kernel
set_option maxRecDepth 65536 in
set_option maxHeartbeats 40000000 in
theorem own_vn1 (l : Launch) (Z : State) (a0 : Array Value) (hw : ∀ d ∈ tables_1, d.before a0 Z = true) (n0 : Nat) (h0 : Heap) (hsz : n0 ≤ h0.size) (x cs : Int32) (SC : Sta Z h0 "java/lang/String" "COMPACT_STRINGS" "Z" (.int cs)) (hh : Jvm.Lit.constHeld Z "java/lang/String" 7) (hcw : Jvm.Lit.compactW.before a0 Z = true) (hkp : ∀ (b : Addr) (cl : Cell), Z.heap[b]? = some cl → h0[b]? = some cl) :
    MetL l Z n0 (⟨"com/example/tripleshelf/tripleshelf/cli/OptionTakesValuePinLaw", "valueNameOf", "(II)Ljava/lang/String;"⟩ : MethodName) method_2_code 3 (some (.object "java/lang/String")) ({ frames := 3, cells := 4, slots := 8, locals := 43 } : Room) #[(.int (1 : Int32)), (.int x)] (some ("", 0, 0)) h0 (fun v h lt => (∃ a : Addr, v = some (.ref a) ∧ Keep h0 h [] ∧ h0.size ≤ a ∧ Exa Z h a "java/lang/String" ∧ Sta Z h "java/lang/String" "COMPACT_STRINGS" "Z" (.int cs)) ∧ lt = none) := by
  refine MetL.of (plainFor_of_name pn_1) #[.val (.int (1 : Int32)), .val (.int x), .unset] (fun m => by first | (simp [entryFrame, mkF, argsToLocals, Value.category]; done) | rfl) ?_
  intro p e s m below meth c C
  refine Wl.st (g' := (mkF m 1 #[.val (.int (1 : Int32)), .val (.int x), .unset] [(.int (1 : Int32))])) (fun X t q => XS.iloadN X.here C.hx rfl (hb C.hby d1_0) rfl q) ?_
  refine Wl.st (g' := (mkF m 6 #[.val (.int (1 : Int32)), .val (.int x), .unset] [])) (fun X t q => XS.ifYes X.here C.hx rfl (pc0 := 1) (pc' := 6) rfl (hb C.hby d1_1) rfl (XT.i0_ne_t (by decide)) (by decide) (by decide) q) ?_
  refine Wl.st (g' := (mkF m 7 #[.val (.int (1 : Int32)), .val (.int x), .unset] [(.int (1 : Int32))])) (fun X t q => XS.iloadN X.here C.hx rfl (hb C.hby d1_6) rfl q) ?_
  refine Wl.st (g' := (mkF m 8 #[.val (.int (1 : Int32)), .val (.int x), .unset] [(.int (1 : Int32)), (.int (1 : Int32))])) (fun X t q => XS.iconst X.here C.hx rfl (hb C.hby d1_7) q) ?_
  refine Wl.st (g' := (mkF m 11 #[.val (.int (1 : Int32)), .val (.int x), .unset] [])) (fun X t q => XS.icmpNo X.here C.hx rfl (hb C.hby d1_8) rfl (XT.ii_ne_f (by decide)) q) ?_
  refine Wl.newO C (hw _ (List.mem_of_getElem? (i := 5) rfl)) (hw _ (List.mem_of_getElem? (i := 6) rfl)) (hw _ (List.mem_of_getElem? (i := 7) rfl)) d1_11 (by decide) (by decide) ?_
  intro h1 b2 g3 E4 A5 D6
  have ge7 : n0 ≤ b2 := Nat.le_trans hsz (Nat.le_of_eq g3.symm)
  have gz8 : h0.size ≤ b2 := Nat.le_trans (Nat.le_refl h0.size) (Nat.le_of_eq g3.symm)
  have F9 : Sta Z h1 "java/lang/String" "COMPACT_STRINGS" "Z" (.int cs) := SC.ext E4
  have sz10 : n0 ≤ h1.size := Nat.le_trans hsz E4.1
  have sy11 : h0.size ≤ h1.size := Nat.le_trans (Nat.le_refl h0.size) E4.1
  have K12 := (Keep.refl h0 []).ext E4
  have F13 : Fld Z h1 b2 "java/lang/String" "coder" "B" (.int (0 : Int32)) := D6 (Or.inr (hw _ (List.mem_of_getElem? (i := 31) rfl))) (ty := .byte) (by decide)
  have F14 : Fld Z h1 b2 "java/lang/String" "value" "[B" .null := D6 (Or.inr (hw _ (List.mem_of_getElem? (i := 33) rfl))) (ty := (.array .byte)) (by decide)
  show Wl _ p l e _ s m _ below meth c n0 _ (some ("", 0, 0)) h1 1 4 (mkF m 14 #[.val (.int (1 : Int32)), .val (.int x), .unset] [(.ref b2)])
  refine Wl.st (g' := (mkF m 15 #[.val (.int (1 : Int32)), .val (.int x), .unset] [(.ref b2), (.ref b2)])) (fun X t q => XS.dup X.here C.hx rfl (hb C.hby d1_14) rfl rfl q) ?_
  refine Wl.st (g' := (mkF m 16 #[.val (.int (1 : Int32)), .val (.int x), .unset] [(.int (0 : Int32)), (.ref b2), (.ref b2)])) (fun X t q => XS.iconst X.here C.hx rfl (hb C.hby d1_15) q) ?_
  refine Wl.fNewP C (hw _ (List.mem_of_getElem? (i := 4) rfl)) (ty := .char) (dv := (.int (0 : Int32))) (N := 0) (ad := "[C") rfl rfl (by decide) (by decide) (by decide) (cap := 0) (by decide) (by decide) d1_16 (by decide) (by decide) ?_
  intro h15 b16 g17 E18 A19 F20
  have ne21 : b2 ≠ b16 := Nat.ne_of_lt (Nat.lt_of_lt_of_le A5.lt (Nat.le_of_eq g17.symm))
  have ge22 : n0 ≤ b16 := Nat.le_trans sz10 (Nat.le_of_eq g17.symm)
  have gz23 : h0.size ≤ b16 := Nat.le_trans sy11 (Nat.le_of_eq g17.symm)
  have F24 : Sta Z h15 "java/lang/String" "COMPACT_STRINGS" "Z" (.int cs) := F9.ext E18
  have F25 : Exa Z h15 b2 "java/lang/String" := A5.ext E18
  have F26 : Fld Z h15 b2 "java/lang/String" "coder" "B" (.int (0 : Int32)) := F13.ext E18
  have F27 : Fld Z h15 b2 "java/lang/String" "value" "[B" .null := F14.ext E18
  have sz28 : n0 ≤ h15.size := Nat.le_trans sz10 E18.1
  have sy29 : h0.size ≤ h15.size := Nat.le_trans sy11 E18.1
  have K30 := K12.ext E18
  show Wl _ p l e _ s m _ below meth c n0 _ (some ("", 0, 0)) h15 2 4 (mkF m 18 #[.val (.int (1 : Int32)), .val (.int x), .unset] [(.ref b16), (.ref b2), (.ref b2)])
  refine Wl.callI C (z := (⟨"java/lang/String", "<init>", "([C)V"⟩ : MethodName)) rfl (hw _ (List.mem_of_getElem? (i := 8) rfl)) (hw _ (List.mem_of_getElem? (i := 9) rfl)) (hw _ (List.mem_of_getElem? (i := 7) rfl)) (hw _ (List.mem_of_getElem? (i := 10) rfl)) (by decide) (own_init0 l Z a0 hw n0 h15 sz28 b2 b16 cs .null (.int (0 : Int32)) F24 F25 F27 F26 ge7 hh hcw (fun x cl q => E18.2 _ _ (E4.2 _ _ (hkp x cl q))) F20) (w := 1) (by decide) (by decide) pd_1 rfl (rest := [(.ref b2)]) rfl rfl (Nat.le_of_eq rfl) (by decide) (by decide) d1_18 ?_
  rintro _ hz _ ⟨⟨rfl, KZ, SZ⟩, rfl⟩
  show Wl _ p l e _ s m _ below meth c n0 _ none hz 4 8 (mkF m 21 #[.val (.int (1 : Int32)), .val (.int x), .unset] [(.ref b2)])
  have EZ := F25.keep KZ
  have KK := K30.trans KZ (nvS (Or.inr gz8) nv0)
  exact Wl.retV C (t := (.object "java/lang/String")) rfl rfl (Or.inr (Or.inr (Or.inr (Or.inr ⟨rfl, rfl, rfl⟩)))) d1_21 (by decide) (by decide) ⟨⟨b2, rfl, KK, gz8, EZ, SZ⟩, rfl⟩
set_option maxRecDepth 65536 in
set_option maxHeartbeats 40000000 in
theorem own_1_0 (l : Launch) (Z : State) (a0 : Array Value) (hw : ∀ d ∈ tables_1, d.before a0 Z = true) (n0 : Nat) (h0 : Heap) (hsz : n0 ≤ h0.size) (x0 : Int32) (x1 : Int32) (P0 : Sta Z h0 "java/lang/String" "COMPACT_STRINGS" "Z" (.int x1)) (nz_x1 : ¬ x1 = (0 : Int32)) :
    Met true l Z n0 (⟨"com/example/tripleshelf/tripleshelf/cli/OptionTakesValuePinLaw", "valueNameOf", "(II)Ljava/lang/String;"⟩ : MethodName) method_2_code 3 (some (.object "java/lang/String")) ({ frames := 0, cells := 0, slots := 0, locals := 0 } : Room) #[(.int (0 : Int32)), (.int x0)] h0 (fun v h => v = some .null ∧ h0 = h) := by
  refine Met.of (plainFor_of_name pn_1) #[.val (.int (0 : Int32)), .val (.int x0), .unset] (fun m => by first | (simp [entryFrame, mkF, argsToLocals, Value.category]; done) | rfl) ?_
  intro p e s m below meth c C
  refine Wk.st (g' := (mkF m 1 #[.val (.int (0 : Int32)), .val (.int x0), .unset] [(.int (0 : Int32))])) (fun X t q => XS.iloadN X.here C.hx rfl (hb C.hby d1_0) rfl q) ?_
  refine Wk.st (g' := (mkF m 4 #[.val (.int (0 : Int32)), .val (.int x0), .unset] [])) (fun X t q => XS.ifNo X.here C.hx rfl (hb C.hby d1_1) rfl (XT.i0_ne_f (by decide)) q) ?_
  refine Wk.st (g' := (mkF m 5 #[.val (.int (0 : Int32)), .val (.int x0), .unset] [.null])) (fun X t q => XS.aconstNull X.here C.hx rfl (hb C.hby d1_4) q) ?_
  exact Wk.retV C (t := (.object "java/lang/String")) rfl rfl (Or.inr (Or.inr (Or.inr (Or.inr ⟨rfl, rfl, rfl⟩)))) d1_5 (by decide) (by decide) ⟨rfl, rfl⟩
theorem d6_0 : decode jdk_52_method_21_code 0 = .ok (.iconst 0, 1) := by decide +kernel
theorem d6_1 : decode jdk_52_method_21_code 1 = .ok (.istore 5, 2) := by decide +kernel
theorem d6_3 : decode jdk_52_method_21_code 3 = .ok (.iload 5, 2) := by decide +kernel
theorem d6_5 : decode jdk_52_method_21_code 5 = .ok (.iload 4, 2) := by decide +kernel
theorem d6_7 : decode jdk_52_method_21_code 7 = .ok (.if_icmp .ge 37, 3) := by decide +kernel
theorem d6_10 : decode jdk_52_method_21_code 10 = .ok (.aload_n 0, 1) := by decide +kernel
theorem d6_11 : decode jdk_52_method_21_code 11 = .ok (.iload_n 1, 1) := by decide +kernel
theorem d6_12 : decode jdk_52_method_21_code 12 = .ok (.caload, 1) := by decide +kernel
theorem d6_13 : decode jdk_52_method_21_code 13 = .ok (.istore 6, 2) := by decide +kernel
theorem d6_15 : decode jdk_52_method_21_code 15 = .ok (.iload 6, 2) := by decide +kernel
theorem d6_17 : decode jdk_52_method_21_code 17 = .ok (.sipush 255, 3) := by decide +kernel
theorem d6_20 : decode jdk_52_method_21_code 20 = .ok (.if_icmp .le 6, 3) := by decide +kernel
theorem d6_23 : decode jdk_52_method_21_code 23 = .ok (.iload 5, 2) := by decide +kernel
theorem d6_25 : decode jdk_52_method_21_code 25 = .ok (.ireturn, 1) := by decide +kernel
theorem d6_26 : decode jdk_52_method_21_code 26 = .ok (.aload_n 2, 1) := by decide +kernel
theorem d6_27 : decode jdk_52_method_21_code 27 = .ok (.iload_n 3, 1) := by decide +kernel
theorem d6_28 : decode jdk_52_method_21_code 28 = .ok (.iload 6, 2) := by decide +kernel
theorem d6_30 : decode jdk_52_method_21_code 30 = .ok (.i2b, 1) := by decide +kernel
theorem d6_31 : decode jdk_52_method_21_code 31 = .ok (.bastore, 1) := by decide +kernel
theorem d6_32 : decode jdk_52_method_21_code 32 = .ok (.iinc 1 1, 3) := by decide +kernel
theorem d6_35 : decode jdk_52_method_21_code 35 = .ok (.iinc 3 1, 3) := by decide +kernel
theorem d6_38 : decode jdk_52_method_21_code 38 = .ok (.iinc 5 1, 3) := by decide +kernel
theorem d6_41 : decode jdk_52_method_21_code 41 = .ok (.goto (-38), 3) := by decide +kernel
theorem d6_44 : decode jdk_52_method_21_code 44 = .ok (.iload 4, 2) := by decide +kernel
theorem d6_46 : decode jdk_52_method_21_code 46 = .ok (.ireturn, 1) := by decide +kernel
set_option maxRecDepth 65536 in
set_option maxHeartbeats 40000000 in
theorem own_6_1 (l : Launch) (Z : State) (a0 : Array Value) (hw : ∀ d ∈ tables_1, d.before a0 Z = true) (n0 : Nat) (h0 : Heap) (hsz : n0 ≤ h0.size) (o0 : Addr) (o1 : Addr) (x0 : Int32) (x1 : Int32) (P0 : Sta Z h0 "java/lang/String" "COMPACT_STRINGS" "Z" (.int x0)) (P1 : Exa Z h0 o0 "[C") (P2 : Fa Z h0 o0 .char 1 (up (fun _ => (.int (0 : Int32))) 0 (.int x1))) (P3 : Exa Z h0 o1 "[B") (P4 : Fa Z h0 o1 .byte 1 (fun _ => (.int (0 : Int32)))) (N_o0_o1 : o0 ≠ o1) (G_o0 : n0 ≤ o0) (G_o1 : n0 ≤ o1) (lat_x1 : ¬ (255 : Int32) < x1) (nz_x0 : ¬ x0 = (0 : Int32)) :
    Met true l Z n0 (⟨"java/lang/StringUTF16", "compress", "([CI[BII)I"⟩ : MethodName) jdk_52_method_21_code 7 (some .int) ({ frames := 0, cells := 0, slots := 0, locals := 0 } : Room) #[(.ref o0), (.int (0 : Int32)), (.ref o1), (.int (0 : Int32)), (.int (1 : Int32))] h0 (fun v h => v = some (.int (1 : Int32)) ∧ Keep h0 h [o1] ∧ Sta Z h "java/lang/String" "COMPACT_STRINGS" "Z" (.int x0) ∧ Fa Z h o1 .byte 1 (up (fun _ => (.int (0 : Int32))) 0 (.int (nar .byte (x1.toInt8.toInt32))))) := by
  refine Met.of (plainFor_of_name pn_2) #[.val (.ref o0), .val (.int (0 : Int32)), .val (.ref o1), .val (.int (0 : Int32)), .val (.int (1 : Int32)), .unset, .unset] (fun m => by first | (simp [entryFrame, mkF, argsToLocals, Value.category]; done) | rfl) ?_
  intro p e s m below meth c C
  refine Wk.st (g' := (mkF m 1 #[.val (.ref o0), .val (.int (0 : Int32)), .val (.ref o1), .val (.int (0 : Int32)), .val (.int (1 : Int32)), .unset, .unset] [(.int (0 : Int32))])) (fun X t q => XS.iconst X.here C.hx rfl (hb C.hby d6_0) q) ?_
  refine Wk.st (g' := (mkF m 3 #[.val (.ref o0), .val (.int (0 : Int32)), .val (.ref o1), .val (.int (0 : Int32)), .val (.int (1 : Int32)), .val (.int (0 : Int32)), .unset] [])) (fun X t q => XS.istore X.here C.hx rfl (hb C.hby d6_1) rfl (l' := #[.val (.ref o0), .val (.int (0 : Int32)), .val (.ref o1), .val (.int (0 : Int32)), .val (.int (1 : Int32)), .val (.int (0 : Int32)), .unset]) rfl q) ?_
  refine Wk.st (g' := (mkF m 5 #[.val (.ref o0), .val (.int (0 : Int32)), .val (.ref o1), .val (.int (0 : Int32)), .val (.int (1 : Int32)), .val (.int (0 : Int32)), .unset] [(.int (0 : Int32))])) (fun X t q => XS.iload X.here C.hx rfl (hb C.hby d6_3) rfl q) ?_
  refine Wk.st (g' := (mkF m 7 #[.val (.ref o0), .val (.int (0 : Int32)), .val (.ref o1), .val (.int (0 : Int32)), .val (.int (1 : Int32)), .val (.int (0 : Int32)), .unset] [(.int (1 : Int32)), (.int (0 : Int32))])) (fun X t q => XS.iload X.here C.hx rfl (hb C.hby d6_5) rfl q) ?_
  refine Wk.st (g' := (mkF m 10 #[.val (.ref o0), .val (.int (0 : Int32)), .val (.ref o1), .val (.int (0 : Int32)), .val (.int (1 : Int32)), .val (.int (0 : Int32)), .unset] [])) (fun X t q => XS.icmpNo X.here C.hx rfl (hb C.hby d6_7) rfl (XT.ii_ge_f (by decide)) q) ?_
  refine Wk.st (g' := (mkF m 11 #[.val (.ref o0), .val (.int (0 : Int32)), .val (.ref o1), .val (.int (0 : Int32)), .val (.int (1 : Int32)), .val (.int (0 : Int32)), .unset] [(.ref o0)])) (fun X t q => XS.aloadN X.here C.hx rfl (hb C.hby d6_10) rfl rfl q) ?_
  refine Wk.st (g' := (mkF m 12 #[.val (.ref o0), .val (.int (0 : Int32)), .val (.ref o1), .val (.int (0 : Int32)), .val (.int (1 : Int32)), .val (.int (0 : Int32)), .unset] [(.int (0 : Int32)), (.ref o0)])) (fun X t q => XS.iloadN X.here C.hx rfl (hb C.hby d6_11) rfl q) ?_
  refine Wk.fLdC C P2 (i := 0) (by decide) (by decide) (by decide) (v := (.int x1)) (by simp [up]) d6_12 ?_
  show Wk _ p l e _ s m _ below meth c n0 _ h0 0 0 (mkF m 13 #[.val (.ref o0), .val (.int (0 : Int32)), .val (.ref o1), .val (.int (0 : Int32)), .val (.int (1 : Int32)), .val (.int (0 : Int32)), .unset] [(.int x1)])
  refine Wk.st (g' := (mkF m 15 #[.val (.ref o0), .val (.int (0 : Int32)), .val (.ref o1), .val (.int (0 : Int32)), .val (.int (1 : Int32)), .val (.int (0 : Int32)), .val (.int x1)] [])) (fun X t q => XS.istore X.here C.hx rfl (hb C.hby d6_13) rfl (l' := #[.val (.ref o0), .val (.int (0 : Int32)), .val (.ref o1), .val (.int (0 : Int32)), .val (.int (1 : Int32)), .val (.int (0 : Int32)), .val (.int x1)]) rfl q) ?_
  refine Wk.st (g' := (mkF m 17 #[.val (.ref o0), .val (.int (0 : Int32)), .val (.ref o1), .val (.int (0 : Int32)), .val (.int (1 : Int32)), .val (.int (0 : Int32)), .val (.int x1)] [(.int x1)])) (fun X t q => XS.iload X.here C.hx rfl (hb C.hby d6_15) rfl q) ?_
  refine Wk.st (g' := (mkF m 20 #[.val (.ref o0), .val (.int (0 : Int32)), .val (.ref o1), .val (.int (0 : Int32)), .val (.int (1 : Int32)), .val (.int (0 : Int32)), .val (.int x1)] [(.int (255 : Int32)), (.int x1)])) (fun X t q => XS.sipush X.here C.hx rfl (hb C.hby d6_17) q) ?_
  refine Wk.st (g' := (mkF m 26 #[.val (.ref o0), .val (.int (0 : Int32)), .val (.ref o1), .val (.int (0 : Int32)), .val (.int (1 : Int32)), .val (.int (0 : Int32)), .val (.int x1)] [])) (fun X t q => XS.icmpYes X.here C.hx rfl (pc0 := 20) (pc' := 26) rfl (hb C.hby d6_20) rfl (XT.ii_le_t lat_x1) (by decide) (by decide) q) ?_
  refine Wk.st (g' := (mkF m 27 #[.val (.ref o0), .val (.int (0 : Int32)), .val (.ref o1), .val (.int (0 : Int32)), .val (.int (1 : Int32)), .val (.int (0 : Int32)), .val (.int x1)] [(.ref o1)])) (fun X t q => XS.aloadN X.here C.hx rfl (hb C.hby d6_26) rfl rfl q) ?_
  refine Wk.st (g' := (mkF m 28 #[.val (.ref o0), .val (.int (0 : Int32)), .val (.ref o1), .val (.int (0 : Int32)), .val (.int (1 : Int32)), .val (.int (0 : Int32)), .val (.int x1)] [(.int (0 : Int32)), (.ref o1)])) (fun X t q => XS.iloadN X.here C.hx rfl (hb C.hby d6_27) rfl q) ?_
  refine Wk.st (g' := (mkF m 30 #[.val (.ref o0), .val (.int (0 : Int32)), .val (.ref o1), .val (.int (0 : Int32)), .val (.int (1 : Int32)), .val (.int (0 : Int32)), .val (.int x1)] [(.int x1), (.int (0 : Int32)), (.ref o1)])) (fun X t q => XS.iload X.here C.hx rfl (hb C.hby d6_28) rfl q) ?_
  refine Wk.st (g' := (mkF m 31 #[.val (.ref o0), .val (.int (0 : Int32)), .val (.ref o1), .val (.int (0 : Int32)), .val (.int (1 : Int32)), .val (.int (0 : Int32)), .val (.int x1)] [(.int (x1.toInt8.toInt32)), (.int (0 : Int32)), (.ref o1)])) (fun X t q => XS.i2b X.here C.hx rfl (hb C.hby d6_30) rfl q) ?_
  refine Wk.fStB C P4 (x' := (nar .byte (x1.toInt8.toInt32))) rfl (i := 0) (by decide) (by decide) (by decide) G_o1 d6_31 ?_
  intro h1 W2 F3
  have F4 : Sta Z h1 "java/lang/String" "COMPACT_STRINGS" "Z" (.int x0) := P0.wr W2
  have F5 : Exa Z h1 o0 "[C" := P1.wr W2
  have F6 : Fa Z h1 o0 .char 1 (up (fun _ => (.int (0 : Int32))) 0 (.int x1)) := P2.other W2 N_o0_o1
  have F7 : Exa Z h1 o1 "[B" := P3.wr W2
  have sz8 : n0 ≤ h1.size := Nat.le_trans hsz (Nat.le_of_eq W2.size.symm)
  have sy9 : h0.size ≤ h1.size := Nat.le_trans (Nat.le_refl h0.size) (Nat.le_of_eq W2.size.symm)
  have K10 := (Keep.refl h0 [o1]).wr W2 (Or.inl (by simp))
  show Wk _ p l e _ s m _ below meth c n0 _ h1 0 0 (mkF m 32 #[.val (.ref o0), .val (.int (0 : Int32)), .val (.ref o1), .val (.int (0 : Int32)), .val (.int (1 : Int32)), .val (.int (0 : Int32)), .val (.int x1)] [])
  refine Wk.st (g' := (mkF m 35 #[.val (.ref o0), .val (.int (1 : Int32)), .val (.ref o1), .val (.int (0 : Int32)), .val (.int (1 : Int32)), .val (.int (0 : Int32)), .val (.int x1)] [])) (fun X t q => XS.iinc X.here C.hx rfl (hb C.hby d6_32) rfl (l' := #[.val (.ref o0), .val (.int (1 : Int32)), .val (.ref o1), .val (.int (0 : Int32)), .val (.int (1 : Int32)), .val (.int (0 : Int32)), .val (.int x1)]) rfl q) ?_
  refine Wk.st (g' := (mkF m 38 #[.val (.ref o0), .val (.int (1 : Int32)), .val (.ref o1), .val (.int (1 : Int32)), .val (.int (1 : Int32)), .val (.int (0 : Int32)), .val (.int x1)] [])) (fun X t q => XS.iinc X.here C.hx rfl (hb C.hby d6_35) rfl (l' := #[.val (.ref o0), .val (.int (1 : Int32)), .val (.ref o1), .val (.int (1 : Int32)), .val (.int (1 : Int32)), .val (.int (0 : Int32)), .val (.int x1)]) rfl q) ?_
  refine Wk.st (g' := (mkF m 41 #[.val (.ref o0), .val (.int (1 : Int32)), .val (.ref o1), .val (.int (1 : Int32)), .val (.int (1 : Int32)), .val (.int (1 : Int32)), .val (.int x1)] [])) (fun X t q => XS.iinc X.here C.hx rfl (hb C.hby d6_38) rfl (l' := #[.val (.ref o0), .val (.int (1 : Int32)), .val (.ref o1), .val (.int (1 : Int32)), .val (.int (1 : Int32)), .val (.int (1 : Int32)), .val (.int x1)]) rfl q) ?_
  refine Wk.st (g' := (mkF m 3 #[.val (.ref o0), .val (.int (1 : Int32)), .val (.ref o1), .val (.int (1 : Int32)), .val (.int (1 : Int32)), .val (.int (1 : Int32)), .val (.int x1)] [])) (fun X t q => XS.goto X.here C.hx rfl (pc0 := 41) (pc' := 3) rfl (hb C.hby d6_41) (by decide) (by decide) q) ?_
  refine Wk.st (g' := (mkF m 5 #[.val (.ref o0), .val (.int (1 : Int32)), .val (.ref o1), .val (.int (1 : Int32)), .val (.int (1 : Int32)), .val (.int (1 : Int32)), .val (.int x1)] [(.int (1 : Int32))])) (fun X t q => XS.iload X.here C.hx rfl (hb C.hby d6_3) rfl q) ?_
  refine Wk.st (g' := (mkF m 7 #[.val (.ref o0), .val (.int (1 : Int32)), .val (.ref o1), .val (.int (1 : Int32)), .val (.int (1 : Int32)), .val (.int (1 : Int32)), .val (.int x1)] [(.int (1 : Int32)), (.int (1 : Int32))])) (fun X t q => XS.iload X.here C.hx rfl (hb C.hby d6_5) rfl q) ?_
  refine Wk.st (g' := (mkF m 44 #[.val (.ref o0), .val (.int (1 : Int32)), .val (.ref o1), .val (.int (1 : Int32)), .val (.int (1 : Int32)), .val (.int (1 : Int32)), .val (.int x1)] [])) (fun X t q => XS.icmpYes X.here C.hx rfl (pc0 := 7) (pc' := 44) rfl (hb C.hby d6_7) rfl (XT.ii_ge_t (by decide)) (by decide) (by decide) q) ?_
  refine Wk.st (g' := (mkF m 46 #[.val (.ref o0), .val (.int (1 : Int32)), .val (.ref o1), .val (.int (1 : Int32)), .val (.int (1 : Int32)), .val (.int (1 : Int32)), .val (.int x1)] [(.int (1 : Int32))])) (fun X t q => XS.iload X.here C.hx rfl (hb C.hby d6_44) rfl q) ?_
  exact Wk.retV C (t := .int) rfl rfl (Or.inl ⟨rfl, by simp, _, rfl⟩) d6_46 (by decide) (by decide) ⟨rfl, K10, F4, F3⟩
theorem d5_0 : decode jdk_52_method_16_code 0 = .ok (.iload_n 2, 1) := by decide +kernel
theorem d5_1 : decode jdk_52_method_16_code 1 = .ok (.newarray .byte, 2) := by decide +kernel
theorem d5_3 : decode jdk_52_method_16_code 3 = .ok (.astore_n 3, 1) := by decide +kernel
theorem d5_4 : decode jdk_52_method_16_code 4 = .ok (.aload_n 0, 1) := by decide +kernel
theorem d5_5 : decode jdk_52_method_16_code 5 = .ok (.iload_n 1, 1) := by decide +kernel
theorem d5_6 : decode jdk_52_method_16_code 6 = .ok (.aload_n 3, 1) := by decide +kernel
theorem d5_7 : decode jdk_52_method_16_code 7 = .ok (.iconst 0, 1) := by decide +kernel
theorem d5_8 : decode jdk_52_method_16_code 8 = .ok (.iload_n 2, 1) := by decide +kernel
theorem d5_9 : decode jdk_52_method_16_code 9 = .ok (.invokestatic 115, 3) := by decide +kernel
theorem d5_12 : decode jdk_52_method_16_code 12 = .ok (.istore 4, 2) := by decide +kernel
theorem d5_14 : decode jdk_52_method_16_code 14 = .ok (.iload 4, 2) := by decide +kernel
theorem d5_16 : decode jdk_52_method_16_code 16 = .ok (.iload_n 2, 1) := by decide +kernel
theorem d5_17 : decode jdk_52_method_16_code 17 = .ok (.if_icmp .eq 40, 3) := by decide +kernel
theorem d5_20 : decode jdk_52_method_16_code 20 = .ok (.aload_n 0, 1) := by decide +kernel
theorem d5_21 : decode jdk_52_method_16_code 21 = .ok (.iload_n 1, 1) := by decide +kernel
theorem d5_22 : decode jdk_52_method_16_code 22 = .ok (.iload_n 2, 1) := by decide +kernel
theorem d5_23 : decode jdk_52_method_16_code 23 = .ok (.invokestatic 119, 3) := by decide +kernel
theorem d5_26 : decode jdk_52_method_16_code 26 = .ok (.astore 5, 2) := by decide +kernel
theorem d5_28 : decode jdk_52_method_16_code 28 = .ok (.aload 5, 2) := by decide +kernel
theorem d5_30 : decode jdk_52_method_16_code 30 = .ok (.iload 4, 2) := by decide +kernel
theorem d5_32 : decode jdk_52_method_16_code 32 = .ok (.invokestatic 71, 3) := by decide +kernel
theorem d5_35 : decode jdk_52_method_16_code 35 = .ok (.sipush 255, 3) := by decide +kernel
theorem d5_38 : decode jdk_52_method_16_code 38 = .ok (.if_icmp .gt 16, 3) := by decide +kernel
theorem d5_41 : decode jdk_52_method_16_code 41 = .ok (.aload 5, 2) := by decide +kernel
theorem d5_43 : decode jdk_52_method_16_code 43 = .ok (.iconst 0, 1) := by decide +kernel
theorem d5_44 : decode jdk_52_method_16_code 44 = .ok (.aload_n 3, 1) := by decide +kernel
theorem d5_45 : decode jdk_52_method_16_code 45 = .ok (.iconst 0, 1) := by decide +kernel
theorem d5_46 : decode jdk_52_method_16_code 46 = .ok (.iload_n 2, 1) := by decide +kernel
theorem d5_47 : decode jdk_52_method_16_code 47 = .ok (.invokestatic 123, 3) := by decide +kernel
theorem d5_50 : decode jdk_52_method_16_code 50 = .ok (.iload_n 2, 1) := by decide +kernel
theorem d5_51 : decode jdk_52_method_16_code 51 = .ok (.if_icmp .eq 6, 3) := by decide +kernel
theorem d5_54 : decode jdk_52_method_16_code 54 = .ok (.aload 5, 2) := by decide +kernel
theorem d5_56 : decode jdk_52_method_16_code 56 = .ok (.areturn, 1) := by decide +kernel
theorem d5_57 : decode jdk_52_method_16_code 57 = .ok (.aload_n 3, 1) := by decide +kernel
theorem d5_58 : decode jdk_52_method_16_code 58 = .ok (.areturn, 1) := by decide +kernel
set_option maxRecDepth 65536 in
set_option maxHeartbeats 40000000 in
theorem own_5_1 (l : Launch) (Z : State) (a0 : Array Value) (hw : ∀ d ∈ tables_1, d.before a0 Z = true) (n0 : Nat) (h0 : Heap) (hsz : n0 ≤ h0.size) (o0 : Addr) (x0 : Int32) (x1 : Int32) (P0 : Sta Z h0 "java/lang/String" "COMPACT_STRINGS" "Z" (.int x0)) (P1 : Exa Z h0 o0 "[C") (P2 : Fa Z h0 o0 .char 1 (up (fun _ => (.int (0 : Int32))) 0 (.int x1))) (G_o0 : n0 ≤ o0) (lat_x1 : ¬ (255 : Int32) < x1) (nz_x0 : ¬ x0 = (0 : Int32)) :
    Met true l Z n0 (⟨"java/lang/StringUTF16", "compress", "([CII)[B"⟩ : MethodName) jdk_52_method_16_code 6 (some (.array .byte)) ({ frames := 1, cells := 1, slots := 1, locals := 18 } : Room) #[(.ref o0), (.int (0 : Int32)), (.int (1 : Int32))] h0 (fun v h => ∃ b2 : Addr, v = some (.ref b2) ∧ Keep h0 h [] ∧ h0.size ≤ b2 ∧ Exa Z h b2 "[B" ∧ Sta Z h "java/lang/String" "COMPACT_STRINGS" "Z" (.int x0) ∧ Fa Z h b2 .byte 1 (up (fun _ => (.int (0 : Int32))) 0 (.int (nar .byte (x1.toInt8.toInt32))))) := by
  refine Met.of (plainFor_of_name pn_2) #[.val (.ref o0), .val (.int (0 : Int32)), .val (.int (1 : Int32)), .unset, .unset, .unset] (fun m => by first | (simp [entryFrame, mkF, argsToLocals, Value.category]; done) | rfl) ?_
  intro p e s m below meth c C
  refine Wk.st (g' := (mkF m 1 #[.val (.ref o0), .val (.int (0 : Int32)), .val (.int (1 : Int32)), .unset, .unset, .unset] [(.int (1 : Int32))])) (fun X t q => XS.iloadN X.here C.hx rfl (hb C.hby d5_0) rfl q) ?_
  refine Wk.fNewP C (hw _ (List.mem_of_getElem? (i := 23) rfl)) (ty := .byte) (dv := (.int (0 : Int32))) (N := 1) (ad := "[B") rfl rfl (by decide) (by decide) (by decide) (cap := 1) (by decide) (by decide) d5_1 (by decide) (by decide) ?_
  intro h1 b2 g3 E4 A5 F6
  have ne7 : o0 ≠ b2 := Nat.ne_of_lt (Nat.lt_of_lt_of_le P1.lt (Nat.le_of_eq g3.symm))
  have ge8 : n0 ≤ b2 := Nat.le_trans hsz (Nat.le_of_eq g3.symm)
  have gz9 : h0.size ≤ b2 := Nat.le_trans (Nat.le_refl h0.size) (Nat.le_of_eq g3.symm)
  have F10 : Sta Z h1 "java/lang/String" "COMPACT_STRINGS" "Z" (.int x0) := P0.ext E4
  have F11 : Exa Z h1 o0 "[C" := P1.ext E4
  have F12 : Fa Z h1 o0 .char 1 (up (fun _ => (.int (0 : Int32))) 0 (.int x1)) := P2.ext E4
  have sz13 : n0 ≤ h1.size := Nat.le_trans hsz E4.1
  have sy14 : h0.size ≤ h1.size := Nat.le_trans (Nat.le_refl h0.size) E4.1
  have K15 := (Keep.refl h0 []).ext E4
  show Wk _ p l e _ s m _ below meth c n0 _ h1 1 1 (mkF m 3 #[.val (.ref o0), .val (.int (0 : Int32)), .val (.int (1 : Int32)), .unset, .unset, .unset] [(.ref b2)])
  refine Wk.st (g' := (mkF m 4 #[.val (.ref o0), .val (.int (0 : Int32)), .val (.int (1 : Int32)), .val (.ref b2), .unset, .unset] [])) (fun X t q => XS.astoreN X.here C.hx rfl (hb C.hby d5_3) rfl rfl (l' := #[.val (.ref o0), .val (.int (0 : Int32)), .val (.int (1 : Int32)), .val (.ref b2), .unset, .unset]) rfl q) ?_
  refine Wk.st (g' := (mkF m 5 #[.val (.ref o0), .val (.int (0 : Int32)), .val (.int (1 : Int32)), .val (.ref b2), .unset, .unset] [(.ref o0)])) (fun X t q => XS.aloadN X.here C.hx rfl (hb C.hby d5_4) rfl rfl q) ?_
  refine Wk.st (g' := (mkF m 6 #[.val (.ref o0), .val (.int (0 : Int32)), .val (.int (1 : Int32)), .val (.ref b2), .unset, .unset] [(.int (0 : Int32)), (.ref o0)])) (fun X t q => XS.iloadN X.here C.hx rfl (hb C.hby d5_5) rfl q) ?_
  refine Wk.st (g' := (mkF m 7 #[.val (.ref o0), .val (.int (0 : Int32)), .val (.int (1 : Int32)), .val (.ref b2), .unset, .unset] [(.ref b2), (.int (0 : Int32)), (.ref o0)])) (fun X t q => XS.aloadN X.here C.hx rfl (hb C.hby d5_6) rfl rfl q) ?_
  refine Wk.st (g' := (mkF m 8 #[.val (.ref o0), .val (.int (0 : Int32)), .val (.int (1 : Int32)), .val (.ref b2), .unset, .unset] [(.int (0 : Int32)), (.ref b2), (.int (0 : Int32)), (.ref o0)])) (fun X t q => XS.iconst X.here C.hx rfl (hb C.hby d5_7) q) ?_
  refine Wk.st (g' := (mkF m 9 #[.val (.ref o0), .val (.int (0 : Int32)), .val (.int (1 : Int32)), .val (.ref b2), .unset, .unset] [(.int (1 : Int32)), (.int (0 : Int32)), (.ref b2), (.int (0 : Int32)), (.ref o0)])) (fun X t q => XS.iloadN X.here C.hx rfl (hb C.hby d5_8) rfl q) ?_
  refine Wk.callS C (z := (⟨"java/lang/StringUTF16", "compress", "([CI[BII)I"⟩ : MethodName)) (hw _ (List.mem_of_getElem? (i := 24) rfl)) (hw _ (List.mem_of_getElem? (i := 25) rfl)) (hw _ (List.mem_of_getElem? (i := 21) rfl)) (hw _ (List.mem_of_getElem? (i := 26) rfl)) (by decide) (own_6_1 l Z a0 hw n0 h1 sz13 o0 b2 x0 x1 F10 F11 F12 A5 F6 ne7 G_o0 ge8 lat_x1 nz_x0) (w := 0) (by decide) (by decide) pd_4 rfl (rest := []) rfl rfl (Nat.le_of_eq rfl) (by decide) (by decide) d5_9 ?_
  rintro _ h17 ⟨rfl, K18, F19, F20⟩
  show Wk _ p l e _ s m _ below meth c n0 _ h17 1 1 (mkF m 12 #[.val (.ref o0), .val (.int (0 : Int32)), .val (.int (1 : Int32)), .val (.ref b2), .unset, .unset] [(.int (1 : Int32))])
  have F21 : Exa Z h17 o0 "[C" := F11.keep K18
  have F22 : Fa Z h17 o0 .char 1 (up (fun _ => (.int (0 : Int32))) 0 (.int x1)) := F12.keep K18 (nmS ne7 nm0)
  have F23 : Exa Z h17 b2 "[B" := A5.keep K18
  have sz24 : n0 ≤ h17.size := Nat.le_trans sz13 K18.1
  have K25 := K15.trans K18 (nvS (Or.inr gz9) nv0)
  have sy26 : h0.size ≤ h17.size := Nat.le_trans sy14 K18.1
  refine Wk.st (g' := (mkF m 14 #[.val (.ref o0), .val (.int (0 : Int32)), .val (.int (1 : Int32)), .val (.ref b2), .val (.int (1 : Int32)), .unset] [])) (fun X t q => XS.istore X.here C.hx rfl (hb C.hby d5_12) rfl (l' := #[.val (.ref o0), .val (.int (0 : Int32)), .val (.int (1 : Int32)), .val (.ref b2), .val (.int (1 : Int32)), .unset]) rfl q) ?_
  refine Wk.st (g' := (mkF m 16 #[.val (.ref o0), .val (.int (0 : Int32)), .val (.int (1 : Int32)), .val (.ref b2), .val (.int (1 : Int32)), .unset] [(.int (1 : Int32))])) (fun X t q => XS.iload X.here C.hx rfl (hb C.hby d5_14) rfl q) ?_
  refine Wk.st (g' := (mkF m 17 #[.val (.ref o0), .val (.int (0 : Int32)), .val (.int (1 : Int32)), .val (.ref b2), .val (.int (1 : Int32)), .unset] [(.int (1 : Int32)), (.int (1 : Int32))])) (fun X t q => XS.iloadN X.here C.hx rfl (hb C.hby d5_16) rfl q) ?_
  refine Wk.st (g' := (mkF m 57 #[.val (.ref o0), .val (.int (0 : Int32)), .val (.int (1 : Int32)), .val (.ref b2), .val (.int (1 : Int32)), .unset] [])) (fun X t q => XS.icmpYes X.here C.hx rfl (pc0 := 17) (pc' := 57) rfl (hb C.hby d5_17) rfl (XT.ii_eq_t (by decide)) (by decide) (by decide) q) ?_
  refine Wk.st (g' := (mkF m 58 #[.val (.ref o0), .val (.int (0 : Int32)), .val (.int (1 : Int32)), .val (.ref b2), .val (.int (1 : Int32)), .unset] [(.ref b2)])) (fun X t q => XS.aloadN X.here C.hx rfl (hb C.hby d5_57) rfl rfl q) ?_
  exact Wk.retV C (t := (.array .byte)) rfl rfl (Or.inr (Or.inr (Or.inr (Or.inr ⟨rfl, rfl, rfl⟩)))) d5_58 (by decide) (by decide) ⟨b2, rfl, K25, gz9, F23, F19, F20⟩
theorem d7_0 : decode jdk_52_method_15_code 0 = .ok (.iload_n 1, 1) := by decide +kernel
theorem d7_1 : decode jdk_52_method_15_code 1 = .ok (.aload_n 0, 1) := by decide +kernel
theorem d7_2 : decode jdk_52_method_15_code 2 = .ok (.arraylength, 1) := by decide +kernel
theorem d7_3 : decode jdk_52_method_15_code 3 = .ok (.isub, 1) := by decide +kernel
theorem d7_4 : decode jdk_52_method_15_code 4 = .ok (.bipush 31, 2) := by decide +kernel
theorem d7_6 : decode jdk_52_method_15_code 6 = .ok (.iushr, 1) := by decide +kernel
theorem d7_7 : decode jdk_52_method_15_code 7 = .ok (.i2b, 1) := by decide +kernel
theorem d7_8 : decode jdk_52_method_15_code 8 = .ok (.ireturn, 1) := by decide +kernel
set_option maxRecDepth 65536 in
set_option maxHeartbeats 40000000 in
theorem own_7_3 (l : Launch) (Z : State) (a0 : Array Value) (hw : ∀ d ∈ tables_1, d.before a0 Z = true) (n0 : Nat) (h0 : Heap) (hsz : n0 ≤ h0.size) (o0 : Addr) (x0 : Int32) (x1 : Int32) (P0 : Exa Z h0 o0 "[B") (P1 : Sta Z h0 "java/lang/String" "COMPACT_STRINGS" "Z" (.int x0)) (P2 : Fa Z h0 o0 .byte 1 (up (fun _ => (.int (0 : Int32))) 0 (.int x1))) (G_o0 : n0 ≤ o0) (nz_x0 : ¬ x0 = (0 : Int32)) :
    Met true l Z n0 (⟨"java/lang/StringUTF16", "coderFromArrayLen", "([BI)B"⟩ : MethodName) jdk_52_method_15_code 2 (some .byte) ({ frames := 0, cells := 0, slots := 0, locals := 0 } : Room) #[(.ref o0), (.int (1 : Int32))] h0 (fun v h => v = some (.int (0 : Int32)) ∧ h0 = h) := by
  refine Met.of (plainFor_of_name pn_2) #[.val (.ref o0), .val (.int (1 : Int32))] (fun m => by first | (simp [entryFrame, mkF, argsToLocals, Value.category]; done) | rfl) ?_
  intro p e s m below meth c C
  refine Wk.st (g' := (mkF m 1 #[.val (.ref o0), .val (.int (1 : Int32))] [(.int (1 : Int32))])) (fun X t q => XS.iloadN X.here C.hx rfl (hb C.hby d7_0) rfl q) ?_
  refine Wk.st (g' := (mkF m 2 #[.val (.ref o0), .val (.int (1 : Int32))] [(.ref o0), (.int (1 : Int32))])) (fun X t q => XS.aloadN X.here C.hx rfl (hb C.hby d7_1) rfl rfl q) ?_
  refine Wk.fLen C P2 (z := (1 : Int32)) (by decide) d7_2 ?_
  show Wk _ p l e _ s m _ below meth c n0 _ h0 0 0 (mkF m 3 #[.val (.ref o0), .val (.int (1 : Int32))] [(.int (1 : Int32)), (.int (1 : Int32))])
  refine Wk.st (g' := (mkF m 4 #[.val (.ref o0), .val (.int (1 : Int32))] [(.int (0 : Int32))])) (fun X t q => XS.isub X.here C.hx rfl (hb C.hby d7_3) rfl q) ?_
  refine Wk.st (g' := (mkF m 6 #[.val (.ref o0), .val (.int (1 : Int32))] [(.int (31 : Int32)), (.int (0 : Int32))])) (fun X t q => XS.bipush X.here C.hx rfl (hb C.hby d7_4) q) ?_
  refine Wk.st (g' := (mkF m 7 #[.val (.ref o0), .val (.int (1 : Int32))] [(.int (0 : Int32))])) (fun X t q => XS.iushr X.here C.hx rfl (hb C.hby d7_6) rfl q) ?_
  refine Wk.st (g' := (mkF m 8 #[.val (.ref o0), .val (.int (1 : Int32))] [(.int (0 : Int32))])) (fun X t q => XS.i2b X.here C.hx rfl (hb C.hby d7_7) rfl q) ?_
  exact Wk.retV C (t := .byte) rfl rfl (Or.inl ⟨rfl, by simp, _, rfl⟩) d7_8 (by decide) (by decide) ⟨rfl, rfl⟩
set_option maxRecDepth 65536 in
set_option maxHeartbeats 40000000 in
theorem own_3_1 (l : Launch) (Z : State) (a0 : Array Value) (hw : ∀ d ∈ tables_1, d.before a0 Z = true) (n0 : Nat) (h0 : Heap) (hsz : n0 ≤ h0.size) (o0 : Addr) (o1 : Addr) (x0 : Int32) (x1 : Int32) (P0 : Sta Z h0 "java/lang/String" "COMPACT_STRINGS" "Z" (.int x0)) (P1 : Exa Z h0 o1 "[C") (P2 : Fa Z h0 o1 .char 1 (up (fun _ => (.int (0 : Int32))) 0 (.int x1))) (P3 : Exa Z h0 o0 "java/lang/String") (P4 : Fld Z h0 o0 "java/lang/String" "coder" "B" (.int (0 : Int32))) (P5 : Fld Z h0 o0 "java/lang/String" "value" "[B" .null) (N_o0_o1 : o0 ≠ o1) (G_o0 : n0 ≤ o0) (G_o1 : n0 ≤ o1) (lat_x1 : ¬ (255 : Int32) < x1) (nz_x0 : ¬ x0 = (0 : Int32)) :
    Met true l Z n0 (⟨"java/lang/String", "<init>", "([CIILjava/lang/Void;)V"⟩ : MethodName) jdk_42_method_149_code 6 none ({ frames := 2, cells := 1, slots := 1, locals := 35 } : Room) #[(.ref o0), (.ref o1), (.int (0 : Int32)), (.int (1 : Int32)), .null] h0 (fun v h => ∃ n1_b2 : Addr, v = none ∧ Keep h0 h [o0] ∧ h0.size ≤ n1_b2 ∧ Exa Z h n1_b2 "[B" ∧ Sta Z h "java/lang/String" "COMPACT_STRINGS" "Z" (.int x0) ∧ Fa Z h n1_b2 .byte 1 (up (fun _ => (.int (0 : Int32))) 0 (.int (nar .byte (x1.toInt8.toInt32)))) ∧ Fld Z h o0 "java/lang/String" "coder" "B" (.int (0 : Int32)) ∧ Fld Z h o0 "java/lang/String" "value" "[B" (.ref n1_b2)) := by
  refine Met.of (plainFor_of_name pn_0) #[.val (.ref o0), .val (.ref o1), .val (.int (0 : Int32)), .val (.int (1 : Int32)), .val .null, .unset] (fun m => by first | (simp [entryFrame, mkF, argsToLocals, Value.category]; done) | rfl) ?_
  intro p e s m below meth c C
  refine Wk.st (g' := (mkF m 1 #[.val (.ref o0), .val (.ref o1), .val (.int (0 : Int32)), .val (.int (1 : Int32)), .val .null, .unset] [(.ref o0)])) (fun X t q => XS.aloadN X.here C.hx rfl (hb C.hby d3_0) rfl rfl q) ?_
  refine Wk.initO C (hw _ (List.mem_of_getElem? (i := 15) rfl)) (hw _ (List.mem_of_getElem? (i := 16) rfl)) (hw _ (List.mem_of_getElem? (i := 17) rfl)) (w := 0) rfl d3_1 (by decide) (Nat.le_of_eq rfl) (by decide) ?_
  show Wk _ p l e _ s m _ below meth c n0 _ h0 0 0 (mkF m 4 #[.val (.ref o0), .val (.ref o1), .val (.int (0 : Int32)), .val (.int (1 : Int32)), .val .null, .unset] [])
  refine Wk.st (g' := (mkF m 5 #[.val (.ref o0), .val (.ref o1), .val (.int (0 : Int32)), .val (.int (1 : Int32)), .val .null, .unset] [(.int (1 : Int32))])) (fun X t q => XS.iloadN X.here C.hx rfl (hb C.hby d3_4) rfl q) ?_
  refine Wk.st (g' := (mkF m 27 #[.val (.ref o0), .val (.ref o1), .val (.int (0 : Int32)), .val (.int (1 : Int32)), .val .null, .unset] [])) (fun X t q => XS.ifYes X.here C.hx rfl (pc0 := 5) (pc' := 27) rfl (hb C.hby d3_5) rfl (XT.i0_ne_t (by decide)) (by decide) (by decide) q) ?_
  refine Wk.getS C (hw _ (List.mem_of_getElem? (i := 18) rfl)) P0 d3_27 ?_
  show Wk _ p l e _ s m _ below meth c n0 _ h0 0 0 (mkF m 30 #[.val (.ref o0), .val (.ref o1), .val (.int (0 : Int32)), .val (.int (1 : Int32)), .val .null, .unset] [(.int x0)])
  refine Wk.st (g' := (mkF m 33 #[.val (.ref o0), .val (.ref o1), .val (.int (0 : Int32)), .val (.int (1 : Int32)), .val .null, .unset] [])) (fun X t q => XS.ifNo X.here C.hx rfl (hb C.hby d3_30) rfl (XT.i0_eq_f nz_x0) q) ?_
  refine Wk.st (g' := (mkF m 34 #[.val (.ref o0), .val (.ref o1), .val (.int (0 : Int32)), .val (.int (1 : Int32)), .val .null, .unset] [(.ref o1)])) (fun X t q => XS.aloadN X.here C.hx rfl (hb C.hby d3_33) rfl rfl q) ?_
  refine Wk.st (g' := (mkF m 35 #[.val (.ref o0), .val (.ref o1), .val (.int (0 : Int32)), .val (.int (1 : Int32)), .val .null, .unset] [(.int (0 : Int32)), (.ref o1)])) (fun X t q => XS.iloadN X.here C.hx rfl (hb C.hby d3_34) rfl q) ?_
  refine Wk.st (g' := (mkF m 36 #[.val (.ref o0), .val (.ref o1), .val (.int (0 : Int32)), .val (.int (1 : Int32)), .val .null, .unset] [(.int (1 : Int32)), (.int (0 : Int32)), (.ref o1)])) (fun X t q => XS.iloadN X.here C.hx rfl (hb C.hby d3_35) rfl q) ?_
  refine Wk.callS C (z := (⟨"java/lang/StringUTF16", "compress", "([CII)[B"⟩ : MethodName)) (hw _ (List.mem_of_getElem? (i := 19) rfl)) (hw _ (List.mem_of_getElem? (i := 20) rfl)) (hw _ (List.mem_of_getElem? (i := 21) rfl)) (hw _ (List.mem_of_getElem? (i := 22) rfl)) (by decide) (own_5_1 l Z a0 hw n0 h0 hsz o1 x0 x1 P0 P1 P2  G_o1 lat_x1 nz_x0) (w := 0) (by decide) (by decide) pd_3 rfl (rest := []) rfl rfl (Nat.le_of_eq rfl) (by decide) (by decide) d3_36 ?_
  rintro _ h2 ⟨n1_b2, rfl, K3, gn7, F4, F5, F6⟩
  show Wk _ p l e _ s m _ below meth c n0 _ h2 1 1 (mkF m 39 #[.val (.ref o0), .val (.ref o1), .val (.int (0 : Int32)), .val (.int (1 : Int32)), .val .null, .unset] [(.ref n1_b2)])
  have ne8 : o1 ≠ n1_b2 := Nat.ne_of_lt (Nat.lt_of_lt_of_le P1.lt gn7)
  have ne9 : o0 ≠ n1_b2 := Nat.ne_of_lt (Nat.lt_of_lt_of_le P3.lt gn7)
  have ge10 : n0 ≤ n1_b2 := Nat.le_trans hsz gn7
  have gz11 : h0.size ≤ n1_b2 := Nat.le_trans (Nat.le_refl h0.size) gn7
  have F12 : Exa Z h2 o1 "[C" := P1.keep K3
  have F13 : Fa Z h2 o1 .char 1 (up (fun _ => (.int (0 : Int32))) 0 (.int x1)) := P2.keep K3 nm0
  have F14 : Exa Z h2 o0 "java/lang/String" := P3.keep K3
  have F15 : Fld Z h2 o0 "java/lang/String" "coder" "B" (.int (0 : Int32)) := P4.keep K3 nm0
  have F16 : Fld Z h2 o0 "java/lang/String" "value" "[B" .null := P5.keep K3 nm0
  have sz17 : n0 ≤ h2.size := Nat.le_trans hsz K3.1
  have K18 := (Keep.refl h0 [o0]).trans K3 nv0
  have sy19 : h0.size ≤ h2.size := Nat.le_trans (Nat.le_refl h0.size) K3.1
  refine Wk.st (g' := (mkF m 41 #[.val (.ref o0), .val (.ref o1), .val (.int (0 : Int32)), .val (.int (1 : Int32)), .val .null, .val (.ref n1_b2)] [])) (fun X t q => XS.astore X.here C.hx rfl (hb C.hby d3_39) rfl rfl (l' := #[.val (.ref o0), .val (.ref o1), .val (.int (0 : Int32)), .val (.int (1 : Int32)), .val .null, .val (.ref n1_b2)]) rfl q) ?_
  refine Wk.st (g' := (mkF m 42 #[.val (.ref o0), .val (.ref o1), .val (.int (0 : Int32)), .val (.int (1 : Int32)), .val .null, .val (.ref n1_b2)] [(.ref o0)])) (fun X t q => XS.aloadN X.here C.hx rfl (hb C.hby d3_41) rfl rfl q) ?_
  refine Wk.st (g' := (mkF m 44 #[.val (.ref o0), .val (.ref o1), .val (.int (0 : Int32)), .val (.int (1 : Int32)), .val .null, .val (.ref n1_b2)] [(.ref n1_b2), (.ref o0)])) (fun X t q => XS.aload X.here C.hx rfl (hb C.hby d3_42) rfl rfl q) ?_
  refine Wk.st (g' := (mkF m 45 #[.val (.ref o0), .val (.ref o1), .val (.int (0 : Int32)), .val (.int (1 : Int32)), .val .null, .val (.ref n1_b2)] [(.int (1 : Int32)), (.ref n1_b2), (.ref o0)])) (fun X t q => XS.iloadN X.here C.hx rfl (hb C.hby d3_44) rfl q) ?_
  refine Wk.callS C (z := (⟨"java/lang/StringUTF16", "coderFromArrayLen", "([BI)B"⟩ : MethodName)) (hw _ (List.mem_of_getElem? (i := 27) rfl)) (hw _ (List.mem_of_getElem? (i := 28) rfl)) (hw _ (List.mem_of_getElem? (i := 21) rfl)) (hw _ (List.mem_of_getElem? (i := 29) rfl)) (by decide) (own_7_3 l Z a0 hw n0 h2 sz17 n1_b2 x0 (nar .byte (x1.toInt8.toInt32)) F4 F5 F6  ge10 nz_x0) (w := 1) (by decide) (by decide) pd_5 rfl (rest := [(.ref o0)]) rfl rfl (Nat.le_of_eq rfl) (by decide) (by decide) d3_45 ?_
  rintro _ _ ⟨rfl, rfl⟩
  show Wk _ p l e _ s m _ below meth c n0 _ h2 1 1 (mkF m 48 #[.val (.ref o0), .val (.ref o1), .val (.int (0 : Int32)), .val (.int (1 : Int32)), .val .null, .val (.ref n1_b2)] [(.int (0 : Int32)), (.ref o0)])
  refine Wk.putF C (hw _ (List.mem_of_getElem? (i := 30) rfl)) Via.refl F15 F14 (Or.inr ⟨(hw _ (List.mem_of_getElem? (i := 31) rfl)), rfl, rfl⟩) (hw _ (List.mem_of_getElem? (i := 6) rfl)) (ty := .byte) (by decide) (v' := (.int (0 : Int32))) rfl (by decide) G_o0 d3_48 ?_
  intro h23 W24
  have F25 : Fld Z h23 o0 "java/lang/String" "coder" "B" (.int (0 : Int32)) := F15.same W24
  have F26 : Exa Z h23 o1 "[C" := F12.wr W24
  have F27 : Fa Z h23 o1 .char 1 (up (fun _ => (.int (0 : Int32))) 0 (.int x1)) := F13.other W24 (Ne.symm N_o0_o1)
  have F28 : Exa Z h23 o0 "java/lang/String" := F14.wr W24
  have F29 : Fld Z h23 o0 "java/lang/String" "value" "[B" .null := F16.other W24 (Or.inr (slot_ne (Or.inr (hw _ (List.mem_of_getElem? (i := 33) rfl))) (Or.inr (hw _ (List.mem_of_getElem? (i := 31) rfl))) (by decide) (t := (.array .byte)) (t' := .byte) (by decide) (by decide)))
  have F30 : Exa Z h23 n1_b2 "[B" := F4.wr W24
  have F31 : Sta Z h23 "java/lang/String" "COMPACT_STRINGS" "Z" (.int x0) := F5.wr W24
  have F32 : Fa Z h23 n1_b2 .byte 1 (up (fun _ => (.int (0 : Int32))) 0 (.int (nar .byte (x1.toInt8.toInt32)))) := F6.other W24 (Ne.symm ne9)
  have sz33 : n0 ≤ h23.size := Nat.le_trans sz17 (Nat.le_of_eq W24.size.symm)
  have sy34 : h0.size ≤ h23.size := Nat.le_trans sy19 (Nat.le_of_eq W24.size.symm)
  have K35 := K18.wr W24 (Or.inl (by simp))
  show Wk _ p l e _ s m _ below meth c n0 _ h23 1 1 (mkF m 51 #[.val (.ref o0), .val (.ref o1), .val (.int (0 : Int32)), .val (.int (1 : Int32)), .val .null, .val (.ref n1_b2)] [])
  refine Wk.st (g' := (mkF m 52 #[.val (.ref o0), .val (.ref o1), .val (.int (0 : Int32)), .val (.int (1 : Int32)), .val .null, .val (.ref n1_b2)] [(.ref o0)])) (fun X t q => XS.aloadN X.here C.hx rfl (hb C.hby d3_51) rfl rfl q) ?_
  refine Wk.st (g' := (mkF m 54 #[.val (.ref o0), .val (.ref o1), .val (.int (0 : Int32)), .val (.int (1 : Int32)), .val .null, .val (.ref n1_b2)] [(.ref n1_b2), (.ref o0)])) (fun X t q => XS.aload X.here C.hx rfl (hb C.hby d3_52) rfl rfl q) ?_
  refine Wk.putF C (hw _ (List.mem_of_getElem? (i := 32) rfl)) Via.refl F29 F28 (Or.inr ⟨(hw _ (List.mem_of_getElem? (i := 33) rfl)), rfl, rfl⟩) (hw _ (List.mem_of_getElem? (i := 6) rfl)) (ty := (.array .byte)) (by decide) (v' := (.ref n1_b2)) rfl rfl G_o0 d3_54 ?_
  intro h36 W37
  have F38 : Fld Z h36 o0 "java/lang/String" "value" "[B" (.ref n1_b2) := F29.same W37
  have F39 : Exa Z h36 o1 "[C" := F26.wr W37
  have F40 : Fa Z h36 o1 .char 1 (up (fun _ => (.int (0 : Int32))) 0 (.int x1)) := F27.other W37 (Ne.symm N_o0_o1)
  have F41 : Exa Z h36 o0 "java/lang/String" := F28.wr W37
  have F42 : Exa Z h36 n1_b2 "[B" := F30.wr W37
  have F43 : Sta Z h36 "java/lang/String" "COMPACT_STRINGS" "Z" (.int x0) := F31.wr W37
  have F44 : Fa Z h36 n1_b2 .byte 1 (up (fun _ => (.int (0 : Int32))) 0 (.int (nar .byte (x1.toInt8.toInt32)))) := F32.other W37 (Ne.symm ne9)
  have F45 : Fld Z h36 o0 "java/lang/String" "coder" "B" (.int (0 : Int32)) := F25.other W37 (Or.inr (slot_ne (Or.inr (hw _ (List.mem_of_getElem? (i := 31) rfl))) (Or.inr (hw _ (List.mem_of_getElem? (i := 33) rfl))) (by decide) (t := .byte) (t' := (.array .byte)) (by decide) (by decide)))
  have sz46 : n0 ≤ h36.size := Nat.le_trans sz33 (Nat.le_of_eq W37.size.symm)
  have sy47 : h0.size ≤ h36.size := Nat.le_trans sy34 (Nat.le_of_eq W37.size.symm)
  have K48 := K35.wr W37 (Or.inl (by simp))
  show Wk _ p l e _ s m _ below meth c n0 _ h36 1 1 (mkF m 57 #[.val (.ref o0), .val (.ref o1), .val (.int (0 : Int32)), .val (.int (1 : Int32)), .val .null, .val (.ref n1_b2)] [])
  exact Wk.retN0 C rfl d3_57 (by decide) (by decide) ⟨n1_b2, rfl, K48, gz11, F42, F43, F44, F45, F38⟩
set_option maxRecDepth 65536 in
set_option maxHeartbeats 40000000 in
theorem own_2_1 (l : Launch) (Z : State) (a0 : Array Value) (hw : ∀ d ∈ tables_1, d.before a0 Z = true) (n0 : Nat) (h0 : Heap) (hsz : n0 ≤ h0.size) (o0 : Addr) (o1 : Addr) (x0 : Int32) (x1 : Int32) (P0 : Sta Z h0 "java/lang/String" "COMPACT_STRINGS" "Z" (.int x0)) (P1 : Exa Z h0 o1 "[C") (P2 : Fa Z h0 o1 .char 1 (up (fun _ => (.int (0 : Int32))) 0 (.int x1))) (P3 : Exa Z h0 o0 "java/lang/String") (P4 : Fld Z h0 o0 "java/lang/String" "coder" "B" (.int (0 : Int32))) (P5 : Fld Z h0 o0 "java/lang/String" "value" "[B" .null) (N_o0_o1 : o0 ≠ o1) (G_o0 : n0 ≤ o0) (G_o1 : n0 ≤ o1) (lat_x1 : ¬ (255 : Int32) < x1) (nz_x0 : ¬ x0 = (0 : Int32)) :
    Met true l Z n0 (⟨"java/lang/String", "<init>", "([C)V"⟩ : MethodName) jdk_42_method_3_code 2 none ({ frames := 3, cells := 1, slots := 1, locals := 52 } : Room) #[(.ref o0), (.ref o1)] h0 (fun v h => ∃ n1_n1_b2 : Addr, v = none ∧ Keep h0 h [o0] ∧ h0.size ≤ n1_n1_b2 ∧ Exa Z h n1_n1_b2 "[B" ∧ Sta Z h "java/lang/String" "COMPACT_STRINGS" "Z" (.int x0) ∧ Fa Z h n1_n1_b2 .byte 1 (up (fun _ => (.int (0 : Int32))) 0 (.int (nar .byte (x1.toInt8.toInt32)))) ∧ Fld Z h o0 "java/lang/String" "coder" "B" (.int (0 : Int32)) ∧ Fld Z h o0 "java/lang/String" "value" "[B" (.ref n1_n1_b2)) := by
  refine Met.of (plainFor_of_name pn_0) #[.val (.ref o0), .val (.ref o1)] (fun m => by first | (simp [entryFrame, mkF, argsToLocals, Value.category]; done) | rfl) ?_
  intro p e s m below meth c C
  refine Wk.st (g' := (mkF m 1 #[.val (.ref o0), .val (.ref o1)] [(.ref o0)])) (fun X t q => XS.aloadN X.here C.hx rfl (hb C.hby d2_0) rfl rfl q) ?_
  refine Wk.st (g' := (mkF m 2 #[.val (.ref o0), .val (.ref o1)] [(.ref o1), (.ref o0)])) (fun X t q => XS.aloadN X.here C.hx rfl (hb C.hby d2_1) rfl rfl q) ?_
  refine Wk.st (g' := (mkF m 3 #[.val (.ref o0), .val (.ref o1)] [(.int (0 : Int32)), (.ref o1), (.ref o0)])) (fun X t q => XS.iconst X.here C.hx rfl (hb C.hby d2_2) q) ?_
  refine Wk.st (g' := (mkF m 4 #[.val (.ref o0), .val (.ref o1)] [(.ref o1), (.int (0 : Int32)), (.ref o1), (.ref o0)])) (fun X t q => XS.aloadN X.here C.hx rfl (hb C.hby d2_3) rfl rfl q) ?_
  refine Wk.fLen C P2 (z := (1 : Int32)) (by decide) d2_4 ?_
  show Wk _ p l e _ s m _ below meth c n0 _ h0 0 0 (mkF m 5 #[.val (.ref o0), .val (.ref o1)] [(.int (1 : Int32)), (.int (0 : Int32)), (.ref o1), (.ref o0)])
  refine Wk.st (g' := (mkF m 6 #[.val (.ref o0), .val (.ref o1)] [.null, (.int (1 : Int32)), (.int (0 : Int32)), (.ref o1), (.ref o0)])) (fun X t q => XS.aconstNull X.here C.hx rfl (hb C.hby d2_5) q) ?_
  refine Wk.callI C (z := (⟨"java/lang/String", "<init>", "([CIILjava/lang/Void;)V"⟩ : MethodName)) rfl (hw _ (List.mem_of_getElem? (i := 11) rfl)) (hw _ (List.mem_of_getElem? (i := 12) rfl)) (hw _ (List.mem_of_getElem? (i := 7) rfl)) (hw _ (List.mem_of_getElem? (i := 14) rfl)) (by decide) (own_3_1 l Z a0 hw n0 h0 hsz o0 o1 x0 x1 P0 P1 P2 P3 P4 P5 N_o0_o1 G_o0 G_o1 lat_x1 nz_x0) (w := 0) (by decide) (by decide) pd_0 rfl (rest := []) rfl rfl (Nat.le_of_eq rfl) (by decide) (by decide) d2_6 ?_
  rintro _ h2 ⟨n1_n1_b2, rfl, K3, gn9, F4, F5, F6, F7, F8⟩
  show Wk _ p l e _ s m _ below meth c n0 _ h2 1 1 (mkF m 9 #[.val (.ref o0), .val (.ref o1)] [])
  have ne10 : o1 ≠ n1_n1_b2 := Nat.ne_of_lt (Nat.lt_of_lt_of_le P1.lt gn9)
  have ne11 : o0 ≠ n1_n1_b2 := Nat.ne_of_lt (Nat.lt_of_lt_of_le P3.lt gn9)
  have ge12 : n0 ≤ n1_n1_b2 := Nat.le_trans hsz gn9
  have gz13 : h0.size ≤ n1_n1_b2 := Nat.le_trans (Nat.le_refl h0.size) gn9
  have F14 : Exa Z h2 o1 "[C" := P1.keep K3
  have F15 : Fa Z h2 o1 .char 1 (up (fun _ => (.int (0 : Int32))) 0 (.int x1)) := P2.keep K3 (nmS (Ne.symm N_o0_o1) nm0)
  have F16 : Exa Z h2 o0 "java/lang/String" := P3.keep K3
  have sz17 : n0 ≤ h2.size := Nat.le_trans hsz K3.1
  have K18 := (Keep.refl h0 [o0]).trans K3 (nvS (Or.inl (by simp)) nv0)
  have sy19 : h0.size ≤ h2.size := Nat.le_trans (Nat.le_refl h0.size) K3.1
  exact Wk.retN0 C rfl d2_9 (by decide) (by decide) ⟨n1_n1_b2, rfl, K18, gz13, F4, F5, F6, F7, F8⟩
theorem d9_0 : decode jdk_43_method_3_code 0 = .ok (.iload_n 0, 1) := by decide +kernel
theorem d9_1 : decode jdk_43_method_3_code 1 = .ok (.sipush 255, 3) := by decide +kernel
theorem d9_4 : decode jdk_43_method_3_code 4 = .ok (.if_icmp .gt 7, 3) := by decide +kernel
theorem d9_7 : decode jdk_43_method_3_code 7 = .ok (.iconst 1, 1) := by decide +kernel
theorem d9_8 : decode jdk_43_method_3_code 8 = .ok (.goto 4, 3) := by decide +kernel
theorem d9_11 : decode jdk_43_method_3_code 11 = .ok (.iconst 0, 1) := by decide +kernel
theorem d9_12 : decode jdk_43_method_3_code 12 = .ok (.ireturn, 1) := by decide +kernel
set_option maxRecDepth 65536 in
set_option maxHeartbeats 40000000 in
theorem own_9_6 (l : Launch) (Z : State) (a0 : Array Value) (hw : ∀ d ∈ tables_1, d.before a0 Z = true) (n0 : Nat) (h0 : Heap) (hsz : n0 ≤ h0.size) (x0 : Int32) (x1 : Int32) (P0 : Sta Z h0 "java/lang/String" "COMPACT_STRINGS" "Z" (.int x1)) (lat_x0 : ¬ (255 : Int32) < x0) (nz_x1 : ¬ x1 = (0 : Int32)) :
    Met true l Z n0 (⟨"java/lang/StringLatin1", "canEncode", "(C)Z"⟩ : MethodName) jdk_43_method_3_code 1 (some .boolean) ({ frames := 0, cells := 0, slots := 0, locals := 0 } : Room) #[(.int x0)] h0 (fun v h => v = some (.int (1 : Int32)) ∧ h0 = h) := by
  refine Met.of (plainFor_of_name pn_3) #[.val (.int x0)] (fun m => by first | (simp [entryFrame, mkF, argsToLocals, Value.category]; done) | rfl) ?_
  intro p e s m below meth c C
  refine Wk.st (g' := (mkF m 1 #[.val (.int x0)] [(.int x0)])) (fun X t q => XS.iloadN X.here C.hx rfl (hb C.hby d9_0) rfl q) ?_
  refine Wk.st (g' := (mkF m 4 #[.val (.int x0)] [(.int (255 : Int32)), (.int x0)])) (fun X t q => XS.sipush X.here C.hx rfl (hb C.hby d9_1) q) ?_
  refine Wk.st (g' := (mkF m 7 #[.val (.int x0)] [])) (fun X t q => XS.icmpNo X.here C.hx rfl (hb C.hby d9_4) rfl (XT.ii_gt_f lat_x0) q) ?_
  refine Wk.st (g' := (mkF m 8 #[.val (.int x0)] [(.int (1 : Int32))])) (fun X t q => XS.iconst X.here C.hx rfl (hb C.hby d9_7) q) ?_
  refine Wk.st (g' := (mkF m 12 #[.val (.int x0)] [(.int (1 : Int32))])) (fun X t q => XS.goto X.here C.hx rfl (pc0 := 8) (pc' := 12) rfl (hb C.hby d9_8) (by decide) (by decide) q) ?_
  exact Wk.retV C (t := .boolean) rfl rfl (Or.inl ⟨rfl, by simp, _, rfl⟩) d9_12 (by decide) (by decide) ⟨rfl, rfl⟩
theorem d10_0 : decode jdk_43_method_46_code 0 = .ok (.iconst 1, 1) := by decide +kernel
theorem d10_1 : decode jdk_43_method_46_code 1 = .ok (.newarray .byte, 2) := by decide +kernel
theorem d10_3 : decode jdk_43_method_46_code 3 = .ok (.dup, 1) := by decide +kernel
theorem d10_4 : decode jdk_43_method_46_code 4 = .ok (.iconst 0, 1) := by decide +kernel
theorem d10_5 : decode jdk_43_method_46_code 5 = .ok (.iload_n 0, 1) := by decide +kernel
theorem d10_6 : decode jdk_43_method_46_code 6 = .ok (.i2b, 1) := by decide +kernel
theorem d10_7 : decode jdk_43_method_46_code 7 = .ok (.bastore, 1) := by decide +kernel
theorem d10_8 : decode jdk_43_method_46_code 8 = .ok (.areturn, 1) := by decide +kernel
set_option maxRecDepth 65536 in
set_option maxHeartbeats 40000000 in
theorem own_10_7 (l : Launch) (Z : State) (a0 : Array Value) (hw : ∀ d ∈ tables_1, d.before a0 Z = true) (n0 : Nat) (h0 : Heap) (hsz : n0 ≤ h0.size) (x0 : Int32) (x1 : Int32) (P0 : Sta Z h0 "java/lang/String" "COMPACT_STRINGS" "Z" (.int x1)) (lat_x0 : ¬ (255 : Int32) < x0) (nz_x1 : ¬ x1 = (0 : Int32)) :
    Met true l Z n0 (⟨"java/lang/StringLatin1", "toBytes", "(C)[B"⟩ : MethodName) jdk_43_method_46_code 1 (some (.array .byte)) ({ frames := 0, cells := 1, slots := 1, locals := 0 } : Room) #[(.int x0)] h0 (fun v h => ∃ b2 : Addr, v = some (.ref b2) ∧ Keep h0 h [] ∧ h0.size ≤ b2 ∧ Sta Z h "java/lang/String" "COMPACT_STRINGS" "Z" (.int x1) ∧ Exa Z h b2 "[B" ∧ Fa Z h b2 .byte 1 (up (fun _ => (.int (0 : Int32))) 0 (.int (nar .byte (x0.toInt8.toInt32))))) := by
  refine Met.of (plainFor_of_name pn_3) #[.val (.int x0)] (fun m => by first | (simp [entryFrame, mkF, argsToLocals, Value.category]; done) | rfl) ?_
  intro p e s m below meth c C
  refine Wk.st (g' := (mkF m 1 #[.val (.int x0)] [(.int (1 : Int32))])) (fun X t q => XS.iconst X.here C.hx rfl (hb C.hby d10_0) q) ?_
  refine Wk.fNewP C (hw _ (List.mem_of_getElem? (i := 23) rfl)) (ty := .byte) (dv := (.int (0 : Int32))) (N := 1) (ad := "[B") rfl rfl (by decide) (by decide) (by decide) (cap := 1) (by decide) (by decide) d10_1 (by decide) (by decide) ?_
  intro h1 b2 g3 E4 A5 F6
  have ge7 : n0 ≤ b2 := Nat.le_trans hsz (Nat.le_of_eq g3.symm)
  have gz8 : h0.size ≤ b2 := Nat.le_trans (Nat.le_refl h0.size) (Nat.le_of_eq g3.symm)
  have F9 : Sta Z h1 "java/lang/String" "COMPACT_STRINGS" "Z" (.int x1) := P0.ext E4
  have sz10 : n0 ≤ h1.size := Nat.le_trans hsz E4.1
  have sy11 : h0.size ≤ h1.size := Nat.le_trans (Nat.le_refl h0.size) E4.1
  have K12 := (Keep.refl h0 []).ext E4
  show Wk _ p l e _ s m _ below meth c n0 _ h1 1 1 (mkF m 3 #[.val (.int x0)] [(.ref b2)])
  refine Wk.st (g' := (mkF m 4 #[.val (.int x0)] [(.ref b2), (.ref b2)])) (fun X t q => XS.dup X.here C.hx rfl (hb C.hby d10_3) rfl rfl q) ?_
  refine Wk.st (g' := (mkF m 5 #[.val (.int x0)] [(.int (0 : Int32)), (.ref b2), (.ref b2)])) (fun X t q => XS.iconst X.here C.hx rfl (hb C.hby d10_4) q) ?_
  refine Wk.st (g' := (mkF m 6 #[.val (.int x0)] [(.int x0), (.int (0 : Int32)), (.ref b2), (.ref b2)])) (fun X t q => XS.iloadN X.here C.hx rfl (hb C.hby d10_5) rfl q) ?_
  refine Wk.st (g' := (mkF m 7 #[.val (.int x0)] [(.int (x0.toInt8.toInt32)), (.int (0 : Int32)), (.ref b2), (.ref b2)])) (fun X t q => XS.i2b X.here C.hx rfl (hb C.hby d10_6) rfl q) ?_
  refine Wk.fStB C F6 (x' := (nar .byte (x0.toInt8.toInt32))) rfl (i := 0) (by decide) (by decide) (by decide) ge7 d10_7 ?_
  intro h13 W14 F15
  have F16 : Sta Z h13 "java/lang/String" "COMPACT_STRINGS" "Z" (.int x1) := F9.wr W14
  have F17 : Exa Z h13 b2 "[B" := A5.wr W14
  have sz18 : n0 ≤ h13.size := Nat.le_trans sz10 (Nat.le_of_eq W14.size.symm)
  have sy19 : h0.size ≤ h13.size := Nat.le_trans sy11 (Nat.le_of_eq W14.size.symm)
  have K20 := K12.wr W14 (Or.inr gz8)
  show Wk _ p l e _ s m _ below meth c n0 _ h13 1 1 (mkF m 8 #[.val (.int x0)] [(.ref b2)])
  exact Wk.retV C (t := (.array .byte)) rfl rfl (Or.inr (Or.inr (Or.inr (Or.inr ⟨rfl, rfl, rfl⟩)))) d10_8 (by decide) (by decide) ⟨b2, rfl, K20, gz8, F16, F17, F15⟩
theorem d11_0 : decode jdk_42_method_151_code 0 = .ok (.aload_n 0, 1) := by decide +kernel
theorem d11_1 : decode jdk_42_method_151_code 1 = .ok (.invokespecial 1, 3) := by decide +kernel
theorem d11_4 : decode jdk_42_method_151_code 4 = .ok (.aload_n 0, 1) := by decide +kernel
theorem d11_5 : decode jdk_42_method_151_code 5 = .ok (.aload_n 1, 1) := by decide +kernel
theorem d11_6 : decode jdk_42_method_151_code 6 = .ok (.putfield 9, 3) := by decide +kernel
theorem d11_9 : decode jdk_42_method_151_code 9 = .ok (.aload_n 0, 1) := by decide +kernel
theorem d11_10 : decode jdk_42_method_151_code 10 = .ok (.iload_n 2, 1) := by decide +kernel
theorem d11_11 : decode jdk_42_method_151_code 11 = .ok (.putfield 15, 3) := by decide +kernel
theorem d11_14 : decode jdk_42_method_151_code 14 = .ok (.return_, 1) := by decide +kernel
set_option maxRecDepth 65536 in
set_option maxHeartbeats 40000000 in
theorem own_11_8 (l : Launch) (Z : State) (a0 : Array Value) (hw : ∀ d ∈ tables_1, d.before a0 Z = true) (n0 : Nat) (h0 : Heap) (hsz : n0 ≤ h0.size) (o0 : Addr) (o1 : Addr) (x0 : Int32) (x1 : Int32) (P0 : Exa Z h0 o0 "java/lang/String") (P1 : Fld Z h0 o0 "java/lang/String" "coder" "B" (.int (0 : Int32))) (P2 : Fld Z h0 o0 "java/lang/String" "value" "[B" .null) (P3 : Sta Z h0 "java/lang/String" "COMPACT_STRINGS" "Z" (.int x0)) (P4 : Exa Z h0 o1 "[B") (P5 : Fa Z h0 o1 .byte 1 (up (fun _ => (.int (0 : Int32))) 0 (.int x1))) (N_o0_o1 : o0 ≠ o1) (G_o0 : n0 ≤ o0) (G_o1 : n0 ≤ o1) (nz_x0 : ¬ x0 = (0 : Int32)) :
    Met true l Z n0 (⟨"java/lang/String", "<init>", "([BB)V"⟩ : MethodName) jdk_42_method_151_code 3 none ({ frames := 1, cells := 0, slots := 0, locals := 12 } : Room) #[(.ref o0), (.ref o1), (.int (0 : Int32))] h0 (fun v h => v = none ∧ Keep h0 h [o0] ∧ Sta Z h "java/lang/String" "COMPACT_STRINGS" "Z" (.int x0) ∧ Fld Z h o0 "java/lang/String" "value" "[B" (.ref o1) ∧ Fld Z h o0 "java/lang/String" "coder" "B" (.int (0 : Int32))) := by
  refine Met.of (plainFor_of_name pn_0) #[.val (.ref o0), .val (.ref o1), .val (.int (0 : Int32))] (fun m => by first | (simp [entryFrame, mkF, argsToLocals, Value.category]; done) | rfl) ?_
  intro p e s m below meth c C
  refine Wk.st (g' := (mkF m 1 #[.val (.ref o0), .val (.ref o1), .val (.int (0 : Int32))] [(.ref o0)])) (fun X t q => XS.aloadN X.here C.hx rfl (hb C.hby d11_0) rfl rfl q) ?_
  refine Wk.initO C (hw _ (List.mem_of_getElem? (i := 15) rfl)) (hw _ (List.mem_of_getElem? (i := 16) rfl)) (hw _ (List.mem_of_getElem? (i := 17) rfl)) (w := 0) rfl d11_1 (by decide) (Nat.le_of_eq rfl) (by decide) ?_
  show Wk _ p l e _ s m _ below meth c n0 _ h0 0 0 (mkF m 4 #[.val (.ref o0), .val (.ref o1), .val (.int (0 : Int32))] [])
  refine Wk.st (g' := (mkF m 5 #[.val (.ref o0), .val (.ref o1), .val (.int (0 : Int32))] [(.ref o0)])) (fun X t q => XS.aloadN X.here C.hx rfl (hb C.hby d11_4) rfl rfl q) ?_
  refine Wk.st (g' := (mkF m 6 #[.val (.ref o0), .val (.ref o1), .val (.int (0 : Int32))] [(.ref o1), (.ref o0)])) (fun X t q => XS.aloadN X.here C.hx rfl (hb C.hby d11_5) rfl rfl q) ?_
  refine Wk.putF C (hw _ (List.mem_of_getElem? (i := 32) rfl)) Via.refl P2 P0 (Or.inr ⟨(hw _ (List.mem_of_getElem? (i := 33) rfl)), rfl, rfl⟩) (hw _ (List.mem_of_getElem? (i := 6) rfl)) (ty := (.array .byte)) (by decide) (v' := (.ref o1)) rfl rfl G_o0 d11_6 ?_
  intro h1 W2
  have F3 : Fld Z h1 o0 "java/lang/String" "value" "[B" (.ref o1) := P2.same W2
  have F4 : Exa Z h1 o0 "java/lang/String" := P0.wr W2
  have F5 : Fld Z h1 o0 "java/lang/String" "coder" "B" (.int (0 : Int32)) := P1.other W2 (Or.inr (slot_ne (Or.inr (hw _ (List.mem_of_getElem? (i := 31) rfl))) (Or.inr (hw _ (List.mem_of_getElem? (i := 33) rfl))) (by decide) (t := .byte) (t' := (.array .byte)) (by decide) (by decide)))
  have F6 : Sta Z h1 "java/lang/String" "COMPACT_STRINGS" "Z" (.int x0) := P3.wr W2
  have F7 : Exa Z h1 o1 "[B" := P4.wr W2
  have F8 : Fa Z h1 o1 .byte 1 (up (fun _ => (.int (0 : Int32))) 0 (.int x1)) := P5.other W2 (Ne.symm N_o0_o1)
  have sz9 : n0 ≤ h1.size := Nat.le_trans hsz (Nat.le_of_eq W2.size.symm)
  have sy10 : h0.size ≤ h1.size := Nat.le_trans (Nat.le_refl h0.size) (Nat.le_of_eq W2.size.symm)
  have K11 := (Keep.refl h0 [o0]).wr W2 (Or.inl (by simp))
  show Wk _ p l e _ s m _ below meth c n0 _ h1 0 0 (mkF m 9 #[.val (.ref o0), .val (.ref o1), .val (.int (0 : Int32))] [])
  refine Wk.st (g' := (mkF m 10 #[.val (.ref o0), .val (.ref o1), .val (.int (0 : Int32))] [(.ref o0)])) (fun X t q => XS.aloadN X.here C.hx rfl (hb C.hby d11_9) rfl rfl q) ?_
  refine Wk.st (g' := (mkF m 11 #[.val (.ref o0), .val (.ref o1), .val (.int (0 : Int32))] [(.int (0 : Int32)), (.ref o0)])) (fun X t q => XS.iloadN X.here C.hx rfl (hb C.hby d11_10) rfl q) ?_
  refine Wk.putF C (hw _ (List.mem_of_getElem? (i := 30) rfl)) Via.refl F5 F4 (Or.inr ⟨(hw _ (List.mem_of_getElem? (i := 31) rfl)), rfl, rfl⟩) (hw _ (List.mem_of_getElem? (i := 6) rfl)) (ty := .byte) (by decide) (v' := (.int (0 : Int32))) rfl (by decide) G_o0 d11_11 ?_
  intro h12 W13
  have F14 : Fld Z h12 o0 "java/lang/String" "coder" "B" (.int (0 : Int32)) := F5.same W13
  have F15 : Exa Z h12 o0 "java/lang/String" := F4.wr W13
  have F16 : Sta Z h12 "java/lang/String" "COMPACT_STRINGS" "Z" (.int x0) := F6.wr W13
  have F17 : Exa Z h12 o1 "[B" := F7.wr W13
  have F18 : Fa Z h12 o1 .byte 1 (up (fun _ => (.int (0 : Int32))) 0 (.int x1)) := F8.other W13 (Ne.symm N_o0_o1)
  have F19 : Fld Z h12 o0 "java/lang/String" "value" "[B" (.ref o1) := F3.other W13 (Or.inr (slot_ne (Or.inr (hw _ (List.mem_of_getElem? (i := 33) rfl))) (Or.inr (hw _ (List.mem_of_getElem? (i := 31) rfl))) (by decide) (t := (.array .byte)) (t' := .byte) (by decide) (by decide)))
  have sz20 : n0 ≤ h12.size := Nat.le_trans sz9 (Nat.le_of_eq W13.size.symm)
  have sy21 : h0.size ≤ h12.size := Nat.le_trans sy10 (Nat.le_of_eq W13.size.symm)
  have K22 := K11.wr W13 (Or.inl (by simp))
  show Wk _ p l e _ s m _ below meth c n0 _ h12 0 0 (mkF m 14 #[.val (.ref o0), .val (.ref o1), .val (.int (0 : Int32))] [])
  exact Wk.retN0 C rfl d11_14 (by decide) (by decide) ⟨rfl, K22, F16, F19, F14⟩
theorem d8_0 : decode jdk_42_method_139_code 0 = .ok (.getstatic 38, 3) := by decide +kernel
theorem d8_3 : decode jdk_42_method_139_code 3 = .ok (.ifCond .eq 23, 3) := by decide +kernel
theorem d8_6 : decode jdk_42_method_139_code 6 = .ok (.iload_n 0, 1) := by decide +kernel
theorem d8_7 : decode jdk_42_method_139_code 7 = .ok (.invokestatic 1015, 3) := by decide +kernel
theorem d8_10 : decode jdk_42_method_139_code 10 = .ok (.ifCond .eq 16, 3) := by decide +kernel
theorem d8_13 : decode jdk_42_method_139_code 13 = .ok (.new 10, 3) := by decide +kernel
theorem d8_16 : decode jdk_42_method_139_code 16 = .ok (.dup, 1) := by decide +kernel
theorem d8_17 : decode jdk_42_method_139_code 17 = .ok (.iload_n 0, 1) := by decide +kernel
theorem d8_18 : decode jdk_42_method_139_code 18 = .ok (.invokestatic 1018, 3) := by decide +kernel
theorem d8_21 : decode jdk_42_method_139_code 21 = .ok (.iconst 0, 1) := by decide +kernel
theorem d8_22 : decode jdk_42_method_139_code 22 = .ok (.invokespecial 209, 3) := by decide +kernel
theorem d8_25 : decode jdk_42_method_139_code 25 = .ok (.areturn, 1) := by decide +kernel
theorem d8_26 : decode jdk_42_method_139_code 26 = .ok (.new 10, 3) := by decide +kernel
theorem d8_29 : decode jdk_42_method_139_code 29 = .ok (.dup, 1) := by decide +kernel
theorem d8_30 : decode jdk_42_method_139_code 30 = .ok (.iload_n 0, 1) := by decide +kernel
theorem d8_31 : decode jdk_42_method_139_code 31 = .ok (.invokestatic 1021, 3) := by decide +kernel
theorem d8_34 : decode jdk_42_method_139_code 34 = .ok (.iconst 1, 1) := by decide +kernel
theorem d8_35 : decode jdk_42_method_139_code 35 = .ok (.invokespecial 209, 3) := by decide +kernel
theorem d8_38 : decode jdk_42_method_139_code 38 = .ok (.areturn, 1) := by decide +kernel
set_option maxRecDepth 65536 in
set_option maxHeartbeats 40000000 in
theorem own_8_6 (l : Launch) (Z : State) (a0 : Array Value) (hw : ∀ d ∈ tables_1, d.before a0 Z = true) (n0 : Nat) (h0 : Heap) (hsz : n0 ≤ h0.size) (x0 : Int32) (x1 : Int32) (P0 : Sta Z h0 "java/lang/String" "COMPACT_STRINGS" "Z" (.int x1)) (lat_x0 : ¬ (255 : Int32) < x0) (nz_x1 : ¬ x1 = (0 : Int32)) :
    Met true l Z n0 (⟨"java/lang/String", "valueOf", "(C)Ljava/lang/String;"⟩ : MethodName) jdk_42_method_139_code 1 (some (.object "java/lang/String")) ({ frames := 2, cells := 2, slots := 5, locals := 27 } : Room) #[(.int x0)] h0 (fun v h => ∃ b5 : Addr, ∃ n18_b2 : Addr, v = some (.ref b5) ∧ Keep h0 h [] ∧ h0.size ≤ b5 ∧ h0.size ≤ n18_b2 ∧ b5 ≠ n18_b2 ∧ Exa Z h b5 "java/lang/String" ∧ Exa Z h n18_b2 "[B" ∧ Fa Z h n18_b2 .byte 1 (up (fun _ => (.int (0 : Int32))) 0 (.int (nar .byte (x0.toInt8.toInt32)))) ∧ Sta Z h "java/lang/String" "COMPACT_STRINGS" "Z" (.int x1) ∧ Fld Z h b5 "java/lang/String" "value" "[B" (.ref n18_b2) ∧ Fld Z h b5 "java/lang/String" "coder" "B" (.int (0 : Int32))) := by
  refine Met.of (plainFor_of_name pn_0) #[.val (.int x0)] (fun m => by first | (simp [entryFrame, mkF, argsToLocals, Value.category]; done) | rfl) ?_
  intro p e s m below meth c C
  refine Wk.getS C (hw _ (List.mem_of_getElem? (i := 18) rfl)) P0 d8_0 ?_
  show Wk _ p l e _ s m _ below meth c n0 _ h0 0 0 (mkF m 3 #[.val (.int x0)] [(.int x1)])
  refine Wk.st (g' := (mkF m 6 #[.val (.int x0)] [])) (fun X t q => XS.ifNo X.here C.hx rfl (hb C.hby d8_3) rfl (XT.i0_eq_f nz_x1) q) ?_
  refine Wk.st (g' := (mkF m 7 #[.val (.int x0)] [(.int x0)])) (fun X t q => XS.iloadN X.here C.hx rfl (hb C.hby d8_6) rfl q) ?_
  refine Wk.callS C (z := (⟨"java/lang/StringLatin1", "canEncode", "(C)Z"⟩ : MethodName)) (hw _ (List.mem_of_getElem? (i := 37) rfl)) (hw _ (List.mem_of_getElem? (i := 38) rfl)) (hw _ (List.mem_of_getElem? (i := 39) rfl)) (hw _ (List.mem_of_getElem? (i := 40) rfl)) (by decide) (own_9_6 l Z a0 hw n0 h0 hsz  x0 x1 P0   lat_x0 nz_x1) (w := 0) (by decide) (by decide) pd_7 rfl (rest := []) rfl rfl (Nat.le_of_eq rfl) (by decide) (by decide) d8_7 ?_
  rintro _ _ ⟨rfl, rfl⟩
  show Wk _ p l e _ s m _ below meth c n0 _ h0 0 0 (mkF m 10 #[.val (.int x0)] [(.int (1 : Int32))])
  refine Wk.st (g' := (mkF m 13 #[.val (.int x0)] [])) (fun X t q => XS.ifNo X.here C.hx rfl (hb C.hby d8_10) rfl (XT.i0_eq_f (by decide)) q) ?_
  refine Wk.newO C (hw _ (List.mem_of_getElem? (i := 41) rfl)) (hw _ (List.mem_of_getElem? (i := 6) rfl)) (hw _ (List.mem_of_getElem? (i := 7) rfl)) d8_13 (by decide) (by decide) ?_
  intro h4 b5 g6 E7 A8 D9
  have ge10 : n0 ≤ b5 := Nat.le_trans hsz (Nat.le_of_eq g6.symm)
  have gz11 : h0.size ≤ b5 := Nat.le_trans (Nat.le_refl h0.size) (Nat.le_of_eq g6.symm)
  have F12 : Sta Z h4 "java/lang/String" "COMPACT_STRINGS" "Z" (.int x1) := P0.ext E7
  have sz13 : n0 ≤ h4.size := Nat.le_trans hsz E7.1
  have sy14 : h0.size ≤ h4.size := Nat.le_trans (Nat.le_refl h0.size) E7.1
  have K15 := (Keep.refl h0 []).ext E7
  have F16 : Fld Z h4 b5 "java/lang/String" "coder" "B" (.int (0 : Int32)) := D9 (Or.inr (hw _ (List.mem_of_getElem? (i := 31) rfl))) (ty := .byte) (by decide)
  have F17 : Fld Z h4 b5 "java/lang/String" "value" "[B" .null := D9 (Or.inr (hw _ (List.mem_of_getElem? (i := 33) rfl))) (ty := (.array .byte)) (by decide)
  show Wk _ p l e _ s m _ below meth c n0 _ h4 1 4 (mkF m 16 #[.val (.int x0)] [(.ref b5)])
  refine Wk.st (g' := (mkF m 17 #[.val (.int x0)] [(.ref b5), (.ref b5)])) (fun X t q => XS.dup X.here C.hx rfl (hb C.hby d8_16) rfl rfl q) ?_
  refine Wk.st (g' := (mkF m 18 #[.val (.int x0)] [(.int x0), (.ref b5), (.ref b5)])) (fun X t q => XS.iloadN X.here C.hx rfl (hb C.hby d8_17) rfl q) ?_
  refine Wk.callS C (z := (⟨"java/lang/StringLatin1", "toBytes", "(C)[B"⟩ : MethodName)) (hw _ (List.mem_of_getElem? (i := 42) rfl)) (hw _ (List.mem_of_getElem? (i := 43) rfl)) (hw _ (List.mem_of_getElem? (i := 39) rfl)) (hw _ (List.mem_of_getElem? (i := 44) rfl)) (by decide) (own_10_7 l Z a0 hw n0 h4 sz13  x0 x1 F12   lat_x0 nz_x1) (w := 2) (by decide) (by decide) pd_8 rfl (rest := [(.ref b5), (.ref b5)]) rfl rfl (Nat.le_of_eq rfl) (by decide) (by decide) d8_18 ?_
  rintro _ h19 ⟨n18_b2, rfl, K20, gn24, F21, F22, F23⟩
  show Wk _ p l e _ s m _ below meth c n0 _ h19 2 5 (mkF m 21 #[.val (.int x0)] [(.ref n18_b2), (.ref b5), (.ref b5)])
  have ne25 : b5 ≠ n18_b2 := Nat.ne_of_lt (Nat.lt_of_lt_of_le A8.lt gn24)
  have ge26 : n0 ≤ n18_b2 := Nat.le_trans sz13 gn24
  have gz27 : h0.size ≤ n18_b2 := Nat.le_trans sy14 gn24
  have F28 : Exa Z h19 b5 "java/lang/String" := A8.keep K20
  have F29 : Fld Z h19 b5 "java/lang/String" "coder" "B" (.int (0 : Int32)) := F16.keep K20 nm0
  have F30 : Fld Z h19 b5 "java/lang/String" "value" "[B" .null := F17.keep K20 nm0
  have sz31 : n0 ≤ h19.size := Nat.le_trans sz13 K20.1
  have K32 := K15.trans K20 nv0
  have sy33 : h0.size ≤ h19.size := Nat.le_trans sy14 K20.1
  refine Wk.st (g' := (mkF m 22 #[.val (.int x0)] [(.int (0 : Int32)), (.ref n18_b2), (.ref b5), (.ref b5)])) (fun X t q => XS.iconst X.here C.hx rfl (hb C.hby d8_21) q) ?_
  refine Wk.callI C (z := (⟨"java/lang/String", "<init>", "([BB)V"⟩ : MethodName)) rfl (hw _ (List.mem_of_getElem? (i := 45) rfl)) (hw _ (List.mem_of_getElem? (i := 46) rfl)) (hw _ (List.mem_of_getElem? (i := 7) rfl)) (hw _ (List.mem_of_getElem? (i := 47) rfl)) (by decide) (own_11_8 l Z a0 hw n0 h19 sz31 b5 n18_b2 x1 (nar .byte (x0.toInt8.toInt32)) F28 F29 F30 F21 F22 F23 ne25 ge10 ge26 nz_x1) (w := 1) (by decide) (by decide) pd_9 rfl (rest := [(.ref b5)]) rfl rfl (Nat.le_of_eq rfl) (by decide) (by decide) d8_22 ?_
  rintro _ h35 ⟨rfl, K36, F37, F38, F39⟩
  show Wk _ p l e _ s m _ below meth c n0 _ h35 2 5 (mkF m 25 #[.val (.int x0)] [(.ref b5)])
  have F40 : Exa Z h35 b5 "java/lang/String" := F28.keep K36
  have F41 : Exa Z h35 n18_b2 "[B" := F22.keep K36
  have F42 : Fa Z h35 n18_b2 .byte 1 (up (fun _ => (.int (0 : Int32))) 0 (.int (nar .byte (x0.toInt8.toInt32)))) := F23.keep K36 (nmS (Ne.symm ne25) nm0)
  have sz43 : n0 ≤ h35.size := Nat.le_trans sz31 K36.1
  have K44 := K32.trans K36 (nvS (Or.inr gz11) nv0)
  have sy45 : h0.size ≤ h35.size := Nat.le_trans sy33 K36.1
  exact Wk.retV C (t := (.object "java/lang/String")) rfl rfl (Or.inr (Or.inr (Or.inr (Or.inr ⟨rfl, rfl, rfl⟩)))) d8_25 (by decide) (by decide) ⟨b5, n18_b2, rfl, K44, gz11, gz27, ne25, F40, F41, F42, F37, F38, F39⟩
theorem d13_0 : decode jdk_30_method_1_code 0 = .ok (.aload_n 0, 1) := by decide +kernel
theorem d13_1 : decode jdk_30_method_1_code 1 = .ok (.invokespecial 1, 3) := by decide +kernel
theorem d13_4 : decode jdk_30_method_1_code 4 = .ok (.return_, 1) := by decide +kernel
set_option maxRecDepth 65536 in
set_option maxHeartbeats 40000000 in
theorem own_13_10 (l : Launch) (Z : State) (a0 : Array Value) (hw : ∀ d ∈ tables_1, d.before a0 Z = true) (n0 : Nat) (h0 : Heap) (hsz : n0 ≤ h0.size) (o0 : Addr) (x0 : Int32) (P0 : Sta Z h0 "java/lang/String" "COMPACT_STRINGS" "Z" (.int x0)) (P1 : Exa Z h0 o0 "com/example/tripleshelf/tripleshelf/cli/Option") (P2 : Fld Z h0 o0 "com/example/tripleshelf/tripleshelf/cli/Option" "name" "Ljava/lang/String;" .null) (P3 : Fld Z h0 o0 "com/example/tripleshelf/tripleshelf/cli/Option" "valueName" "Ljava/lang/String;" .null) (P4 : Fld Z h0 o0 "com/example/tripleshelf/tripleshelf/cli/Option" "required" "Z" (.int (0 : Int32))) (P5 : Fld Z h0 o0 "com/example/tripleshelf/tripleshelf/cli/Option" "description" "Ljava/lang/String;" .null) (G_o0 : n0 ≤ o0) (nz_x0 : ¬ x0 = (0 : Int32)) :
    Met true l Z n0 (⟨"java/lang/Record", "<init>", "()V"⟩ : MethodName) jdk_30_method_1_code 1 none ({ frames := 1, cells := 0, slots := 0, locals := 12 } : Room) #[(.ref o0)] h0 (fun v h => v = none ∧ h0 = h) := by
  refine Met.of (plainFor_of_name pn_4) #[.val (.ref o0)] (fun m => by first | (simp [entryFrame, mkF, argsToLocals, Value.category]; done) | rfl) ?_
  intro p e s m below meth c C
  refine Wk.st (g' := (mkF m 1 #[.val (.ref o0)] [(.ref o0)])) (fun X t q => XS.aloadN X.here C.hx rfl (hb C.hby d13_0) rfl rfl q) ?_
  refine Wk.initO C (hw _ (List.mem_of_getElem? (i := 59) rfl)) (hw _ (List.mem_of_getElem? (i := 16) rfl)) (hw _ (List.mem_of_getElem? (i := 17) rfl)) (w := 0) rfl d13_1 (by decide) (Nat.le_of_eq rfl) (by decide) ?_
  show Wk _ p l e _ s m _ below meth c n0 _ h0 0 0 (mkF m 4 #[.val (.ref o0)] [])
  exact Wk.retN0 C rfl d13_4 (by decide) (by decide) ⟨rfl, rfl⟩
theorem d12_0 : decode prog_5_method_1_code 0 = .ok (.aload_n 0, 1) := by decide +kernel
theorem d12_1 : decode prog_5_method_1_code 1 = .ok (.invokespecial 1, 3) := by decide +kernel
theorem d12_4 : decode prog_5_method_1_code 4 = .ok (.iload_n 3, 1) := by decide +kernel
theorem d12_5 : decode prog_5_method_1_code 5 = .ok (.ifCond .eq 21, 3) := by decide +kernel
theorem d12_8 : decode prog_5_method_1_code 8 = .ok (.aload_n 2, 1) := by decide +kernel
theorem d12_9 : decode prog_5_method_1_code 9 = .ok (.ifnonnull 17, 3) := by decide +kernel
theorem d12_12 : decode prog_5_method_1_code 12 = .ok (.new 7, 3) := by decide +kernel
theorem d12_15 : decode prog_5_method_1_code 15 = .ok (.dup, 1) := by decide +kernel
theorem d12_16 : decode prog_5_method_1_code 16 = .ok (.aload_n 1, 1) := by decide +kernel
theorem d12_17 : decode prog_5_method_1_code 17 = .ok (.invokedynamic 9, 5) := by decide +kernel
theorem d12_22 : decode prog_5_method_1_code 22 = .ok (.invokespecial 13, 3) := by decide +kernel
theorem d12_25 : decode prog_5_method_1_code 25 = .ok (.athrow, 1) := by decide +kernel
theorem d12_26 : decode prog_5_method_1_code 26 = .ok (.aload_n 0, 1) := by decide +kernel
theorem d12_27 : decode prog_5_method_1_code 27 = .ok (.aload_n 1, 1) := by decide +kernel
theorem d12_28 : decode prog_5_method_1_code 28 = .ok (.putfield 16, 3) := by decide +kernel
theorem d12_31 : decode prog_5_method_1_code 31 = .ok (.aload_n 0, 1) := by decide +kernel
theorem d12_32 : decode prog_5_method_1_code 32 = .ok (.aload_n 2, 1) := by decide +kernel
theorem d12_33 : decode prog_5_method_1_code 33 = .ok (.putfield 22, 3) := by decide +kernel
theorem d12_36 : decode prog_5_method_1_code 36 = .ok (.aload_n 0, 1) := by decide +kernel
theorem d12_37 : decode prog_5_method_1_code 37 = .ok (.iload_n 3, 1) := by decide +kernel
theorem d12_38 : decode prog_5_method_1_code 38 = .ok (.putfield 25, 3) := by decide +kernel
theorem d12_41 : decode prog_5_method_1_code 41 = .ok (.aload_n 0, 1) := by decide +kernel
theorem d12_42 : decode prog_5_method_1_code 42 = .ok (.aload 4, 2) := by decide +kernel
theorem d12_44 : decode prog_5_method_1_code 44 = .ok (.putfield 29, 3) := by decide +kernel
theorem d12_47 : decode prog_5_method_1_code 47 = .ok (.return_, 1) := by decide +kernel
set_option maxRecDepth 65536 in
set_option maxHeartbeats 40000000 in
theorem own_12_10 (l : Launch) (Z : State) (a0 : Array Value) (hw : ∀ d ∈ tables_1, d.before a0 Z = true) (n0 : Nat) (h0 : Heap) (hsz : n0 ≤ h0.size) (o0 : Addr) (o1 : Addr) (o2 : Addr) (o3 : Addr) (o4 : Addr) (x0 : Int32) (x1 : Int32) (x2 : Int32) (P0 : Exa Z h0 o1 "java/lang/String") (P1 : Exa Z h0 o3 "[B") (P2 : Fa Z h0 o3 .byte 1 (up (fun _ => (.int (0 : Int32))) 0 (.int x0))) (P3 : Fld Z h0 o1 "java/lang/String" "coder" "B" (.int (0 : Int32))) (P4 : Fld Z h0 o1 "java/lang/String" "value" "[B" (.ref o3)) (P5 : Exa Z h0 o2 "java/lang/String") (P6 : Exa Z h0 o4 "[B") (P7 : Fa Z h0 o4 .byte 1 (up (fun _ => (.int (0 : Int32))) 0 (.int x1))) (P8 : Sta Z h0 "java/lang/String" "COMPACT_STRINGS" "Z" (.int x2)) (P9 : Fld Z h0 o2 "java/lang/String" "value" "[B" (.ref o4)) (P10 : Fld Z h0 o2 "java/lang/String" "coder" "B" (.int (0 : Int32))) (P11 : Exa Z h0 o0 "com/example/tripleshelf/tripleshelf/cli/Option") (P12 : Fld Z h0 o0 "com/example/tripleshelf/tripleshelf/cli/Option" "name" "Ljava/lang/String;" .null) (P13 : Fld Z h0 o0 "com/example/tripleshelf/tripleshelf/cli/Option" "valueName" "Ljava/lang/String;" .null) (P14 : Fld Z h0 o0 "com/example/tripleshelf/tripleshelf/cli/Option" "required" "Z" (.int (0 : Int32))) (P15 : Fld Z h0 o0 "com/example/tripleshelf/tripleshelf/cli/Option" "description" "Ljava/lang/String;" .null) (N_o0_o1 : o0 ≠ o1) (N_o0_o2 : o0 ≠ o2) (N_o0_o3 : o0 ≠ o3) (N_o0_o4 : o0 ≠ o4) (N_o1_o2 : o1 ≠ o2) (N_o1_o3 : o1 ≠ o3) (N_o1_o4 : o1 ≠ o4) (N_o2_o3 : o2 ≠ o3) (N_o2_o4 : o2 ≠ o4) (N_o3_o4 : o3 ≠ o4) (G_o0 : n0 ≤ o0) (G_o1 : n0 ≤ o1) (G_o2 : n0 ≤ o2) (G_o3 : n0 ≤ o3) (G_o4 : n0 ≤ o4) (nz_x2 : ¬ x2 = (0 : Int32)) :
    Met true l Z n0 (⟨"com/example/tripleshelf/tripleshelf/cli/Option", "<init>", "(Ljava/lang/String;Ljava/lang/String;ZLjava/lang/String;)V"⟩ : MethodName) prog_5_method_1_code 5 none ({ frames := 2, cells := 0, slots := 0, locals := 24 } : Room) #[(.ref o0), (.ref o1), .null, (.int (0 : Int32)), (.ref o2)] h0 (fun v h => v = none ∧ Keep h0 h [o0] ∧ Sta Z h "java/lang/String" "COMPACT_STRINGS" "Z" (.int x2) ∧ Fld Z h o0 "com/example/tripleshelf/tripleshelf/cli/Option" "name" "Ljava/lang/String;" (.ref o1) ∧ Fld Z h o0 "com/example/tripleshelf/tripleshelf/cli/Option" "valueName" "Ljava/lang/String;" .null ∧ Fld Z h o0 "com/example/tripleshelf/tripleshelf/cli/Option" "required" "Z" (.int (0 : Int32)) ∧ Fld Z h o0 "com/example/tripleshelf/tripleshelf/cli/Option" "description" "Ljava/lang/String;" (.ref o2)) := by
  refine Met.of (plainFor_of_name pn_5) #[.val (.ref o0), .val (.ref o1), .val .null, .val (.int (0 : Int32)), .val (.ref o2)] (fun m => by first | (simp [entryFrame, mkF, argsToLocals, Value.category]; done) | rfl) ?_
  intro p e s m below meth c C
  refine Wk.st (g' := (mkF m 1 #[.val (.ref o0), .val (.ref o1), .val .null, .val (.int (0 : Int32)), .val (.ref o2)] [(.ref o0)])) (fun X t q => XS.aloadN X.here C.hx rfl (hb C.hby d12_0) rfl rfl q) ?_
  refine Wk.callI C (z := (⟨"java/lang/Record", "<init>", "()V"⟩ : MethodName)) rfl (hw _ (List.mem_of_getElem? (i := 54) rfl)) (hw _ (List.mem_of_getElem? (i := 55) rfl)) (hw _ (List.mem_of_getElem? (i := 57) rfl)) (hw _ (List.mem_of_getElem? (i := 58) rfl)) (by decide) (own_13_10 l Z a0 hw n0 h0 hsz o0 x2 P8 P11 P12 P13 P14 P15  G_o0 nz_x2) (w := 0) (by decide) (by decide) pd_11 rfl (rest := []) rfl rfl (Nat.le_of_eq rfl) (by decide) (by decide) d12_1 ?_
  rintro _ _ ⟨rfl, rfl⟩
  show Wk _ p l e _ s m _ below meth c n0 _ h0 0 0 (mkF m 4 #[.val (.ref o0), .val (.ref o1), .val .null, .val (.int (0 : Int32)), .val (.ref o2)] [])
  refine Wk.st (g' := (mkF m 5 #[.val (.ref o0), .val (.ref o1), .val .null, .val (.int (0 : Int32)), .val (.ref o2)] [(.int (0 : Int32))])) (fun X t q => XS.iloadN X.here C.hx rfl (hb C.hby d12_4) rfl q) ?_
  refine Wk.st (g' := (mkF m 26 #[.val (.ref o0), .val (.ref o1), .val .null, .val (.int (0 : Int32)), .val (.ref o2)] [])) (fun X t q => XS.ifYes X.here C.hx rfl (pc0 := 5) (pc' := 26) rfl (hb C.hby d12_5) rfl (XT.i0_eq_t (by decide)) (by decide) (by decide) q) ?_
  refine Wk.st (g' := (mkF m 27 #[.val (.ref o0), .val (.ref o1), .val .null, .val (.int (0 : Int32)), .val (.ref o2)] [(.ref o0)])) (fun X t q => XS.aloadN X.here C.hx rfl (hb C.hby d12_26) rfl rfl q) ?_
  refine Wk.st (g' := (mkF m 28 #[.val (.ref o0), .val (.ref o1), .val .null, .val (.int (0 : Int32)), .val (.ref o2)] [(.ref o1), (.ref o0)])) (fun X t q => XS.aloadN X.here C.hx rfl (hb C.hby d12_27) rfl rfl q) ?_
  refine Wk.putF C (hw _ (List.mem_of_getElem? (i := 60) rfl)) Via.refl P12 P11 (Or.inr ⟨(hw _ (List.mem_of_getElem? (i := 61) rfl)), rfl, rfl⟩) (hw _ (List.mem_of_getElem? (i := 49) rfl)) (ty := (.object "java/lang/String")) (by decide) (v' := (.ref o1)) rfl rfl G_o0 d12_28 ?_
  intro h4 W5
  have F6 : Fld Z h4 o0 "com/example/tripleshelf/tripleshelf/cli/Option" "name" "Ljava/lang/String;" (.ref o1) := P12.same W5
  have F7 : Exa Z h4 o1 "java/lang/String" := P0.wr W5
  have F8 : Exa Z h4 o3 "[B" := P1.wr W5
  have F9 : Fa Z h4 o3 .byte 1 (up (fun _ => (.int (0 : Int32))) 0 (.int x0)) := P2.other W5 (Ne.symm N_o0_o3)
  have F10 : Fld Z h4 o1 "java/lang/String" "coder" "B" (.int (0 : Int32)) := P3.other W5 (Or.inl (Ne.symm N_o0_o1))
  have F11 : Fld Z h4 o1 "java/lang/String" "value" "[B" (.ref o3) := P4.other W5 (Or.inl (Ne.symm N_o0_o1))
  have F12 : Exa Z h4 o2 "java/lang/String" := P5.wr W5
  have F13 : Exa Z h4 o4 "[B" := P6.wr W5
  have F14 : Fa Z h4 o4 .byte 1 (up (fun _ => (.int (0 : Int32))) 0 (.int x1)) := P7.other W5 (Ne.symm N_o0_o4)
  have F15 : Sta Z h4 "java/lang/String" "COMPACT_STRINGS" "Z" (.int x2) := P8.wr W5
  have F16 : Fld Z h4 o2 "java/lang/String" "value" "[B" (.ref o4) := P9.other W5 (Or.inl (Ne.symm N_o0_o2))
  have F17 : Fld Z h4 o2 "java/lang/String" "coder" "B" (.int (0 : Int32)) := P10.other W5 (Or.inl (Ne.symm N_o0_o2))
  have F18 : Exa Z h4 o0 "com/example/tripleshelf/tripleshelf/cli/Option" := P11.wr W5
  have F19 : Fld Z h4 o0 "com/example/tripleshelf/tripleshelf/cli/Option" "valueName" "Ljava/lang/String;" .null := P13.other W5 (Or.inr (slot_ne (Or.inr (hw _ (List.mem_of_getElem? (i := 63) rfl))) (Or.inr (hw _ (List.mem_of_getElem? (i := 61) rfl))) (by decide) (t := (.object "java/lang/String")) (t' := (.object "java/lang/String")) (by decide) (by decide)))
  have F20 : Fld Z h4 o0 "com/example/tripleshelf/tripleshelf/cli/Option" "required" "Z" (.int (0 : Int32)) := P14.other W5 (Or.inr (slot_ne (Or.inr (hw _ (List.mem_of_getElem? (i := 65) rfl))) (Or.inr (hw _ (List.mem_of_getElem? (i := 61) rfl))) (by decide) (t := .boolean) (t' := (.object "java/lang/String")) (by decide) (by decide)))
  have F21 : Fld Z h4 o0 "com/example/tripleshelf/tripleshelf/cli/Option" "description" "Ljava/lang/String;" .null := P15.other W5 (Or.inr (slot_ne (Or.inr (hw _ (List.mem_of_getElem? (i := 67) rfl))) (Or.inr (hw _ (List.mem_of_getElem? (i := 61) rfl))) (by decide) (t := (.object "java/lang/String")) (t' := (.object "java/lang/String")) (by decide) (by decide)))
  have sz22 : n0 ≤ h4.size := Nat.le_trans hsz (Nat.le_of_eq W5.size.symm)
  have sy23 : h0.size ≤ h4.size := Nat.le_trans (Nat.le_refl h0.size) (Nat.le_of_eq W5.size.symm)
  have K24 := (Keep.refl h0 [o0]).wr W5 (Or.inl (by simp))
  show Wk _ p l e _ s m _ below meth c n0 _ h4 0 0 (mkF m 31 #[.val (.ref o0), .val (.ref o1), .val .null, .val (.int (0 : Int32)), .val (.ref o2)] [])
  refine Wk.st (g' := (mkF m 32 #[.val (.ref o0), .val (.ref o1), .val .null, .val (.int (0 : Int32)), .val (.ref o2)] [(.ref o0)])) (fun X t q => XS.aloadN X.here C.hx rfl (hb C.hby d12_31) rfl rfl q) ?_
  refine Wk.st (g' := (mkF m 33 #[.val (.ref o0), .val (.ref o1), .val .null, .val (.int (0 : Int32)), .val (.ref o2)] [.null, (.ref o0)])) (fun X t q => XS.aloadN X.here C.hx rfl (hb C.hby d12_32) rfl rfl q) ?_
  refine Wk.putF C (hw _ (List.mem_of_getElem? (i := 62) rfl)) Via.refl F19 F18 (Or.inr ⟨(hw _ (List.mem_of_getElem? (i := 63) rfl)), rfl, rfl⟩) (hw _ (List.mem_of_getElem? (i := 49) rfl)) (ty := (.object "java/lang/String")) (by decide) (v' := .null) rfl rfl G_o0 d12_33 ?_
  intro h25 W26
  have F27 : Fld Z h25 o0 "com/example/tripleshelf/tripleshelf/cli/Option" "valueName" "Ljava/lang/String;" .null := F19.same W26
  have F28 : Exa Z h25 o1 "java/lang/String" := F7.wr W26
  have F29 : Exa Z h25 o3 "[B" := F8.wr W26
  have F30 : Fa Z h25 o3 .byte 1 (up (fun _ => (.int (0 : Int32))) 0 (.int x0)) := F9.other W26 (Ne.symm N_o0_o3)
  have F31 : Fld Z h25 o1 "java/lang/String" "coder" "B" (.int (0 : Int32)) := F10.other W26 (Or.inl (Ne.symm N_o0_o1))
  have F32 : Fld Z h25 o1 "java/lang/String" "value" "[B" (.ref o3) := F11.other W26 (Or.inl (Ne.symm N_o0_o1))
  have F33 : Exa Z h25 o2 "java/lang/String" := F12.wr W26
  have F34 : Exa Z h25 o4 "[B" := F13.wr W26
  have F35 : Fa Z h25 o4 .byte 1 (up (fun _ => (.int (0 : Int32))) 0 (.int x1)) := F14.other W26 (Ne.symm N_o0_o4)
  have F36 : Sta Z h25 "java/lang/String" "COMPACT_STRINGS" "Z" (.int x2) := F15.wr W26
  have F37 : Fld Z h25 o2 "java/lang/String" "value" "[B" (.ref o4) := F16.other W26 (Or.inl (Ne.symm N_o0_o2))
  have F38 : Fld Z h25 o2 "java/lang/String" "coder" "B" (.int (0 : Int32)) := F17.other W26 (Or.inl (Ne.symm N_o0_o2))
  have F39 : Exa Z h25 o0 "com/example/tripleshelf/tripleshelf/cli/Option" := F18.wr W26
  have F40 : Fld Z h25 o0 "com/example/tripleshelf/tripleshelf/cli/Option" "required" "Z" (.int (0 : Int32)) := F20.other W26 (Or.inr (slot_ne (Or.inr (hw _ (List.mem_of_getElem? (i := 65) rfl))) (Or.inr (hw _ (List.mem_of_getElem? (i := 63) rfl))) (by decide) (t := .boolean) (t' := (.object "java/lang/String")) (by decide) (by decide)))
  have F41 : Fld Z h25 o0 "com/example/tripleshelf/tripleshelf/cli/Option" "description" "Ljava/lang/String;" .null := F21.other W26 (Or.inr (slot_ne (Or.inr (hw _ (List.mem_of_getElem? (i := 67) rfl))) (Or.inr (hw _ (List.mem_of_getElem? (i := 63) rfl))) (by decide) (t := (.object "java/lang/String")) (t' := (.object "java/lang/String")) (by decide) (by decide)))
  have F42 : Fld Z h25 o0 "com/example/tripleshelf/tripleshelf/cli/Option" "name" "Ljava/lang/String;" (.ref o1) := F6.other W26 (Or.inr (slot_ne (Or.inr (hw _ (List.mem_of_getElem? (i := 61) rfl))) (Or.inr (hw _ (List.mem_of_getElem? (i := 63) rfl))) (by decide) (t := (.object "java/lang/String")) (t' := (.object "java/lang/String")) (by decide) (by decide)))
  have sz43 : n0 ≤ h25.size := Nat.le_trans sz22 (Nat.le_of_eq W26.size.symm)
  have sy44 : h0.size ≤ h25.size := Nat.le_trans sy23 (Nat.le_of_eq W26.size.symm)
  have K45 := K24.wr W26 (Or.inl (by simp))
  show Wk _ p l e _ s m _ below meth c n0 _ h25 0 0 (mkF m 36 #[.val (.ref o0), .val (.ref o1), .val .null, .val (.int (0 : Int32)), .val (.ref o2)] [])
  refine Wk.st (g' := (mkF m 37 #[.val (.ref o0), .val (.ref o1), .val .null, .val (.int (0 : Int32)), .val (.ref o2)] [(.ref o0)])) (fun X t q => XS.aloadN X.here C.hx rfl (hb C.hby d12_36) rfl rfl q) ?_
  refine Wk.st (g' := (mkF m 38 #[.val (.ref o0), .val (.ref o1), .val .null, .val (.int (0 : Int32)), .val (.ref o2)] [(.int (0 : Int32)), (.ref o0)])) (fun X t q => XS.iloadN X.here C.hx rfl (hb C.hby d12_37) rfl q) ?_
  refine Wk.putF C (hw _ (List.mem_of_getElem? (i := 64) rfl)) Via.refl F40 F39 (Or.inr ⟨(hw _ (List.mem_of_getElem? (i := 65) rfl)), rfl, rfl⟩) (hw _ (List.mem_of_getElem? (i := 49) rfl)) (ty := .boolean) (by decide) (v' := (.int (0 : Int32))) rfl (by decide) G_o0 d12_38 ?_
  intro h46 W47
  have F48 : Fld Z h46 o0 "com/example/tripleshelf/tripleshelf/cli/Option" "required" "Z" (.int (0 : Int32)) := F40.same W47
  have F49 : Exa Z h46 o1 "java/lang/String" := F28.wr W47
  have F50 : Exa Z h46 o3 "[B" := F29.wr W47
  have F51 : Fa Z h46 o3 .byte 1 (up (fun _ => (.int (0 : Int32))) 0 (.int x0)) := F30.other W47 (Ne.symm N_o0_o3)
  have F52 : Fld Z h46 o1 "java/lang/String" "coder" "B" (.int (0 : Int32)) := F31.other W47 (Or.inl (Ne.symm N_o0_o1))
  have F53 : Fld Z h46 o1 "java/lang/String" "value" "[B" (.ref o3) := F32.other W47 (Or.inl (Ne.symm N_o0_o1))
  have F54 : Exa Z h46 o2 "java/lang/String" := F33.wr W47
  have F55 : Exa Z h46 o4 "[B" := F34.wr W47
  have F56 : Fa Z h46 o4 .byte 1 (up (fun _ => (.int (0 : Int32))) 0 (.int x1)) := F35.other W47 (Ne.symm N_o0_o4)
  have F57 : Sta Z h46 "java/lang/String" "COMPACT_STRINGS" "Z" (.int x2) := F36.wr W47
  have F58 : Fld Z h46 o2 "java/lang/String" "value" "[B" (.ref o4) := F37.other W47 (Or.inl (Ne.symm N_o0_o2))
  have F59 : Fld Z h46 o2 "java/lang/String" "coder" "B" (.int (0 : Int32)) := F38.other W47 (Or.inl (Ne.symm N_o0_o2))
  have F60 : Exa Z h46 o0 "com/example/tripleshelf/tripleshelf/cli/Option" := F39.wr W47
  have F61 : Fld Z h46 o0 "com/example/tripleshelf/tripleshelf/cli/Option" "description" "Ljava/lang/String;" .null := F41.other W47 (Or.inr (slot_ne (Or.inr (hw _ (List.mem_of_getElem? (i := 67) rfl))) (Or.inr (hw _ (List.mem_of_getElem? (i := 65) rfl))) (by decide) (t := (.object "java/lang/String")) (t' := .boolean) (by decide) (by decide)))
  have F62 : Fld Z h46 o0 "com/example/tripleshelf/tripleshelf/cli/Option" "name" "Ljava/lang/String;" (.ref o1) := F42.other W47 (Or.inr (slot_ne (Or.inr (hw _ (List.mem_of_getElem? (i := 61) rfl))) (Or.inr (hw _ (List.mem_of_getElem? (i := 65) rfl))) (by decide) (t := (.object "java/lang/String")) (t' := .boolean) (by decide) (by decide)))
  have F63 : Fld Z h46 o0 "com/example/tripleshelf/tripleshelf/cli/Option" "valueName" "Ljava/lang/String;" .null := F27.other W47 (Or.inr (slot_ne (Or.inr (hw _ (List.mem_of_getElem? (i := 63) rfl))) (Or.inr (hw _ (List.mem_of_getElem? (i := 65) rfl))) (by decide) (t := (.object "java/lang/String")) (t' := .boolean) (by decide) (by decide)))
  have sz64 : n0 ≤ h46.size := Nat.le_trans sz43 (Nat.le_of_eq W47.size.symm)
  have sy65 : h0.size ≤ h46.size := Nat.le_trans sy44 (Nat.le_of_eq W47.size.symm)
  have K66 := K45.wr W47 (Or.inl (by simp))
  show Wk _ p l e _ s m _ below meth c n0 _ h46 0 0 (mkF m 41 #[.val (.ref o0), .val (.ref o1), .val .null, .val (.int (0 : Int32)), .val (.ref o2)] [])
  refine Wk.st (g' := (mkF m 42 #[.val (.ref o0), .val (.ref o1), .val .null, .val (.int (0 : Int32)), .val (.ref o2)] [(.ref o0)])) (fun X t q => XS.aloadN X.here C.hx rfl (hb C.hby d12_41) rfl rfl q) ?_
  refine Wk.st (g' := (mkF m 44 #[.val (.ref o0), .val (.ref o1), .val .null, .val (.int (0 : Int32)), .val (.ref o2)] [(.ref o2), (.ref o0)])) (fun X t q => XS.aload X.here C.hx rfl (hb C.hby d12_42) rfl rfl q) ?_
  refine Wk.putF C (hw _ (List.mem_of_getElem? (i := 66) rfl)) Via.refl F61 F60 (Or.inr ⟨(hw _ (List.mem_of_getElem? (i := 67) rfl)), rfl, rfl⟩) (hw _ (List.mem_of_getElem? (i := 49) rfl)) (ty := (.object "java/lang/String")) (by decide) (v' := (.ref o2)) rfl rfl G_o0 d12_44 ?_
  intro h67 W68
  have F69 : Fld Z h67 o0 "com/example/tripleshelf/tripleshelf/cli/Option" "description" "Ljava/lang/String;" (.ref o2) := F61.same W68
  have F70 : Exa Z h67 o1 "java/lang/String" := F49.wr W68
  have F71 : Exa Z h67 o3 "[B" := F50.wr W68
  have F72 : Fa Z h67 o3 .byte 1 (up (fun _ => (.int (0 : Int32))) 0 (.int x0)) := F51.other W68 (Ne.symm N_o0_o3)
  have F73 : Fld Z h67 o1 "java/lang/String" "coder" "B" (.int (0 : Int32)) := F52.other W68 (Or.inl (Ne.symm N_o0_o1))
  have F74 : Fld Z h67 o1 "java/lang/String" "value" "[B" (.ref o3) := F53.other W68 (Or.inl (Ne.symm N_o0_o1))
  have F75 : Exa Z h67 o2 "java/lang/String" := F54.wr W68
  have F76 : Exa Z h67 o4 "[B" := F55.wr W68
  have F77 : Fa Z h67 o4 .byte 1 (up (fun _ => (.int (0 : Int32))) 0 (.int x1)) := F56.other W68 (Ne.symm N_o0_o4)
  have F78 : Sta Z h67 "java/lang/String" "COMPACT_STRINGS" "Z" (.int x2) := F57.wr W68
  have F79 : Fld Z h67 o2 "java/lang/String" "value" "[B" (.ref o4) := F58.other W68 (Or.inl (Ne.symm N_o0_o2))
  have F80 : Fld Z h67 o2 "java/lang/String" "coder" "B" (.int (0 : Int32)) := F59.other W68 (Or.inl (Ne.symm N_o0_o2))
  have F81 : Exa Z h67 o0 "com/example/tripleshelf/tripleshelf/cli/Option" := F60.wr W68
  have F82 : Fld Z h67 o0 "com/example/tripleshelf/tripleshelf/cli/Option" "name" "Ljava/lang/String;" (.ref o1) := F62.other W68 (Or.inr (slot_ne (Or.inr (hw _ (List.mem_of_getElem? (i := 61) rfl))) (Or.inr (hw _ (List.mem_of_getElem? (i := 67) rfl))) (by decide) (t := (.object "java/lang/String")) (t' := (.object "java/lang/String")) (by decide) (by decide)))
  have F83 : Fld Z h67 o0 "com/example/tripleshelf/tripleshelf/cli/Option" "valueName" "Ljava/lang/String;" .null := F63.other W68 (Or.inr (slot_ne (Or.inr (hw _ (List.mem_of_getElem? (i := 63) rfl))) (Or.inr (hw _ (List.mem_of_getElem? (i := 67) rfl))) (by decide) (t := (.object "java/lang/String")) (t' := (.object "java/lang/String")) (by decide) (by decide)))
  have F84 : Fld Z h67 o0 "com/example/tripleshelf/tripleshelf/cli/Option" "required" "Z" (.int (0 : Int32)) := F48.other W68 (Or.inr (slot_ne (Or.inr (hw _ (List.mem_of_getElem? (i := 65) rfl))) (Or.inr (hw _ (List.mem_of_getElem? (i := 67) rfl))) (by decide) (t := .boolean) (t' := (.object "java/lang/String")) (by decide) (by decide)))
  have sz85 : n0 ≤ h67.size := Nat.le_trans sz64 (Nat.le_of_eq W68.size.symm)
  have sy86 : h0.size ≤ h67.size := Nat.le_trans sy65 (Nat.le_of_eq W68.size.symm)
  have K87 := K66.wr W68 (Or.inl (by simp))
  show Wk _ p l e _ s m _ below meth c n0 _ h67 0 0 (mkF m 47 #[.val (.ref o0), .val (.ref o1), .val .null, .val (.int (0 : Int32)), .val (.ref o2)] [])
  exact Wk.retN0 C rfl d12_47 (by decide) (by decide) ⟨rfl, K87, F78, F82, F83, F84, F69⟩
theorem d14_0 : decode prog_5_method_5_code 0 = .ok (.aload_n 0, 1) := by decide +kernel
theorem d14_1 : decode prog_5_method_5_code 1 = .ok (.getfield 22, 3) := by decide +kernel
theorem d14_4 : decode prog_5_method_5_code 4 = .ok (.ifnull 7, 3) := by decide +kernel
theorem d14_7 : decode prog_5_method_5_code 7 = .ok (.iconst 1, 1) := by decide +kernel
theorem d14_8 : decode prog_5_method_5_code 8 = .ok (.goto 4, 3) := by decide +kernel
theorem d14_11 : decode prog_5_method_5_code 11 = .ok (.iconst 0, 1) := by decide +kernel
theorem d14_12 : decode prog_5_method_5_code 12 = .ok (.ireturn, 1) := by decide +kernel
set_option maxRecDepth 65536 in
set_option maxHeartbeats 40000000 in
theorem own_14_12 (l : Launch) (Z : State) (a0 : Array Value) (hw : ∀ d ∈ tables_1, d.before a0 Z = true) (n0 : Nat) (h0 : Heap) (hsz : n0 ≤ h0.size) (o0 : Addr) (o1 : Addr) (o2 : Addr) (o3 : Addr) (o4 : Addr) (x0 : Int32) (x1 : Int32) (x2 : Int32) (P0 : Exa Z h0 o1 "java/lang/String") (P1 : Exa Z h0 o3 "[B") (P2 : Fa Z h0 o3 .byte 1 (up (fun _ => (.int (0 : Int32))) 0 (.int x0))) (P3 : Fld Z h0 o1 "java/lang/String" "coder" "B" (.int (0 : Int32))) (P4 : Fld Z h0 o1 "java/lang/String" "value" "[B" (.ref o3)) (P5 : Exa Z h0 o2 "java/lang/String") (P6 : Exa Z h0 o4 "[B") (P7 : Fa Z h0 o4 .byte 1 (up (fun _ => (.int (0 : Int32))) 0 (.int x1))) (P8 : Fld Z h0 o2 "java/lang/String" "value" "[B" (.ref o4)) (P9 : Fld Z h0 o2 "java/lang/String" "coder" "B" (.int (0 : Int32))) (P10 : Exa Z h0 o0 "com/example/tripleshelf/tripleshelf/cli/Option") (P11 : Sta Z h0 "java/lang/String" "COMPACT_STRINGS" "Z" (.int x2)) (P12 : Fld Z h0 o0 "com/example/tripleshelf/tripleshelf/cli/Option" "name" "Ljava/lang/String;" (.ref o1)) (P13 : Fld Z h0 o0 "com/example/tripleshelf/tripleshelf/cli/Option" "valueName" "Ljava/lang/String;" .null) (P14 : Fld Z h0 o0 "com/example/tripleshelf/tripleshelf/cli/Option" "required" "Z" (.int (0 : Int32))) (P15 : Fld Z h0 o0 "com/example/tripleshelf/tripleshelf/cli/Option" "description" "Ljava/lang/String;" (.ref o2)) (N_o0_o1 : o0 ≠ o1) (N_o0_o2 : o0 ≠ o2) (N_o0_o3 : o0 ≠ o3) (N_o0_o4 : o0 ≠ o4) (N_o1_o2 : o1 ≠ o2) (N_o1_o3 : o1 ≠ o3) (N_o1_o4 : o1 ≠ o4) (N_o2_o3 : o2 ≠ o3) (N_o2_o4 : o2 ≠ o4) (N_o3_o4 : o3 ≠ o4) (G_o0 : n0 ≤ o0) (G_o1 : n0 ≤ o1) (G_o2 : n0 ≤ o2) (G_o3 : n0 ≤ o3) (G_o4 : n0 ≤ o4) (nz_x2 : ¬ x2 = (0 : Int32)) :
    Met true l Z n0 (⟨"com/example/tripleshelf/tripleshelf/cli/Option", "takesValue", "()Z"⟩ : MethodName) prog_5_method_5_code 1 (some .boolean) ({ frames := 0, cells := 0, slots := 0, locals := 0 } : Room) #[(.ref o0)] h0 (fun v h => v = some (.int (0 : Int32)) ∧ h0 = h) := by
  refine Met.of (plainFor_of_name pn_5) #[.val (.ref o0)] (fun m => by first | (simp [entryFrame, mkF, argsToLocals, Value.category]; done) | rfl) ?_
  intro p e s m below meth c C
  refine Wk.st (g' := (mkF m 1 #[.val (.ref o0)] [(.ref o0)])) (fun X t q => XS.aloadN X.here C.hx rfl (hb C.hby d14_0) rfl rfl q) ?_
  refine Wk.getF C (hw _ (List.mem_of_getElem? (i := 62) rfl)) Via.refl P13 d14_1 ?_
  show Wk _ p l e _ s m _ below meth c n0 _ h0 0 0 (mkF m 4 #[.val (.ref o0)] [.null])
  refine Wk.st (g' := (mkF m 11 #[.val (.ref o0)] [])) (fun X t q => XS.ifnullYes X.here C.hx rfl (pc0 := 4) (pc' := 11) rfl (hb C.hby d14_4) rfl (by decide) (by decide) q) ?_
  refine Wk.st (g' := (mkF m 12 #[.val (.ref o0)] [(.int (0 : Int32))])) (fun X t q => XS.iconst X.here C.hx rfl (hb C.hby d14_11) q) ?_
  exact Wk.retV C (t := .boolean) rfl rfl (Or.inl ⟨rfl, by simp, _, rfl⟩) d14_12 (by decide) (by decide) ⟨rfl, rfl⟩
set_option maxRecDepth 65536 in
set_option maxHeartbeats 40000000 in
theorem own_12_13 (l : Launch) (Z : State) (a0 : Array Value) (hw : ∀ d ∈ tables_1, d.before a0 Z = true) (n0 : Nat) (h0 : Heap) (hsz : n0 ≤ h0.size) (o0 : Addr) (o1 : Addr) (o2 : Addr) (o3 : Addr) (o4 : Addr) (o5 : Addr) (x0 : Int32) (x1 : Int32) (x2 : Int32) (P0 : Exa Z h0 o2 "java/lang/String") (P1 : Exa Z h0 o1 "java/lang/String") (P2 : Exa Z h0 o4 "[B") (P3 : Fa Z h0 o4 .byte 1 (up (fun _ => (.int (0 : Int32))) 0 (.int x0))) (P4 : Fld Z h0 o1 "java/lang/String" "coder" "B" (.int (0 : Int32))) (P5 : Fld Z h0 o1 "java/lang/String" "value" "[B" (.ref o4)) (P6 : Exa Z h0 o3 "java/lang/String") (P7 : Exa Z h0 o5 "[B") (P8 : Fa Z h0 o5 .byte 1 (up (fun _ => (.int (0 : Int32))) 0 (.int x1))) (P9 : Sta Z h0 "java/lang/String" "COMPACT_STRINGS" "Z" (.int x2)) (P10 : Fld Z h0 o3 "java/lang/String" "value" "[B" (.ref o5)) (P11 : Fld Z h0 o3 "java/lang/String" "coder" "B" (.int (0 : Int32))) (P12 : Exa Z h0 o0 "com/example/tripleshelf/tripleshelf/cli/Option") (P13 : Fld Z h0 o0 "com/example/tripleshelf/tripleshelf/cli/Option" "name" "Ljava/lang/String;" .null) (P14 : Fld Z h0 o0 "com/example/tripleshelf/tripleshelf/cli/Option" "valueName" "Ljava/lang/String;" .null) (P15 : Fld Z h0 o0 "com/example/tripleshelf/tripleshelf/cli/Option" "required" "Z" (.int (0 : Int32))) (P16 : Fld Z h0 o0 "com/example/tripleshelf/tripleshelf/cli/Option" "description" "Ljava/lang/String;" .null) (N_o0_o1 : o0 ≠ o1) (N_o0_o2 : o0 ≠ o2) (N_o0_o3 : o0 ≠ o3) (N_o0_o4 : o0 ≠ o4) (N_o0_o5 : o0 ≠ o5) (N_o1_o2 : o1 ≠ o2) (N_o1_o3 : o1 ≠ o3) (N_o1_o4 : o1 ≠ o4) (N_o1_o5 : o1 ≠ o5) (N_o2_o3 : o2 ≠ o3) (N_o2_o4 : o2 ≠ o4) (N_o2_o5 : o2 ≠ o5) (N_o3_o4 : o3 ≠ o4) (N_o3_o5 : o3 ≠ o5) (N_o4_o5 : o4 ≠ o5) (G_o0 : n0 ≤ o0) (G_o1 : n0 ≤ o1) (G_o2 : n0 ≤ o2) (G_o3 : n0 ≤ o3) (G_o4 : n0 ≤ o4) (G_o5 : n0 ≤ o5) (nz_x2 : ¬ x2 = (0 : Int32)) :
    Met true l Z n0 (⟨"com/example/tripleshelf/tripleshelf/cli/Option", "<init>", "(Ljava/lang/String;Ljava/lang/String;ZLjava/lang/String;)V"⟩ : MethodName) prog_5_method_1_code 5 none ({ frames := 2, cells := 0, slots := 0, locals := 24 } : Room) #[(.ref o0), (.ref o1), (.ref o2), (.int (0 : Int32)), (.ref o3)] h0 (fun v h => v = none ∧ Keep h0 h [o0] ∧ Sta Z h "java/lang/String" "COMPACT_STRINGS" "Z" (.int x2) ∧ Fld Z h o0 "com/example/tripleshelf/tripleshelf/cli/Option" "name" "Ljava/lang/String;" (.ref o1) ∧ Fld Z h o0 "com/example/tripleshelf/tripleshelf/cli/Option" "valueName" "Ljava/lang/String;" (.ref o2) ∧ Fld Z h o0 "com/example/tripleshelf/tripleshelf/cli/Option" "required" "Z" (.int (0 : Int32)) ∧ Fld Z h o0 "com/example/tripleshelf/tripleshelf/cli/Option" "description" "Ljava/lang/String;" (.ref o3)) := by
  refine Met.of (plainFor_of_name pn_5) #[.val (.ref o0), .val (.ref o1), .val (.ref o2), .val (.int (0 : Int32)), .val (.ref o3)] (fun m => by first | (simp [entryFrame, mkF, argsToLocals, Value.category]; done) | rfl) ?_
  intro p e s m below meth c C
  refine Wk.st (g' := (mkF m 1 #[.val (.ref o0), .val (.ref o1), .val (.ref o2), .val (.int (0 : Int32)), .val (.ref o3)] [(.ref o0)])) (fun X t q => XS.aloadN X.here C.hx rfl (hb C.hby d12_0) rfl rfl q) ?_
  refine Wk.callI C (z := (⟨"java/lang/Record", "<init>", "()V"⟩ : MethodName)) rfl (hw _ (List.mem_of_getElem? (i := 54) rfl)) (hw _ (List.mem_of_getElem? (i := 55) rfl)) (hw _ (List.mem_of_getElem? (i := 57) rfl)) (hw _ (List.mem_of_getElem? (i := 58) rfl)) (by decide) (own_13_10 l Z a0 hw n0 h0 hsz o0 x2 P9 P12 P13 P14 P15 P16  G_o0 nz_x2) (w := 0) (by decide) (by decide) pd_11 rfl (rest := []) rfl rfl (Nat.le_of_eq rfl) (by decide) (by decide) d12_1 ?_
  rintro _ _ ⟨rfl, rfl⟩
  show Wk _ p l e _ s m _ below meth c n0 _ h0 0 0 (mkF m 4 #[.val (.ref o0), .val (.ref o1), .val (.ref o2), .val (.int (0 : Int32)), .val (.ref o3)] [])
  refine Wk.st (g' := (mkF m 5 #[.val (.ref o0), .val (.ref o1), .val (.ref o2), .val (.int (0 : Int32)), .val (.ref o3)] [(.int (0 : Int32))])) (fun X t q => XS.iloadN X.here C.hx rfl (hb C.hby d12_4) rfl q) ?_
  refine Wk.st (g' := (mkF m 26 #[.val (.ref o0), .val (.ref o1), .val (.ref o2), .val (.int (0 : Int32)), .val (.ref o3)] [])) (fun X t q => XS.ifYes X.here C.hx rfl (pc0 := 5) (pc' := 26) rfl (hb C.hby d12_5) rfl (XT.i0_eq_t (by decide)) (by decide) (by decide) q) ?_
  refine Wk.st (g' := (mkF m 27 #[.val (.ref o0), .val (.ref o1), .val (.ref o2), .val (.int (0 : Int32)), .val (.ref o3)] [(.ref o0)])) (fun X t q => XS.aloadN X.here C.hx rfl (hb C.hby d12_26) rfl rfl q) ?_
  refine Wk.st (g' := (mkF m 28 #[.val (.ref o0), .val (.ref o1), .val (.ref o2), .val (.int (0 : Int32)), .val (.ref o3)] [(.ref o1), (.ref o0)])) (fun X t q => XS.aloadN X.here C.hx rfl (hb C.hby d12_27) rfl rfl q) ?_
  refine Wk.putF C (hw _ (List.mem_of_getElem? (i := 60) rfl)) Via.refl P13 P12 (Or.inr ⟨(hw _ (List.mem_of_getElem? (i := 61) rfl)), rfl, rfl⟩) (hw _ (List.mem_of_getElem? (i := 49) rfl)) (ty := (.object "java/lang/String")) (by decide) (v' := (.ref o1)) rfl rfl G_o0 d12_28 ?_
  intro h4 W5
  have F6 : Fld Z h4 o0 "com/example/tripleshelf/tripleshelf/cli/Option" "name" "Ljava/lang/String;" (.ref o1) := P13.same W5
  have F7 : Exa Z h4 o2 "java/lang/String" := P0.wr W5
  have F8 : Exa Z h4 o1 "java/lang/String" := P1.wr W5
  have F9 : Exa Z h4 o4 "[B" := P2.wr W5
  have F10 : Fa Z h4 o4 .byte 1 (up (fun _ => (.int (0 : Int32))) 0 (.int x0)) := P3.other W5 (Ne.symm N_o0_o4)
  have F11 : Fld Z h4 o1 "java/lang/String" "coder" "B" (.int (0 : Int32)) := P4.other W5 (Or.inl (Ne.symm N_o0_o1))
  have F12 : Fld Z h4 o1 "java/lang/String" "value" "[B" (.ref o4) := P5.other W5 (Or.inl (Ne.symm N_o0_o1))
  have F13 : Exa Z h4 o3 "java/lang/String" := P6.wr W5
  have F14 : Exa Z h4 o5 "[B" := P7.wr W5
  have F15 : Fa Z h4 o5 .byte 1 (up (fun _ => (.int (0 : Int32))) 0 (.int x1)) := P8.other W5 (Ne.symm N_o0_o5)
  have F16 : Sta Z h4 "java/lang/String" "COMPACT_STRINGS" "Z" (.int x2) := P9.wr W5
  have F17 : Fld Z h4 o3 "java/lang/String" "value" "[B" (.ref o5) := P10.other W5 (Or.inl (Ne.symm N_o0_o3))
  have F18 : Fld Z h4 o3 "java/lang/String" "coder" "B" (.int (0 : Int32)) := P11.other W5 (Or.inl (Ne.symm N_o0_o3))
  have F19 : Exa Z h4 o0 "com/example/tripleshelf/tripleshelf/cli/Option" := P12.wr W5
  have F20 : Fld Z h4 o0 "com/example/tripleshelf/tripleshelf/cli/Option" "valueName" "Ljava/lang/String;" .null := P14.other W5 (Or.inr (slot_ne (Or.inr (hw _ (List.mem_of_getElem? (i := 63) rfl))) (Or.inr (hw _ (List.mem_of_getElem? (i := 61) rfl))) (by decide) (t := (.object "java/lang/String")) (t' := (.object "java/lang/String")) (by decide) (by decide)))
  have F21 : Fld Z h4 o0 "com/example/tripleshelf/tripleshelf/cli/Option" "required" "Z" (.int (0 : Int32)) := P15.other W5 (Or.inr (slot_ne (Or.inr (hw _ (List.mem_of_getElem? (i := 65) rfl))) (Or.inr (hw _ (List.mem_of_getElem? (i := 61) rfl))) (by decide) (t := .boolean) (t' := (.object "java/lang/String")) (by decide) (by decide)))
  have F22 : Fld Z h4 o0 "com/example/tripleshelf/tripleshelf/cli/Option" "description" "Ljava/lang/String;" .null := P16.other W5 (Or.inr (slot_ne (Or.inr (hw _ (List.mem_of_getElem? (i := 67) rfl))) (Or.inr (hw _ (List.mem_of_getElem? (i := 61) rfl))) (by decide) (t := (.object "java/lang/String")) (t' := (.object "java/lang/String")) (by decide) (by decide)))
  have sz23 : n0 ≤ h4.size := Nat.le_trans hsz (Nat.le_of_eq W5.size.symm)
  have sy24 : h0.size ≤ h4.size := Nat.le_trans (Nat.le_refl h0.size) (Nat.le_of_eq W5.size.symm)
  have K25 := (Keep.refl h0 [o0]).wr W5 (Or.inl (by simp))
  show Wk _ p l e _ s m _ below meth c n0 _ h4 0 0 (mkF m 31 #[.val (.ref o0), .val (.ref o1), .val (.ref o2), .val (.int (0 : Int32)), .val (.ref o3)] [])
  refine Wk.st (g' := (mkF m 32 #[.val (.ref o0), .val (.ref o1), .val (.ref o2), .val (.int (0 : Int32)), .val (.ref o3)] [(.ref o0)])) (fun X t q => XS.aloadN X.here C.hx rfl (hb C.hby d12_31) rfl rfl q) ?_
  refine Wk.st (g' := (mkF m 33 #[.val (.ref o0), .val (.ref o1), .val (.ref o2), .val (.int (0 : Int32)), .val (.ref o3)] [(.ref o2), (.ref o0)])) (fun X t q => XS.aloadN X.here C.hx rfl (hb C.hby d12_32) rfl rfl q) ?_
  refine Wk.putF C (hw _ (List.mem_of_getElem? (i := 62) rfl)) Via.refl F20 F19 (Or.inr ⟨(hw _ (List.mem_of_getElem? (i := 63) rfl)), rfl, rfl⟩) (hw _ (List.mem_of_getElem? (i := 49) rfl)) (ty := (.object "java/lang/String")) (by decide) (v' := (.ref o2)) rfl rfl G_o0 d12_33 ?_
  intro h26 W27
  have F28 : Fld Z h26 o0 "com/example/tripleshelf/tripleshelf/cli/Option" "valueName" "Ljava/lang/String;" (.ref o2) := F20.same W27
  have F29 : Exa Z h26 o2 "java/lang/String" := F7.wr W27
  have F30 : Exa Z h26 o1 "java/lang/String" := F8.wr W27
  have F31 : Exa Z h26 o4 "[B" := F9.wr W27
  have F32 : Fa Z h26 o4 .byte 1 (up (fun _ => (.int (0 : Int32))) 0 (.int x0)) := F10.other W27 (Ne.symm N_o0_o4)
  have F33 : Fld Z h26 o1 "java/lang/String" "coder" "B" (.int (0 : Int32)) := F11.other W27 (Or.inl (Ne.symm N_o0_o1))
  have F34 : Fld Z h26 o1 "java/lang/String" "value" "[B" (.ref o4) := F12.other W27 (Or.inl (Ne.symm N_o0_o1))
  have F35 : Exa Z h26 o3 "java/lang/String" := F13.wr W27
  have F36 : Exa Z h26 o5 "[B" := F14.wr W27
  have F37 : Fa Z h26 o5 .byte 1 (up (fun _ => (.int (0 : Int32))) 0 (.int x1)) := F15.other W27 (Ne.symm N_o0_o5)
  have F38 : Sta Z h26 "java/lang/String" "COMPACT_STRINGS" "Z" (.int x2) := F16.wr W27
  have F39 : Fld Z h26 o3 "java/lang/String" "value" "[B" (.ref o5) := F17.other W27 (Or.inl (Ne.symm N_o0_o3))
  have F40 : Fld Z h26 o3 "java/lang/String" "coder" "B" (.int (0 : Int32)) := F18.other W27 (Or.inl (Ne.symm N_o0_o3))
  have F41 : Exa Z h26 o0 "com/example/tripleshelf/tripleshelf/cli/Option" := F19.wr W27
  have F42 : Fld Z h26 o0 "com/example/tripleshelf/tripleshelf/cli/Option" "required" "Z" (.int (0 : Int32)) := F21.other W27 (Or.inr (slot_ne (Or.inr (hw _ (List.mem_of_getElem? (i := 65) rfl))) (Or.inr (hw _ (List.mem_of_getElem? (i := 63) rfl))) (by decide) (t := .boolean) (t' := (.object "java/lang/String")) (by decide) (by decide)))
  have F43 : Fld Z h26 o0 "com/example/tripleshelf/tripleshelf/cli/Option" "description" "Ljava/lang/String;" .null := F22.other W27 (Or.inr (slot_ne (Or.inr (hw _ (List.mem_of_getElem? (i := 67) rfl))) (Or.inr (hw _ (List.mem_of_getElem? (i := 63) rfl))) (by decide) (t := (.object "java/lang/String")) (t' := (.object "java/lang/String")) (by decide) (by decide)))
  have F44 : Fld Z h26 o0 "com/example/tripleshelf/tripleshelf/cli/Option" "name" "Ljava/lang/String;" (.ref o1) := F6.other W27 (Or.inr (slot_ne (Or.inr (hw _ (List.mem_of_getElem? (i := 61) rfl))) (Or.inr (hw _ (List.mem_of_getElem? (i := 63) rfl))) (by decide) (t := (.object "java/lang/String")) (t' := (.object "java/lang/String")) (by decide) (by decide)))
  have sz45 : n0 ≤ h26.size := Nat.le_trans sz23 (Nat.le_of_eq W27.size.symm)
  have sy46 : h0.size ≤ h26.size := Nat.le_trans sy24 (Nat.le_of_eq W27.size.symm)
  have K47 := K25.wr W27 (Or.inl (by simp))
  show Wk _ p l e _ s m _ below meth c n0 _ h26 0 0 (mkF m 36 #[.val (.ref o0), .val (.ref o1), .val (.ref o2), .val (.int (0 : Int32)), .val (.ref o3)] [])
  refine Wk.st (g' := (mkF m 37 #[.val (.ref o0), .val (.ref o1), .val (.ref o2), .val (.int (0 : Int32)), .val (.ref o3)] [(.ref o0)])) (fun X t q => XS.aloadN X.here C.hx rfl (hb C.hby d12_36) rfl rfl q) ?_
  refine Wk.st (g' := (mkF m 38 #[.val (.ref o0), .val (.ref o1), .val (.ref o2), .val (.int (0 : Int32)), .val (.ref o3)] [(.int (0 : Int32)), (.ref o0)])) (fun X t q => XS.iloadN X.here C.hx rfl (hb C.hby d12_37) rfl q) ?_
  refine Wk.putF C (hw _ (List.mem_of_getElem? (i := 64) rfl)) Via.refl F42 F41 (Or.inr ⟨(hw _ (List.mem_of_getElem? (i := 65) rfl)), rfl, rfl⟩) (hw _ (List.mem_of_getElem? (i := 49) rfl)) (ty := .boolean) (by decide) (v' := (.int (0 : Int32))) rfl (by decide) G_o0 d12_38 ?_
  intro h48 W49
  have F50 : Fld Z h48 o0 "com/example/tripleshelf/tripleshelf/cli/Option" "required" "Z" (.int (0 : Int32)) := F42.same W49
  have F51 : Exa Z h48 o2 "java/lang/String" := F29.wr W49
  have F52 : Exa Z h48 o1 "java/lang/String" := F30.wr W49
  have F53 : Exa Z h48 o4 "[B" := F31.wr W49
  have F54 : Fa Z h48 o4 .byte 1 (up (fun _ => (.int (0 : Int32))) 0 (.int x0)) := F32.other W49 (Ne.symm N_o0_o4)
  have F55 : Fld Z h48 o1 "java/lang/String" "coder" "B" (.int (0 : Int32)) := F33.other W49 (Or.inl (Ne.symm N_o0_o1))
  have F56 : Fld Z h48 o1 "java/lang/String" "value" "[B" (.ref o4) := F34.other W49 (Or.inl (Ne.symm N_o0_o1))
  have F57 : Exa Z h48 o3 "java/lang/String" := F35.wr W49
  have F58 : Exa Z h48 o5 "[B" := F36.wr W49
  have F59 : Fa Z h48 o5 .byte 1 (up (fun _ => (.int (0 : Int32))) 0 (.int x1)) := F37.other W49 (Ne.symm N_o0_o5)
  have F60 : Sta Z h48 "java/lang/String" "COMPACT_STRINGS" "Z" (.int x2) := F38.wr W49
  have F61 : Fld Z h48 o3 "java/lang/String" "value" "[B" (.ref o5) := F39.other W49 (Or.inl (Ne.symm N_o0_o3))
  have F62 : Fld Z h48 o3 "java/lang/String" "coder" "B" (.int (0 : Int32)) := F40.other W49 (Or.inl (Ne.symm N_o0_o3))
  have F63 : Exa Z h48 o0 "com/example/tripleshelf/tripleshelf/cli/Option" := F41.wr W49
  have F64 : Fld Z h48 o0 "com/example/tripleshelf/tripleshelf/cli/Option" "description" "Ljava/lang/String;" .null := F43.other W49 (Or.inr (slot_ne (Or.inr (hw _ (List.mem_of_getElem? (i := 67) rfl))) (Or.inr (hw _ (List.mem_of_getElem? (i := 65) rfl))) (by decide) (t := (.object "java/lang/String")) (t' := .boolean) (by decide) (by decide)))
  have F65 : Fld Z h48 o0 "com/example/tripleshelf/tripleshelf/cli/Option" "name" "Ljava/lang/String;" (.ref o1) := F44.other W49 (Or.inr (slot_ne (Or.inr (hw _ (List.mem_of_getElem? (i := 61) rfl))) (Or.inr (hw _ (List.mem_of_getElem? (i := 65) rfl))) (by decide) (t := (.object "java/lang/String")) (t' := .boolean) (by decide) (by decide)))
  have F66 : Fld Z h48 o0 "com/example/tripleshelf/tripleshelf/cli/Option" "valueName" "Ljava/lang/String;" (.ref o2) := F28.other W49 (Or.inr (slot_ne (Or.inr (hw _ (List.mem_of_getElem? (i := 63) rfl))) (Or.inr (hw _ (List.mem_of_getElem? (i := 65) rfl))) (by decide) (t := (.object "java/lang/String")) (t' := .boolean) (by decide) (by decide)))
  have sz67 : n0 ≤ h48.size := Nat.le_trans sz45 (Nat.le_of_eq W49.size.symm)
  have sy68 : h0.size ≤ h48.size := Nat.le_trans sy46 (Nat.le_of_eq W49.size.symm)
  have K69 := K47.wr W49 (Or.inl (by simp))
  show Wk _ p l e _ s m _ below meth c n0 _ h48 0 0 (mkF m 41 #[.val (.ref o0), .val (.ref o1), .val (.ref o2), .val (.int (0 : Int32)), .val (.ref o3)] [])
  refine Wk.st (g' := (mkF m 42 #[.val (.ref o0), .val (.ref o1), .val (.ref o2), .val (.int (0 : Int32)), .val (.ref o3)] [(.ref o0)])) (fun X t q => XS.aloadN X.here C.hx rfl (hb C.hby d12_41) rfl rfl q) ?_
  refine Wk.st (g' := (mkF m 44 #[.val (.ref o0), .val (.ref o1), .val (.ref o2), .val (.int (0 : Int32)), .val (.ref o3)] [(.ref o3), (.ref o0)])) (fun X t q => XS.aload X.here C.hx rfl (hb C.hby d12_42) rfl rfl q) ?_
  refine Wk.putF C (hw _ (List.mem_of_getElem? (i := 66) rfl)) Via.refl F64 F63 (Or.inr ⟨(hw _ (List.mem_of_getElem? (i := 67) rfl)), rfl, rfl⟩) (hw _ (List.mem_of_getElem? (i := 49) rfl)) (ty := (.object "java/lang/String")) (by decide) (v' := (.ref o3)) rfl rfl G_o0 d12_44 ?_
  intro h70 W71
  have F72 : Fld Z h70 o0 "com/example/tripleshelf/tripleshelf/cli/Option" "description" "Ljava/lang/String;" (.ref o3) := F64.same W71
  have F73 : Exa Z h70 o2 "java/lang/String" := F51.wr W71
  have F74 : Exa Z h70 o1 "java/lang/String" := F52.wr W71
  have F75 : Exa Z h70 o4 "[B" := F53.wr W71
  have F76 : Fa Z h70 o4 .byte 1 (up (fun _ => (.int (0 : Int32))) 0 (.int x0)) := F54.other W71 (Ne.symm N_o0_o4)
  have F77 : Fld Z h70 o1 "java/lang/String" "coder" "B" (.int (0 : Int32)) := F55.other W71 (Or.inl (Ne.symm N_o0_o1))
  have F78 : Fld Z h70 o1 "java/lang/String" "value" "[B" (.ref o4) := F56.other W71 (Or.inl (Ne.symm N_o0_o1))
  have F79 : Exa Z h70 o3 "java/lang/String" := F57.wr W71
  have F80 : Exa Z h70 o5 "[B" := F58.wr W71
  have F81 : Fa Z h70 o5 .byte 1 (up (fun _ => (.int (0 : Int32))) 0 (.int x1)) := F59.other W71 (Ne.symm N_o0_o5)
  have F82 : Sta Z h70 "java/lang/String" "COMPACT_STRINGS" "Z" (.int x2) := F60.wr W71
  have F83 : Fld Z h70 o3 "java/lang/String" "value" "[B" (.ref o5) := F61.other W71 (Or.inl (Ne.symm N_o0_o3))
  have F84 : Fld Z h70 o3 "java/lang/String" "coder" "B" (.int (0 : Int32)) := F62.other W71 (Or.inl (Ne.symm N_o0_o3))
  have F85 : Exa Z h70 o0 "com/example/tripleshelf/tripleshelf/cli/Option" := F63.wr W71
  have F86 : Fld Z h70 o0 "com/example/tripleshelf/tripleshelf/cli/Option" "name" "Ljava/lang/String;" (.ref o1) := F65.other W71 (Or.inr (slot_ne (Or.inr (hw _ (List.mem_of_getElem? (i := 61) rfl))) (Or.inr (hw _ (List.mem_of_getElem? (i := 67) rfl))) (by decide) (t := (.object "java/lang/String")) (t' := (.object "java/lang/String")) (by decide) (by decide)))
  have F87 : Fld Z h70 o0 "com/example/tripleshelf/tripleshelf/cli/Option" "valueName" "Ljava/lang/String;" (.ref o2) := F66.other W71 (Or.inr (slot_ne (Or.inr (hw _ (List.mem_of_getElem? (i := 63) rfl))) (Or.inr (hw _ (List.mem_of_getElem? (i := 67) rfl))) (by decide) (t := (.object "java/lang/String")) (t' := (.object "java/lang/String")) (by decide) (by decide)))
  have F88 : Fld Z h70 o0 "com/example/tripleshelf/tripleshelf/cli/Option" "required" "Z" (.int (0 : Int32)) := F50.other W71 (Or.inr (slot_ne (Or.inr (hw _ (List.mem_of_getElem? (i := 65) rfl))) (Or.inr (hw _ (List.mem_of_getElem? (i := 67) rfl))) (by decide) (t := .boolean) (t' := (.object "java/lang/String")) (by decide) (by decide)))
  have sz89 : n0 ≤ h70.size := Nat.le_trans sz67 (Nat.le_of_eq W71.size.symm)
  have sy90 : h0.size ≤ h70.size := Nat.le_trans sy68 (Nat.le_of_eq W71.size.symm)
  have K91 := K69.wr W71 (Or.inl (by simp))
  show Wk _ p l e _ s m _ below meth c n0 _ h70 0 0 (mkF m 47 #[.val (.ref o0), .val (.ref o1), .val (.ref o2), .val (.int (0 : Int32)), .val (.ref o3)] [])
  exact Wk.retN0 C rfl d12_47 (by decide) (by decide) ⟨rfl, K91, F82, F86, F87, F88, F72⟩
set_option maxRecDepth 65536 in
set_option maxHeartbeats 40000000 in
theorem own_14_14 (l : Launch) (Z : State) (a0 : Array Value) (hw : ∀ d ∈ tables_1, d.before a0 Z = true) (n0 : Nat) (h0 : Heap) (hsz : n0 ≤ h0.size) (o0 : Addr) (o1 : Addr) (o2 : Addr) (o3 : Addr) (o4 : Addr) (o5 : Addr) (x0 : Int32) (x1 : Int32) (x2 : Int32) (P0 : Exa Z h0 o2 "java/lang/String") (P1 : Exa Z h0 o1 "java/lang/String") (P2 : Exa Z h0 o4 "[B") (P3 : Fa Z h0 o4 .byte 1 (up (fun _ => (.int (0 : Int32))) 0 (.int x0))) (P4 : Fld Z h0 o1 "java/lang/String" "coder" "B" (.int (0 : Int32))) (P5 : Fld Z h0 o1 "java/lang/String" "value" "[B" (.ref o4)) (P6 : Exa Z h0 o3 "java/lang/String") (P7 : Exa Z h0 o5 "[B") (P8 : Fa Z h0 o5 .byte 1 (up (fun _ => (.int (0 : Int32))) 0 (.int x1))) (P9 : Fld Z h0 o3 "java/lang/String" "value" "[B" (.ref o5)) (P10 : Fld Z h0 o3 "java/lang/String" "coder" "B" (.int (0 : Int32))) (P11 : Exa Z h0 o0 "com/example/tripleshelf/tripleshelf/cli/Option") (P12 : Sta Z h0 "java/lang/String" "COMPACT_STRINGS" "Z" (.int x2)) (P13 : Fld Z h0 o0 "com/example/tripleshelf/tripleshelf/cli/Option" "name" "Ljava/lang/String;" (.ref o1)) (P14 : Fld Z h0 o0 "com/example/tripleshelf/tripleshelf/cli/Option" "valueName" "Ljava/lang/String;" (.ref o2)) (P15 : Fld Z h0 o0 "com/example/tripleshelf/tripleshelf/cli/Option" "required" "Z" (.int (0 : Int32))) (P16 : Fld Z h0 o0 "com/example/tripleshelf/tripleshelf/cli/Option" "description" "Ljava/lang/String;" (.ref o3)) (N_o0_o1 : o0 ≠ o1) (N_o0_o2 : o0 ≠ o2) (N_o0_o3 : o0 ≠ o3) (N_o0_o4 : o0 ≠ o4) (N_o0_o5 : o0 ≠ o5) (N_o1_o2 : o1 ≠ o2) (N_o1_o3 : o1 ≠ o3) (N_o1_o4 : o1 ≠ o4) (N_o1_o5 : o1 ≠ o5) (N_o2_o3 : o2 ≠ o3) (N_o2_o4 : o2 ≠ o4) (N_o2_o5 : o2 ≠ o5) (N_o3_o4 : o3 ≠ o4) (N_o3_o5 : o3 ≠ o5) (N_o4_o5 : o4 ≠ o5) (G_o0 : n0 ≤ o0) (G_o1 : n0 ≤ o1) (G_o2 : n0 ≤ o2) (G_o3 : n0 ≤ o3) (G_o4 : n0 ≤ o4) (G_o5 : n0 ≤ o5) (nz_x2 : ¬ x2 = (0 : Int32)) :
    Met true l Z n0 (⟨"com/example/tripleshelf/tripleshelf/cli/Option", "takesValue", "()Z"⟩ : MethodName) prog_5_method_5_code 1 (some .boolean) ({ frames := 0, cells := 0, slots := 0, locals := 0 } : Room) #[(.ref o0)] h0 (fun v h => v = some (.int (1 : Int32)) ∧ h0 = h) := by
  refine Met.of (plainFor_of_name pn_5) #[.val (.ref o0)] (fun m => by first | (simp [entryFrame, mkF, argsToLocals, Value.category]; done) | rfl) ?_
  intro p e s m below meth c C
  refine Wk.st (g' := (mkF m 1 #[.val (.ref o0)] [(.ref o0)])) (fun X t q => XS.aloadN X.here C.hx rfl (hb C.hby d14_0) rfl rfl q) ?_
  refine Wk.getF C (hw _ (List.mem_of_getElem? (i := 62) rfl)) Via.refl P14 d14_1 ?_
  show Wk _ p l e _ s m _ below meth c n0 _ h0 0 0 (mkF m 4 #[.val (.ref o0)] [(.ref o2)])
  refine Wk.st (g' := (mkF m 7 #[.val (.ref o0)] [])) (fun X t q => XS.ifnullNo X.here C.hx rfl (hb C.hby d14_4) rfl q) ?_
  refine Wk.st (g' := (mkF m 8 #[.val (.ref o0)] [(.int (1 : Int32))])) (fun X t q => XS.iconst X.here C.hx rfl (hb C.hby d14_7) q) ?_
  refine Wk.st (g' := (mkF m 12 #[.val (.ref o0)] [(.int (1 : Int32))])) (fun X t q => XS.goto X.here C.hx rfl (pc0 := 8) (pc' := 12) rfl (hb C.hby d14_8) (by decide) (by decide) q) ?_
  exact Wk.retV C (t := .boolean) rfl rfl (Or.inl ⟨rfl, by simp, _, rfl⟩) d14_12 (by decide) (by decide) ⟨rfl, rfl⟩
set_option maxRecDepth 65536 in
set_option maxHeartbeats 40000000 in
theorem own_12_15 (l : Launch) (Z : State) (a0 : Array Value) (hw : ∀ d ∈ tables_1, d.before a0 Z = true) (n0 : Nat) (h0 : Heap) (hsz : n0 ≤ h0.size) (o0 : Addr) (o1 : Addr) (o2 : Addr) (o3 : Addr) (o4 : Addr) (o5 : Addr) (x0 : Int32) (x1 : Int32) (x2 : Int32) (P0 : Exa Z h0 o2 "java/lang/String") (P1 : Exa Z h0 o1 "java/lang/String") (P2 : Exa Z h0 o4 "[B") (P3 : Fa Z h0 o4 .byte 1 (up (fun _ => (.int (0 : Int32))) 0 (.int x0))) (P4 : Fld Z h0 o1 "java/lang/String" "coder" "B" (.int (0 : Int32))) (P5 : Fld Z h0 o1 "java/lang/String" "value" "[B" (.ref o4)) (P6 : Exa Z h0 o3 "java/lang/String") (P7 : Exa Z h0 o5 "[B") (P8 : Fa Z h0 o5 .byte 1 (up (fun _ => (.int (0 : Int32))) 0 (.int x1))) (P9 : Sta Z h0 "java/lang/String" "COMPACT_STRINGS" "Z" (.int x2)) (P10 : Fld Z h0 o3 "java/lang/String" "value" "[B" (.ref o5)) (P11 : Fld Z h0 o3 "java/lang/String" "coder" "B" (.int (0 : Int32))) (P12 : Exa Z h0 o0 "com/example/tripleshelf/tripleshelf/cli/Option") (P13 : Fld Z h0 o0 "com/example/tripleshelf/tripleshelf/cli/Option" "name" "Ljava/lang/String;" .null) (P14 : Fld Z h0 o0 "com/example/tripleshelf/tripleshelf/cli/Option" "valueName" "Ljava/lang/String;" .null) (P15 : Fld Z h0 o0 "com/example/tripleshelf/tripleshelf/cli/Option" "required" "Z" (.int (0 : Int32))) (P16 : Fld Z h0 o0 "com/example/tripleshelf/tripleshelf/cli/Option" "description" "Ljava/lang/String;" .null) (N_o0_o1 : o0 ≠ o1) (N_o0_o2 : o0 ≠ o2) (N_o0_o3 : o0 ≠ o3) (N_o0_o4 : o0 ≠ o4) (N_o0_o5 : o0 ≠ o5) (N_o1_o2 : o1 ≠ o2) (N_o1_o3 : o1 ≠ o3) (N_o1_o4 : o1 ≠ o4) (N_o1_o5 : o1 ≠ o5) (N_o2_o3 : o2 ≠ o3) (N_o2_o4 : o2 ≠ o4) (N_o2_o5 : o2 ≠ o5) (N_o3_o4 : o3 ≠ o4) (N_o3_o5 : o3 ≠ o5) (N_o4_o5 : o4 ≠ o5) (G_o0 : n0 ≤ o0) (G_o1 : n0 ≤ o1) (G_o2 : n0 ≤ o2) (G_o3 : n0 ≤ o3) (G_o4 : n0 ≤ o4) (G_o5 : n0 ≤ o5) (nz_x2 : ¬ x2 = (0 : Int32)) :
    Met true l Z n0 (⟨"com/example/tripleshelf/tripleshelf/cli/Option", "<init>", "(Ljava/lang/String;Ljava/lang/String;ZLjava/lang/String;)V"⟩ : MethodName) prog_5_method_1_code 5 none ({ frames := 2, cells := 0, slots := 0, locals := 24 } : Room) #[(.ref o0), (.ref o1), (.ref o2), (.int (1 : Int32)), (.ref o3)] h0 (fun v h => v = none ∧ Keep h0 h [o0] ∧ Sta Z h "java/lang/String" "COMPACT_STRINGS" "Z" (.int x2) ∧ Fld Z h o0 "com/example/tripleshelf/tripleshelf/cli/Option" "name" "Ljava/lang/String;" (.ref o1) ∧ Fld Z h o0 "com/example/tripleshelf/tripleshelf/cli/Option" "valueName" "Ljava/lang/String;" (.ref o2) ∧ Fld Z h o0 "com/example/tripleshelf/tripleshelf/cli/Option" "required" "Z" (.int (1 : Int32)) ∧ Fld Z h o0 "com/example/tripleshelf/tripleshelf/cli/Option" "description" "Ljava/lang/String;" (.ref o3)) := by
  refine Met.of (plainFor_of_name pn_5) #[.val (.ref o0), .val (.ref o1), .val (.ref o2), .val (.int (1 : Int32)), .val (.ref o3)] (fun m => by first | (simp [entryFrame, mkF, argsToLocals, Value.category]; done) | rfl) ?_
  intro p e s m below meth c C
  refine Wk.st (g' := (mkF m 1 #[.val (.ref o0), .val (.ref o1), .val (.ref o2), .val (.int (1 : Int32)), .val (.ref o3)] [(.ref o0)])) (fun X t q => XS.aloadN X.here C.hx rfl (hb C.hby d12_0) rfl rfl q) ?_
  refine Wk.callI C (z := (⟨"java/lang/Record", "<init>", "()V"⟩ : MethodName)) rfl (hw _ (List.mem_of_getElem? (i := 54) rfl)) (hw _ (List.mem_of_getElem? (i := 55) rfl)) (hw _ (List.mem_of_getElem? (i := 57) rfl)) (hw _ (List.mem_of_getElem? (i := 58) rfl)) (by decide) (own_13_10 l Z a0 hw n0 h0 hsz o0 x2 P9 P12 P13 P14 P15 P16  G_o0 nz_x2) (w := 0) (by decide) (by decide) pd_11 rfl (rest := []) rfl rfl (Nat.le_of_eq rfl) (by decide) (by decide) d12_1 ?_
  rintro _ _ ⟨rfl, rfl⟩
  show Wk _ p l e _ s m _ below meth c n0 _ h0 0 0 (mkF m 4 #[.val (.ref o0), .val (.ref o1), .val (.ref o2), .val (.int (1 : Int32)), .val (.ref o3)] [])
  refine Wk.st (g' := (mkF m 5 #[.val (.ref o0), .val (.ref o1), .val (.ref o2), .val (.int (1 : Int32)), .val (.ref o3)] [(.int (1 : Int32))])) (fun X t q => XS.iloadN X.here C.hx rfl (hb C.hby d12_4) rfl q) ?_
  refine Wk.st (g' := (mkF m 8 #[.val (.ref o0), .val (.ref o1), .val (.ref o2), .val (.int (1 : Int32)), .val (.ref o3)] [])) (fun X t q => XS.ifNo X.here C.hx rfl (hb C.hby d12_5) rfl (XT.i0_eq_f (by decide)) q) ?_
  refine Wk.st (g' := (mkF m 9 #[.val (.ref o0), .val (.ref o1), .val (.ref o2), .val (.int (1 : Int32)), .val (.ref o3)] [(.ref o2)])) (fun X t q => XS.aloadN X.here C.hx rfl (hb C.hby d12_8) rfl rfl q) ?_
  refine Wk.st (g' := (mkF m 26 #[.val (.ref o0), .val (.ref o1), .val (.ref o2), .val (.int (1 : Int32)), .val (.ref o3)] [])) (fun X t q => XS.ifnonnullYes X.here C.hx rfl (pc0 := 9) (pc' := 26) rfl (hb C.hby d12_9) rfl (by decide) (by decide) q) ?_
  refine Wk.st (g' := (mkF m 27 #[.val (.ref o0), .val (.ref o1), .val (.ref o2), .val (.int (1 : Int32)), .val (.ref o3)] [(.ref o0)])) (fun X t q => XS.aloadN X.here C.hx rfl (hb C.hby d12_26) rfl rfl q) ?_
  refine Wk.st (g' := (mkF m 28 #[.val (.ref o0), .val (.ref o1), .val (.ref o2), .val (.int (1 : Int32)), .val (.ref o3)] [(.ref o1), (.ref o0)])) (fun X t q => XS.aloadN X.here C.hx rfl (hb C.hby d12_27) rfl rfl q) ?_
  refine Wk.putF C (hw _ (List.mem_of_getElem? (i := 60) rfl)) Via.refl P13 P12 (Or.inr ⟨(hw _ (List.mem_of_getElem? (i := 61) rfl)), rfl, rfl⟩) (hw _ (List.mem_of_getElem? (i := 49) rfl)) (ty := (.object "java/lang/String")) (by decide) (v' := (.ref o1)) rfl rfl G_o0 d12_28 ?_
  intro h4 W5
  have F6 : Fld Z h4 o0 "com/example/tripleshelf/tripleshelf/cli/Option" "name" "Ljava/lang/String;" (.ref o1) := P13.same W5
  have F7 : Exa Z h4 o2 "java/lang/String" := P0.wr W5
  have F8 : Exa Z h4 o1 "java/lang/String" := P1.wr W5
  have F9 : Exa Z h4 o4 "[B" := P2.wr W5
  have F10 : Fa Z h4 o4 .byte 1 (up (fun _ => (.int (0 : Int32))) 0 (.int x0)) := P3.other W5 (Ne.symm N_o0_o4)
  have F11 : Fld Z h4 o1 "java/lang/String" "coder" "B" (.int (0 : Int32)) := P4.other W5 (Or.inl (Ne.symm N_o0_o1))
  have F12 : Fld Z h4 o1 "java/lang/String" "value" "[B" (.ref o4) := P5.other W5 (Or.inl (Ne.symm N_o0_o1))
  have F13 : Exa Z h4 o3 "java/lang/String" := P6.wr W5
  have F14 : Exa Z h4 o5 "[B" := P7.wr W5
  have F15 : Fa Z h4 o5 .byte 1 (up (fun _ => (.int (0 : Int32))) 0 (.int x1)) := P8.other W5 (Ne.symm N_o0_o5)
  have F16 : Sta Z h4 "java/lang/String" "COMPACT_STRINGS" "Z" (.int x2) := P9.wr W5
  have F17 : Fld Z h4 o3 "java/lang/String" "value" "[B" (.ref o5) := P10.other W5 (Or.inl (Ne.symm N_o0_o3))
  have F18 : Fld Z h4 o3 "java/lang/String" "coder" "B" (.int (0 : Int32)) := P11.other W5 (Or.inl (Ne.symm N_o0_o3))
  have F19 : Exa Z h4 o0 "com/example/tripleshelf/tripleshelf/cli/Option" := P12.wr W5
  have F20 : Fld Z h4 o0 "com/example/tripleshelf/tripleshelf/cli/Option" "valueName" "Ljava/lang/String;" .null := P14.other W5 (Or.inr (slot_ne (Or.inr (hw _ (List.mem_of_getElem? (i := 63) rfl))) (Or.inr (hw _ (List.mem_of_getElem? (i := 61) rfl))) (by decide) (t := (.object "java/lang/String")) (t' := (.object "java/lang/String")) (by decide) (by decide)))
  have F21 : Fld Z h4 o0 "com/example/tripleshelf/tripleshelf/cli/Option" "required" "Z" (.int (0 : Int32)) := P15.other W5 (Or.inr (slot_ne (Or.inr (hw _ (List.mem_of_getElem? (i := 65) rfl))) (Or.inr (hw _ (List.mem_of_getElem? (i := 61) rfl))) (by decide) (t := .boolean) (t' := (.object "java/lang/String")) (by decide) (by decide)))
  have F22 : Fld Z h4 o0 "com/example/tripleshelf/tripleshelf/cli/Option" "description" "Ljava/lang/String;" .null := P16.other W5 (Or.inr (slot_ne (Or.inr (hw _ (List.mem_of_getElem? (i := 67) rfl))) (Or.inr (hw _ (List.mem_of_getElem? (i := 61) rfl))) (by decide) (t := (.object "java/lang/String")) (t' := (.object "java/lang/String")) (by decide) (by decide)))
  have sz23 : n0 ≤ h4.size := Nat.le_trans hsz (Nat.le_of_eq W5.size.symm)
  have sy24 : h0.size ≤ h4.size := Nat.le_trans (Nat.le_refl h0.size) (Nat.le_of_eq W5.size.symm)
  have K25 := (Keep.refl h0 [o0]).wr W5 (Or.inl (by simp))
  show Wk _ p l e _ s m _ below meth c n0 _ h4 0 0 (mkF m 31 #[.val (.ref o0), .val (.ref o1), .val (.ref o2), .val (.int (1 : Int32)), .val (.ref o3)] [])
  refine Wk.st (g' := (mkF m 32 #[.val (.ref o0), .val (.ref o1), .val (.ref o2), .val (.int (1 : Int32)), .val (.ref o3)] [(.ref o0)])) (fun X t q => XS.aloadN X.here C.hx rfl (hb C.hby d12_31) rfl rfl q) ?_
  refine Wk.st (g' := (mkF m 33 #[.val (.ref o0), .val (.ref o1), .val (.ref o2), .val (.int (1 : Int32)), .val (.ref o3)] [(.ref o2), (.ref o0)])) (fun X t q => XS.aloadN X.here C.hx rfl (hb C.hby d12_32) rfl rfl q) ?_
  refine Wk.putF C (hw _ (List.mem_of_getElem? (i := 62) rfl)) Via.refl F20 F19 (Or.inr ⟨(hw _ (List.mem_of_getElem? (i := 63) rfl)), rfl, rfl⟩) (hw _ (List.mem_of_getElem? (i := 49) rfl)) (ty := (.object "java/lang/String")) (by decide) (v' := (.ref o2)) rfl rfl G_o0 d12_33 ?_
  intro h26 W27
  have F28 : Fld Z h26 o0 "com/example/tripleshelf/tripleshelf/cli/Option" "valueName" "Ljava/lang/String;" (.ref o2) := F20.same W27
  have F29 : Exa Z h26 o2 "java/lang/String" := F7.wr W27
  have F30 : Exa Z h26 o1 "java/lang/String" := F8.wr W27
  have F31 : Exa Z h26 o4 "[B" := F9.wr W27
  have F32 : Fa Z h26 o4 .byte 1 (up (fun _ => (.int (0 : Int32))) 0 (.int x0)) := F10.other W27 (Ne.symm N_o0_o4)
  have F33 : Fld Z h26 o1 "java/lang/String" "coder" "B" (.int (0 : Int32)) := F11.other W27 (Or.inl (Ne.symm N_o0_o1))
  have F34 : Fld Z h26 o1 "java/lang/String" "value" "[B" (.ref o4) := F12.other W27 (Or.inl (Ne.symm N_o0_o1))
  have F35 : Exa Z h26 o3 "java/lang/String" := F13.wr W27
  have F36 : Exa Z h26 o5 "[B" := F14.wr W27
  have F37 : Fa Z h26 o5 .byte 1 (up (fun _ => (.int (0 : Int32))) 0 (.int x1)) := F15.other W27 (Ne.symm N_o0_o5)
  have F38 : Sta Z h26 "java/lang/String" "COMPACT_STRINGS" "Z" (.int x2) := F16.wr W27
  have F39 : Fld Z h26 o3 "java/lang/String" "value" "[B" (.ref o5) := F17.other W27 (Or.inl (Ne.symm N_o0_o3))
  have F40 : Fld Z h26 o3 "java/lang/String" "coder" "B" (.int (0 : Int32)) := F18.other W27 (Or.inl (Ne.symm N_o0_o3))
  have F41 : Exa Z h26 o0 "com/example/tripleshelf/tripleshelf/cli/Option" := F19.wr W27
  have F42 : Fld Z h26 o0 "com/example/tripleshelf/tripleshelf/cli/Option" "required" "Z" (.int (0 : Int32)) := F21.other W27 (Or.inr (slot_ne (Or.inr (hw _ (List.mem_of_getElem? (i := 65) rfl))) (Or.inr (hw _ (List.mem_of_getElem? (i := 63) rfl))) (by decide) (t := .boolean) (t' := (.object "java/lang/String")) (by decide) (by decide)))
  have F43 : Fld Z h26 o0 "com/example/tripleshelf/tripleshelf/cli/Option" "description" "Ljava/lang/String;" .null := F22.other W27 (Or.inr (slot_ne (Or.inr (hw _ (List.mem_of_getElem? (i := 67) rfl))) (Or.inr (hw _ (List.mem_of_getElem? (i := 63) rfl))) (by decide) (t := (.object "java/lang/String")) (t' := (.object "java/lang/String")) (by decide) (by decide)))
  have F44 : Fld Z h26 o0 "com/example/tripleshelf/tripleshelf/cli/Option" "name" "Ljava/lang/String;" (.ref o1) := F6.other W27 (Or.inr (slot_ne (Or.inr (hw _ (List.mem_of_getElem? (i := 61) rfl))) (Or.inr (hw _ (List.mem_of_getElem? (i := 63) rfl))) (by decide) (t := (.object "java/lang/String")) (t' := (.object "java/lang/String")) (by decide) (by decide)))
  have sz45 : n0 ≤ h26.size := Nat.le_trans sz23 (Nat.le_of_eq W27.size.symm)
  have sy46 : h0.size ≤ h26.size := Nat.le_trans sy24 (Nat.le_of_eq W27.size.symm)
  have K47 := K25.wr W27 (Or.inl (by simp))
  show Wk _ p l e _ s m _ below meth c n0 _ h26 0 0 (mkF m 36 #[.val (.ref o0), .val (.ref o1), .val (.ref o2), .val (.int (1 : Int32)), .val (.ref o3)] [])
  refine Wk.st (g' := (mkF m 37 #[.val (.ref o0), .val (.ref o1), .val (.ref o2), .val (.int (1 : Int32)), .val (.ref o3)] [(.ref o0)])) (fun X t q => XS.aloadN X.here C.hx rfl (hb C.hby d12_36) rfl rfl q) ?_
  refine Wk.st (g' := (mkF m 38 #[.val (.ref o0), .val (.ref o1), .val (.ref o2), .val (.int (1 : Int32)), .val (.ref o3)] [(.int (1 : Int32)), (.ref o0)])) (fun X t q => XS.iloadN X.here C.hx rfl (hb C.hby d12_37) rfl q) ?_
  refine Wk.putF C (hw _ (List.mem_of_getElem? (i := 64) rfl)) Via.refl F42 F41 (Or.inr ⟨(hw _ (List.mem_of_getElem? (i := 65) rfl)), rfl, rfl⟩) (hw _ (List.mem_of_getElem? (i := 49) rfl)) (ty := .boolean) (by decide) (v' := (.int (1 : Int32))) rfl (by decide) G_o0 d12_38 ?_
  intro h48 W49
  have F50 : Fld Z h48 o0 "com/example/tripleshelf/tripleshelf/cli/Option" "required" "Z" (.int (1 : Int32)) := F42.same W49
  have F51 : Exa Z h48 o2 "java/lang/String" := F29.wr W49
  have F52 : Exa Z h48 o1 "java/lang/String" := F30.wr W49
  have F53 : Exa Z h48 o4 "[B" := F31.wr W49
  have F54 : Fa Z h48 o4 .byte 1 (up (fun _ => (.int (0 : Int32))) 0 (.int x0)) := F32.other W49 (Ne.symm N_o0_o4)
  have F55 : Fld Z h48 o1 "java/lang/String" "coder" "B" (.int (0 : Int32)) := F33.other W49 (Or.inl (Ne.symm N_o0_o1))
  have F56 : Fld Z h48 o1 "java/lang/String" "value" "[B" (.ref o4) := F34.other W49 (Or.inl (Ne.symm N_o0_o1))
  have F57 : Exa Z h48 o3 "java/lang/String" := F35.wr W49
  have F58 : Exa Z h48 o5 "[B" := F36.wr W49
  have F59 : Fa Z h48 o5 .byte 1 (up (fun _ => (.int (0 : Int32))) 0 (.int x1)) := F37.other W49 (Ne.symm N_o0_o5)
  have F60 : Sta Z h48 "java/lang/String" "COMPACT_STRINGS" "Z" (.int x2) := F38.wr W49
  have F61 : Fld Z h48 o3 "java/lang/String" "value" "[B" (.ref o5) := F39.other W49 (Or.inl (Ne.symm N_o0_o3))
  have F62 : Fld Z h48 o3 "java/lang/String" "coder" "B" (.int (0 : Int32)) := F40.other W49 (Or.inl (Ne.symm N_o0_o3))
  have F63 : Exa Z h48 o0 "com/example/tripleshelf/tripleshelf/cli/Option" := F41.wr W49
  have F64 : Fld Z h48 o0 "com/example/tripleshelf/tripleshelf/cli/Option" "description" "Ljava/lang/String;" .null := F43.other W49 (Or.inr (slot_ne (Or.inr (hw _ (List.mem_of_getElem? (i := 67) rfl))) (Or.inr (hw _ (List.mem_of_getElem? (i := 65) rfl))) (by decide) (t := (.object "java/lang/String")) (t' := .boolean) (by decide) (by decide)))
  have F65 : Fld Z h48 o0 "com/example/tripleshelf/tripleshelf/cli/Option" "name" "Ljava/lang/String;" (.ref o1) := F44.other W49 (Or.inr (slot_ne (Or.inr (hw _ (List.mem_of_getElem? (i := 61) rfl))) (Or.inr (hw _ (List.mem_of_getElem? (i := 65) rfl))) (by decide) (t := (.object "java/lang/String")) (t' := .boolean) (by decide) (by decide)))
  have F66 : Fld Z h48 o0 "com/example/tripleshelf/tripleshelf/cli/Option" "valueName" "Ljava/lang/String;" (.ref o2) := F28.other W49 (Or.inr (slot_ne (Or.inr (hw _ (List.mem_of_getElem? (i := 63) rfl))) (Or.inr (hw _ (List.mem_of_getElem? (i := 65) rfl))) (by decide) (t := (.object "java/lang/String")) (t' := .boolean) (by decide) (by decide)))
  have sz67 : n0 ≤ h48.size := Nat.le_trans sz45 (Nat.le_of_eq W49.size.symm)
  have sy68 : h0.size ≤ h48.size := Nat.le_trans sy46 (Nat.le_of_eq W49.size.symm)
  have K69 := K47.wr W49 (Or.inl (by simp))
  show Wk _ p l e _ s m _ below meth c n0 _ h48 0 0 (mkF m 41 #[.val (.ref o0), .val (.ref o1), .val (.ref o2), .val (.int (1 : Int32)), .val (.ref o3)] [])
  refine Wk.st (g' := (mkF m 42 #[.val (.ref o0), .val (.ref o1), .val (.ref o2), .val (.int (1 : Int32)), .val (.ref o3)] [(.ref o0)])) (fun X t q => XS.aloadN X.here C.hx rfl (hb C.hby d12_41) rfl rfl q) ?_
  refine Wk.st (g' := (mkF m 44 #[.val (.ref o0), .val (.ref o1), .val (.ref o2), .val (.int (1 : Int32)), .val (.ref o3)] [(.ref o3), (.ref o0)])) (fun X t q => XS.aload X.here C.hx rfl (hb C.hby d12_42) rfl rfl q) ?_
  refine Wk.putF C (hw _ (List.mem_of_getElem? (i := 66) rfl)) Via.refl F64 F63 (Or.inr ⟨(hw _ (List.mem_of_getElem? (i := 67) rfl)), rfl, rfl⟩) (hw _ (List.mem_of_getElem? (i := 49) rfl)) (ty := (.object "java/lang/String")) (by decide) (v' := (.ref o3)) rfl rfl G_o0 d12_44 ?_
  intro h70 W71
  have F72 : Fld Z h70 o0 "com/example/tripleshelf/tripleshelf/cli/Option" "description" "Ljava/lang/String;" (.ref o3) := F64.same W71
  have F73 : Exa Z h70 o2 "java/lang/String" := F51.wr W71
  have F74 : Exa Z h70 o1 "java/lang/String" := F52.wr W71
  have F75 : Exa Z h70 o4 "[B" := F53.wr W71
  have F76 : Fa Z h70 o4 .byte 1 (up (fun _ => (.int (0 : Int32))) 0 (.int x0)) := F54.other W71 (Ne.symm N_o0_o4)
  have F77 : Fld Z h70 o1 "java/lang/String" "coder" "B" (.int (0 : Int32)) := F55.other W71 (Or.inl (Ne.symm N_o0_o1))
  have F78 : Fld Z h70 o1 "java/lang/String" "value" "[B" (.ref o4) := F56.other W71 (Or.inl (Ne.symm N_o0_o1))
  have F79 : Exa Z h70 o3 "java/lang/String" := F57.wr W71
  have F80 : Exa Z h70 o5 "[B" := F58.wr W71
  have F81 : Fa Z h70 o5 .byte 1 (up (fun _ => (.int (0 : Int32))) 0 (.int x1)) := F59.other W71 (Ne.symm N_o0_o5)
  have F82 : Sta Z h70 "java/lang/String" "COMPACT_STRINGS" "Z" (.int x2) := F60.wr W71
  have F83 : Fld Z h70 o3 "java/lang/String" "value" "[B" (.ref o5) := F61.other W71 (Or.inl (Ne.symm N_o0_o3))
  have F84 : Fld Z h70 o3 "java/lang/String" "coder" "B" (.int (0 : Int32)) := F62.other W71 (Or.inl (Ne.symm N_o0_o3))
  have F85 : Exa Z h70 o0 "com/example/tripleshelf/tripleshelf/cli/Option" := F63.wr W71
  have F86 : Fld Z h70 o0 "com/example/tripleshelf/tripleshelf/cli/Option" "name" "Ljava/lang/String;" (.ref o1) := F65.other W71 (Or.inr (slot_ne (Or.inr (hw _ (List.mem_of_getElem? (i := 61) rfl))) (Or.inr (hw _ (List.mem_of_getElem? (i := 67) rfl))) (by decide) (t := (.object "java/lang/String")) (t' := (.object "java/lang/String")) (by decide) (by decide)))
  have F87 : Fld Z h70 o0 "com/example/tripleshelf/tripleshelf/cli/Option" "valueName" "Ljava/lang/String;" (.ref o2) := F66.other W71 (Or.inr (slot_ne (Or.inr (hw _ (List.mem_of_getElem? (i := 63) rfl))) (Or.inr (hw _ (List.mem_of_getElem? (i := 67) rfl))) (by decide) (t := (.object "java/lang/String")) (t' := (.object "java/lang/String")) (by decide) (by decide)))
  have F88 : Fld Z h70 o0 "com/example/tripleshelf/tripleshelf/cli/Option" "required" "Z" (.int (1 : Int32)) := F50.other W71 (Or.inr (slot_ne (Or.inr (hw _ (List.mem_of_getElem? (i := 65) rfl))) (Or.inr (hw _ (List.mem_of_getElem? (i := 67) rfl))) (by decide) (t := .boolean) (t' := (.object "java/lang/String")) (by decide) (by decide)))
  have sz89 : n0 ≤ h70.size := Nat.le_trans sz67 (Nat.le_of_eq W71.size.symm)
  have sy90 : h0.size ≤ h70.size := Nat.le_trans sy68 (Nat.le_of_eq W71.size.symm)
  have K91 := K69.wr W71 (Or.inl (by simp))
  show Wk _ p l e _ s m _ below meth c n0 _ h70 0 0 (mkF m 47 #[.val (.ref o0), .val (.ref o1), .val (.ref o2), .val (.int (1 : Int32)), .val (.ref o3)] [])
  exact Wk.retN0 C rfl d12_47 (by decide) (by decide) ⟨rfl, K91, F82, F86, F87, F88, F72⟩
set_option maxRecDepth 65536 in
set_option maxHeartbeats 40000000 in
theorem own_14_16 (l : Launch) (Z : State) (a0 : Array Value) (hw : ∀ d ∈ tables_1, d.before a0 Z = true) (n0 : Nat) (h0 : Heap) (hsz : n0 ≤ h0.size) (o0 : Addr) (o1 : Addr) (o2 : Addr) (o3 : Addr) (o4 : Addr) (o5 : Addr) (x0 : Int32) (x1 : Int32) (x2 : Int32) (P0 : Exa Z h0 o2 "java/lang/String") (P1 : Exa Z h0 o1 "java/lang/String") (P2 : Exa Z h0 o4 "[B") (P3 : Fa Z h0 o4 .byte 1 (up (fun _ => (.int (0 : Int32))) 0 (.int x0))) (P4 : Fld Z h0 o1 "java/lang/String" "coder" "B" (.int (0 : Int32))) (P5 : Fld Z h0 o1 "java/lang/String" "value" "[B" (.ref o4)) (P6 : Exa Z h0 o3 "java/lang/String") (P7 : Exa Z h0 o5 "[B") (P8 : Fa Z h0 o5 .byte 1 (up (fun _ => (.int (0 : Int32))) 0 (.int x1))) (P9 : Fld Z h0 o3 "java/lang/String" "value" "[B" (.ref o5)) (P10 : Fld Z h0 o3 "java/lang/String" "coder" "B" (.int (0 : Int32))) (P11 : Exa Z h0 o0 "com/example/tripleshelf/tripleshelf/cli/Option") (P12 : Sta Z h0 "java/lang/String" "COMPACT_STRINGS" "Z" (.int x2)) (P13 : Fld Z h0 o0 "com/example/tripleshelf/tripleshelf/cli/Option" "name" "Ljava/lang/String;" (.ref o1)) (P14 : Fld Z h0 o0 "com/example/tripleshelf/tripleshelf/cli/Option" "valueName" "Ljava/lang/String;" (.ref o2)) (P15 : Fld Z h0 o0 "com/example/tripleshelf/tripleshelf/cli/Option" "required" "Z" (.int (1 : Int32))) (P16 : Fld Z h0 o0 "com/example/tripleshelf/tripleshelf/cli/Option" "description" "Ljava/lang/String;" (.ref o3)) (N_o0_o1 : o0 ≠ o1) (N_o0_o2 : o0 ≠ o2) (N_o0_o3 : o0 ≠ o3) (N_o0_o4 : o0 ≠ o4) (N_o0_o5 : o0 ≠ o5) (N_o1_o2 : o1 ≠ o2) (N_o1_o3 : o1 ≠ o3) (N_o1_o4 : o1 ≠ o4) (N_o1_o5 : o1 ≠ o5) (N_o2_o3 : o2 ≠ o3) (N_o2_o4 : o2 ≠ o4) (N_o2_o5 : o2 ≠ o5) (N_o3_o4 : o3 ≠ o4) (N_o3_o5 : o3 ≠ o5) (N_o4_o5 : o4 ≠ o5) (G_o0 : n0 ≤ o0) (G_o1 : n0 ≤ o1) (G_o2 : n0 ≤ o2) (G_o3 : n0 ≤ o3) (G_o4 : n0 ≤ o4) (G_o5 : n0 ≤ o5) (nz_x2 : ¬ x2 = (0 : Int32)) :
    Met true l Z n0 (⟨"com/example/tripleshelf/tripleshelf/cli/Option", "takesValue", "()Z"⟩ : MethodName) prog_5_method_5_code 1 (some .boolean) ({ frames := 0, cells := 0, slots := 0, locals := 0 } : Room) #[(.ref o0)] h0 (fun v h => v = some (.int (1 : Int32)) ∧ h0 = h) := by
  refine Met.of (plainFor_of_name pn_5) #[.val (.ref o0)] (fun m => by first | (simp [entryFrame, mkF, argsToLocals, Value.category]; done) | rfl) ?_
  intro p e s m below meth c C
  refine Wk.st (g' := (mkF m 1 #[.val (.ref o0)] [(.ref o0)])) (fun X t q => XS.aloadN X.here C.hx rfl (hb C.hby d14_0) rfl rfl q) ?_
  refine Wk.getF C (hw _ (List.mem_of_getElem? (i := 62) rfl)) Via.refl P14 d14_1 ?_
  show Wk _ p l e _ s m _ below meth c n0 _ h0 0 0 (mkF m 4 #[.val (.ref o0)] [(.ref o2)])
  refine Wk.st (g' := (mkF m 7 #[.val (.ref o0)] [])) (fun X t q => XS.ifnullNo X.here C.hx rfl (hb C.hby d14_4) rfl q) ?_
  refine Wk.st (g' := (mkF m 8 #[.val (.ref o0)] [(.int (1 : Int32))])) (fun X t q => XS.iconst X.here C.hx rfl (hb C.hby d14_7) q) ?_
  refine Wk.st (g' := (mkF m 12 #[.val (.ref o0)] [(.int (1 : Int32))])) (fun X t q => XS.goto X.here C.hx rfl (pc0 := 8) (pc' := 12) rfl (hb C.hby d14_8) (by decide) (by decide) q) ?_
  exact Wk.retV C (t := .boolean) rfl rfl (Or.inl ⟨rfl, by simp, _, rfl⟩) d14_12 (by decide) (by decide) ⟨rfl, rfl⟩
set_option maxRecDepth 65536 in
set_option maxHeartbeats 40000000 in
theorem own_1_17 (l : Launch) (Z : State) (a0 : Array Value) (hw : ∀ d ∈ tables_1, d.before a0 Z = true) (n0 : Nat) (h0 : Heap) (hsz : n0 ≤ h0.size) (x0 : Int32) (x1 : Int32) (P0 : Sta Z h0 "java/lang/String" "COMPACT_STRINGS" "Z" (.int x1)) (nz_x1 : ¬ x1 = (0 : Int32)) :
    Met true l Z n0 (⟨"com/example/tripleshelf/tripleshelf/cli/OptionTakesValuePinLaw", "valueNameOf", "(II)Ljava/lang/String;"⟩ : MethodName) method_2_code 3 (some (.object "java/lang/String")) ({ frames := 4, cells := 3, slots := 6, locals := 66 } : Room) #[(.int (2 : Int32)), (.int x0)] h0 (fun v h => ∃ b22 : Addr, ∃ n38_n1_n1_b2 : Addr, v = some (.ref b22) ∧ Keep h0 h [] ∧ h0.size ≤ b22 ∧ h0.size ≤ n38_n1_n1_b2 ∧ b22 ≠ n38_n1_n1_b2 ∧ Exa Z h b22 "java/lang/String" ∧ Exa Z h n38_n1_n1_b2 "[B" ∧ Sta Z h "java/lang/String" "COMPACT_STRINGS" "Z" (.int x1) ∧ Fa Z h n38_n1_n1_b2 .byte 1 (up (fun _ => (.int (0 : Int32))) 0 (.int (nar .byte ((nar .char ((x0 &&& (255 : Int32)).toUInt32.toUInt16.toUInt32.toInt32)).toInt8.toInt32)))) ∧ Fld Z h b22 "java/lang/String" "coder" "B" (.int (0 : Int32)) ∧ Fld Z h b22 "java/lang/String" "value" "[B" (.ref n38_n1_n1_b2)) := by
  refine Met.of (plainFor_of_name pn_1) #[.val (.int (2 : Int32)), .val (.int x0), .unset] (fun m => by first | (simp [entryFrame, mkF, argsToLocals, Value.category]; done) | rfl) ?_
  intro p e s m below meth c C
  refine Wk.st (g' := (mkF m 1 #[.val (.int (2 : Int32)), .val (.int x0), .unset] [(.int (2 : Int32))])) (fun X t q => XS.iloadN X.here C.hx rfl (hb C.hby d1_0) rfl q) ?_
  refine Wk.st (g' := (mkF m 6 #[.val (.int (2 : Int32)), .val (.int x0), .unset] [])) (fun X t q => XS.ifYes X.here C.hx rfl (pc0 := 1) (pc' := 6) rfl (hb C.hby d1_1) rfl (XT.i0_ne_t (by decide)) (by decide) (by decide) q) ?_
  refine Wk.st (g' := (mkF m 7 #[.val (.int (2 : Int32)), .val (.int x0), .unset] [(.int (2 : Int32))])) (fun X t q => XS.iloadN X.here C.hx rfl (hb C.hby d1_6) rfl q) ?_
  refine Wk.st (g' := (mkF m 8 #[.val (.int (2 : Int32)), .val (.int x0), .unset] [(.int (1 : Int32)), (.int (2 : Int32))])) (fun X t q => XS.iconst X.here C.hx rfl (hb C.hby d1_7) q) ?_
  refine Wk.st (g' := (mkF m 22 #[.val (.int (2 : Int32)), .val (.int x0), .unset] [])) (fun X t q => XS.icmpYes X.here C.hx rfl (pc0 := 8) (pc' := 22) rfl (hb C.hby d1_8) rfl (XT.ii_ne_t (by decide)) (by decide) (by decide) q) ?_
  refine Wk.st (g' := (mkF m 23 #[.val (.int (2 : Int32)), .val (.int x0), .unset] [(.int (2 : Int32))])) (fun X t q => XS.iloadN X.here C.hx rfl (hb C.hby d1_22) rfl q) ?_
  refine Wk.st (g' := (mkF m 24 #[.val (.int (2 : Int32)), .val (.int x0), .unset] [(.int (2 : Int32)), (.int (2 : Int32))])) (fun X t q => XS.iconst X.here C.hx rfl (hb C.hby d1_23) q) ?_
  refine Wk.st (g' := (mkF m 27 #[.val (.int (2 : Int32)), .val (.int x0), .unset] [])) (fun X t q => XS.icmpNo X.here C.hx rfl (hb C.hby d1_24) rfl (XT.ii_ne_f (by decide)) q) ?_
  refine Wk.st (g' := (mkF m 28 #[.val (.int (2 : Int32)), .val (.int x0), .unset] [(.int (1 : Int32))])) (fun X t q => XS.iconst X.here C.hx rfl (hb C.hby d1_27) q) ?_
  refine Wk.fNewP C (hw _ (List.mem_of_getElem? (i := 4) rfl)) (ty := .char) (dv := (.int (0 : Int32))) (N := 1) (ad := "[C") rfl rfl (by decide) (by decide) (by decide) (cap := 1) (by decide) (by decide) d1_28 (by decide) (by decide) ?_
  intro h1 b2 g3 E4 A5 F6
  have ge7 : n0 ≤ b2 := Nat.le_trans hsz (Nat.le_of_eq g3.symm)
  have gz8 : h0.size ≤ b2 := Nat.le_trans (Nat.le_refl h0.size) (Nat.le_of_eq g3.symm)
  have F9 : Sta Z h1 "java/lang/String" "COMPACT_STRINGS" "Z" (.int x1) := P0.ext E4
  have sz10 : n0 ≤ h1.size := Nat.le_trans hsz E4.1
  have sy11 : h0.size ≤ h1.size := Nat.le_trans (Nat.le_refl h0.size) E4.1
  have K12 := (Keep.refl h0 []).ext E4
  show Wk _ p l e _ s m _ below meth c n0 _ h1 1 1 (mkF m 30 #[.val (.int (2 : Int32)), .val (.int x0), .unset] [(.ref b2)])
  refine Wk.st (g' := (mkF m 31 #[.val (.int (2 : Int32)), .val (.int x0), .val (.ref b2)] [])) (fun X t q => XS.astoreN X.here C.hx rfl (hb C.hby d1_30) rfl rfl (l' := #[.val (.int (2 : Int32)), .val (.int x0), .val (.ref b2)]) rfl q) ?_
  refine Wk.st (g' := (mkF m 32 #[.val (.int (2 : Int32)), .val (.int x0), .val (.ref b2)] [(.ref b2)])) (fun X t q => XS.aloadN X.here C.hx rfl (hb C.hby d1_31) rfl rfl q) ?_
  refine Wk.st (g' := (mkF m 33 #[.val (.int (2 : Int32)), .val (.int x0), .val (.ref b2)] [(.int (0 : Int32)), (.ref b2)])) (fun X t q => XS.iconst X.here C.hx rfl (hb C.hby d1_32) q) ?_
  refine Wk.st (g' := (mkF m 34 #[.val (.int (2 : Int32)), .val (.int x0), .val (.ref b2)] [(.int x0), (.int (0 : Int32)), (.ref b2)])) (fun X t q => XS.iloadN X.here C.hx rfl (hb C.hby d1_33) rfl q) ?_
  refine Wk.st (g' := (mkF m 37 #[.val (.int (2 : Int32)), .val (.int x0), .val (.ref b2)] [(.int (255 : Int32)), (.int x0), (.int (0 : Int32)), (.ref b2)])) (fun X t q => XS.sipush X.here C.hx rfl (hb C.hby d1_34) q) ?_
  refine Wk.st (g' := (mkF m 38 #[.val (.int (2 : Int32)), .val (.int x0), .val (.ref b2)] [(.int (x0 &&& (255 : Int32))), (.int (0 : Int32)), (.ref b2)])) (fun X t q => XS.iand X.here C.hx rfl (hb C.hby d1_37) rfl q) ?_
  refine Wk.st (g' := (mkF m 39 #[.val (.int (2 : Int32)), .val (.int x0), .val (.ref b2)] [(.int ((x0 &&& (255 : Int32)).toUInt32.toUInt16.toUInt32.toInt32)), (.int (0 : Int32)), (.ref b2)])) (fun X t q => XS.i2c X.here C.hx rfl (hb C.hby d1_38) rfl q) ?_
  refine Wk.fStC C F6 (x' := (nar .char ((x0 &&& (255 : Int32)).toUInt32.toUInt16.toUInt32.toInt32))) rfl (i := 0) (by decide) (by decide) (by decide) ge7 d1_39 ?_
  intro h13 W14 F15
  have F16 : Sta Z h13 "java/lang/String" "COMPACT_STRINGS" "Z" (.int x1) := F9.wr W14
  have F17 : Exa Z h13 b2 "[C" := A5.wr W14
  have sz18 : n0 ≤ h13.size := Nat.le_trans sz10 (Nat.le_of_eq W14.size.symm)
  have sy19 : h0.size ≤ h13.size := Nat.le_trans sy11 (Nat.le_of_eq W14.size.symm)
  have K20 := K12.wr W14 (Or.inr gz8)
  show Wk _ p l e _ s m _ below meth c n0 _ h13 1 1 (mkF m 40 #[.val (.int (2 : Int32)), .val (.int x0), .val (.ref b2)] [])
  refine Wk.newO C (hw _ (List.mem_of_getElem? (i := 5) rfl)) (hw _ (List.mem_of_getElem? (i := 6) rfl)) (hw _ (List.mem_of_getElem? (i := 7) rfl)) d1_40 (by decide) (by decide) ?_
  intro h21 b22 g23 E24 A25 D26
  have ne27 : b2 ≠ b22 := Nat.ne_of_lt (Nat.lt_of_lt_of_le F17.lt (Nat.le_of_eq g23.symm))
  have ge28 : n0 ≤ b22 := Nat.le_trans sz18 (Nat.le_of_eq g23.symm)
  have gz29 : h0.size ≤ b22 := Nat.le_trans sy19 (Nat.le_of_eq g23.symm)
  have F30 : Sta Z h21 "java/lang/String" "COMPACT_STRINGS" "Z" (.int x1) := F16.ext E24
  have F31 : Exa Z h21 b2 "[C" := F17.ext E24
  have F32 : Fa Z h21 b2 .char 1 (up (fun _ => (.int (0 : Int32))) 0 (.int (nar .char ((x0 &&& (255 : Int32)).toUInt32.toUInt16.toUInt32.toInt32)))) := F15.ext E24
  have sz33 : n0 ≤ h21.size := Nat.le_trans sz18 E24.1
  have sy34 : h0.size ≤ h21.size := Nat.le_trans sy19 E24.1
  have K35 := K20.ext E24
  have F36 : Fld Z h21 b22 "java/lang/String" "coder" "B" (.int (0 : Int32)) := D26 (Or.inr (hw _ (List.mem_of_getElem? (i := 31) rfl))) (ty := .byte) (by decide)
  have F37 : Fld Z h21 b22 "java/lang/String" "value" "[B" .null := D26 (Or.inr (hw _ (List.mem_of_getElem? (i := 33) rfl))) (ty := (.array .byte)) (by decide)
  show Wk _ p l e _ s m _ below meth c n0 _ h21 2 5 (mkF m 43 #[.val (.int (2 : Int32)), .val (.int x0), .val (.ref b2)] [(.ref b22)])
  refine Wk.st (g' := (mkF m 44 #[.val (.int (2 : Int32)), .val (.int x0), .val (.ref b2)] [(.ref b22), (.ref b22)])) (fun X t q => XS.dup X.here C.hx rfl (hb C.hby d1_43) rfl rfl q) ?_
  refine Wk.st (g' := (mkF m 45 #[.val (.int (2 : Int32)), .val (.int x0), .val (.ref b2)] [(.ref b2), (.ref b22), (.ref b22)])) (fun X t q => XS.aloadN X.here C.hx rfl (hb C.hby d1_44) rfl rfl q) ?_
  refine Wk.callI C (z := (⟨"java/lang/String", "<init>", "([C)V"⟩ : MethodName)) rfl (hw _ (List.mem_of_getElem? (i := 8) rfl)) (hw _ (List.mem_of_getElem? (i := 9) rfl)) (hw _ (List.mem_of_getElem? (i := 7) rfl)) (hw _ (List.mem_of_getElem? (i := 10) rfl)) (by decide) (own_2_1 l Z a0 hw n0 h21 sz33 b22 b2 x1 (nar .char ((x0 &&& (255 : Int32)).toUInt32.toUInt16.toUInt32.toInt32)) F30 F31 F32 A25 F36 F37 (Ne.symm ne27) ge28 ge7 (latn x0) nz_x1) (w := 1) (by decide) (by decide) pd_1 rfl (rest := [(.ref b22)]) rfl rfl (Nat.le_of_eq rfl) (by decide) (by decide) d1_45 ?_
  rintro _ h39 ⟨n38_n1_n1_b2, rfl, K40, gn46, F41, F42, F43, F44, F45⟩
  show Wk _ p l e _ s m _ below meth c n0 _ h39 3 6 (mkF m 48 #[.val (.int (2 : Int32)), .val (.int x0), .val (.ref b2)] [(.ref b22)])
  have ne47 : b2 ≠ n38_n1_n1_b2 := Nat.ne_of_lt (Nat.lt_of_lt_of_le F31.lt gn46)
  have ne48 : b22 ≠ n38_n1_n1_b2 := Nat.ne_of_lt (Nat.lt_of_lt_of_le A25.lt gn46)
  have ge49 : n0 ≤ n38_n1_n1_b2 := Nat.le_trans sz33 gn46
  have gz50 : h0.size ≤ n38_n1_n1_b2 := Nat.le_trans sy34 gn46
  have F51 : Exa Z h39 b2 "[C" := F31.keep K40
  have F52 : Fa Z h39 b2 .char 1 (up (fun _ => (.int (0 : Int32))) 0 (.int (nar .char ((x0 &&& (255 : Int32)).toUInt32.toUInt16.toUInt32.toInt32)))) := F32.keep K40 (nmS ne27 nm0)
  have F53 : Exa Z h39 b22 "java/lang/String" := A25.keep K40
  have sz54 : n0 ≤ h39.size := Nat.le_trans sz33 K40.1
  have K55 := K35.trans K40 (nvS (Or.inr gz29) nv0)
  have sy56 : h0.size ≤ h39.size := Nat.le_trans sy34 K40.1
  exact Wk.retV C (t := (.object "java/lang/String")) rfl rfl (Or.inr (Or.inr (Or.inr (Or.inr ⟨rfl, rfl, rfl⟩)))) d1_48 (by decide) (by decide) ⟨b22, n38_n1_n1_b2, rfl, K55, gz29, gz50, ne48, F53, F41, F42, F43, F44, F45⟩
set_option maxRecDepth 65536 in
set_option maxHeartbeats 40000000 in
theorem own_12_18 (l : Launch) (Z : State) (a0 : Array Value) (hw : ∀ d ∈ tables_1, d.before a0 Z = true) (n0 : Nat) (h0 : Heap) (hsz : n0 ≤ h0.size) (o0 : Addr) (o1 : Addr) (o2 : Addr) (o3 : Addr) (o4 : Addr) (o5 : Addr) (o6 : Addr) (x0 : Int32) (x1 : Int32) (x2 : Int32) (x3 : Int32) (P0 : Exa Z h0 o2 "java/lang/String") (P1 : Exa Z h0 o5 "[B") (P2 : Fa Z h0 o5 .byte 1 (up (fun _ => (.int (0 : Int32))) 0 (.int x0))) (P3 : Fld Z h0 o2 "java/lang/String" "coder" "B" (.int (0 : Int32))) (P4 : Fld Z h0 o2 "java/lang/String" "value" "[B" (.ref o5)) (P5 : Exa Z h0 o1 "java/lang/String") (P6 : Exa Z h0 o4 "[B") (P7 : Fa Z h0 o4 .byte 1 (up (fun _ => (.int (0 : Int32))) 0 (.int x1))) (P8 : Fld Z h0 o1 "java/lang/String" "coder" "B" (.int (0 : Int32))) (P9 : Fld Z h0 o1 "java/lang/String" "value" "[B" (.ref o4)) (P10 : Exa Z h0 o3 "java/lang/String") (P11 : Exa Z h0 o6 "[B") (P12 : Fa Z h0 o6 .byte 1 (up (fun _ => (.int (0 : Int32))) 0 (.int x2))) (P13 : Sta Z h0 "java/lang/String" "COMPACT_STRINGS" "Z" (.int x3)) (P14 : Fld Z h0 o3 "java/lang/String" "value" "[B" (.ref o6)) (P15 : Fld Z h0 o3 "java/lang/String" "coder" "B" (.int (0 : Int32))) (P16 : Exa Z h0 o0 "com/example/tripleshelf/tripleshelf/cli/Option") (P17 : Fld Z h0 o0 "com/example/tripleshelf/tripleshelf/cli/Option" "name" "Ljava/lang/String;" .null) (P18 : Fld Z h0 o0 "com/example/tripleshelf/tripleshelf/cli/Option" "valueName" "Ljava/lang/String;" .null) (P19 : Fld Z h0 o0 "com/example/tripleshelf/tripleshelf/cli/Option" "required" "Z" (.int (0 : Int32))) (P20 : Fld Z h0 o0 "com/example/tripleshelf/tripleshelf/cli/Option" "description" "Ljava/lang/String;" .null) (N_o0_o1 : o0 ≠ o1) (N_o0_o2 : o0 ≠ o2) (N_o0_o3 : o0 ≠ o3) (N_o0_o4 : o0 ≠ o4) (N_o0_o5 : o0 ≠ o5) (N_o0_o6 : o0 ≠ o6) (N_o1_o2 : o1 ≠ o2) (N_o1_o3 : o1 ≠ o3) (N_o1_o4 : o1 ≠ o4) (N_o1_o5 : o1 ≠ o5) (N_o1_o6 : o1 ≠ o6) (N_o2_o3 : o2 ≠ o3) (N_o2_o4 : o2 ≠ o4) (N_o2_o5 : o2 ≠ o5) (N_o2_o6 : o2 ≠ o6) (N_o3_o4 : o3 ≠ o4) (N_o3_o5 : o3 ≠ o5) (N_o3_o6 : o3 ≠ o6) (N_o4_o5 : o4 ≠ o5) (N_o4_o6 : o4 ≠ o6) (N_o5_o6 : o5 ≠ o6) (G_o0 : n0 ≤ o0) (G_o1 : n0 ≤ o1) (G_o2 : n0 ≤ o2) (G_o3 : n0 ≤ o3) (G_o4 : n0 ≤ o4) (G_o5 : n0 ≤ o5) (G_o6 : n0 ≤ o6) (nz_x3 : ¬ x3 = (0 : Int32)) :
    Met true l Z n0 (⟨"com/example/tripleshelf/tripleshelf/cli/Option", "<init>", "(Ljava/lang/String;Ljava/lang/String;ZLjava/lang/String;)V"⟩ : MethodName) prog_5_method_1_code 5 none ({ frames := 2, cells := 0, slots := 0, locals := 24 } : Room) #[(.ref o0), (.ref o1), (.ref o2), (.int (0 : Int32)), (.ref o3)] h0 (fun v h => v = none ∧ Keep h0 h [o0] ∧ Sta Z h "java/lang/String" "COMPACT_STRINGS" "Z" (.int x3) ∧ Fld Z h o0 "com/example/tripleshelf/tripleshelf/cli/Option" "name" "Ljava/lang/String;" (.ref o1) ∧ Fld Z h o0 "com/example/tripleshelf/tripleshelf/cli/Option" "valueName" "Ljava/lang/String;" (.ref o2) ∧ Fld Z h o0 "com/example/tripleshelf/tripleshelf/cli/Option" "required" "Z" (.int (0 : Int32)) ∧ Fld Z h o0 "com/example/tripleshelf/tripleshelf/cli/Option" "description" "Ljava/lang/String;" (.ref o3)) := by
  refine Met.of (plainFor_of_name pn_5) #[.val (.ref o0), .val (.ref o1), .val (.ref o2), .val (.int (0 : Int32)), .val (.ref o3)] (fun m => by first | (simp [entryFrame, mkF, argsToLocals, Value.category]; done) | rfl) ?_
  intro p e s m below meth c C
  refine Wk.st (g' := (mkF m 1 #[.val (.ref o0), .val (.ref o1), .val (.ref o2), .val (.int (0 : Int32)), .val (.ref o3)] [(.ref o0)])) (fun X t q => XS.aloadN X.here C.hx rfl (hb C.hby d12_0) rfl rfl q) ?_
  refine Wk.callI C (z := (⟨"java/lang/Record", "<init>", "()V"⟩ : MethodName)) rfl (hw _ (List.mem_of_getElem? (i := 54) rfl)) (hw _ (List.mem_of_getElem? (i := 55) rfl)) (hw _ (List.mem_of_getElem? (i := 57) rfl)) (hw _ (List.mem_of_getElem? (i := 58) rfl)) (by decide) (own_13_10 l Z a0 hw n0 h0 hsz o0 x3 P13 P16 P17 P18 P19 P20  G_o0 nz_x3) (w := 0) (by decide) (by decide) pd_11 rfl (rest := []) rfl rfl (Nat.le_of_eq rfl) (by decide) (by decide) d12_1 ?_
  rintro _ _ ⟨rfl, rfl⟩
  show Wk _ p l e _ s m _ below meth c n0 _ h0 0 0 (mkF m 4 #[.val (.ref o0), .val (.ref o1), .val (.ref o2), .val (.int (0 : Int32)), .val (.ref o3)] [])
  refine Wk.st (g' := (mkF m 5 #[.val (.ref o0), .val (.ref o1), .val (.ref o2), .val (.int (0 : Int32)), .val (.ref o3)] [(.int (0 : Int32))])) (fun X t q => XS.iloadN X.here C.hx rfl (hb C.hby d12_4) rfl q) ?_
  refine Wk.st (g' := (mkF m 26 #[.val (.ref o0), .val (.ref o1), .val (.ref o2), .val (.int (0 : Int32)), .val (.ref o3)] [])) (fun X t q => XS.ifYes X.here C.hx rfl (pc0 := 5) (pc' := 26) rfl (hb C.hby d12_5) rfl (XT.i0_eq_t (by decide)) (by decide) (by decide) q) ?_
  refine Wk.st (g' := (mkF m 27 #[.val (.ref o0), .val (.ref o1), .val (.ref o2), .val (.int (0 : Int32)), .val (.ref o3)] [(.ref o0)])) (fun X t q => XS.aloadN X.here C.hx rfl (hb C.hby d12_26) rfl rfl q) ?_
  refine Wk.st (g' := (mkF m 28 #[.val (.ref o0), .val (.ref o1), .val (.ref o2), .val (.int (0 : Int32)), .val (.ref o3)] [(.ref o1), (.ref o0)])) (fun X t q => XS.aloadN X.here C.hx rfl (hb C.hby d12_27) rfl rfl q) ?_
  refine Wk.putF C (hw _ (List.mem_of_getElem? (i := 60) rfl)) Via.refl P17 P16 (Or.inr ⟨(hw _ (List.mem_of_getElem? (i := 61) rfl)), rfl, rfl⟩) (hw _ (List.mem_of_getElem? (i := 49) rfl)) (ty := (.object "java/lang/String")) (by decide) (v' := (.ref o1)) rfl rfl G_o0 d12_28 ?_
  intro h4 W5
  have F6 : Fld Z h4 o0 "com/example/tripleshelf/tripleshelf/cli/Option" "name" "Ljava/lang/String;" (.ref o1) := P17.same W5
  have F7 : Exa Z h4 o2 "java/lang/String" := P0.wr W5
  have F8 : Exa Z h4 o5 "[B" := P1.wr W5
  have F9 : Fa Z h4 o5 .byte 1 (up (fun _ => (.int (0 : Int32))) 0 (.int x0)) := P2.other W5 (Ne.symm N_o0_o5)
  have F10 : Fld Z h4 o2 "java/lang/String" "coder" "B" (.int (0 : Int32)) := P3.other W5 (Or.inl (Ne.symm N_o0_o2))
  have F11 : Fld Z h4 o2 "java/lang/String" "value" "[B" (.ref o5) := P4.other W5 (Or.inl (Ne.symm N_o0_o2))
  have F12 : Exa Z h4 o1 "java/lang/String" := P5.wr W5
  have F13 : Exa Z h4 o4 "[B" := P6.wr W5
  have F14 : Fa Z h4 o4 .byte 1 (up (fun _ => (.int (0 : Int32))) 0 (.int x1)) := P7.other W5 (Ne.symm N_o0_o4)
  have F15 : Fld Z h4 o1 "java/lang/String" "coder" "B" (.int (0 : Int32)) := P8.other W5 (Or.inl (Ne.symm N_o0_o1))
  have F16 : Fld Z h4 o1 "java/lang/String" "value" "[B" (.ref o4) := P9.other W5 (Or.inl (Ne.symm N_o0_o1))
  have F17 : Exa Z h4 o3 "java/lang/String" := P10.wr W5
  have F18 : Exa Z h4 o6 "[B" := P11.wr W5
  have F19 : Fa Z h4 o6 .byte 1 (up (fun _ => (.int (0 : Int32))) 0 (.int x2)) := P12.other W5 (Ne.symm N_o0_o6)
  have F20 : Sta Z h4 "java/lang/String" "COMPACT_STRINGS" "Z" (.int x3) := P13.wr W5
  have F21 : Fld Z h4 o3 "java/lang/String" "value" "[B" (.ref o6) := P14.other W5 (Or.inl (Ne.symm N_o0_o3))
  have F22 : Fld Z h4 o3 "java/lang/String" "coder" "B" (.int (0 : Int32)) := P15.other W5 (Or.inl (Ne.symm N_o0_o3))
  have F23 : Exa Z h4 o0 "com/example/tripleshelf/tripleshelf/cli/Option" := P16.wr W5
  have F24 : Fld Z h4 o0 "com/example/tripleshelf/tripleshelf/cli/Option" "valueName" "Ljava/lang/String;" .null := P18.other W5 (Or.inr (slot_ne (Or.inr (hw _ (List.mem_of_getElem? (i := 63) rfl))) (Or.inr (hw _ (List.mem_of_getElem? (i := 61) rfl))) (by decide) (t := (.object "java/lang/String")) (t' := (.object "java/lang/String")) (by decide) (by decide)))
  have F25 : Fld Z h4 o0 "com/example/tripleshelf/tripleshelf/cli/Option" "required" "Z" (.int (0 : Int32)) := P19.other W5 (Or.inr (slot_ne (Or.inr (hw _ (List.mem_of_getElem? (i := 65) rfl))) (Or.inr (hw _ (List.mem_of_getElem? (i := 61) rfl))) (by decide) (t := .boolean) (t' := (.object "java/lang/String")) (by decide) (by decide)))
  have F26 : Fld Z h4 o0 "com/example/tripleshelf/tripleshelf/cli/Option" "description" "Ljava/lang/String;" .null := P20.other W5 (Or.inr (slot_ne (Or.inr (hw _ (List.mem_of_getElem? (i := 67) rfl))) (Or.inr (hw _ (List.mem_of_getElem? (i := 61) rfl))) (by decide) (t := (.object "java/lang/String")) (t' := (.object "java/lang/String")) (by decide) (by decide)))
  have sz27 : n0 ≤ h4.size := Nat.le_trans hsz (Nat.le_of_eq W5.size.symm)
  have sy28 : h0.size ≤ h4.size := Nat.le_trans (Nat.le_refl h0.size) (Nat.le_of_eq W5.size.symm)
  have K29 := (Keep.refl h0 [o0]).wr W5 (Or.inl (by simp))
  show Wk _ p l e _ s m _ below meth c n0 _ h4 0 0 (mkF m 31 #[.val (.ref o0), .val (.ref o1), .val (.ref o2), .val (.int (0 : Int32)), .val (.ref o3)] [])
  refine Wk.st (g' := (mkF m 32 #[.val (.ref o0), .val (.ref o1), .val (.ref o2), .val (.int (0 : Int32)), .val (.ref o3)] [(.ref o0)])) (fun X t q => XS.aloadN X.here C.hx rfl (hb C.hby d12_31) rfl rfl q) ?_
  refine Wk.st (g' := (mkF m 33 #[.val (.ref o0), .val (.ref o1), .val (.ref o2), .val (.int (0 : Int32)), .val (.ref o3)] [(.ref o2), (.ref o0)])) (fun X t q => XS.aloadN X.here C.hx rfl (hb C.hby d12_32) rfl rfl q) ?_
  refine Wk.putF C (hw _ (List.mem_of_getElem? (i := 62) rfl)) Via.refl F24 F23 (Or.inr ⟨(hw _ (List.mem_of_getElem? (i := 63) rfl)), rfl, rfl⟩) (hw _ (List.mem_of_getElem? (i := 49) rfl)) (ty := (.object "java/lang/String")) (by decide) (v' := (.ref o2)) rfl rfl G_o0 d12_33 ?_
  intro h30 W31
  have F32 : Fld Z h30 o0 "com/example/tripleshelf/tripleshelf/cli/Option" "valueName" "Ljava/lang/String;" (.ref o2) := F24.same W31
  have F33 : Exa Z h30 o2 "java/lang/String" := F7.wr W31
  have F34 : Exa Z h30 o5 "[B" := F8.wr W31
  have F35 : Fa Z h30 o5 .byte 1 (up (fun _ => (.int (0 : Int32))) 0 (.int x0)) := F9.other W31 (Ne.symm N_o0_o5)
  have F36 : Fld Z h30 o2 "java/lang/String" "coder" "B" (.int (0 : Int32)) := F10.other W31 (Or.inl (Ne.symm N_o0_o2))
  have F37 : Fld Z h30 o2 "java/lang/String" "value" "[B" (.ref o5) := F11.other W31 (Or.inl (Ne.symm N_o0_o2))
  have F38 : Exa Z h30 o1 "java/lang/String" := F12.wr W31
  have F39 : Exa Z h30 o4 "[B" := F13.wr W31
  have F40 : Fa Z h30 o4 .byte 1 (up (fun _ => (.int (0 : Int32))) 0 (.int x1)) := F14.other W31 (Ne.symm N_o0_o4)
  have F41 : Fld Z h30 o1 "java/lang/String" "coder" "B" (.int (0 : Int32)) := F15.other W31 (Or.inl (Ne.symm N_o0_o1))
  have F42 : Fld Z h30 o1 "java/lang/String" "value" "[B" (.ref o4) := F16.other W31 (Or.inl (Ne.symm N_o0_o1))
  have F43 : Exa Z h30 o3 "java/lang/String" := F17.wr W31
  have F44 : Exa Z h30 o6 "[B" := F18.wr W31
  have F45 : Fa Z h30 o6 .byte 1 (up (fun _ => (.int (0 : Int32))) 0 (.int x2)) := F19.other W31 (Ne.symm N_o0_o6)
  have F46 : Sta Z h30 "java/lang/String" "COMPACT_STRINGS" "Z" (.int x3) := F20.wr W31
  have F47 : Fld Z h30 o3 "java/lang/String" "value" "[B" (.ref o6) := F21.other W31 (Or.inl (Ne.symm N_o0_o3))
  have F48 : Fld Z h30 o3 "java/lang/String" "coder" "B" (.int (0 : Int32)) := F22.other W31 (Or.inl (Ne.symm N_o0_o3))
  have F49 : Exa Z h30 o0 "com/example/tripleshelf/tripleshelf/cli/Option" := F23.wr W31
  have F50 : Fld Z h30 o0 "com/example/tripleshelf/tripleshelf/cli/Option" "required" "Z" (.int (0 : Int32)) := F25.other W31 (Or.inr (slot_ne (Or.inr (hw _ (List.mem_of_getElem? (i := 65) rfl))) (Or.inr (hw _ (List.mem_of_getElem? (i := 63) rfl))) (by decide) (t := .boolean) (t' := (.object "java/lang/String")) (by decide) (by decide)))
  have F51 : Fld Z h30 o0 "com/example/tripleshelf/tripleshelf/cli/Option" "description" "Ljava/lang/String;" .null := F26.other W31 (Or.inr (slot_ne (Or.inr (hw _ (List.mem_of_getElem? (i := 67) rfl))) (Or.inr (hw _ (List.mem_of_getElem? (i := 63) rfl))) (by decide) (t := (.object "java/lang/String")) (t' := (.object "java/lang/String")) (by decide) (by decide)))
  have F52 : Fld Z h30 o0 "com/example/tripleshelf/tripleshelf/cli/Option" "name" "Ljava/lang/String;" (.ref o1) := F6.other W31 (Or.inr (slot_ne (Or.inr (hw _ (List.mem_of_getElem? (i := 61) rfl))) (Or.inr (hw _ (List.mem_of_getElem? (i := 63) rfl))) (by decide) (t := (.object "java/lang/String")) (t' := (.object "java/lang/String")) (by decide) (by decide)))
  have sz53 : n0 ≤ h30.size := Nat.le_trans sz27 (Nat.le_of_eq W31.size.symm)
  have sy54 : h0.size ≤ h30.size := Nat.le_trans sy28 (Nat.le_of_eq W31.size.symm)
  have K55 := K29.wr W31 (Or.inl (by simp))
  show Wk _ p l e _ s m _ below meth c n0 _ h30 0 0 (mkF m 36 #[.val (.ref o0), .val (.ref o1), .val (.ref o2), .val (.int (0 : Int32)), .val (.ref o3)] [])
  refine Wk.st (g' := (mkF m 37 #[.val (.ref o0), .val (.ref o1), .val (.ref o2), .val (.int (0 : Int32)), .val (.ref o3)] [(.ref o0)])) (fun X t q => XS.aloadN X.here C.hx rfl (hb C.hby d12_36) rfl rfl q) ?_
  refine Wk.st (g' := (mkF m 38 #[.val (.ref o0), .val (.ref o1), .val (.ref o2), .val (.int (0 : Int32)), .val (.ref o3)] [(.int (0 : Int32)), (.ref o0)])) (fun X t q => XS.iloadN X.here C.hx rfl (hb C.hby d12_37) rfl q) ?_
  refine Wk.putF C (hw _ (List.mem_of_getElem? (i := 64) rfl)) Via.refl F50 F49 (Or.inr ⟨(hw _ (List.mem_of_getElem? (i := 65) rfl)), rfl, rfl⟩) (hw _ (List.mem_of_getElem? (i := 49) rfl)) (ty := .boolean) (by decide) (v' := (.int (0 : Int32))) rfl (by decide) G_o0 d12_38 ?_
  intro h56 W57
  have F58 : Fld Z h56 o0 "com/example/tripleshelf/tripleshelf/cli/Option" "required" "Z" (.int (0 : Int32)) := F50.same W57
  have F59 : Exa Z h56 o2 "java/lang/String" := F33.wr W57
  have F60 : Exa Z h56 o5 "[B" := F34.wr W57
  have F61 : Fa Z h56 o5 .byte 1 (up (fun _ => (.int (0 : Int32))) 0 (.int x0)) := F35.other W57 (Ne.symm N_o0_o5)
  have F62 : Fld Z h56 o2 "java/lang/String" "coder" "B" (.int (0 : Int32)) := F36.other W57 (Or.inl (Ne.symm N_o0_o2))
  have F63 : Fld Z h56 o2 "java/lang/String" "value" "[B" (.ref o5) := F37.other W57 (Or.inl (Ne.symm N_o0_o2))
  have F64 : Exa Z h56 o1 "java/lang/String" := F38.wr W57
  have F65 : Exa Z h56 o4 "[B" := F39.wr W57
  have F66 : Fa Z h56 o4 .byte 1 (up (fun _ => (.int (0 : Int32))) 0 (.int x1)) := F40.other W57 (Ne.symm N_o0_o4)
  have F67 : Fld Z h56 o1 "java/lang/String" "coder" "B" (.int (0 : Int32)) := F41.other W57 (Or.inl (Ne.symm N_o0_o1))
  have F68 : Fld Z h56 o1 "java/lang/String" "value" "[B" (.ref o4) := F42.other W57 (Or.inl (Ne.symm N_o0_o1))
  have F69 : Exa Z h56 o3 "java/lang/String" := F43.wr W57
  have F70 : Exa Z h56 o6 "[B" := F44.wr W57
  have F71 : Fa Z h56 o6 .byte 1 (up (fun _ => (.int (0 : Int32))) 0 (.int x2)) := F45.other W57 (Ne.symm N_o0_o6)
  have F72 : Sta Z h56 "java/lang/String" "COMPACT_STRINGS" "Z" (.int x3) := F46.wr W57
  have F73 : Fld Z h56 o3 "java/lang/String" "value" "[B" (.ref o6) := F47.other W57 (Or.inl (Ne.symm N_o0_o3))
  have F74 : Fld Z h56 o3 "java/lang/String" "coder" "B" (.int (0 : Int32)) := F48.other W57 (Or.inl (Ne.symm N_o0_o3))
  have F75 : Exa Z h56 o0 "com/example/tripleshelf/tripleshelf/cli/Option" := F49.wr W57
  have F76 : Fld Z h56 o0 "com/example/tripleshelf/tripleshelf/cli/Option" "description" "Ljava/lang/String;" .null := F51.other W57 (Or.inr (slot_ne (Or.inr (hw _ (List.mem_of_getElem? (i := 67) rfl))) (Or.inr (hw _ (List.mem_of_getElem? (i := 65) rfl))) (by decide) (t := (.object "java/lang/String")) (t' := .boolean) (by decide) (by decide)))
  have F77 : Fld Z h56 o0 "com/example/tripleshelf/tripleshelf/cli/Option" "name" "Ljava/lang/String;" (.ref o1) := F52.other W57 (Or.inr (slot_ne (Or.inr (hw _ (List.mem_of_getElem? (i := 61) rfl))) (Or.inr (hw _ (List.mem_of_getElem? (i := 65) rfl))) (by decide) (t := (.object "java/lang/String")) (t' := .boolean) (by decide) (by decide)))
  have F78 : Fld Z h56 o0 "com/example/tripleshelf/tripleshelf/cli/Option" "valueName" "Ljava/lang/String;" (.ref o2) := F32.other W57 (Or.inr (slot_ne (Or.inr (hw _ (List.mem_of_getElem? (i := 63) rfl))) (Or.inr (hw _ (List.mem_of_getElem? (i := 65) rfl))) (by decide) (t := (.object "java/lang/String")) (t' := .boolean) (by decide) (by decide)))
  have sz79 : n0 ≤ h56.size := Nat.le_trans sz53 (Nat.le_of_eq W57.size.symm)
  have sy80 : h0.size ≤ h56.size := Nat.le_trans sy54 (Nat.le_of_eq W57.size.symm)
  have K81 := K55.wr W57 (Or.inl (by simp))
  show Wk _ p l e _ s m _ below meth c n0 _ h56 0 0 (mkF m 41 #[.val (.ref o0), .val (.ref o1), .val (.ref o2), .val (.int (0 : Int32)), .val (.ref o3)] [])
  refine Wk.st (g' := (mkF m 42 #[.val (.ref o0), .val (.ref o1), .val (.ref o2), .val (.int (0 : Int32)), .val (.ref o3)] [(.ref o0)])) (fun X t q => XS.aloadN X.here C.hx rfl (hb C.hby d12_41) rfl rfl q) ?_
  refine Wk.st (g' := (mkF m 44 #[.val (.ref o0), .val (.ref o1), .val (.ref o2), .val (.int (0 : Int32)), .val (.ref o3)] [(.ref o3), (.ref o0)])) (fun X t q => XS.aload X.here C.hx rfl (hb C.hby d12_42) rfl rfl q) ?_
  refine Wk.putF C (hw _ (List.mem_of_getElem? (i := 66) rfl)) Via.refl F76 F75 (Or.inr ⟨(hw _ (List.mem_of_getElem? (i := 67) rfl)), rfl, rfl⟩) (hw _ (List.mem_of_getElem? (i := 49) rfl)) (ty := (.object "java/lang/String")) (by decide) (v' := (.ref o3)) rfl rfl G_o0 d12_44 ?_
  intro h82 W83
  have F84 : Fld Z h82 o0 "com/example/tripleshelf/tripleshelf/cli/Option" "description" "Ljava/lang/String;" (.ref o3) := F76.same W83
  have F85 : Exa Z h82 o2 "java/lang/String" := F59.wr W83
  have F86 : Exa Z h82 o5 "[B" := F60.wr W83
  have F87 : Fa Z h82 o5 .byte 1 (up (fun _ => (.int (0 : Int32))) 0 (.int x0)) := F61.other W83 (Ne.symm N_o0_o5)
  have F88 : Fld Z h82 o2 "java/lang/String" "coder" "B" (.int (0 : Int32)) := F62.other W83 (Or.inl (Ne.symm N_o0_o2))
  have F89 : Fld Z h82 o2 "java/lang/String" "value" "[B" (.ref o5) := F63.other W83 (Or.inl (Ne.symm N_o0_o2))
  have F90 : Exa Z h82 o1 "java/lang/String" := F64.wr W83
  have F91 : Exa Z h82 o4 "[B" := F65.wr W83
  have F92 : Fa Z h82 o4 .byte 1 (up (fun _ => (.int (0 : Int32))) 0 (.int x1)) := F66.other W83 (Ne.symm N_o0_o4)
  have F93 : Fld Z h82 o1 "java/lang/String" "coder" "B" (.int (0 : Int32)) := F67.other W83 (Or.inl (Ne.symm N_o0_o1))
  have F94 : Fld Z h82 o1 "java/lang/String" "value" "[B" (.ref o4) := F68.other W83 (Or.inl (Ne.symm N_o0_o1))
  have F95 : Exa Z h82 o3 "java/lang/String" := F69.wr W83
  have F96 : Exa Z h82 o6 "[B" := F70.wr W83
  have F97 : Fa Z h82 o6 .byte 1 (up (fun _ => (.int (0 : Int32))) 0 (.int x2)) := F71.other W83 (Ne.symm N_o0_o6)
  have F98 : Sta Z h82 "java/lang/String" "COMPACT_STRINGS" "Z" (.int x3) := F72.wr W83
  have F99 : Fld Z h82 o3 "java/lang/String" "value" "[B" (.ref o6) := F73.other W83 (Or.inl (Ne.symm N_o0_o3))
  have F100 : Fld Z h82 o3 "java/lang/String" "coder" "B" (.int (0 : Int32)) := F74.other W83 (Or.inl (Ne.symm N_o0_o3))
  have F101 : Exa Z h82 o0 "com/example/tripleshelf/tripleshelf/cli/Option" := F75.wr W83
  have F102 : Fld Z h82 o0 "com/example/tripleshelf/tripleshelf/cli/Option" "name" "Ljava/lang/String;" (.ref o1) := F77.other W83 (Or.inr (slot_ne (Or.inr (hw _ (List.mem_of_getElem? (i := 61) rfl))) (Or.inr (hw _ (List.mem_of_getElem? (i := 67) rfl))) (by decide) (t := (.object "java/lang/String")) (t' := (.object "java/lang/String")) (by decide) (by decide)))
  have F103 : Fld Z h82 o0 "com/example/tripleshelf/tripleshelf/cli/Option" "valueName" "Ljava/lang/String;" (.ref o2) := F78.other W83 (Or.inr (slot_ne (Or.inr (hw _ (List.mem_of_getElem? (i := 63) rfl))) (Or.inr (hw _ (List.mem_of_getElem? (i := 67) rfl))) (by decide) (t := (.object "java/lang/String")) (t' := (.object "java/lang/String")) (by decide) (by decide)))
  have F104 : Fld Z h82 o0 "com/example/tripleshelf/tripleshelf/cli/Option" "required" "Z" (.int (0 : Int32)) := F58.other W83 (Or.inr (slot_ne (Or.inr (hw _ (List.mem_of_getElem? (i := 65) rfl))) (Or.inr (hw _ (List.mem_of_getElem? (i := 67) rfl))) (by decide) (t := .boolean) (t' := (.object "java/lang/String")) (by decide) (by decide)))
  have sz105 : n0 ≤ h82.size := Nat.le_trans sz79 (Nat.le_of_eq W83.size.symm)
  have sy106 : h0.size ≤ h82.size := Nat.le_trans sy80 (Nat.le_of_eq W83.size.symm)
  have K107 := K81.wr W83 (Or.inl (by simp))
  show Wk _ p l e _ s m _ below meth c n0 _ h82 0 0 (mkF m 47 #[.val (.ref o0), .val (.ref o1), .val (.ref o2), .val (.int (0 : Int32)), .val (.ref o3)] [])
  exact Wk.retN0 C rfl d12_47 (by decide) (by decide) ⟨rfl, K107, F98, F102, F103, F104, F84⟩
set_option maxRecDepth 65536 in
set_option maxHeartbeats 40000000 in
theorem own_14_19 (l : Launch) (Z : State) (a0 : Array Value) (hw : ∀ d ∈ tables_1, d.before a0 Z = true) (n0 : Nat) (h0 : Heap) (hsz : n0 ≤ h0.size) (o0 : Addr) (o1 : Addr) (o2 : Addr) (o3 : Addr) (o4 : Addr) (o5 : Addr) (o6 : Addr) (x0 : Int32) (x1 : Int32) (x2 : Int32) (x3 : Int32) (P0 : Exa Z h0 o2 "java/lang/String") (P1 : Exa Z h0 o5 "[B") (P2 : Fa Z h0 o5 .byte 1 (up (fun _ => (.int (0 : Int32))) 0 (.int x0))) (P3 : Fld Z h0 o2 "java/lang/String" "coder" "B" (.int (0 : Int32))) (P4 : Fld Z h0 o2 "java/lang/String" "value" "[B" (.ref o5)) (P5 : Exa Z h0 o1 "java/lang/String") (P6 : Exa Z h0 o4 "[B") (P7 : Fa Z h0 o4 .byte 1 (up (fun _ => (.int (0 : Int32))) 0 (.int x1))) (P8 : Fld Z h0 o1 "java/lang/String" "coder" "B" (.int (0 : Int32))) (P9 : Fld Z h0 o1 "java/lang/String" "value" "[B" (.ref o4)) (P10 : Exa Z h0 o3 "java/lang/String") (P11 : Exa Z h0 o6 "[B") (P12 : Fa Z h0 o6 .byte 1 (up (fun _ => (.int (0 : Int32))) 0 (.int x2))) (P13 : Fld Z h0 o3 "java/lang/String" "value" "[B" (.ref o6)) (P14 : Fld Z h0 o3 "java/lang/String" "coder" "B" (.int (0 : Int32))) (P15 : Exa Z h0 o0 "com/example/tripleshelf/tripleshelf/cli/Option") (P16 : Sta Z h0 "java/lang/String" "COMPACT_STRINGS" "Z" (.int x3)) (P17 : Fld Z h0 o0 "com/example/tripleshelf/tripleshelf/cli/Option" "name" "Ljava/lang/String;" (.ref o1)) (P18 : Fld Z h0 o0 "com/example/tripleshelf/tripleshelf/cli/Option" "valueName" "Ljava/lang/String;" (.ref o2)) (P19 : Fld Z h0 o0 "com/example/tripleshelf/tripleshelf/cli/Option" "required" "Z" (.int (0 : Int32))) (P20 : Fld Z h0 o0 "com/example/tripleshelf/tripleshelf/cli/Option" "description" "Ljava/lang/String;" (.ref o3)) (N_o0_o1 : o0 ≠ o1) (N_o0_o2 : o0 ≠ o2) (N_o0_o3 : o0 ≠ o3) (N_o0_o4 : o0 ≠ o4) (N_o0_o5 : o0 ≠ o5) (N_o0_o6 : o0 ≠ o6) (N_o1_o2 : o1 ≠ o2) (N_o1_o3 : o1 ≠ o3) (N_o1_o4 : o1 ≠ o4) (N_o1_o5 : o1 ≠ o5) (N_o1_o6 : o1 ≠ o6) (N_o2_o3 : o2 ≠ o3) (N_o2_o4 : o2 ≠ o4) (N_o2_o5 : o2 ≠ o5) (N_o2_o6 : o2 ≠ o6) (N_o3_o4 : o3 ≠ o4) (N_o3_o5 : o3 ≠ o5) (N_o3_o6 : o3 ≠ o6) (N_o4_o5 : o4 ≠ o5) (N_o4_o6 : o4 ≠ o6) (N_o5_o6 : o5 ≠ o6) (G_o0 : n0 ≤ o0) (G_o1 : n0 ≤ o1) (G_o2 : n0 ≤ o2) (G_o3 : n0 ≤ o3) (G_o4 : n0 ≤ o4) (G_o5 : n0 ≤ o5) (G_o6 : n0 ≤ o6) (nz_x3 : ¬ x3 = (0 : Int32)) :
    Met true l Z n0 (⟨"com/example/tripleshelf/tripleshelf/cli/Option", "takesValue", "()Z"⟩ : MethodName) prog_5_method_5_code 1 (some .boolean) ({ frames := 0, cells := 0, slots := 0, locals := 0 } : Room) #[(.ref o0)] h0 (fun v h => v = some (.int (1 : Int32)) ∧ h0 = h) := by
  refine Met.of (plainFor_of_name pn_5) #[.val (.ref o0)] (fun m => by first | (simp [entryFrame, mkF, argsToLocals, Value.category]; done) | rfl) ?_
  intro p e s m below meth c C
  refine Wk.st (g' := (mkF m 1 #[.val (.ref o0)] [(.ref o0)])) (fun X t q => XS.aloadN X.here C.hx rfl (hb C.hby d14_0) rfl rfl q) ?_
  refine Wk.getF C (hw _ (List.mem_of_getElem? (i := 62) rfl)) Via.refl P18 d14_1 ?_
  show Wk _ p l e _ s m _ below meth c n0 _ h0 0 0 (mkF m 4 #[.val (.ref o0)] [(.ref o2)])
  refine Wk.st (g' := (mkF m 7 #[.val (.ref o0)] [])) (fun X t q => XS.ifnullNo X.here C.hx rfl (hb C.hby d14_4) rfl q) ?_
  refine Wk.st (g' := (mkF m 8 #[.val (.ref o0)] [(.int (1 : Int32))])) (fun X t q => XS.iconst X.here C.hx rfl (hb C.hby d14_7) q) ?_
  refine Wk.st (g' := (mkF m 12 #[.val (.ref o0)] [(.int (1 : Int32))])) (fun X t q => XS.goto X.here C.hx rfl (pc0 := 8) (pc' := 12) rfl (hb C.hby d14_8) (by decide) (by decide) q) ?_
  exact Wk.retV C (t := .boolean) rfl rfl (Or.inl ⟨rfl, by simp, _, rfl⟩) d14_12 (by decide) (by decide) ⟨rfl, rfl⟩
set_option maxRecDepth 65536 in
set_option maxHeartbeats 40000000 in
theorem own_12_20 (l : Launch) (Z : State) (a0 : Array Value) (hw : ∀ d ∈ tables_1, d.before a0 Z = true) (n0 : Nat) (h0 : Heap) (hsz : n0 ≤ h0.size) (o0 : Addr) (o1 : Addr) (o2 : Addr) (o3 : Addr) (o4 : Addr) (o5 : Addr) (o6 : Addr) (x0 : Int32) (x1 : Int32) (x2 : Int32) (x3 : Int32) (P0 : Exa Z h0 o2 "java/lang/String") (P1 : Exa Z h0 o5 "[B") (P2 : Fa Z h0 o5 .byte 1 (up (fun _ => (.int (0 : Int32))) 0 (.int x0))) (P3 : Fld Z h0 o2 "java/lang/String" "coder" "B" (.int (0 : Int32))) (P4 : Fld Z h0 o2 "java/lang/String" "value" "[B" (.ref o5)) (P5 : Exa Z h0 o1 "java/lang/String") (P6 : Exa Z h0 o4 "[B") (P7 : Fa Z h0 o4 .byte 1 (up (fun _ => (.int (0 : Int32))) 0 (.int x1))) (P8 : Fld Z h0 o1 "java/lang/String" "coder" "B" (.int (0 : Int32))) (P9 : Fld Z h0 o1 "java/lang/String" "value" "[B" (.ref o4)) (P10 : Exa Z h0 o3 "java/lang/String") (P11 : Exa Z h0 o6 "[B") (P12 : Fa Z h0 o6 .byte 1 (up (fun _ => (.int (0 : Int32))) 0 (.int x2))) (P13 : Sta Z h0 "java/lang/String" "COMPACT_STRINGS" "Z" (.int x3)) (P14 : Fld Z h0 o3 "java/lang/String" "value" "[B" (.ref o6)) (P15 : Fld Z h0 o3 "java/lang/String" "coder" "B" (.int (0 : Int32))) (P16 : Exa Z h0 o0 "com/example/tripleshelf/tripleshelf/cli/Option") (P17 : Fld Z h0 o0 "com/example/tripleshelf/tripleshelf/cli/Option" "name" "Ljava/lang/String;" .null) (P18 : Fld Z h0 o0 "com/example/tripleshelf/tripleshelf/cli/Option" "valueName" "Ljava/lang/String;" .null) (P19 : Fld Z h0 o0 "com/example/tripleshelf/tripleshelf/cli/Option" "required" "Z" (.int (0 : Int32))) (P20 : Fld Z h0 o0 "com/example/tripleshelf/tripleshelf/cli/Option" "description" "Ljava/lang/String;" .null) (N_o0_o1 : o0 ≠ o1) (N_o0_o2 : o0 ≠ o2) (N_o0_o3 : o0 ≠ o3) (N_o0_o4 : o0 ≠ o4) (N_o0_o5 : o0 ≠ o5) (N_o0_o6 : o0 ≠ o6) (N_o1_o2 : o1 ≠ o2) (N_o1_o3 : o1 ≠ o3) (N_o1_o4 : o1 ≠ o4) (N_o1_o5 : o1 ≠ o5) (N_o1_o6 : o1 ≠ o6) (N_o2_o3 : o2 ≠ o3) (N_o2_o4 : o2 ≠ o4) (N_o2_o5 : o2 ≠ o5) (N_o2_o6 : o2 ≠ o6) (N_o3_o4 : o3 ≠ o4) (N_o3_o5 : o3 ≠ o5) (N_o3_o6 : o3 ≠ o6) (N_o4_o5 : o4 ≠ o5) (N_o4_o6 : o4 ≠ o6) (N_o5_o6 : o5 ≠ o6) (G_o0 : n0 ≤ o0) (G_o1 : n0 ≤ o1) (G_o2 : n0 ≤ o2) (G_o3 : n0 ≤ o3) (G_o4 : n0 ≤ o4) (G_o5 : n0 ≤ o5) (G_o6 : n0 ≤ o6) (nz_x3 : ¬ x3 = (0 : Int32)) :
    Met true l Z n0 (⟨"com/example/tripleshelf/tripleshelf/cli/Option", "<init>", "(Ljava/lang/String;Ljava/lang/String;ZLjava/lang/String;)V"⟩ : MethodName) prog_5_method_1_code 5 none ({ frames := 2, cells := 0, slots := 0, locals := 24 } : Room) #[(.ref o0), (.ref o1), (.ref o2), (.int (1 : Int32)), (.ref o3)] h0 (fun v h => v = none ∧ Keep h0 h [o0] ∧ Sta Z h "java/lang/String" "COMPACT_STRINGS" "Z" (.int x3) ∧ Fld Z h o0 "com/example/tripleshelf/tripleshelf/cli/Option" "name" "Ljava/lang/String;" (.ref o1) ∧ Fld Z h o0 "com/example/tripleshelf/tripleshelf/cli/Option" "valueName" "Ljava/lang/String;" (.ref o2) ∧ Fld Z h o0 "com/example/tripleshelf/tripleshelf/cli/Option" "required" "Z" (.int (1 : Int32)) ∧ Fld Z h o0 "com/example/tripleshelf/tripleshelf/cli/Option" "description" "Ljava/lang/String;" (.ref o3)) := by
  refine Met.of (plainFor_of_name pn_5) #[.val (.ref o0), .val (.ref o1), .val (.ref o2), .val (.int (1 : Int32)), .val (.ref o3)] (fun m => by first | (simp [entryFrame, mkF, argsToLocals, Value.category]; done) | rfl) ?_
  intro p e s m below meth c C
  refine Wk.st (g' := (mkF m 1 #[.val (.ref o0), .val (.ref o1), .val (.ref o2), .val (.int (1 : Int32)), .val (.ref o3)] [(.ref o0)])) (fun X t q => XS.aloadN X.here C.hx rfl (hb C.hby d12_0) rfl rfl q) ?_
  refine Wk.callI C (z := (⟨"java/lang/Record", "<init>", "()V"⟩ : MethodName)) rfl (hw _ (List.mem_of_getElem? (i := 54) rfl)) (hw _ (List.mem_of_getElem? (i := 55) rfl)) (hw _ (List.mem_of_getElem? (i := 57) rfl)) (hw _ (List.mem_of_getElem? (i := 58) rfl)) (by decide) (own_13_10 l Z a0 hw n0 h0 hsz o0 x3 P13 P16 P17 P18 P19 P20  G_o0 nz_x3) (w := 0) (by decide) (by decide) pd_11 rfl (rest := []) rfl rfl (Nat.le_of_eq rfl) (by decide) (by decide) d12_1 ?_
  rintro _ _ ⟨rfl, rfl⟩
  show Wk _ p l e _ s m _ below meth c n0 _ h0 0 0 (mkF m 4 #[.val (.ref o0), .val (.ref o1), .val (.ref o2), .val (.int (1 : Int32)), .val (.ref o3)] [])
  refine Wk.st (g' := (mkF m 5 #[.val (.ref o0), .val (.ref o1), .val (.ref o2), .val (.int (1 : Int32)), .val (.ref o3)] [(.int (1 : Int32))])) (fun X t q => XS.iloadN X.here C.hx rfl (hb C.hby d12_4) rfl q) ?_
  refine Wk.st (g' := (mkF m 8 #[.val (.ref o0), .val (.ref o1), .val (.ref o2), .val (.int (1 : Int32)), .val (.ref o3)] [])) (fun X t q => XS.ifNo X.here C.hx rfl (hb C.hby d12_5) rfl (XT.i0_eq_f (by decide)) q) ?_
  refine Wk.st (g' := (mkF m 9 #[.val (.ref o0), .val (.ref o1), .val (.ref o2), .val (.int (1 : Int32)), .val (.ref o3)] [(.ref o2)])) (fun X t q => XS.aloadN X.here C.hx rfl (hb C.hby d12_8) rfl rfl q) ?_
  refine Wk.st (g' := (mkF m 26 #[.val (.ref o0), .val (.ref o1), .val (.ref o2), .val (.int (1 : Int32)), .val (.ref o3)] [])) (fun X t q => XS.ifnonnullYes X.here C.hx rfl (pc0 := 9) (pc' := 26) rfl (hb C.hby d12_9) rfl (by decide) (by decide) q) ?_
  refine Wk.st (g' := (mkF m 27 #[.val (.ref o0), .val (.ref o1), .val (.ref o2), .val (.int (1 : Int32)), .val (.ref o3)] [(.ref o0)])) (fun X t q => XS.aloadN X.here C.hx rfl (hb C.hby d12_26) rfl rfl q) ?_
  refine Wk.st (g' := (mkF m 28 #[.val (.ref o0), .val (.ref o1), .val (.ref o2), .val (.int (1 : Int32)), .val (.ref o3)] [(.ref o1), (.ref o0)])) (fun X t q => XS.aloadN X.here C.hx rfl (hb C.hby d12_27) rfl rfl q) ?_
  refine Wk.putF C (hw _ (List.mem_of_getElem? (i := 60) rfl)) Via.refl P17 P16 (Or.inr ⟨(hw _ (List.mem_of_getElem? (i := 61) rfl)), rfl, rfl⟩) (hw _ (List.mem_of_getElem? (i := 49) rfl)) (ty := (.object "java/lang/String")) (by decide) (v' := (.ref o1)) rfl rfl G_o0 d12_28 ?_
  intro h4 W5
  have F6 : Fld Z h4 o0 "com/example/tripleshelf/tripleshelf/cli/Option" "name" "Ljava/lang/String;" (.ref o1) := P17.same W5
  have F7 : Exa Z h4 o2 "java/lang/String" := P0.wr W5
  have F8 : Exa Z h4 o5 "[B" := P1.wr W5
  have F9 : Fa Z h4 o5 .byte 1 (up (fun _ => (.int (0 : Int32))) 0 (.int x0)) := P2.other W5 (Ne.symm N_o0_o5)
  have F10 : Fld Z h4 o2 "java/lang/String" "coder" "B" (.int (0 : Int32)) := P3.other W5 (Or.inl (Ne.symm N_o0_o2))
  have F11 : Fld Z h4 o2 "java/lang/String" "value" "[B" (.ref o5) := P4.other W5 (Or.inl (Ne.symm N_o0_o2))
  have F12 : Exa Z h4 o1 "java/lang/String" := P5.wr W5
  have F13 : Exa Z h4 o4 "[B" := P6.wr W5
  have F14 : Fa Z h4 o4 .byte 1 (up (fun _ => (.int (0 : Int32))) 0 (.int x1)) := P7.other W5 (Ne.symm N_o0_o4)
  have F15 : Fld Z h4 o1 "java/lang/String" "coder" "B" (.int (0 : Int32)) := P8.other W5 (Or.inl (Ne.symm N_o0_o1))
  have F16 : Fld Z h4 o1 "java/lang/String" "value" "[B" (.ref o4) := P9.other W5 (Or.inl (Ne.symm N_o0_o1))
  have F17 : Exa Z h4 o3 "java/lang/String" := P10.wr W5
  have F18 : Exa Z h4 o6 "[B" := P11.wr W5
  have F19 : Fa Z h4 o6 .byte 1 (up (fun _ => (.int (0 : Int32))) 0 (.int x2)) := P12.other W5 (Ne.symm N_o0_o6)
  have F20 : Sta Z h4 "java/lang/String" "COMPACT_STRINGS" "Z" (.int x3) := P13.wr W5
  have F21 : Fld Z h4 o3 "java/lang/String" "value" "[B" (.ref o6) := P14.other W5 (Or.inl (Ne.symm N_o0_o3))
  have F22 : Fld Z h4 o3 "java/lang/String" "coder" "B" (.int (0 : Int32)) := P15.other W5 (Or.inl (Ne.symm N_o0_o3))
  have F23 : Exa Z h4 o0 "com/example/tripleshelf/tripleshelf/cli/Option" := P16.wr W5
  have F24 : Fld Z h4 o0 "com/example/tripleshelf/tripleshelf/cli/Option" "valueName" "Ljava/lang/String;" .null := P18.other W5 (Or.inr (slot_ne (Or.inr (hw _ (List.mem_of_getElem? (i := 63) rfl))) (Or.inr (hw _ (List.mem_of_getElem? (i := 61) rfl))) (by decide) (t := (.object "java/lang/String")) (t' := (.object "java/lang/String")) (by decide) (by decide)))
  have F25 : Fld Z h4 o0 "com/example/tripleshelf/tripleshelf/cli/Option" "required" "Z" (.int (0 : Int32)) := P19.other W5 (Or.inr (slot_ne (Or.inr (hw _ (List.mem_of_getElem? (i := 65) rfl))) (Or.inr (hw _ (List.mem_of_getElem? (i := 61) rfl))) (by decide) (t := .boolean) (t' := (.object "java/lang/String")) (by decide) (by decide)))
  have F26 : Fld Z h4 o0 "com/example/tripleshelf/tripleshelf/cli/Option" "description" "Ljava/lang/String;" .null := P20.other W5 (Or.inr (slot_ne (Or.inr (hw _ (List.mem_of_getElem? (i := 67) rfl))) (Or.inr (hw _ (List.mem_of_getElem? (i := 61) rfl))) (by decide) (t := (.object "java/lang/String")) (t' := (.object "java/lang/String")) (by decide) (by decide)))
  have sz27 : n0 ≤ h4.size := Nat.le_trans hsz (Nat.le_of_eq W5.size.symm)
  have sy28 : h0.size ≤ h4.size := Nat.le_trans (Nat.le_refl h0.size) (Nat.le_of_eq W5.size.symm)
  have K29 := (Keep.refl h0 [o0]).wr W5 (Or.inl (by simp))
  show Wk _ p l e _ s m _ below meth c n0 _ h4 0 0 (mkF m 31 #[.val (.ref o0), .val (.ref o1), .val (.ref o2), .val (.int (1 : Int32)), .val (.ref o3)] [])
  refine Wk.st (g' := (mkF m 32 #[.val (.ref o0), .val (.ref o1), .val (.ref o2), .val (.int (1 : Int32)), .val (.ref o3)] [(.ref o0)])) (fun X t q => XS.aloadN X.here C.hx rfl (hb C.hby d12_31) rfl rfl q) ?_
  refine Wk.st (g' := (mkF m 33 #[.val (.ref o0), .val (.ref o1), .val (.ref o2), .val (.int (1 : Int32)), .val (.ref o3)] [(.ref o2), (.ref o0)])) (fun X t q => XS.aloadN X.here C.hx rfl (hb C.hby d12_32) rfl rfl q) ?_
  refine Wk.putF C (hw _ (List.mem_of_getElem? (i := 62) rfl)) Via.refl F24 F23 (Or.inr ⟨(hw _ (List.mem_of_getElem? (i := 63) rfl)), rfl, rfl⟩) (hw _ (List.mem_of_getElem? (i := 49) rfl)) (ty := (.object "java/lang/String")) (by decide) (v' := (.ref o2)) rfl rfl G_o0 d12_33 ?_
  intro h30 W31
  have F32 : Fld Z h30 o0 "com/example/tripleshelf/tripleshelf/cli/Option" "valueName" "Ljava/lang/String;" (.ref o2) := F24.same W31
  have F33 : Exa Z h30 o2 "java/lang/String" := F7.wr W31
  have F34 : Exa Z h30 o5 "[B" := F8.wr W31
  have F35 : Fa Z h30 o5 .byte 1 (up (fun _ => (.int (0 : Int32))) 0 (.int x0)) := F9.other W31 (Ne.symm N_o0_o5)
  have F36 : Fld Z h30 o2 "java/lang/String" "coder" "B" (.int (0 : Int32)) := F10.other W31 (Or.inl (Ne.symm N_o0_o2))
  have F37 : Fld Z h30 o2 "java/lang/String" "value" "[B" (.ref o5) := F11.other W31 (Or.inl (Ne.symm N_o0_o2))
  have F38 : Exa Z h30 o1 "java/lang/String" := F12.wr W31
  have F39 : Exa Z h30 o4 "[B" := F13.wr W31
  have F40 : Fa Z h30 o4 .byte 1 (up (fun _ => (.int (0 : Int32))) 0 (.int x1)) := F14.other W31 (Ne.symm N_o0_o4)
  have F41 : Fld Z h30 o1 "java/lang/String" "coder" "B" (.int (0 : Int32)) := F15.other W31 (Or.inl (Ne.symm N_o0_o1))
  have F42 : Fld Z h30 o1 "java/lang/String" "value" "[B" (.ref o4) := F16.other W31 (Or.inl (Ne.symm N_o0_o1))
  have F43 : Exa Z h30 o3 "java/lang/String" := F17.wr W31
  have F44 : Exa Z h30 o6 "[B" := F18.wr W31
  have F45 : Fa Z h30 o6 .byte 1 (up (fun _ => (.int (0 : Int32))) 0 (.int x2)) := F19.other W31 (Ne.symm N_o0_o6)
  have F46 : Sta Z h30 "java/lang/String" "COMPACT_STRINGS" "Z" (.int x3) := F20.wr W31
  have F47 : Fld Z h30 o3 "java/lang/String" "value" "[B" (.ref o6) := F21.other W31 (Or.inl (Ne.symm N_o0_o3))
  have F48 : Fld Z h30 o3 "java/lang/String" "coder" "B" (.int (0 : Int32)) := F22.other W31 (Or.inl (Ne.symm N_o0_o3))
  have F49 : Exa Z h30 o0 "com/example/tripleshelf/tripleshelf/cli/Option" := F23.wr W31
  have F50 : Fld Z h30 o0 "com/example/tripleshelf/tripleshelf/cli/Option" "required" "Z" (.int (0 : Int32)) := F25.other W31 (Or.inr (slot_ne (Or.inr (hw _ (List.mem_of_getElem? (i := 65) rfl))) (Or.inr (hw _ (List.mem_of_getElem? (i := 63) rfl))) (by decide) (t := .boolean) (t' := (.object "java/lang/String")) (by decide) (by decide)))
  have F51 : Fld Z h30 o0 "com/example/tripleshelf/tripleshelf/cli/Option" "description" "Ljava/lang/String;" .null := F26.other W31 (Or.inr (slot_ne (Or.inr (hw _ (List.mem_of_getElem? (i := 67) rfl))) (Or.inr (hw _ (List.mem_of_getElem? (i := 63) rfl))) (by decide) (t := (.object "java/lang/String")) (t' := (.object "java/lang/String")) (by decide) (by decide)))
  have F52 : Fld Z h30 o0 "com/example/tripleshelf/tripleshelf/cli/Option" "name" "Ljava/lang/String;" (.ref o1) := F6.other W31 (Or.inr (slot_ne (Or.inr (hw _ (List.mem_of_getElem? (i := 61) rfl))) (Or.inr (hw _ (List.mem_of_getElem? (i := 63) rfl))) (by decide) (t := (.object "java/lang/String")) (t' := (.object "java/lang/String")) (by decide) (by decide)))
  have sz53 : n0 ≤ h30.size := Nat.le_trans sz27 (Nat.le_of_eq W31.size.symm)
  have sy54 : h0.size ≤ h30.size := Nat.le_trans sy28 (Nat.le_of_eq W31.size.symm)
  have K55 := K29.wr W31 (Or.inl (by simp))
  show Wk _ p l e _ s m _ below meth c n0 _ h30 0 0 (mkF m 36 #[.val (.ref o0), .val (.ref o1), .val (.ref o2), .val (.int (1 : Int32)), .val (.ref o3)] [])
  refine Wk.st (g' := (mkF m 37 #[.val (.ref o0), .val (.ref o1), .val (.ref o2), .val (.int (1 : Int32)), .val (.ref o3)] [(.ref o0)])) (fun X t q => XS.aloadN X.here C.hx rfl (hb C.hby d12_36) rfl rfl q) ?_
  refine Wk.st (g' := (mkF m 38 #[.val (.ref o0), .val (.ref o1), .val (.ref o2), .val (.int (1 : Int32)), .val (.ref o3)] [(.int (1 : Int32)), (.ref o0)])) (fun X t q => XS.iloadN X.here C.hx rfl (hb C.hby d12_37) rfl q) ?_
  refine Wk.putF C (hw _ (List.mem_of_getElem? (i := 64) rfl)) Via.refl F50 F49 (Or.inr ⟨(hw _ (List.mem_of_getElem? (i := 65) rfl)), rfl, rfl⟩) (hw _ (List.mem_of_getElem? (i := 49) rfl)) (ty := .boolean) (by decide) (v' := (.int (1 : Int32))) rfl (by decide) G_o0 d12_38 ?_
  intro h56 W57
  have F58 : Fld Z h56 o0 "com/example/tripleshelf/tripleshelf/cli/Option" "required" "Z" (.int (1 : Int32)) := F50.same W57
  have F59 : Exa Z h56 o2 "java/lang/String" := F33.wr W57
  have F60 : Exa Z h56 o5 "[B" := F34.wr W57
  have F61 : Fa Z h56 o5 .byte 1 (up (fun _ => (.int (0 : Int32))) 0 (.int x0)) := F35.other W57 (Ne.symm N_o0_o5)
  have F62 : Fld Z h56 o2 "java/lang/String" "coder" "B" (.int (0 : Int32)) := F36.other W57 (Or.inl (Ne.symm N_o0_o2))
  have F63 : Fld Z h56 o2 "java/lang/String" "value" "[B" (.ref o5) := F37.other W57 (Or.inl (Ne.symm N_o0_o2))
  have F64 : Exa Z h56 o1 "java/lang/String" := F38.wr W57
  have F65 : Exa Z h56 o4 "[B" := F39.wr W57
  have F66 : Fa Z h56 o4 .byte 1 (up (fun _ => (.int (0 : Int32))) 0 (.int x1)) := F40.other W57 (Ne.symm N_o0_o4)
  have F67 : Fld Z h56 o1 "java/lang/String" "coder" "B" (.int (0 : Int32)) := F41.other W57 (Or.inl (Ne.symm N_o0_o1))
  have F68 : Fld Z h56 o1 "java/lang/String" "value" "[B" (.ref o4) := F42.other W57 (Or.inl (Ne.symm N_o0_o1))
  have F69 : Exa Z h56 o3 "java/lang/String" := F43.wr W57
  have F70 : Exa Z h56 o6 "[B" := F44.wr W57
  have F71 : Fa Z h56 o6 .byte 1 (up (fun _ => (.int (0 : Int32))) 0 (.int x2)) := F45.other W57 (Ne.symm N_o0_o6)
  have F72 : Sta Z h56 "java/lang/String" "COMPACT_STRINGS" "Z" (.int x3) := F46.wr W57
  have F73 : Fld Z h56 o3 "java/lang/String" "value" "[B" (.ref o6) := F47.other W57 (Or.inl (Ne.symm N_o0_o3))
  have F74 : Fld Z h56 o3 "java/lang/String" "coder" "B" (.int (0 : Int32)) := F48.other W57 (Or.inl (Ne.symm N_o0_o3))
  have F75 : Exa Z h56 o0 "com/example/tripleshelf/tripleshelf/cli/Option" := F49.wr W57
  have F76 : Fld Z h56 o0 "com/example/tripleshelf/tripleshelf/cli/Option" "description" "Ljava/lang/String;" .null := F51.other W57 (Or.inr (slot_ne (Or.inr (hw _ (List.mem_of_getElem? (i := 67) rfl))) (Or.inr (hw _ (List.mem_of_getElem? (i := 65) rfl))) (by decide) (t := (.object "java/lang/String")) (t' := .boolean) (by decide) (by decide)))
  have F77 : Fld Z h56 o0 "com/example/tripleshelf/tripleshelf/cli/Option" "name" "Ljava/lang/String;" (.ref o1) := F52.other W57 (Or.inr (slot_ne (Or.inr (hw _ (List.mem_of_getElem? (i := 61) rfl))) (Or.inr (hw _ (List.mem_of_getElem? (i := 65) rfl))) (by decide) (t := (.object "java/lang/String")) (t' := .boolean) (by decide) (by decide)))
  have F78 : Fld Z h56 o0 "com/example/tripleshelf/tripleshelf/cli/Option" "valueName" "Ljava/lang/String;" (.ref o2) := F32.other W57 (Or.inr (slot_ne (Or.inr (hw _ (List.mem_of_getElem? (i := 63) rfl))) (Or.inr (hw _ (List.mem_of_getElem? (i := 65) rfl))) (by decide) (t := (.object "java/lang/String")) (t' := .boolean) (by decide) (by decide)))
  have sz79 : n0 ≤ h56.size := Nat.le_trans sz53 (Nat.le_of_eq W57.size.symm)
  have sy80 : h0.size ≤ h56.size := Nat.le_trans sy54 (Nat.le_of_eq W57.size.symm)
  have K81 := K55.wr W57 (Or.inl (by simp))
  show Wk _ p l e _ s m _ below meth c n0 _ h56 0 0 (mkF m 41 #[.val (.ref o0), .val (.ref o1), .val (.ref o2), .val (.int (1 : Int32)), .val (.ref o3)] [])
  refine Wk.st (g' := (mkF m 42 #[.val (.ref o0), .val (.ref o1), .val (.ref o2), .val (.int (1 : Int32)), .val (.ref o3)] [(.ref o0)])) (fun X t q => XS.aloadN X.here C.hx rfl (hb C.hby d12_41) rfl rfl q) ?_
  refine Wk.st (g' := (mkF m 44 #[.val (.ref o0), .val (.ref o1), .val (.ref o2), .val (.int (1 : Int32)), .val (.ref o3)] [(.ref o3), (.ref o0)])) (fun X t q => XS.aload X.here C.hx rfl (hb C.hby d12_42) rfl rfl q) ?_
  refine Wk.putF C (hw _ (List.mem_of_getElem? (i := 66) rfl)) Via.refl F76 F75 (Or.inr ⟨(hw _ (List.mem_of_getElem? (i := 67) rfl)), rfl, rfl⟩) (hw _ (List.mem_of_getElem? (i := 49) rfl)) (ty := (.object "java/lang/String")) (by decide) (v' := (.ref o3)) rfl rfl G_o0 d12_44 ?_
  intro h82 W83
  have F84 : Fld Z h82 o0 "com/example/tripleshelf/tripleshelf/cli/Option" "description" "Ljava/lang/String;" (.ref o3) := F76.same W83
  have F85 : Exa Z h82 o2 "java/lang/String" := F59.wr W83
  have F86 : Exa Z h82 o5 "[B" := F60.wr W83
  have F87 : Fa Z h82 o5 .byte 1 (up (fun _ => (.int (0 : Int32))) 0 (.int x0)) := F61.other W83 (Ne.symm N_o0_o5)
  have F88 : Fld Z h82 o2 "java/lang/String" "coder" "B" (.int (0 : Int32)) := F62.other W83 (Or.inl (Ne.symm N_o0_o2))
  have F89 : Fld Z h82 o2 "java/lang/String" "value" "[B" (.ref o5) := F63.other W83 (Or.inl (Ne.symm N_o0_o2))
  have F90 : Exa Z h82 o1 "java/lang/String" := F64.wr W83
  have F91 : Exa Z h82 o4 "[B" := F65.wr W83
  have F92 : Fa Z h82 o4 .byte 1 (up (fun _ => (.int (0 : Int32))) 0 (.int x1)) := F66.other W83 (Ne.symm N_o0_o4)
  have F93 : Fld Z h82 o1 "java/lang/String" "coder" "B" (.int (0 : Int32)) := F67.other W83 (Or.inl (Ne.symm N_o0_o1))
  have F94 : Fld Z h82 o1 "java/lang/String" "value" "[B" (.ref o4) := F68.other W83 (Or.inl (Ne.symm N_o0_o1))
  have F95 : Exa Z h82 o3 "java/lang/String" := F69.wr W83
  have F96 : Exa Z h82 o6 "[B" := F70.wr W83
  have F97 : Fa Z h82 o6 .byte 1 (up (fun _ => (.int (0 : Int32))) 0 (.int x2)) := F71.other W83 (Ne.symm N_o0_o6)
  have F98 : Sta Z h82 "java/lang/String" "COMPACT_STRINGS" "Z" (.int x3) := F72.wr W83
  have F99 : Fld Z h82 o3 "java/lang/String" "value" "[B" (.ref o6) := F73.other W83 (Or.inl (Ne.symm N_o0_o3))
  have F100 : Fld Z h82 o3 "java/lang/String" "coder" "B" (.int (0 : Int32)) := F74.other W83 (Or.inl (Ne.symm N_o0_o3))
  have F101 : Exa Z h82 o0 "com/example/tripleshelf/tripleshelf/cli/Option" := F75.wr W83
  have F102 : Fld Z h82 o0 "com/example/tripleshelf/tripleshelf/cli/Option" "name" "Ljava/lang/String;" (.ref o1) := F77.other W83 (Or.inr (slot_ne (Or.inr (hw _ (List.mem_of_getElem? (i := 61) rfl))) (Or.inr (hw _ (List.mem_of_getElem? (i := 67) rfl))) (by decide) (t := (.object "java/lang/String")) (t' := (.object "java/lang/String")) (by decide) (by decide)))
  have F103 : Fld Z h82 o0 "com/example/tripleshelf/tripleshelf/cli/Option" "valueName" "Ljava/lang/String;" (.ref o2) := F78.other W83 (Or.inr (slot_ne (Or.inr (hw _ (List.mem_of_getElem? (i := 63) rfl))) (Or.inr (hw _ (List.mem_of_getElem? (i := 67) rfl))) (by decide) (t := (.object "java/lang/String")) (t' := (.object "java/lang/String")) (by decide) (by decide)))
  have F104 : Fld Z h82 o0 "com/example/tripleshelf/tripleshelf/cli/Option" "required" "Z" (.int (1 : Int32)) := F58.other W83 (Or.inr (slot_ne (Or.inr (hw _ (List.mem_of_getElem? (i := 65) rfl))) (Or.inr (hw _ (List.mem_of_getElem? (i := 67) rfl))) (by decide) (t := .boolean) (t' := (.object "java/lang/String")) (by decide) (by decide)))
  have sz105 : n0 ≤ h82.size := Nat.le_trans sz79 (Nat.le_of_eq W83.size.symm)
  have sy106 : h0.size ≤ h82.size := Nat.le_trans sy80 (Nat.le_of_eq W83.size.symm)
  have K107 := K81.wr W83 (Or.inl (by simp))
  show Wk _ p l e _ s m _ below meth c n0 _ h82 0 0 (mkF m 47 #[.val (.ref o0), .val (.ref o1), .val (.ref o2), .val (.int (1 : Int32)), .val (.ref o3)] [])
  exact Wk.retN0 C rfl d12_47 (by decide) (by decide) ⟨rfl, K107, F98, F102, F103, F104, F84⟩
set_option maxRecDepth 65536 in
set_option maxHeartbeats 40000000 in
theorem own_14_21 (l : Launch) (Z : State) (a0 : Array Value) (hw : ∀ d ∈ tables_1, d.before a0 Z = true) (n0 : Nat) (h0 : Heap) (hsz : n0 ≤ h0.size) (o0 : Addr) (o1 : Addr) (o2 : Addr) (o3 : Addr) (o4 : Addr) (o5 : Addr) (o6 : Addr) (x0 : Int32) (x1 : Int32) (x2 : Int32) (x3 : Int32) (P0 : Exa Z h0 o2 "java/lang/String") (P1 : Exa Z h0 o5 "[B") (P2 : Fa Z h0 o5 .byte 1 (up (fun _ => (.int (0 : Int32))) 0 (.int x0))) (P3 : Fld Z h0 o2 "java/lang/String" "coder" "B" (.int (0 : Int32))) (P4 : Fld Z h0 o2 "java/lang/String" "value" "[B" (.ref o5)) (P5 : Exa Z h0 o1 "java/lang/String") (P6 : Exa Z h0 o4 "[B") (P7 : Fa Z h0 o4 .byte 1 (up (fun _ => (.int (0 : Int32))) 0 (.int x1))) (P8 : Fld Z h0 o1 "java/lang/String" "coder" "B" (.int (0 : Int32))) (P9 : Fld Z h0 o1 "java/lang/String" "value" "[B" (.ref o4)) (P10 : Exa Z h0 o3 "java/lang/String") (P11 : Exa Z h0 o6 "[B") (P12 : Fa Z h0 o6 .byte 1 (up (fun _ => (.int (0 : Int32))) 0 (.int x2))) (P13 : Fld Z h0 o3 "java/lang/String" "value" "[B" (.ref o6)) (P14 : Fld Z h0 o3 "java/lang/String" "coder" "B" (.int (0 : Int32))) (P15 : Exa Z h0 o0 "com/example/tripleshelf/tripleshelf/cli/Option") (P16 : Sta Z h0 "java/lang/String" "COMPACT_STRINGS" "Z" (.int x3)) (P17 : Fld Z h0 o0 "com/example/tripleshelf/tripleshelf/cli/Option" "name" "Ljava/lang/String;" (.ref o1)) (P18 : Fld Z h0 o0 "com/example/tripleshelf/tripleshelf/cli/Option" "valueName" "Ljava/lang/String;" (.ref o2)) (P19 : Fld Z h0 o0 "com/example/tripleshelf/tripleshelf/cli/Option" "required" "Z" (.int (1 : Int32))) (P20 : Fld Z h0 o0 "com/example/tripleshelf/tripleshelf/cli/Option" "description" "Ljava/lang/String;" (.ref o3)) (N_o0_o1 : o0 ≠ o1) (N_o0_o2 : o0 ≠ o2) (N_o0_o3 : o0 ≠ o3) (N_o0_o4 : o0 ≠ o4) (N_o0_o5 : o0 ≠ o5) (N_o0_o6 : o0 ≠ o6) (N_o1_o2 : o1 ≠ o2) (N_o1_o3 : o1 ≠ o3) (N_o1_o4 : o1 ≠ o4) (N_o1_o5 : o1 ≠ o5) (N_o1_o6 : o1 ≠ o6) (N_o2_o3 : o2 ≠ o3) (N_o2_o4 : o2 ≠ o4) (N_o2_o5 : o2 ≠ o5) (N_o2_o6 : o2 ≠ o6) (N_o3_o4 : o3 ≠ o4) (N_o3_o5 : o3 ≠ o5) (N_o3_o6 : o3 ≠ o6) (N_o4_o5 : o4 ≠ o5) (N_o4_o6 : o4 ≠ o6) (N_o5_o6 : o5 ≠ o6) (G_o0 : n0 ≤ o0) (G_o1 : n0 ≤ o1) (G_o2 : n0 ≤ o2) (G_o3 : n0 ≤ o3) (G_o4 : n0 ≤ o4) (G_o5 : n0 ≤ o5) (G_o6 : n0 ≤ o6) (nz_x3 : ¬ x3 = (0 : Int32)) :
    Met true l Z n0 (⟨"com/example/tripleshelf/tripleshelf/cli/Option", "takesValue", "()Z"⟩ : MethodName) prog_5_method_5_code 1 (some .boolean) ({ frames := 0, cells := 0, slots := 0, locals := 0 } : Room) #[(.ref o0)] h0 (fun v h => v = some (.int (1 : Int32)) ∧ h0 = h) := by
  refine Met.of (plainFor_of_name pn_5) #[.val (.ref o0)] (fun m => by first | (simp [entryFrame, mkF, argsToLocals, Value.category]; done) | rfl) ?_
  intro p e s m below meth c C
  refine Wk.st (g' := (mkF m 1 #[.val (.ref o0)] [(.ref o0)])) (fun X t q => XS.aloadN X.here C.hx rfl (hb C.hby d14_0) rfl rfl q) ?_
  refine Wk.getF C (hw _ (List.mem_of_getElem? (i := 62) rfl)) Via.refl P18 d14_1 ?_
  show Wk _ p l e _ s m _ below meth c n0 _ h0 0 0 (mkF m 4 #[.val (.ref o0)] [(.ref o2)])
  refine Wk.st (g' := (mkF m 7 #[.val (.ref o0)] [])) (fun X t q => XS.ifnullNo X.here C.hx rfl (hb C.hby d14_4) rfl q) ?_
  refine Wk.st (g' := (mkF m 8 #[.val (.ref o0)] [(.int (1 : Int32))])) (fun X t q => XS.iconst X.here C.hx rfl (hb C.hby d14_7) q) ?_
  refine Wk.st (g' := (mkF m 12 #[.val (.ref o0)] [(.int (1 : Int32))])) (fun X t q => XS.goto X.here C.hx rfl (pc0 := 8) (pc' := 12) rfl (hb C.hby d14_8) (by decide) (by decide) q) ?_
  exact Wk.retV C (t := .boolean) rfl rfl (Or.inl ⟨rfl, by simp, _, rfl⟩) d14_12 (by decide) (by decide) ⟨rfl, rfl⟩
set_option maxRecDepth 65536 in
set_option maxHeartbeats 40000000 in
theorem own_6_22 (l : Launch) (Z : State) (a0 : Array Value) (hw : ∀ d ∈ tables_1, d.before a0 Z = true) (n0 : Nat) (h0 : Heap) (hsz : n0 ≤ h0.size) (o0 : Addr) (o1 : Addr) (x0 : Int32) (x1 : Int32) (x2 : Int32) (P0 : Sta Z h0 "java/lang/String" "COMPACT_STRINGS" "Z" (.int x0)) (P1 : Exa Z h0 o0 "[C") (P2 : Fa Z h0 o0 .char 2 (up (up (fun _ => (.int (0 : Int32))) 0 (.int x1)) 1 (.int x2))) (P3 : Exa Z h0 o1 "[B") (P4 : Fa Z h0 o1 .byte 2 (fun _ => (.int (0 : Int32)))) (N_o0_o1 : o0 ≠ o1) (G_o0 : n0 ≤ o0) (G_o1 : n0 ≤ o1) (lat_x1 : ¬ (255 : Int32) < x1) (lat_x2 : ¬ (255 : Int32) < x2) (nz_x0 : ¬ x0 = (0 : Int32)) :
    Met true l Z n0 (⟨"java/lang/StringUTF16", "compress", "([CI[BII)I"⟩ : MethodName) jdk_52_method_21_code 7 (some .int) ({ frames := 0, cells := 0, slots := 0, locals := 0 } : Room) #[(.ref o0), (.int (0 : Int32)), (.ref o1), (.int (0 : Int32)), (.int (2 : Int32))] h0 (fun v h => v = some (.int (2 : Int32)) ∧ Keep h0 h [o1] ∧ Sta Z h "java/lang/String" "COMPACT_STRINGS" "Z" (.int x0) ∧ Fa Z h o1 .byte 2 (up (up (fun _ => (.int (0 : Int32))) 0 (.int (nar .byte (x1.toInt8.toInt32)))) 1 (.int (nar .byte (x2.toInt8.toInt32))))) := by
  refine Met.of (plainFor_of_name pn_2) #[.val (.ref o0), .val (.int (0 : Int32)), .val (.ref o1), .val (.int (0 : Int32)), .val (.int (2 : Int32)), .unset, .unset] (fun m => by first | (simp [entryFrame, mkF, argsToLocals, Value.category]; done) | rfl) ?_
  intro p e s m below meth c C
  refine Wk.st (g' := (mkF m 1 #[.val (.ref o0), .val (.int (0 : Int32)), .val (.ref o1), .val (.int (0 : Int32)), .val (.int (2 : Int32)), .unset, .unset] [(.int (0 : Int32))])) (fun X t q => XS.iconst X.here C.hx rfl (hb C.hby d6_0) q) ?_
  refine Wk.st (g' := (mkF m 3 #[.val (.ref o0), .val (.int (0 : Int32)), .val (.ref o1), .val (.int (0 : Int32)), .val (.int (2 : Int32)), .val (.int (0 : Int32)), .unset] [])) (fun X t q => XS.istore X.here C.hx rfl (hb C.hby d6_1) rfl (l' := #[.val (.ref o0), .val (.int (0 : Int32)), .val (.ref o1), .val (.int (0 : Int32)), .val (.int (2 : Int32)), .val (.int (0 : Int32)), .unset]) rfl q) ?_
  refine Wk.st (g' := (mkF m 5 #[.val (.ref o0), .val (.int (0 : Int32)), .val (.ref o1), .val (.int (0 : Int32)), .val (.int (2 : Int32)), .val (.int (0 : Int32)), .unset] [(.int (0 : Int32))])) (fun X t q => XS.iload X.here C.hx rfl (hb C.hby d6_3) rfl q) ?_
  refine Wk.st (g' := (mkF m 7 #[.val (.ref o0), .val (.int (0 : Int32)), .val (.ref o1), .val (.int (0 : Int32)), .val (.int (2 : Int32)), .val (.int (0 : Int32)), .unset] [(.int (2 : Int32)), (.int (0 : Int32))])) (fun X t q => XS.iload X.here C.hx rfl (hb C.hby d6_5) rfl q) ?_
  refine Wk.st (g' := (mkF m 10 #[.val (.ref o0), .val (.int (0 : Int32)), .val (.ref o1), .val (.int (0 : Int32)), .val (.int (2 : Int32)), .val (.int (0 : Int32)), .unset] [])) (fun X t q => XS.icmpNo X.here C.hx rfl (hb C.hby d6_7) rfl (XT.ii_ge_f (by decide)) q) ?_
  refine Wk.st (g' := (mkF m 11 #[.val (.ref o0), .val (.int (0 : Int32)), .val (.ref o1), .val (.int (0 : Int32)), .val (.int (2 : Int32)), .val (.int (0 : Int32)), .unset] [(.ref o0)])) (fun X t q => XS.aloadN X.here C.hx rfl (hb C.hby d6_10) rfl rfl q) ?_
  refine Wk.st (g' := (mkF m 12 #[.val (.ref o0), .val (.int (0 : Int32)), .val (.ref o1), .val (.int (0 : Int32)), .val (.int (2 : Int32)), .val (.int (0 : Int32)), .unset] [(.int (0 : Int32)), (.ref o0)])) (fun X t q => XS.iloadN X.here C.hx rfl (hb C.hby d6_11) rfl q) ?_
  refine Wk.fLdC C P2 (i := 0) (by decide) (by decide) (by decide) (v := (.int x1)) (by simp [up]) d6_12 ?_
  show Wk _ p l e _ s m _ below meth c n0 _ h0 0 0 (mkF m 13 #[.val (.ref o0), .val (.int (0 : Int32)), .val (.ref o1), .val (.int (0 : Int32)), .val (.int (2 : Int32)), .val (.int (0 : Int32)), .unset] [(.int x1)])
  refine Wk.st (g' := (mkF m 15 #[.val (.ref o0), .val (.int (0 : Int32)), .val (.ref o1), .val (.int (0 : Int32)), .val (.int (2 : Int32)), .val (.int (0 : Int32)), .val (.int x1)] [])) (fun X t q => XS.istore X.here C.hx rfl (hb C.hby d6_13) rfl (l' := #[.val (.ref o0), .val (.int (0 : Int32)), .val (.ref o1), .val (.int (0 : Int32)), .val (.int (2 : Int32)), .val (.int (0 : Int32)), .val (.int x1)]) rfl q) ?_
  refine Wk.st (g' := (mkF m 17 #[.val (.ref o0), .val (.int (0 : Int32)), .val (.ref o1), .val (.int (0 : Int32)), .val (.int (2 : Int32)), .val (.int (0 : Int32)), .val (.int x1)] [(.int x1)])) (fun X t q => XS.iload X.here C.hx rfl (hb C.hby d6_15) rfl q) ?_
  refine Wk.st (g' := (mkF m 20 #[.val (.ref o0), .val (.int (0 : Int32)), .val (.ref o1), .val (.int (0 : Int32)), .val (.int (2 : Int32)), .val (.int (0 : Int32)), .val (.int x1)] [(.int (255 : Int32)), (.int x1)])) (fun X t q => XS.sipush X.here C.hx rfl (hb C.hby d6_17) q) ?_
  refine Wk.st (g' := (mkF m 26 #[.val (.ref o0), .val (.int (0 : Int32)), .val (.ref o1), .val (.int (0 : Int32)), .val (.int (2 : Int32)), .val (.int (0 : Int32)), .val (.int x1)] [])) (fun X t q => XS.icmpYes X.here C.hx rfl (pc0 := 20) (pc' := 26) rfl (hb C.hby d6_20) rfl (XT.ii_le_t lat_x1) (by decide) (by decide) q) ?_
  refine Wk.st (g' := (mkF m 27 #[.val (.ref o0), .val (.int (0 : Int32)), .val (.ref o1), .val (.int (0 : Int32)), .val (.int (2 : Int32)), .val (.int (0 : Int32)), .val (.int x1)] [(.ref o1)])) (fun X t q => XS.aloadN X.here C.hx rfl (hb C.hby d6_26) rfl rfl q) ?_
  refine Wk.st (g' := (mkF m 28 #[.val (.ref o0), .val (.int (0 : Int32)), .val (.ref o1), .val (.int (0 : Int32)), .val (.int (2 : Int32)), .val (.int (0 : Int32)), .val (.int x1)] [(.int (0 : Int32)), (.ref o1)])) (fun X t q => XS.iloadN X.here C.hx rfl (hb C.hby d6_27) rfl q) ?_
  refine Wk.st (g' := (mkF m 30 #[.val (.ref o0), .val (.int (0 : Int32)), .val (.ref o1), .val (.int (0 : Int32)), .val (.int (2 : Int32)), .val (.int (0 : Int32)), .val (.int x1)] [(.int x1), (.int (0 : Int32)), (.ref o1)])) (fun X t q => XS.iload X.here C.hx rfl (hb C.hby d6_28) rfl q) ?_
  refine Wk.st (g' := (mkF m 31 #[.val (.ref o0), .val (.int (0 : Int32)), .val (.ref o1), .val (.int (0 : Int32)), .val (.int (2 : Int32)), .val (.int (0 : Int32)), .val (.int x1)] [(.int (x1.toInt8.toInt32)), (.int (0 : Int32)), (.ref o1)])) (fun X t q => XS.i2b X.here C.hx rfl (hb C.hby d6_30) rfl q) ?_
  refine Wk.fStB C P4 (x' := (nar .byte (x1.toInt8.toInt32))) rfl (i := 0) (by decide) (by decide) (by decide) G_o1 d6_31 ?_
  intro h1 W2 F3
  have F4 : Sta Z h1 "java/lang/String" "COMPACT_STRINGS" "Z" (.int x0) := P0.wr W2
  have F5 : Exa Z h1 o0 "[C" := P1.wr W2
  have F6 : Fa Z h1 o0 .char 2 (up (up (fun _ => (.int (0 : Int32))) 0 (.int x1)) 1 (.int x2)) := P2.other W2 N_o0_o1
  have F7 : Exa Z h1 o1 "[B" := P3.wr W2
  have sz8 : n0 ≤ h1.size := Nat.le_trans hsz (Nat.le_of_eq W2.size.symm)
  have sy9 : h0.size ≤ h1.size := Nat.le_trans (Nat.le_refl h0.size) (Nat.le_of_eq W2.size.symm)
  have K10 := (Keep.refl h0 [o1]).wr W2 (Or.inl (by simp))
  show Wk _ p l e _ s m _ below meth c n0 _ h1 0 0 (mkF m 32 #[.val (.ref o0), .val (.int (0 : Int32)), .val (.ref o1), .val (.int (0 : Int32)), .val (.int (2 : Int32)), .val (.int (0 : Int32)), .val (.int x1)] [])
  refine Wk.st (g' := (mkF m 35 #[.val (.ref o0), .val (.int (1 : Int32)), .val (.ref o1), .val (.int (0 : Int32)), .val (.int (2 : Int32)), .val (.int (0 : Int32)), .val (.int x1)] [])) (fun X t q => XS.iinc X.here C.hx rfl (hb C.hby d6_32) rfl (l' := #[.val (.ref o0), .val (.int (1 : Int32)), .val (.ref o1), .val (.int (0 : Int32)), .val (.int (2 : Int32)), .val (.int (0 : Int32)), .val (.int x1)]) rfl q) ?_
  refine Wk.st (g' := (mkF m 38 #[.val (.ref o0), .val (.int (1 : Int32)), .val (.ref o1), .val (.int (1 : Int32)), .val (.int (2 : Int32)), .val (.int (0 : Int32)), .val (.int x1)] [])) (fun X t q => XS.iinc X.here C.hx rfl (hb C.hby d6_35) rfl (l' := #[.val (.ref o0), .val (.int (1 : Int32)), .val (.ref o1), .val (.int (1 : Int32)), .val (.int (2 : Int32)), .val (.int (0 : Int32)), .val (.int x1)]) rfl q) ?_
  refine Wk.st (g' := (mkF m 41 #[.val (.ref o0), .val (.int (1 : Int32)), .val (.ref o1), .val (.int (1 : Int32)), .val (.int (2 : Int32)), .val (.int (1 : Int32)), .val (.int x1)] [])) (fun X t q => XS.iinc X.here C.hx rfl (hb C.hby d6_38) rfl (l' := #[.val (.ref o0), .val (.int (1 : Int32)), .val (.ref o1), .val (.int (1 : Int32)), .val (.int (2 : Int32)), .val (.int (1 : Int32)), .val (.int x1)]) rfl q) ?_
  refine Wk.st (g' := (mkF m 3 #[.val (.ref o0), .val (.int (1 : Int32)), .val (.ref o1), .val (.int (1 : Int32)), .val (.int (2 : Int32)), .val (.int (1 : Int32)), .val (.int x1)] [])) (fun X t q => XS.goto X.here C.hx rfl (pc0 := 41) (pc' := 3) rfl (hb C.hby d6_41) (by decide) (by decide) q) ?_
  refine Wk.st (g' := (mkF m 5 #[.val (.ref o0), .val (.int (1 : Int32)), .val (.ref o1), .val (.int (1 : Int32)), .val (.int (2 : Int32)), .val (.int (1 : Int32)), .val (.int x1)] [(.int (1 : Int32))])) (fun X t q => XS.iload X.here C.hx rfl (hb C.hby d6_3) rfl q) ?_
  refine Wk.st (g' := (mkF m 7 #[.val (.ref o0), .val (.int (1 : Int32)), .val (.ref o1), .val (.int (1 : Int32)), .val (.int (2 : Int32)), .val (.int (1 : Int32)), .val (.int x1)] [(.int (2 : Int32)), (.int (1 : Int32))])) (fun X t q => XS.iload X.here C.hx rfl (hb C.hby d6_5) rfl q) ?_
  refine Wk.st (g' := (mkF m 10 #[.val (.ref o0), .val (.int (1 : Int32)), .val (.ref o1), .val (.int (1 : Int32)), .val (.int (2 : Int32)), .val (.int (1 : Int32)), .val (.int x1)] [])) (fun X t q => XS.icmpNo X.here C.hx rfl (hb C.hby d6_7) rfl (XT.ii_ge_f (by decide)) q) ?_
  refine Wk.st (g' := (mkF m 11 #[.val (.ref o0), .val (.int (1 : Int32)), .val (.ref o1), .val (.int (1 : Int32)), .val (.int (2 : Int32)), .val (.int (1 : Int32)), .val (.int x1)] [(.ref o0)])) (fun X t q => XS.aloadN X.here C.hx rfl (hb C.hby d6_10) rfl rfl q) ?_
  refine Wk.st (g' := (mkF m 12 #[.val (.ref o0), .val (.int (1 : Int32)), .val (.ref o1), .val (.int (1 : Int32)), .val (.int (2 : Int32)), .val (.int (1 : Int32)), .val (.int x1)] [(.int (1 : Int32)), (.ref o0)])) (fun X t q => XS.iloadN X.here C.hx rfl (hb C.hby d6_11) rfl q) ?_
  refine Wk.fLdC C F6 (i := 1) (by decide) (by decide) (by decide) (v := (.int x2)) (by simp [up]) d6_12 ?_
  show Wk _ p l e _ s m _ below meth c n0 _ h1 0 0 (mkF m 13 #[.val (.ref o0), .val (.int (1 : Int32)), .val (.ref o1), .val (.int (1 : Int32)), .val (.int (2 : Int32)), .val (.int (1 : Int32)), .val (.int x1)] [(.int x2)])
  refine Wk.st (g' := (mkF m 15 #[.val (.ref o0), .val (.int (1 : Int32)), .val (.ref o1), .val (.int (1 : Int32)), .val (.int (2 : Int32)), .val (.int (1 : Int32)), .val (.int x2)] [])) (fun X t q => XS.istore X.here C.hx rfl (hb C.hby d6_13) rfl (l' := #[.val (.ref o0), .val (.int (1 : Int32)), .val (.ref o1), .val (.int (1 : Int32)), .val (.int (2 : Int32)), .val (.int (1 : Int32)), .val (.int x2)]) rfl q) ?_
  refine Wk.st (g' := (mkF m 17 #[.val (.ref o0), .val (.int (1 : Int32)), .val (.ref o1), .val (.int (1 : Int32)), .val (.int (2 : Int32)), .val (.int (1 : Int32)), .val (.int x2)] [(.int x2)])) (fun X t q => XS.iload X.here C.hx rfl (hb C.hby d6_15) rfl q) ?_
  refine Wk.st (g' := (mkF m 20 #[.val (.ref o0), .val (.int (1 : Int32)), .val (.ref o1), .val (.int (1 : Int32)), .val (.int (2 : Int32)), .val (.int (1 : Int32)), .val (.int x2)] [(.int (255 : Int32)), (.int x2)])) (fun X t q => XS.sipush X.here C.hx rfl (hb C.hby d6_17) q) ?_
  refine Wk.st (g' := (mkF m 26 #[.val (.ref o0), .val (.int (1 : Int32)), .val (.ref o1), .val (.int (1 : Int32)), .val (.int (2 : Int32)), .val (.int (1 : Int32)), .val (.int x2)] [])) (fun X t q => XS.icmpYes X.here C.hx rfl (pc0 := 20) (pc' := 26) rfl (hb C.hby d6_20) rfl (XT.ii_le_t lat_x2) (by decide) (by decide) q) ?_
  refine Wk.st (g' := (mkF m 27 #[.val (.ref o0), .val (.int (1 : Int32)), .val (.ref o1), .val (.int (1 : Int32)), .val (.int (2 : Int32)), .val (.int (1 : Int32)), .val (.int x2)] [(.ref o1)])) (fun X t q => XS.aloadN X.here C.hx rfl (hb C.hby d6_26) rfl rfl q) ?_
  refine Wk.st (g' := (mkF m 28 #[.val (.ref o0), .val (.int (1 : Int32)), .val (.ref o1), .val (.int (1 : Int32)), .val (.int (2 : Int32)), .val (.int (1 : Int32)), .val (.int x2)] [(.int (1 : Int32)), (.ref o1)])) (fun X t q => XS.iloadN X.here C.hx rfl (hb C.hby d6_27) rfl q) ?_
  refine Wk.st (g' := (mkF m 30 #[.val (.ref o0), .val (.int (1 : Int32)), .val (.ref o1), .val (.int (1 : Int32)), .val (.int (2 : Int32)), .val (.int (1 : Int32)), .val (.int x2)] [(.int x2), (.int (1 : Int32)), (.ref o1)])) (fun X t q => XS.iload X.here C.hx rfl (hb C.hby d6_28) rfl q) ?_
  refine Wk.st (g' := (mkF m 31 #[.val (.ref o0), .val (.int (1 : Int32)), .val (.ref o1), .val (.int (1 : Int32)), .val (.int (2 : Int32)), .val (.int (1 : Int32)), .val (.int x2)] [(.int (x2.toInt8.toInt32)), (.int (1 : Int32)), (.ref o1)])) (fun X t q => XS.i2b X.here C.hx rfl (hb C.hby d6_30) rfl q) ?_
  refine Wk.fStB C F3 (x' := (nar .byte (x2.toInt8.toInt32))) rfl (i := 1) (by decide) (by decide) (by decide) G_o1 d6_31 ?_
  intro h11 W12 F13
  have F14 : Sta Z h11 "java/lang/String" "COMPACT_STRINGS" "Z" (.int x0) := F4.wr W12
  have F15 : Exa Z h11 o0 "[C" := F5.wr W12
  have F16 : Fa Z h11 o0 .char 2 (up (up (fun _ => (.int (0 : Int32))) 0 (.int x1)) 1 (.int x2)) := F6.other W12 N_o0_o1
  have F17 : Exa Z h11 o1 "[B" := F7.wr W12
  have sz18 : n0 ≤ h11.size := Nat.le_trans sz8 (Nat.le_of_eq W12.size.symm)
  have sy19 : h0.size ≤ h11.size := Nat.le_trans sy9 (Nat.le_of_eq W12.size.symm)
  have K20 := K10.wr W12 (Or.inl (by simp))
  show Wk _ p l e _ s m _ below meth c n0 _ h11 0 0 (mkF m 32 #[.val (.ref o0), .val (.int (1 : Int32)), .val (.ref o1), .val (.int (1 : Int32)), .val (.int (2 : Int32)), .val (.int (1 : Int32)), .val (.int x2)] [])
  refine Wk.st (g' := (mkF m 35 #[.val (.ref o0), .val (.int (2 : Int32)), .val (.ref o1), .val (.int (1 : Int32)), .val (.int (2 : Int32)), .val (.int (1 : Int32)), .val (.int x2)] [])) (fun X t q => XS.iinc X.here C.hx rfl (hb C.hby d6_32) rfl (l' := #[.val (.ref o0), .val (.int (2 : Int32)), .val (.ref o1), .val (.int (1 : Int32)), .val (.int (2 : Int32)), .val (.int (1 : Int32)), .val (.int x2)]) rfl q) ?_
  refine Wk.st (g' := (mkF m 38 #[.val (.ref o0), .val (.int (2 : Int32)), .val (.ref o1), .val (.int (2 : Int32)), .val (.int (2 : Int32)), .val (.int (1 : Int32)), .val (.int x2)] [])) (fun X t q => XS.iinc X.here C.hx rfl (hb C.hby d6_35) rfl (l' := #[.val (.ref o0), .val (.int (2 : Int32)), .val (.ref o1), .val (.int (2 : Int32)), .val (.int (2 : Int32)), .val (.int (1 : Int32)), .val (.int x2)]) rfl q) ?_
  refine Wk.st (g' := (mkF m 41 #[.val (.ref o0), .val (.int (2 : Int32)), .val (.ref o1), .val (.int (2 : Int32)), .val (.int (2 : Int32)), .val (.int (2 : Int32)), .val (.int x2)] [])) (fun X t q => XS.iinc X.here C.hx rfl (hb C.hby d6_38) rfl (l' := #[.val (.ref o0), .val (.int (2 : Int32)), .val (.ref o1), .val (.int (2 : Int32)), .val (.int (2 : Int32)), .val (.int (2 : Int32)), .val (.int x2)]) rfl q) ?_
  refine Wk.st (g' := (mkF m 3 #[.val (.ref o0), .val (.int (2 : Int32)), .val (.ref o1), .val (.int (2 : Int32)), .val (.int (2 : Int32)), .val (.int (2 : Int32)), .val (.int x2)] [])) (fun X t q => XS.goto X.here C.hx rfl (pc0 := 41) (pc' := 3) rfl (hb C.hby d6_41) (by decide) (by decide) q) ?_
  refine Wk.st (g' := (mkF m 5 #[.val (.ref o0), .val (.int (2 : Int32)), .val (.ref o1), .val (.int (2 : Int32)), .val (.int (2 : Int32)), .val (.int (2 : Int32)), .val (.int x2)] [(.int (2 : Int32))])) (fun X t q => XS.iload X.here C.hx rfl (hb C.hby d6_3) rfl q) ?_
  refine Wk.st (g' := (mkF m 7 #[.val (.ref o0), .val (.int (2 : Int32)), .val (.ref o1), .val (.int (2 : Int32)), .val (.int (2 : Int32)), .val (.int (2 : Int32)), .val (.int x2)] [(.int (2 : Int32)), (.int (2 : Int32))])) (fun X t q => XS.iload X.here C.hx rfl (hb C.hby d6_5) rfl q) ?_
  refine Wk.st (g' := (mkF m 44 #[.val (.ref o0), .val (.int (2 : Int32)), .val (.ref o1), .val (.int (2 : Int32)), .val (.int (2 : Int32)), .val (.int (2 : Int32)), .val (.int x2)] [])) (fun X t q => XS.icmpYes X.here C.hx rfl (pc0 := 7) (pc' := 44) rfl (hb C.hby d6_7) rfl (XT.ii_ge_t (by decide)) (by decide) (by decide) q) ?_
  refine Wk.st (g' := (mkF m 46 #[.val (.ref o0), .val (.int (2 : Int32)), .val (.ref o1), .val (.int (2 : Int32)), .val (.int (2 : Int32)), .val (.int (2 : Int32)), .val (.int x2)] [(.int (2 : Int32))])) (fun X t q => XS.iload X.here C.hx rfl (hb C.hby d6_44) rfl q) ?_
  exact Wk.retV C (t := .int) rfl rfl (Or.inl ⟨rfl, by simp, _, rfl⟩) d6_46 (by decide) (by decide) ⟨rfl, K20, F14, F13⟩
set_option maxRecDepth 65536 in
set_option maxHeartbeats 40000000 in
theorem own_5_22 (l : Launch) (Z : State) (a0 : Array Value) (hw : ∀ d ∈ tables_1, d.before a0 Z = true) (n0 : Nat) (h0 : Heap) (hsz : n0 ≤ h0.size) (o0 : Addr) (x0 : Int32) (x1 : Int32) (x2 : Int32) (P0 : Sta Z h0 "java/lang/String" "COMPACT_STRINGS" "Z" (.int x0)) (P1 : Exa Z h0 o0 "[C") (P2 : Fa Z h0 o0 .char 2 (up (up (fun _ => (.int (0 : Int32))) 0 (.int x1)) 1 (.int x2))) (G_o0 : n0 ≤ o0) (lat_x1 : ¬ (255 : Int32) < x1) (lat_x2 : ¬ (255 : Int32) < x2) (nz_x0 : ¬ x0 = (0 : Int32)) :
    Met true l Z n0 (⟨"java/lang/StringUTF16", "compress", "([CII)[B"⟩ : MethodName) jdk_52_method_16_code 6 (some (.array .byte)) ({ frames := 1, cells := 1, slots := 2, locals := 18 } : Room) #[(.ref o0), (.int (0 : Int32)), (.int (2 : Int32))] h0 (fun v h => ∃ b2 : Addr, v = some (.ref b2) ∧ Keep h0 h [] ∧ h0.size ≤ b2 ∧ Exa Z h b2 "[B" ∧ Sta Z h "java/lang/String" "COMPACT_STRINGS" "Z" (.int x0) ∧ Fa Z h b2 .byte 2 (up (up (fun _ => (.int (0 : Int32))) 0 (.int (nar .byte (x1.toInt8.toInt32)))) 1 (.int (nar .byte (x2.toInt8.toInt32))))) := by
  refine Met.of (plainFor_of_name pn_2) #[.val (.ref o0), .val (.int (0 : Int32)), .val (.int (2 : Int32)), .unset, .unset, .unset] (fun m => by first | (simp [entryFrame, mkF, argsToLocals, Value.category]; done) | rfl) ?_
  intro p e s m below meth c C
  refine Wk.st (g' := (mkF m 1 #[.val (.ref o0), .val (.int (0 : Int32)), .val (.int (2 : Int32)), .unset, .unset, .unset] [(.int (2 : Int32))])) (fun X t q => XS.iloadN X.here C.hx rfl (hb C.hby d5_0) rfl q) ?_
  refine Wk.fNewP C (hw _ (List.mem_of_getElem? (i := 23) rfl)) (ty := .byte) (dv := (.int (0 : Int32))) (N := 2) (ad := "[B") rfl rfl (by decide) (by decide) (by decide) (cap := 2) (by decide) (by decide) d5_1 (by decide) (by decide) ?_
  intro h1 b2 g3 E4 A5 F6
  have ne7 : o0 ≠ b2 := Nat.ne_of_lt (Nat.lt_of_lt_of_le P1.lt (Nat.le_of_eq g3.symm))
  have ge8 : n0 ≤ b2 := Nat.le_trans hsz (Nat.le_of_eq g3.symm)
  have gz9 : h0.size ≤ b2 := Nat.le_trans (Nat.le_refl h0.size) (Nat.le_of_eq g3.symm)
  have F10 : Sta Z h1 "java/lang/String" "COMPACT_STRINGS" "Z" (.int x0) := P0.ext E4
  have F11 : Exa Z h1 o0 "[C" := P1.ext E4
  have F12 : Fa Z h1 o0 .char 2 (up (up (fun _ => (.int (0 : Int32))) 0 (.int x1)) 1 (.int x2)) := P2.ext E4
  have sz13 : n0 ≤ h1.size := Nat.le_trans hsz E4.1
  have sy14 : h0.size ≤ h1.size := Nat.le_trans (Nat.le_refl h0.size) E4.1
  have K15 := (Keep.refl h0 []).ext E4
  show Wk _ p l e _ s m _ below meth c n0 _ h1 1 2 (mkF m 3 #[.val (.ref o0), .val (.int (0 : Int32)), .val (.int (2 : Int32)), .unset, .unset, .unset] [(.ref b2)])
  refine Wk.st (g' := (mkF m 4 #[.val (.ref o0), .val (.int (0 : Int32)), .val (.int (2 : Int32)), .val (.ref b2), .unset, .unset] [])) (fun X t q => XS.astoreN X.here C.hx rfl (hb C.hby d5_3) rfl rfl (l' := #[.val (.ref o0), .val (.int (0 : Int32)), .val (.int (2 : Int32)), .val (.ref b2), .unset, .unset]) rfl q) ?_
  refine Wk.st (g' := (mkF m 5 #[.val (.ref o0), .val (.int (0 : Int32)), .val (.int (2 : Int32)), .val (.ref b2), .unset, .unset] [(.ref o0)])) (fun X t q => XS.aloadN X.here C.hx rfl (hb C.hby d5_4) rfl rfl q) ?_
  refine Wk.st (g' := (mkF m 6 #[.val (.ref o0), .val (.int (0 : Int32)), .val (.int (2 : Int32)), .val (.ref b2), .unset, .unset] [(.int (0 : Int32)), (.ref o0)])) (fun X t q => XS.iloadN X.here C.hx rfl (hb C.hby d5_5) rfl q) ?_
  refine Wk.st (g' := (mkF m 7 #[.val (.ref o0), .val (.int (0 : Int32)), .val (.int (2 : Int32)), .val (.ref b2), .unset, .unset] [(.ref b2), (.int (0 : Int32)), (.ref o0)])) (fun X t q => XS.aloadN X.here C.hx rfl (hb C.hby d5_6) rfl rfl q) ?_
  refine Wk.st (g' := (mkF m 8 #[.val (.ref o0), .val (.int (0 : Int32)), .val (.int (2 : Int32)), .val (.ref b2), .unset, .unset] [(.int (0 : Int32)), (.ref b2), (.int (0 : Int32)), (.ref o0)])) (fun X t q => XS.iconst X.here C.hx rfl (hb C.hby d5_7) q) ?_
  refine Wk.st (g' := (mkF m 9 #[.val (.ref o0), .val (.int (0 : Int32)), .val (.int (2 : Int32)), .val (.ref b2), .unset, .unset] [(.int (2 : Int32)), (.int (0 : Int32)), (.ref b2), (.int (0 : Int32)), (.ref o0)])) (fun X t q => XS.iloadN X.here C.hx rfl (hb C.hby d5_8) rfl q) ?_
  refine Wk.callS C (z := (⟨"java/lang/StringUTF16", "compress", "([CI[BII)I"⟩ : MethodName)) (hw _ (List.mem_of_getElem? (i := 24) rfl)) (hw _ (List.mem_of_getElem? (i := 25) rfl)) (hw _ (List.mem_of_getElem? (i := 21) rfl)) (hw _ (List.mem_of_getElem? (i := 26) rfl)) (by decide) (own_6_22 l Z a0 hw n0 h1 sz13 o0 b2 x0 x1 x2 F10 F11 F12 A5 F6 ne7 G_o0 ge8 lat_x1 lat_x2 nz_x0) (w := 0) (by decide) (by decide) pd_4 rfl (rest := []) rfl rfl (Nat.le_of_eq rfl) (by decide) (by decide) d5_9 ?_
  rintro _ h17 ⟨rfl, K18, F19, F20⟩
  show Wk _ p l e _ s m _ below meth c n0 _ h17 1 2 (mkF m 12 #[.val (.ref o0), .val (.int (0 : Int32)), .val (.int (2 : Int32)), .val (.ref b2), .unset, .unset] [(.int (2 : Int32))])
  have F21 : Exa Z h17 o0 "[C" := F11.keep K18
  have F22 : Fa Z h17 o0 .char 2 (up (up (fun _ => (.int (0 : Int32))) 0 (.int x1)) 1 (.int x2)) := F12.keep K18 (nmS ne7 nm0)
  have F23 : Exa Z h17 b2 "[B" := A5.keep K18
  have sz24 : n0 ≤ h17.size := Nat.le_trans sz13 K18.1
  have K25 := K15.trans K18 (nvS (Or.inr gz9) nv0)
  have sy26 : h0.size ≤ h17.size := Nat.le_trans sy14 K18.1
  refine Wk.st (g' := (mkF m 14 #[.val (.ref o0), .val (.int (0 : Int32)), .val (.int (2 : Int32)), .val (.ref b2), .val (.int (2 : Int32)), .unset] [])) (fun X t q => XS.istore X.here C.hx rfl (hb C.hby d5_12) rfl (l' := #[.val (.ref o0), .val (.int (0 : Int32)), .val (.int (2 : Int32)), .val (.ref b2), .val (.int (2 : Int32)), .unset]) rfl q) ?_
  refine Wk.st (g' := (mkF m 16 #[.val (.ref o0), .val (.int (0 : Int32)), .val (.int (2 : Int32)), .val (.ref b2), .val (.int (2 : Int32)), .unset] [(.int (2 : Int32))])) (fun X t q => XS.iload X.here C.hx rfl (hb C.hby d5_14) rfl q) ?_
  refine Wk.st (g' := (mkF m 17 #[.val (.ref o0), .val (.int (0 : Int32)), .val (.int (2 : Int32)), .val (.ref b2), .val (.int (2 : Int32)), .unset] [(.int (2 : Int32)), (.int (2 : Int32))])) (fun X t q => XS.iloadN X.here C.hx rfl (hb C.hby d5_16) rfl q) ?_
  refine Wk.st (g' := (mkF m 57 #[.val (.ref o0), .val (.int (0 : Int32)), .val (.int (2 : Int32)), .val (.ref b2), .val (.int (2 : Int32)), .unset] [])) (fun X t q => XS.icmpYes X.here C.hx rfl (pc0 := 17) (pc' := 57) rfl (hb C.hby d5_17) rfl (XT.ii_eq_t (by decide)) (by decide) (by decide) q) ?_
  refine Wk.st (g' := (mkF m 58 #[.val (.ref o0), .val (.int (0 : Int32)), .val (.int (2 : Int32)), .val (.ref b2), .val (.int (2 : Int32)), .unset] [(.ref b2)])) (fun X t q => XS.aloadN X.here C.hx rfl (hb C.hby d5_57) rfl rfl q) ?_
  exact Wk.retV C (t := (.array .byte)) rfl rfl (Or.inr (Or.inr (Or.inr (Or.inr ⟨rfl, rfl, rfl⟩)))) d5_58 (by decide) (by decide) ⟨b2, rfl, K25, gz9, F23, F19, F20⟩
set_option maxRecDepth 65536 in
set_option maxHeartbeats 40000000 in
theorem own_7_24 (l : Launch) (Z : State) (a0 : Array Value) (hw : ∀ d ∈ tables_1, d.before a0 Z = true) (n0 : Nat) (h0 : Heap) (hsz : n0 ≤ h0.size) (o0 : Addr) (x0 : Int32) (x1 : Int32) (x2 : Int32) (P0 : Exa Z h0 o0 "[B") (P1 : Sta Z h0 "java/lang/String" "COMPACT_STRINGS" "Z" (.int x0)) (P2 : Fa Z h0 o0 .byte 2 (up (up (fun _ => (.int (0 : Int32))) 0 (.int x1)) 1 (.int x2))) (G_o0 : n0 ≤ o0) (nz_x0 : ¬ x0 = (0 : Int32)) :
    Met true l Z n0 (⟨"java/lang/StringUTF16", "coderFromArrayLen", "([BI)B"⟩ : MethodName) jdk_52_method_15_code 2 (some .byte) ({ frames := 0, cells := 0, slots := 0, locals := 0 } : Room) #[(.ref o0), (.int (2 : Int32))] h0 (fun v h => v = some (.int (0 : Int32)) ∧ h0 = h) := by
  refine Met.of (plainFor_of_name pn_2) #[.val (.ref o0), .val (.int (2 : Int32))] (fun m => by first | (simp [entryFrame, mkF, argsToLocals, Value.category]; done) | rfl) ?_
  intro p e s m below meth c C
  refine Wk.st (g' := (mkF m 1 #[.val (.ref o0), .val (.int (2 : Int32))] [(.int (2 : Int32))])) (fun X t q => XS.iloadN X.here C.hx rfl (hb C.hby d7_0) rfl q) ?_
  refine Wk.st (g' := (mkF m 2 #[.val (.ref o0), .val (.int (2 : Int32))] [(.ref o0), (.int (2 : Int32))])) (fun X t q => XS.aloadN X.here C.hx rfl (hb C.hby d7_1) rfl rfl q) ?_
  refine Wk.fLen C P2 (z := (2 : Int32)) (by decide) d7_2 ?_
  show Wk _ p l e _ s m _ below meth c n0 _ h0 0 0 (mkF m 3 #[.val (.ref o0), .val (.int (2 : Int32))] [(.int (2 : Int32)), (.int (2 : Int32))])
  refine Wk.st (g' := (mkF m 4 #[.val (.ref o0), .val (.int (2 : Int32))] [(.int (0 : Int32))])) (fun X t q => XS.isub X.here C.hx rfl (hb C.hby d7_3) rfl q) ?_
  refine Wk.st (g' := (mkF m 6 #[.val (.ref o0), .val (.int (2 : Int32))] [(.int (31 : Int32)), (.int (0 : Int32))])) (fun X t q => XS.bipush X.here C.hx rfl (hb C.hby d7_4) q) ?_
  refine Wk.st (g' := (mkF m 7 #[.val (.ref o0), .val (.int (2 : Int32))] [(.int (0 : Int32))])) (fun X t q => XS.iushr X.here C.hx rfl (hb C.hby d7_6) rfl q) ?_
  refine Wk.st (g' := (mkF m 8 #[.val (.ref o0), .val (.int (2 : Int32))] [(.int (0 : Int32))])) (fun X t q => XS.i2b X.here C.hx rfl (hb C.hby d7_7) rfl q) ?_
  exact Wk.retV C (t := .byte) rfl rfl (Or.inl ⟨rfl, by simp, _, rfl⟩) d7_8 (by decide) (by decide) ⟨rfl, rfl⟩
set_option maxRecDepth 65536 in
set_option maxHeartbeats 40000000 in
theorem own_3_22 (l : Launch) (Z : State) (a0 : Array Value) (hw : ∀ d ∈ tables_1, d.before a0 Z = true) (n0 : Nat) (h0 : Heap) (hsz : n0 ≤ h0.size) (o0 : Addr) (o1 : Addr) (x0 : Int32) (x1 : Int32) (x2 : Int32) (P0 : Sta Z h0 "java/lang/String" "COMPACT_STRINGS" "Z" (.int x0)) (P1 : Exa Z h0 o1 "[C") (P2 : Fa Z h0 o1 .char 2 (up (up (fun _ => (.int (0 : Int32))) 0 (.int x1)) 1 (.int x2))) (P3 : Exa Z h0 o0 "java/lang/String") (P4 : Fld Z h0 o0 "java/lang/String" "coder" "B" (.int (0 : Int32))) (P5 : Fld Z h0 o0 "java/lang/String" "value" "[B" .null) (N_o0_o1 : o0 ≠ o1) (G_o0 : n0 ≤ o0) (G_o1 : n0 ≤ o1) (lat_x1 : ¬ (255 : Int32) < x1) (lat_x2 : ¬ (255 : Int32) < x2) (nz_x0 : ¬ x0 = (0 : Int32)) :
    Met true l Z n0 (⟨"java/lang/String", "<init>", "([CIILjava/lang/Void;)V"⟩ : MethodName) jdk_42_method_149_code 6 none ({ frames := 2, cells := 1, slots := 2, locals := 35 } : Room) #[(.ref o0), (.ref o1), (.int (0 : Int32)), (.int (2 : Int32)), .null] h0 (fun v h => ∃ n1_b2 : Addr, v = none ∧ Keep h0 h [o0] ∧ h0.size ≤ n1_b2 ∧ Exa Z h n1_b2 "[B" ∧ Sta Z h "java/lang/String" "COMPACT_STRINGS" "Z" (.int x0) ∧ Fa Z h n1_b2 .byte 2 (up (up (fun _ => (.int (0 : Int32))) 0 (.int (nar .byte (x1.toInt8.toInt32)))) 1 (.int (nar .byte (x2.toInt8.toInt32)))) ∧ Fld Z h o0 "java/lang/String" "coder" "B" (.int (0 : Int32)) ∧ Fld Z h o0 "java/lang/String" "value" "[B" (.ref n1_b2)) := by
  refine Met.of (plainFor_of_name pn_0) #[.val (.ref o0), .val (.ref o1), .val (.int (0 : Int32)), .val (.int (2 : Int32)), .val .null, .unset] (fun m => by first | (simp [entryFrame, mkF, argsToLocals, Value.category]; done) | rfl) ?_
  intro p e s m below meth c C
  refine Wk.st (g' := (mkF m 1 #[.val (.ref o0), .val (.ref o1), .val (.int (0 : Int32)), .val (.int (2 : Int32)), .val .null, .unset] [(.ref o0)])) (fun X t q => XS.aloadN X.here C.hx rfl (hb C.hby d3_0) rfl rfl q) ?_
  refine Wk.initO C (hw _ (List.mem_of_getElem? (i := 15) rfl)) (hw _ (List.mem_of_getElem? (i := 16) rfl)) (hw _ (List.mem_of_getElem? (i := 17) rfl)) (w := 0) rfl d3_1 (by decide) (Nat.le_of_eq rfl) (by decide) ?_
  show Wk _ p l e _ s m _ below meth c n0 _ h0 0 0 (mkF m 4 #[.val (.ref o0), .val (.ref o1), .val (.int (0 : Int32)), .val (.int (2 : Int32)), .val .null, .unset] [])
  refine Wk.st (g' := (mkF m 5 #[.val (.ref o0), .val (.ref o1), .val (.int (0 : Int32)), .val (.int (2 : Int32)), .val .null, .unset] [(.int (2 : Int32))])) (fun X t q => XS.iloadN X.here C.hx rfl (hb C.hby d3_4) rfl q) ?_
  refine Wk.st (g' := (mkF m 27 #[.val (.ref o0), .val (.ref o1), .val (.int (0 : Int32)), .val (.int (2 : Int32)), .val .null, .unset] [])) (fun X t q => XS.ifYes X.here C.hx rfl (pc0 := 5) (pc' := 27) rfl (hb C.hby d3_5) rfl (XT.i0_ne_t (by decide)) (by decide) (by decide) q) ?_
  refine Wk.getS C (hw _ (List.mem_of_getElem? (i := 18) rfl)) P0 d3_27 ?_
  show Wk _ p l e _ s m _ below meth c n0 _ h0 0 0 (mkF m 30 #[.val (.ref o0), .val (.ref o1), .val (.int (0 : Int32)), .val (.int (2 : Int32)), .val .null, .unset] [(.int x0)])
  refine Wk.st (g' := (mkF m 33 #[.val (.ref o0), .val (.ref o1), .val (.int (0 : Int32)), .val (.int (2 : Int32)), .val .null, .unset] [])) (fun X t q => XS.ifNo X.here C.hx rfl (hb C.hby d3_30) rfl (XT.i0_eq_f nz_x0) q) ?_
  refine Wk.st (g' := (mkF m 34 #[.val (.ref o0), .val (.ref o1), .val (.int (0 : Int32)), .val (.int (2 : Int32)), .val .null, .unset] [(.ref o1)])) (fun X t q => XS.aloadN X.here C.hx rfl (hb C.hby d3_33) rfl rfl q) ?_
  refine Wk.st (g' := (mkF m 35 #[.val (.ref o0), .val (.ref o1), .val (.int (0 : Int32)), .val (.int (2 : Int32)), .val .null, .unset] [(.int (0 : Int32)), (.ref o1)])) (fun X t q => XS.iloadN X.here C.hx rfl (hb C.hby d3_34) rfl q) ?_
  refine Wk.st (g' := (mkF m 36 #[.val (.ref o0), .val (.ref o1), .val (.int (0 : Int32)), .val (.int (2 : Int32)), .val .null, .unset] [(.int (2 : Int32)), (.int (0 : Int32)), (.ref o1)])) (fun X t q => XS.iloadN X.here C.hx rfl (hb C.hby d3_35) rfl q) ?_
  refine Wk.callS C (z := (⟨"java/lang/StringUTF16", "compress", "([CII)[B"⟩ : MethodName)) (hw _ (List.mem_of_getElem? (i := 19) rfl)) (hw _ (List.mem_of_getElem? (i := 20) rfl)) (hw _ (List.mem_of_getElem? (i := 21) rfl)) (hw _ (List.mem_of_getElem? (i := 22) rfl)) (by decide) (own_5_22 l Z a0 hw n0 h0 hsz o1 x0 x1 x2 P0 P1 P2  G_o1 lat_x1 lat_x2 nz_x0) (w := 0) (by decide) (by decide) pd_3 rfl (rest := []) rfl rfl (Nat.le_of_eq rfl) (by decide) (by decide) d3_36 ?_
  rintro _ h2 ⟨n1_b2, rfl, K3, gn7, F4, F5, F6⟩
  show Wk _ p l e _ s m _ below meth c n0 _ h2 1 2 (mkF m 39 #[.val (.ref o0), .val (.ref o1), .val (.int (0 : Int32)), .val (.int (2 : Int32)), .val .null, .unset] [(.ref n1_b2)])
  have ne8 : o1 ≠ n1_b2 := Nat.ne_of_lt (Nat.lt_of_lt_of_le P1.lt gn7)
  have ne9 : o0 ≠ n1_b2 := Nat.ne_of_lt (Nat.lt_of_lt_of_le P3.lt gn7)
  have ge10 : n0 ≤ n1_b2 := Nat.le_trans hsz gn7
  have gz11 : h0.size ≤ n1_b2 := Nat.le_trans (Nat.le_refl h0.size) gn7
  have F12 : Exa Z h2 o1 "[C" := P1.keep K3
  have F13 : Fa Z h2 o1 .char 2 (up (up (fun _ => (.int (0 : Int32))) 0 (.int x1)) 1 (.int x2)) := P2.keep K3 nm0
  have F14 : Exa Z h2 o0 "java/lang/String" := P3.keep K3
  have F15 : Fld Z h2 o0 "java/lang/String" "coder" "B" (.int (0 : Int32)) := P4.keep K3 nm0
  have F16 : Fld Z h2 o0 "java/lang/String" "value" "[B" .null := P5.keep K3 nm0
  have sz17 : n0 ≤ h2.size := Nat.le_trans hsz K3.1
  have K18 := (Keep.refl h0 [o0]).trans K3 nv0
  have sy19 : h0.size ≤ h2.size := Nat.le_trans (Nat.le_refl h0.size) K3.1
  refine Wk.st (g' := (mkF m 41 #[.val (.ref o0), .val (.ref o1), .val (.int (0 : Int32)), .val (.int (2 : Int32)), .val .null, .val (.ref n1_b2)] [])) (fun X t q => XS.astore X.here C.hx rfl (hb C.hby d3_39) rfl rfl (l' := #[.val (.ref o0), .val (.ref o1), .val (.int (0 : Int32)), .val (.int (2 : Int32)), .val .null, .val (.ref n1_b2)]) rfl q) ?_
  refine Wk.st (g' := (mkF m 42 #[.val (.ref o0), .val (.ref o1), .val (.int (0 : Int32)), .val (.int (2 : Int32)), .val .null, .val (.ref n1_b2)] [(.ref o0)])) (fun X t q => XS.aloadN X.here C.hx rfl (hb C.hby d3_41) rfl rfl q) ?_
  refine Wk.st (g' := (mkF m 44 #[.val (.ref o0), .val (.ref o1), .val (.int (0 : Int32)), .val (.int (2 : Int32)), .val .null, .val (.ref n1_b2)] [(.ref n1_b2), (.ref o0)])) (fun X t q => XS.aload X.here C.hx rfl (hb C.hby d3_42) rfl rfl q) ?_
  refine Wk.st (g' := (mkF m 45 #[.val (.ref o0), .val (.ref o1), .val (.int (0 : Int32)), .val (.int (2 : Int32)), .val .null, .val (.ref n1_b2)] [(.int (2 : Int32)), (.ref n1_b2), (.ref o0)])) (fun X t q => XS.iloadN X.here C.hx rfl (hb C.hby d3_44) rfl q) ?_
  refine Wk.callS C (z := (⟨"java/lang/StringUTF16", "coderFromArrayLen", "([BI)B"⟩ : MethodName)) (hw _ (List.mem_of_getElem? (i := 27) rfl)) (hw _ (List.mem_of_getElem? (i := 28) rfl)) (hw _ (List.mem_of_getElem? (i := 21) rfl)) (hw _ (List.mem_of_getElem? (i := 29) rfl)) (by decide) (own_7_24 l Z a0 hw n0 h2 sz17 n1_b2 x0 (nar .byte (x1.toInt8.toInt32)) (nar .byte (x2.toInt8.toInt32)) F4 F5 F6  ge10 nz_x0) (w := 1) (by decide) (by decide) pd_5 rfl (rest := [(.ref o0)]) rfl rfl (Nat.le_of_eq rfl) (by decide) (by decide) d3_45 ?_
  rintro _ _ ⟨rfl, rfl⟩
  show Wk _ p l e _ s m _ below meth c n0 _ h2 1 2 (mkF m 48 #[.val (.ref o0), .val (.ref o1), .val (.int (0 : Int32)), .val (.int (2 : Int32)), .val .null, .val (.ref n1_b2)] [(.int (0 : Int32)), (.ref o0)])
  refine Wk.putF C (hw _ (List.mem_of_getElem? (i := 30) rfl)) Via.refl F15 F14 (Or.inr ⟨(hw _ (List.mem_of_getElem? (i := 31) rfl)), rfl, rfl⟩) (hw _ (List.mem_of_getElem? (i := 6) rfl)) (ty := .byte) (by decide) (v' := (.int (0 : Int32))) rfl (by decide) G_o0 d3_48 ?_
  intro h23 W24
  have F25 : Fld Z h23 o0 "java/lang/String" "coder" "B" (.int (0 : Int32)) := F15.same W24
  have F26 : Exa Z h23 o1 "[C" := F12.wr W24
  have F27 : Fa Z h23 o1 .char 2 (up (up (fun _ => (.int (0 : Int32))) 0 (.int x1)) 1 (.int x2)) := F13.other W24 (Ne.symm N_o0_o1)
  have F28 : Exa Z h23 o0 "java/lang/String" := F14.wr W24
  have F29 : Fld Z h23 o0 "java/lang/String" "value" "[B" .null := F16.other W24 (Or.inr (slot_ne (Or.inr (hw _ (List.mem_of_getElem? (i := 33) rfl))) (Or.inr (hw _ (List.mem_of_getElem? (i := 31) rfl))) (by decide) (t := (.array .byte)) (t' := .byte) (by decide) (by decide)))
  have F30 : Exa Z h23 n1_b2 "[B" := F4.wr W24
  have F31 : Sta Z h23 "java/lang/String" "COMPACT_STRINGS" "Z" (.int x0) := F5.wr W24
  have F32 : Fa Z h23 n1_b2 .byte 2 (up (up (fun _ => (.int (0 : Int32))) 0 (.int (nar .byte (x1.toInt8.toInt32)))) 1 (.int (nar .byte (x2.toInt8.toInt32)))) := F6.other W24 (Ne.symm ne9)
  have sz33 : n0 ≤ h23.size := Nat.le_trans sz17 (Nat.le_of_eq W24.size.symm)
  have sy34 : h0.size ≤ h23.size := Nat.le_trans sy19 (Nat.le_of_eq W24.size.symm)
  have K35 := K18.wr W24 (Or.inl (by simp))
  show Wk _ p l e _ s m _ below meth c n0 _ h23 1 2 (mkF m 51 #[.val (.ref o0), .val (.ref o1), .val (.int (0 : Int32)), .val (.int (2 : Int32)), .val .null, .val (.ref n1_b2)] [])
  refine Wk.st (g' := (mkF m 52 #[.val (.ref o0), .val (.ref o1), .val (.int (0 : Int32)), .val (.int (2 : Int32)), .val .null, .val (.ref n1_b2)] [(.ref o0)])) (fun X t q => XS.aloadN X.here C.hx rfl (hb C.hby d3_51) rfl rfl q) ?_
  refine Wk.st (g' := (mkF m 54 #[.val (.ref o0), .val (.ref o1), .val (.int (0 : Int32)), .val (.int (2 : Int32)), .val .null, .val (.ref n1_b2)] [(.ref n1_b2), (.ref o0)])) (fun X t q => XS.aload X.here C.hx rfl (hb C.hby d3_52) rfl rfl q) ?_
  refine Wk.putF C (hw _ (List.mem_of_getElem? (i := 32) rfl)) Via.refl F29 F28 (Or.inr ⟨(hw _ (List.mem_of_getElem? (i := 33) rfl)), rfl, rfl⟩) (hw _ (List.mem_of_getElem? (i := 6) rfl)) (ty := (.array .byte)) (by decide) (v' := (.ref n1_b2)) rfl rfl G_o0 d3_54 ?_
  intro h36 W37
  have F38 : Fld Z h36 o0 "java/lang/String" "value" "[B" (.ref n1_b2) := F29.same W37
  have F39 : Exa Z h36 o1 "[C" := F26.wr W37
  have F40 : Fa Z h36 o1 .char 2 (up (up (fun _ => (.int (0 : Int32))) 0 (.int x1)) 1 (.int x2)) := F27.other W37 (Ne.symm N_o0_o1)
  have F41 : Exa Z h36 o0 "java/lang/String" := F28.wr W37
  have F42 : Exa Z h36 n1_b2 "[B" := F30.wr W37
  have F43 : Sta Z h36 "java/lang/String" "COMPACT_STRINGS" "Z" (.int x0) := F31.wr W37
  have F44 : Fa Z h36 n1_b2 .byte 2 (up (up (fun _ => (.int (0 : Int32))) 0 (.int (nar .byte (x1.toInt8.toInt32)))) 1 (.int (nar .byte (x2.toInt8.toInt32)))) := F32.other W37 (Ne.symm ne9)
  have F45 : Fld Z h36 o0 "java/lang/String" "coder" "B" (.int (0 : Int32)) := F25.other W37 (Or.inr (slot_ne (Or.inr (hw _ (List.mem_of_getElem? (i := 31) rfl))) (Or.inr (hw _ (List.mem_of_getElem? (i := 33) rfl))) (by decide) (t := .byte) (t' := (.array .byte)) (by decide) (by decide)))
  have sz46 : n0 ≤ h36.size := Nat.le_trans sz33 (Nat.le_of_eq W37.size.symm)
  have sy47 : h0.size ≤ h36.size := Nat.le_trans sy34 (Nat.le_of_eq W37.size.symm)
  have K48 := K35.wr W37 (Or.inl (by simp))
  show Wk _ p l e _ s m _ below meth c n0 _ h36 1 2 (mkF m 57 #[.val (.ref o0), .val (.ref o1), .val (.int (0 : Int32)), .val (.int (2 : Int32)), .val .null, .val (.ref n1_b2)] [])
  exact Wk.retN0 C rfl d3_57 (by decide) (by decide) ⟨n1_b2, rfl, K48, gz11, F42, F43, F44, F45, F38⟩
set_option maxRecDepth 65536 in
set_option maxHeartbeats 40000000 in
theorem own_2_22 (l : Launch) (Z : State) (a0 : Array Value) (hw : ∀ d ∈ tables_1, d.before a0 Z = true) (n0 : Nat) (h0 : Heap) (hsz : n0 ≤ h0.size) (o0 : Addr) (o1 : Addr) (x0 : Int32) (x1 : Int32) (x2 : Int32) (P0 : Sta Z h0 "java/lang/String" "COMPACT_STRINGS" "Z" (.int x0)) (P1 : Exa Z h0 o1 "[C") (P2 : Fa Z h0 o1 .char 2 (up (up (fun _ => (.int (0 : Int32))) 0 (.int x1)) 1 (.int x2))) (P3 : Exa Z h0 o0 "java/lang/String") (P4 : Fld Z h0 o0 "java/lang/String" "coder" "B" (.int (0 : Int32))) (P5 : Fld Z h0 o0 "java/lang/String" "value" "[B" .null) (N_o0_o1 : o0 ≠ o1) (G_o0 : n0 ≤ o0) (G_o1 : n0 ≤ o1) (lat_x1 : ¬ (255 : Int32) < x1) (lat_x2 : ¬ (255 : Int32) < x2) (nz_x0 : ¬ x0 = (0 : Int32)) :
    Met true l Z n0 (⟨"java/lang/String", "<init>", "([C)V"⟩ : MethodName) jdk_42_method_3_code 2 none ({ frames := 3, cells := 1, slots := 2, locals := 52 } : Room) #[(.ref o0), (.ref o1)] h0 (fun v h => ∃ n1_n1_b2 : Addr, v = none ∧ Keep h0 h [o0] ∧ h0.size ≤ n1_n1_b2 ∧ Exa Z h n1_n1_b2 "[B" ∧ Sta Z h "java/lang/String" "COMPACT_STRINGS" "Z" (.int x0) ∧ Fa Z h n1_n1_b2 .byte 2 (up (up (fun _ => (.int (0 : Int32))) 0 (.int (nar .byte (x1.toInt8.toInt32)))) 1 (.int (nar .byte (x2.toInt8.toInt32)))) ∧ Fld Z h o0 "java/lang/String" "coder" "B" (.int (0 : Int32)) ∧ Fld Z h o0 "java/lang/String" "value" "[B" (.ref n1_n1_b2)) := by
  refine Met.of (plainFor_of_name pn_0) #[.val (.ref o0), .val (.ref o1)] (fun m => by first | (simp [entryFrame, mkF, argsToLocals, Value.category]; done) | rfl) ?_
  intro p e s m below meth c C
  refine Wk.st (g' := (mkF m 1 #[.val (.ref o0), .val (.ref o1)] [(.ref o0)])) (fun X t q => XS.aloadN X.here C.hx rfl (hb C.hby d2_0) rfl rfl q) ?_
  refine Wk.st (g' := (mkF m 2 #[.val (.ref o0), .val (.ref o1)] [(.ref o1), (.ref o0)])) (fun X t q => XS.aloadN X.here C.hx rfl (hb C.hby d2_1) rfl rfl q) ?_
  refine Wk.st (g' := (mkF m 3 #[.val (.ref o0), .val (.ref o1)] [(.int (0 : Int32)), (.ref o1), (.ref o0)])) (fun X t q => XS.iconst X.here C.hx rfl (hb C.hby d2_2) q) ?_
  refine Wk.st (g' := (mkF m 4 #[.val (.ref o0), .val (.ref o1)] [(.ref o1), (.int (0 : Int32)), (.ref o1), (.ref o0)])) (fun X t q => XS.aloadN X.here C.hx rfl (hb C.hby d2_3) rfl rfl q) ?_
  refine Wk.fLen C P2 (z := (2 : Int32)) (by decide) d2_4 ?_
  show Wk _ p l e _ s m _ below meth c n0 _ h0 0 0 (mkF m 5 #[.val (.ref o0), .val (.ref o1)] [(.int (2 : Int32)), (.int (0 : Int32)), (.ref o1), (.ref o0)])
  refine Wk.st (g' := (mkF m 6 #[.val (.ref o0), .val (.ref o1)] [.null, (.int (2 : Int32)), (.int (0 : Int32)), (.ref o1), (.ref o0)])) (fun X t q => XS.aconstNull X.here C.hx rfl (hb C.hby d2_5) q) ?_
  refine Wk.callI C (z := (⟨"java/lang/String", "<init>", "([CIILjava/lang/Void;)V"⟩ : MethodName)) rfl (hw _ (List.mem_of_getElem? (i := 11) rfl)) (hw _ (List.mem_of_getElem? (i := 12) rfl)) (hw _ (List.mem_of_getElem? (i := 7) rfl)) (hw _ (List.mem_of_getElem? (i := 14) rfl)) (by decide) (own_3_22 l Z a0 hw n0 h0 hsz o0 o1 x0 x1 x2 P0 P1 P2 P3 P4 P5 N_o0_o1 G_o0 G_o1 lat_x1 lat_x2 nz_x0) (w := 0) (by decide) (by decide) pd_0 rfl (rest := []) rfl rfl (Nat.le_of_eq rfl) (by decide) (by decide) d2_6 ?_
  rintro _ h2 ⟨n1_n1_b2, rfl, K3, gn9, F4, F5, F6, F7, F8⟩
  show Wk _ p l e _ s m _ below meth c n0 _ h2 1 2 (mkF m 9 #[.val (.ref o0), .val (.ref o1)] [])
  have ne10 : o1 ≠ n1_n1_b2 := Nat.ne_of_lt (Nat.lt_of_lt_of_le P1.lt gn9)
  have ne11 : o0 ≠ n1_n1_b2 := Nat.ne_of_lt (Nat.lt_of_lt_of_le P3.lt gn9)
  have ge12 : n0 ≤ n1_n1_b2 := Nat.le_trans hsz gn9
  have gz13 : h0.size ≤ n1_n1_b2 := Nat.le_trans (Nat.le_refl h0.size) gn9
  have F14 : Exa Z h2 o1 "[C" := P1.keep K3
  have F15 : Fa Z h2 o1 .char 2 (up (up (fun _ => (.int (0 : Int32))) 0 (.int x1)) 1 (.int x2)) := P2.keep K3 (nmS (Ne.symm N_o0_o1) nm0)
  have F16 : Exa Z h2 o0 "java/lang/String" := P3.keep K3
  have sz17 : n0 ≤ h2.size := Nat.le_trans hsz K3.1
  have K18 := (Keep.refl h0 [o0]).trans K3 (nvS (Or.inl (by simp)) nv0)
  have sy19 : h0.size ≤ h2.size := Nat.le_trans (Nat.le_refl h0.size) K3.1
  exact Wk.retN0 C rfl d2_9 (by decide) (by decide) ⟨n1_n1_b2, rfl, K18, gz13, F4, F5, F6, F7, F8⟩
set_option maxRecDepth 65536 in
set_option maxHeartbeats 40000000 in
theorem own_1_22 (l : Launch) (Z : State) (a0 : Array Value) (hw : ∀ d ∈ tables_1, d.before a0 Z = true) (n0 : Nat) (h0 : Heap) (hsz : n0 ≤ h0.size) (x0 : Int32) (x1 : Int32) (P0 : Sta Z h0 "java/lang/String" "COMPACT_STRINGS" "Z" (.int x1)) (nz_x1 : ¬ x1 = (0 : Int32)) :
    Met true l Z n0 (⟨"com/example/tripleshelf/tripleshelf/cli/OptionTakesValuePinLaw", "valueNameOf", "(II)Ljava/lang/String;"⟩ : MethodName) method_2_code 3 (some (.object "java/lang/String")) ({ frames := 4, cells := 3, slots := 8, locals := 66 } : Room) #[(.int (3 : Int32)), (.int x0)] h0 (fun v h => ∃ b30 : Addr, ∃ n46_n1_n1_b2 : Addr, v = some (.ref b30) ∧ Keep h0 h [] ∧ h0.size ≤ b30 ∧ h0.size ≤ n46_n1_n1_b2 ∧ b30 ≠ n46_n1_n1_b2 ∧ Exa Z h b30 "java/lang/String" ∧ Exa Z h n46_n1_n1_b2 "[B" ∧ Sta Z h "java/lang/String" "COMPACT_STRINGS" "Z" (.int x1) ∧ Fa Z h n46_n1_n1_b2 .byte 2 (up (up (fun _ => (.int (0 : Int32))) 0 (.int (nar .byte ((nar .char ((x0 &&& (255 : Int32)).toUInt32.toUInt16.toUInt32.toInt32)).toInt8.toInt32)))) 1 (.int (nar .byte ((nar .char ((((x0.toUInt32 >>> ((8 : Int32) &&& 31).toUInt32).toInt32) &&& (255 : Int32)).toUInt32.toUInt16.toUInt32.toInt32)).toInt8.toInt32)))) ∧ Fld Z h b30 "java/lang/String" "coder" "B" (.int (0 : Int32)) ∧ Fld Z h b30 "java/lang/String" "value" "[B" (.ref n46_n1_n1_b2)) := by
  refine Met.of (plainFor_of_name pn_1) #[.val (.int (3 : Int32)), .val (.int x0), .unset] (fun m => by first | (simp [entryFrame, mkF, argsToLocals, Value.category]; done) | rfl) ?_
  intro p e s m below meth c C
  refine Wk.st (g' := (mkF m 1 #[.val (.int (3 : Int32)), .val (.int x0), .unset] [(.int (3 : Int32))])) (fun X t q => XS.iloadN X.here C.hx rfl (hb C.hby d1_0) rfl q) ?_
  refine Wk.st (g' := (mkF m 6 #[.val (.int (3 : Int32)), .val (.int x0), .unset] [])) (fun X t q => XS.ifYes X.here C.hx rfl (pc0 := 1) (pc' := 6) rfl (hb C.hby d1_1) rfl (XT.i0_ne_t (by decide)) (by decide) (by decide) q) ?_
  refine Wk.st (g' := (mkF m 7 #[.val (.int (3 : Int32)), .val (.int x0), .unset] [(.int (3 : Int32))])) (fun X t q => XS.iloadN X.here C.hx rfl (hb C.hby d1_6) rfl q) ?_
  refine Wk.st (g' := (mkF m 8 #[.val (.int (3 : Int32)), .val (.int x0), .unset] [(.int (1 : Int32)), (.int (3 : Int32))])) (fun X t q => XS.iconst X.here C.hx rfl (hb C.hby d1_7) q) ?_
  refine Wk.st (g' := (mkF m 22 #[.val (.int (3 : Int32)), .val (.int x0), .unset] [])) (fun X t q => XS.icmpYes X.here C.hx rfl (pc0 := 8) (pc' := 22) rfl (hb C.hby d1_8) rfl (XT.ii_ne_t (by decide)) (by decide) (by decide) q) ?_
  refine Wk.st (g' := (mkF m 23 #[.val (.int (3 : Int32)), .val (.int x0), .unset] [(.int (3 : Int32))])) (fun X t q => XS.iloadN X.here C.hx rfl (hb C.hby d1_22) rfl q) ?_
  refine Wk.st (g' := (mkF m 24 #[.val (.int (3 : Int32)), .val (.int x0), .unset] [(.int (2 : Int32)), (.int (3 : Int32))])) (fun X t q => XS.iconst X.here C.hx rfl (hb C.hby d1_23) q) ?_
  refine Wk.st (g' := (mkF m 49 #[.val (.int (3 : Int32)), .val (.int x0), .unset] [])) (fun X t q => XS.icmpYes X.here C.hx rfl (pc0 := 24) (pc' := 49) rfl (hb C.hby d1_24) rfl (XT.ii_ne_t (by decide)) (by decide) (by decide) q) ?_
  refine Wk.st (g' := (mkF m 50 #[.val (.int (3 : Int32)), .val (.int x0), .unset] [(.int (2 : Int32))])) (fun X t q => XS.iconst X.here C.hx rfl (hb C.hby d1_49) q) ?_
  refine Wk.fNewP C (hw _ (List.mem_of_getElem? (i := 4) rfl)) (ty := .char) (dv := (.int (0 : Int32))) (N := 2) (ad := "[C") rfl rfl (by decide) (by decide) (by decide) (cap := 2) (by decide) (by decide) d1_50 (by decide) (by decide) ?_
  intro h1 b2 g3 E4 A5 F6
  have ge7 : n0 ≤ b2 := Nat.le_trans hsz (Nat.le_of_eq g3.symm)
  have gz8 : h0.size ≤ b2 := Nat.le_trans (Nat.le_refl h0.size) (Nat.le_of_eq g3.symm)
  have F9 : Sta Z h1 "java/lang/String" "COMPACT_STRINGS" "Z" (.int x1) := P0.ext E4
  have sz10 : n0 ≤ h1.size := Nat.le_trans hsz E4.1
  have sy11 : h0.size ≤ h1.size := Nat.le_trans (Nat.le_refl h0.size) E4.1
  have K12 := (Keep.refl h0 []).ext E4
  show Wk _ p l e _ s m _ below meth c n0 _ h1 1 2 (mkF m 52 #[.val (.int (3 : Int32)), .val (.int x0), .unset] [(.ref b2)])
  refine Wk.st (g' := (mkF m 53 #[.val (.int (3 : Int32)), .val (.int x0), .val (.ref b2)] [])) (fun X t q => XS.astoreN X.here C.hx rfl (hb C.hby d1_52) rfl rfl (l' := #[.val (.int (3 : Int32)), .val (.int x0), .val (.ref b2)]) rfl q) ?_
  refine Wk.st (g' := (mkF m 54 #[.val (.int (3 : Int32)), .val (.int x0), .val (.ref b2)] [(.ref b2)])) (fun X t q => XS.aloadN X.here C.hx rfl (hb C.hby d1_53) rfl rfl q) ?_
  refine Wk.st (g' := (mkF m 55 #[.val (.int (3 : Int32)), .val (.int x0), .val (.ref b2)] [(.int (0 : Int32)), (.ref b2)])) (fun X t q => XS.iconst X.here C.hx rfl (hb C.hby d1_54) q) ?_
  refine Wk.st (g' := (mkF m 56 #[.val (.int (3 : Int32)), .val (.int x0), .val (.ref b2)] [(.int x0), (.int (0 : Int32)), (.ref b2)])) (fun X t q => XS.iloadN X.here C.hx rfl (hb C.hby d1_55) rfl q) ?_
  refine Wk.st (g' := (mkF m 59 #[.val (.int (3 : Int32)), .val (.int x0), .val (.ref b2)] [(.int (255 : Int32)), (.int x0), (.int (0 : Int32)), (.ref b2)])) (fun X t q => XS.sipush X.here C.hx rfl (hb C.hby d1_56) q) ?_
  refine Wk.st (g' := (mkF m 60 #[.val (.int (3 : Int32)), .val (.int x0), .val (.ref b2)] [(.int (x0 &&& (255 : Int32))), (.int (0 : Int32)), (.ref b2)])) (fun X t q => XS.iand X.here C.hx rfl (hb C.hby d1_59) rfl q) ?_
  refine Wk.st (g' := (mkF m 61 #[.val (.int (3 : Int32)), .val (.int x0), .val (.ref b2)] [(.int ((x0 &&& (255 : Int32)).toUInt32.toUInt16.toUInt32.toInt32)), (.int (0 : Int32)), (.ref b2)])) (fun X t q => XS.i2c X.here C.hx rfl (hb C.hby d1_60) rfl q) ?_
  refine Wk.fStC C F6 (x' := (nar .char ((x0 &&& (255 : Int32)).toUInt32.toUInt16.toUInt32.toInt32))) rfl (i := 0) (by decide) (by decide) (by decide) ge7 d1_61 ?_
  intro h13 W14 F15
  have F16 : Sta Z h13 "java/lang/String" "COMPACT_STRINGS" "Z" (.int x1) := F9.wr W14
  have F17 : Exa Z h13 b2 "[C" := A5.wr W14
  have sz18 : n0 ≤ h13.size := Nat.le_trans sz10 (Nat.le_of_eq W14.size.symm)
  have sy19 : h0.size ≤ h13.size := Nat.le_trans sy11 (Nat.le_of_eq W14.size.symm)
  have K20 := K12.wr W14 (Or.inr gz8)
  show Wk _ p l e _ s m _ below meth c n0 _ h13 1 2 (mkF m 62 #[.val (.int (3 : Int32)), .val (.int x0), .val (.ref b2)] [])
  refine Wk.st (g' := (mkF m 63 #[.val (.int (3 : Int32)), .val (.int x0), .val (.ref b2)] [(.ref b2)])) (fun X t q => XS.aloadN X.here C.hx rfl (hb C.hby d1_62) rfl rfl q) ?_
  refine Wk.st (g' := (mkF m 64 #[.val (.int (3 : Int32)), .val (.int x0), .val (.ref b2)] [(.int (1 : Int32)), (.ref b2)])) (fun X t q => XS.iconst X.here C.hx rfl (hb C.hby d1_63) q) ?_
  refine Wk.st (g' := (mkF m 65 #[.val (.int (3 : Int32)), .val (.int x0), .val (.ref b2)] [(.int x0), (.int (1 : Int32)), (.ref b2)])) (fun X t q => XS.iloadN X.here C.hx rfl (hb C.hby d1_64) rfl q) ?_
  refine Wk.st (g' := (mkF m 67 #[.val (.int (3 : Int32)), .val (.int x0), .val (.ref b2)] [(.int (8 : Int32)), (.int x0), (.int (1 : Int32)), (.ref b2)])) (fun X t q => XS.bipush X.here C.hx rfl (hb C.hby d1_65) q) ?_
  refine Wk.st (g' := (mkF m 68 #[.val (.int (3 : Int32)), .val (.int x0), .val (.ref b2)] [(.int ((x0.toUInt32 >>> ((8 : Int32) &&& 31).toUInt32).toInt32)), (.int (1 : Int32)), (.ref b2)])) (fun X t q => XS.iushr X.here C.hx rfl (hb C.hby d1_67) rfl q) ?_
  refine Wk.st (g' := (mkF m 71 #[.val (.int (3 : Int32)), .val (.int x0), .val (.ref b2)] [(.int (255 : Int32)), (.int ((x0.toUInt32 >>> ((8 : Int32) &&& 31).toUInt32).toInt32)), (.int (1 : Int32)), (.ref b2)])) (fun X t q => XS.sipush X.here C.hx rfl (hb C.hby d1_68) q) ?_
  refine Wk.st (g' := (mkF m 72 #[.val (.int (3 : Int32)), .val (.int x0), .val (.ref b2)] [(.int (((x0.toUInt32 >>> ((8 : Int32) &&& 31).toUInt32).toInt32) &&& (255 : Int32))), (.int (1 : Int32)), (.ref b2)])) (fun X t q => XS.iand X.here C.hx rfl (hb C.hby d1_71) rfl q) ?_
  refine Wk.st (g' := (mkF m 73 #[.val (.int (3 : Int32)), .val (.int x0), .val (.ref b2)] [(.int ((((x0.toUInt32 >>> ((8 : Int32) &&& 31).toUInt32).toInt32) &&& (255 : Int32)).toUInt32.toUInt16.toUInt32.toInt32)), (.int (1 : Int32)), (.ref b2)])) (fun X t q => XS.i2c X.here C.hx rfl (hb C.hby d1_72) rfl q) ?_
  refine Wk.fStC C F15 (x' := (nar .char ((((x0.toUInt32 >>> ((8 : Int32) &&& 31).toUInt32).toInt32) &&& (255 : Int32)).toUInt32.toUInt16.toUInt32.toInt32))) rfl (i := 1) (by decide) (by decide) (by decide) ge7 d1_73 ?_
  intro h21 W22 F23
  have F24 : Sta Z h21 "java/lang/String" "COMPACT_STRINGS" "Z" (.int x1) := F16.wr W22
  have F25 : Exa Z h21 b2 "[C" := F17.wr W22
  have sz26 : n0 ≤ h21.size := Nat.le_trans sz18 (Nat.le_of_eq W22.size.symm)
  have sy27 : h0.size ≤ h21.size := Nat.le_trans sy19 (Nat.le_of_eq W22.size.symm)
  have K28 := K20.wr W22 (Or.inr gz8)
  show Wk _ p l e _ s m _ below meth c n0 _ h21 1 2 (mkF m 74 #[.val (.int (3 : Int32)), .val (.int x0), .val (.ref b2)] [])
  refine Wk.newO C (hw _ (List.mem_of_getElem? (i := 5) rfl)) (hw _ (List.mem_of_getElem? (i := 6) rfl)) (hw _ (List.mem_of_getElem? (i := 7) rfl)) d1_74 (by decide) (by decide) ?_
  intro h29 b30 g31 E32 A33 D34
  have ne35 : b2 ≠ b30 := Nat.ne_of_lt (Nat.lt_of_lt_of_le F25.lt (Nat.le_of_eq g31.symm))
  have ge36 : n0 ≤ b30 := Nat.le_trans sz26 (Nat.le_of_eq g31.symm)
  have gz37 : h0.size ≤ b30 := Nat.le_trans sy27 (Nat.le_of_eq g31.symm)
  have F38 : Sta Z h29 "java/lang/String" "COMPACT_STRINGS" "Z" (.int x1) := F24.ext E32
  have F39 : Exa Z h29 b2 "[C" := F25.ext E32
  have F40 : Fa Z h29 b2 .char 2 (up (up (fun _ => (.int (0 : Int32))) 0 (.int (nar .char ((x0 &&& (255 : Int32)).toUInt32.toUInt16.toUInt32.toInt32)))) 1 (.int (nar .char ((((x0.toUInt32 >>> ((8 : Int32) &&& 31).toUInt32).toInt32) &&& (255 : Int32)).toUInt32.toUInt16.toUInt32.toInt32)))) := F23.ext E32
  have sz41 : n0 ≤ h29.size := Nat.le_trans sz26 E32.1
  have sy42 : h0.size ≤ h29.size := Nat.le_trans sy27 E32.1
  have K43 := K28.ext E32
  have F44 : Fld Z h29 b30 "java/lang/String" "coder" "B" (.int (0 : Int32)) := D34 (Or.inr (hw _ (List.mem_of_getElem? (i := 31) rfl))) (ty := .byte) (by decide)
  have F45 : Fld Z h29 b30 "java/lang/String" "value" "[B" .null := D34 (Or.inr (hw _ (List.mem_of_getElem? (i := 33) rfl))) (ty := (.array .byte)) (by decide)
  show Wk _ p l e _ s m _ below meth c n0 _ h29 2 6 (mkF m 77 #[.val (.int (3 : Int32)), .val (.int x0), .val (.ref b2)] [(.ref b30)])
  refine Wk.st (g' := (mkF m 78 #[.val (.int (3 : Int32)), .val (.int x0), .val (.ref b2)] [(.ref b30), (.ref b30)])) (fun X t q => XS.dup X.here C.hx rfl (hb C.hby d1_77) rfl rfl q) ?_
  refine Wk.st (g' := (mkF m 79 #[.val (.int (3 : Int32)), .val (.int x0), .val (.ref b2)] [(.ref b2), (.ref b30), (.ref b30)])) (fun X t q => XS.aloadN X.here C.hx rfl (hb C.hby d1_78) rfl rfl q) ?_
  refine Wk.callI C (z := (⟨"java/lang/String", "<init>", "([C)V"⟩ : MethodName)) rfl (hw _ (List.mem_of_getElem? (i := 8) rfl)) (hw _ (List.mem_of_getElem? (i := 9) rfl)) (hw _ (List.mem_of_getElem? (i := 7) rfl)) (hw _ (List.mem_of_getElem? (i := 10) rfl)) (by decide) (own_2_22 l Z a0 hw n0 h29 sz41 b30 b2 x1 (nar .char ((x0 &&& (255 : Int32)).toUInt32.toUInt16.toUInt32.toInt32)) (nar .char ((((x0.toUInt32 >>> ((8 : Int32) &&& 31).toUInt32).toInt32) &&& (255 : Int32)).toUInt32.toUInt16.toUInt32.toInt32)) F38 F39 F40 A33 F44 F45 (Ne.symm ne35) ge36 ge7 (latn x0) (latn ((x0.toUInt32 >>> ((8 : Int32) &&& 31).toUInt32).toInt32)) nz_x1) (w := 1) (by decide) (by decide) pd_1 rfl (rest := [(.ref b30)]) rfl rfl (Nat.le_of_eq rfl) (by decide) (by decide) d1_79 ?_
  rintro _ h47 ⟨n46_n1_n1_b2, rfl, K48, gn54, F49, F50, F51, F52, F53⟩
  show Wk _ p l e _ s m _ below meth c n0 _ h47 3 8 (mkF m 82 #[.val (.int (3 : Int32)), .val (.int x0), .val (.ref b2)] [(.ref b30)])
  have ne55 : b2 ≠ n46_n1_n1_b2 := Nat.ne_of_lt (Nat.lt_of_lt_of_le F39.lt gn54)
  have ne56 : b30 ≠ n46_n1_n1_b2 := Nat.ne_of_lt (Nat.lt_of_lt_of_le A33.lt gn54)
  have ge57 : n0 ≤ n46_n1_n1_b2 := Nat.le_trans sz41 gn54
  have gz58 : h0.size ≤ n46_n1_n1_b2 := Nat.le_trans sy42 gn54
  have F59 : Exa Z h47 b2 "[C" := F39.keep K48
  have F60 : Fa Z h47 b2 .char 2 (up (up (fun _ => (.int (0 : Int32))) 0 (.int (nar .char ((x0 &&& (255 : Int32)).toUInt32.toUInt16.toUInt32.toInt32)))) 1 (.int (nar .char ((((x0.toUInt32 >>> ((8 : Int32) &&& 31).toUInt32).toInt32) &&& (255 : Int32)).toUInt32.toUInt16.toUInt32.toInt32)))) := F40.keep K48 (nmS ne35 nm0)
  have F61 : Exa Z h47 b30 "java/lang/String" := A33.keep K48
  have sz62 : n0 ≤ h47.size := Nat.le_trans sz41 K48.1
  have K63 := K43.trans K48 (nvS (Or.inr gz37) nv0)
  have sy64 : h0.size ≤ h47.size := Nat.le_trans sy42 K48.1
  exact Wk.retV C (t := (.object "java/lang/String")) rfl rfl (Or.inr (Or.inr (Or.inr (Or.inr ⟨rfl, rfl, rfl⟩)))) d1_82 (by decide) (by decide) ⟨b30, n46_n1_n1_b2, rfl, K63, gz37, gz58, ne56, F61, F49, F50, F51, F52, F53⟩
set_option maxRecDepth 65536 in
set_option maxHeartbeats 40000000 in
theorem own_12_28 (l : Launch) (Z : State) (a0 : Array Value) (hw : ∀ d ∈ tables_1, d.before a0 Z = true) (n0 : Nat) (h0 : Heap) (hsz : n0 ≤ h0.size) (o0 : Addr) (o1 : Addr) (o2 : Addr) (o3 : Addr) (o4 : Addr) (o5 : Addr) (o6 : Addr) (x0 : Int32) (x1 : Int32) (x2 : Int32) (x3 : Int32) (x4 : Int32) (P0 : Exa Z h0 o2 "java/lang/String") (P1 : Exa Z h0 o5 "[B") (P2 : Fa Z h0 o5 .byte 2 (up (up (fun _ => (.int (0 : Int32))) 0 (.int x0)) 1 (.int x1))) (P3 : Fld Z h0 o2 "java/lang/String" "coder" "B" (.int (0 : Int32))) (P4 : Fld Z h0 o2 "java/lang/String" "value" "[B" (.ref o5)) (P5 : Exa Z h0 o1 "java/lang/String") (P6 : Exa Z h0 o4 "[B") (P7 : Fa Z h0 o4 .byte 1 (up (fun _ => (.int (0 : Int32))) 0 (.int x2))) (P8 : Fld Z h0 o1 "java/lang/String" "coder" "B" (.int (0 : Int32))) (P9 : Fld Z h0 o1 "java/lang/String" "value" "[B" (.ref o4)) (P10 : Exa Z h0 o3 "java/lang/String") (P11 : Exa Z h0 o6 "[B") (P12 : Fa Z h0 o6 .byte 1 (up (fun _ => (.int (0 : Int32))) 0 (.int x3))) (P13 : Sta Z h0 "java/lang/String" "COMPACT_STRINGS" "Z" (.int x4)) (P14 : Fld Z h0 o3 "java/lang/String" "value" "[B" (.ref o6)) (P15 : Fld Z h0 o3 "java/lang/String" "coder" "B" (.int (0 : Int32))) (P16 : Exa Z h0 o0 "com/example/tripleshelf/tripleshelf/cli/Option") (P17 : Fld Z h0 o0 "com/example/tripleshelf/tripleshelf/cli/Option" "name" "Ljava/lang/String;" .null) (P18 : Fld Z h0 o0 "com/example/tripleshelf/tripleshelf/cli/Option" "valueName" "Ljava/lang/String;" .null) (P19 : Fld Z h0 o0 "com/example/tripleshelf/tripleshelf/cli/Option" "required" "Z" (.int (0 : Int32))) (P20 : Fld Z h0 o0 "com/example/tripleshelf/tripleshelf/cli/Option" "description" "Ljava/lang/String;" .null) (N_o0_o1 : o0 ≠ o1) (N_o0_o2 : o0 ≠ o2) (N_o0_o3 : o0 ≠ o3) (N_o0_o4 : o0 ≠ o4) (N_o0_o5 : o0 ≠ o5) (N_o0_o6 : o0 ≠ o6) (N_o1_o2 : o1 ≠ o2) (N_o1_o3 : o1 ≠ o3) (N_o1_o4 : o1 ≠ o4) (N_o1_o5 : o1 ≠ o5) (N_o1_o6 : o1 ≠ o6) (N_o2_o3 : o2 ≠ o3) (N_o2_o4 : o2 ≠ o4) (N_o2_o5 : o2 ≠ o5) (N_o2_o6 : o2 ≠ o6) (N_o3_o4 : o3 ≠ o4) (N_o3_o5 : o3 ≠ o5) (N_o3_o6 : o3 ≠ o6) (N_o4_o5 : o4 ≠ o5) (N_o4_o6 : o4 ≠ o6) (N_o5_o6 : o5 ≠ o6) (G_o0 : n0 ≤ o0) (G_o1 : n0 ≤ o1) (G_o2 : n0 ≤ o2) (G_o3 : n0 ≤ o3) (G_o4 : n0 ≤ o4) (G_o5 : n0 ≤ o5) (G_o6 : n0 ≤ o6) (nz_x4 : ¬ x4 = (0 : Int32)) :
    Met true l Z n0 (⟨"com/example/tripleshelf/tripleshelf/cli/Option", "<init>", "(Ljava/lang/String;Ljava/lang/String;ZLjava/lang/String;)V"⟩ : MethodName) prog_5_method_1_code 5 none ({ frames := 2, cells := 0, slots := 0, locals := 24 } : Room) #[(.ref o0), (.ref o1), (.ref o2), (.int (0 : Int32)), (.ref o3)] h0 (fun v h => v = none ∧ Keep h0 h [o0] ∧ Sta Z h "java/lang/String" "COMPACT_STRINGS" "Z" (.int x4) ∧ Fld Z h o0 "com/example/tripleshelf/tripleshelf/cli/Option" "name" "Ljava/lang/String;" (.ref o1) ∧ Fld Z h o0 "com/example/tripleshelf/tripleshelf/cli/Option" "valueName" "Ljava/lang/String;" (.ref o2) ∧ Fld Z h o0 "com/example/tripleshelf/tripleshelf/cli/Option" "required" "Z" (.int (0 : Int32)) ∧ Fld Z h o0 "com/example/tripleshelf/tripleshelf/cli/Option" "description" "Ljava/lang/String;" (.ref o3)) := by
  refine Met.of (plainFor_of_name pn_5) #[.val (.ref o0), .val (.ref o1), .val (.ref o2), .val (.int (0 : Int32)), .val (.ref o3)] (fun m => by first | (simp [entryFrame, mkF, argsToLocals, Value.category]; done) | rfl) ?_
  intro p e s m below meth c C
  refine Wk.st (g' := (mkF m 1 #[.val (.ref o0), .val (.ref o1), .val (.ref o2), .val (.int (0 : Int32)), .val (.ref o3)] [(.ref o0)])) (fun X t q => XS.aloadN X.here C.hx rfl (hb C.hby d12_0) rfl rfl q) ?_
  refine Wk.callI C (z := (⟨"java/lang/Record", "<init>", "()V"⟩ : MethodName)) rfl (hw _ (List.mem_of_getElem? (i := 54) rfl)) (hw _ (List.mem_of_getElem? (i := 55) rfl)) (hw _ (List.mem_of_getElem? (i := 57) rfl)) (hw _ (List.mem_of_getElem? (i := 58) rfl)) (by decide) (own_13_10 l Z a0 hw n0 h0 hsz o0 x4 P13 P16 P17 P18 P19 P20  G_o0 nz_x4) (w := 0) (by decide) (by decide) pd_11 rfl (rest := []) rfl rfl (Nat.le_of_eq rfl) (by decide) (by decide) d12_1 ?_
  rintro _ _ ⟨rfl, rfl⟩
  show Wk _ p l e _ s m _ below meth c n0 _ h0 0 0 (mkF m 4 #[.val (.ref o0), .val (.ref o1), .val (.ref o2), .val (.int (0 : Int32)), .val (.ref o3)] [])
  refine Wk.st (g' := (mkF m 5 #[.val (.ref o0), .val (.ref o1), .val (.ref o2), .val (.int (0 : Int32)), .val (.ref o3)] [(.int (0 : Int32))])) (fun X t q => XS.iloadN X.here C.hx rfl (hb C.hby d12_4) rfl q) ?_
  refine Wk.st (g' := (mkF m 26 #[.val (.ref o0), .val (.ref o1), .val (.ref o2), .val (.int (0 : Int32)), .val (.ref o3)] [])) (fun X t q => XS.ifYes X.here C.hx rfl (pc0 := 5) (pc' := 26) rfl (hb C.hby d12_5) rfl (XT.i0_eq_t (by decide)) (by decide) (by decide) q) ?_
  refine Wk.st (g' := (mkF m 27 #[.val (.ref o0), .val (.ref o1), .val (.ref o2), .val (.int (0 : Int32)), .val (.ref o3)] [(.ref o0)])) (fun X t q => XS.aloadN X.here C.hx rfl (hb C.hby d12_26) rfl rfl q) ?_
  refine Wk.st (g' := (mkF m 28 #[.val (.ref o0), .val (.ref o1), .val (.ref o2), .val (.int (0 : Int32)), .val (.ref o3)] [(.ref o1), (.ref o0)])) (fun X t q => XS.aloadN X.here C.hx rfl (hb C.hby d12_27) rfl rfl q) ?_
  refine Wk.putF C (hw _ (List.mem_of_getElem? (i := 60) rfl)) Via.refl P17 P16 (Or.inr ⟨(hw _ (List.mem_of_getElem? (i := 61) rfl)), rfl, rfl⟩) (hw _ (List.mem_of_getElem? (i := 49) rfl)) (ty := (.object "java/lang/String")) (by decide) (v' := (.ref o1)) rfl rfl G_o0 d12_28 ?_
  intro h4 W5
  have F6 : Fld Z h4 o0 "com/example/tripleshelf/tripleshelf/cli/Option" "name" "Ljava/lang/String;" (.ref o1) := P17.same W5
  have F7 : Exa Z h4 o2 "java/lang/String" := P0.wr W5
  have F8 : Exa Z h4 o5 "[B" := P1.wr W5
  have F9 : Fa Z h4 o5 .byte 2 (up (up (fun _ => (.int (0 : Int32))) 0 (.int x0)) 1 (.int x1)) := P2.other W5 (Ne.symm N_o0_o5)
  have F10 : Fld Z h4 o2 "java/lang/String" "coder" "B" (.int (0 : Int32)) := P3.other W5 (Or.inl (Ne.symm N_o0_o2))
  have F11 : Fld Z h4 o2 "java/lang/String" "value" "[B" (.ref o5) := P4.other W5 (Or.inl (Ne.symm N_o0_o2))
  have F12 : Exa Z h4 o1 "java/lang/String" := P5.wr W5
  have F13 : Exa Z h4 o4 "[B" := P6.wr W5
  have F14 : Fa Z h4 o4 .byte 1 (up (fun _ => (.int (0 : Int32))) 0 (.int x2)) := P7.other W5 (Ne.symm N_o0_o4)
  have F15 : Fld Z h4 o1 "java/lang/String" "coder" "B" (.int (0 : Int32)) := P8.other W5 (Or.inl (Ne.symm N_o0_o1))
  have F16 : Fld Z h4 o1 "java/lang/String" "value" "[B" (.ref o4) := P9.other W5 (Or.inl (Ne.symm N_o0_o1))
  have F17 : Exa Z h4 o3 "java/lang/String" := P10.wr W5
  have F18 : Exa Z h4 o6 "[B" := P11.wr W5
  have F19 : Fa Z h4 o6 .byte 1 (up (fun _ => (.int (0 : Int32))) 0 (.int x3)) := P12.other W5 (Ne.symm N_o0_o6)
  have F20 : Sta Z h4 "java/lang/String" "COMPACT_STRINGS" "Z" (.int x4) := P13.wr W5
  have F21 : Fld Z h4 o3 "java/lang/String" "value" "[B" (.ref o6) := P14.other W5 (Or.inl (Ne.symm N_o0_o3))
  have F22 : Fld Z h4 o3 "java/lang/String" "coder" "B" (.int (0 : Int32)) := P15.other W5 (Or.inl (Ne.symm N_o0_o3))
  have F23 : Exa Z h4 o0 "com/example/tripleshelf/tripleshelf/cli/Option" := P16.wr W5
  have F24 : Fld Z h4 o0 "com/example/tripleshelf/tripleshelf/cli/Option" "valueName" "Ljava/lang/String;" .null := P18.other W5 (Or.inr (slot_ne (Or.inr (hw _ (List.mem_of_getElem? (i := 63) rfl))) (Or.inr (hw _ (List.mem_of_getElem? (i := 61) rfl))) (by decide) (t := (.object "java/lang/String")) (t' := (.object "java/lang/String")) (by decide) (by decide)))
  have F25 : Fld Z h4 o0 "com/example/tripleshelf/tripleshelf/cli/Option" "required" "Z" (.int (0 : Int32)) := P19.other W5 (Or.inr (slot_ne (Or.inr (hw _ (List.mem_of_getElem? (i := 65) rfl))) (Or.inr (hw _ (List.mem_of_getElem? (i := 61) rfl))) (by decide) (t := .boolean) (t' := (.object "java/lang/String")) (by decide) (by decide)))
  have F26 : Fld Z h4 o0 "com/example/tripleshelf/tripleshelf/cli/Option" "description" "Ljava/lang/String;" .null := P20.other W5 (Or.inr (slot_ne (Or.inr (hw _ (List.mem_of_getElem? (i := 67) rfl))) (Or.inr (hw _ (List.mem_of_getElem? (i := 61) rfl))) (by decide) (t := (.object "java/lang/String")) (t' := (.object "java/lang/String")) (by decide) (by decide)))
  have sz27 : n0 ≤ h4.size := Nat.le_trans hsz (Nat.le_of_eq W5.size.symm)
  have sy28 : h0.size ≤ h4.size := Nat.le_trans (Nat.le_refl h0.size) (Nat.le_of_eq W5.size.symm)
  have K29 := (Keep.refl h0 [o0]).wr W5 (Or.inl (by simp))
  show Wk _ p l e _ s m _ below meth c n0 _ h4 0 0 (mkF m 31 #[.val (.ref o0), .val (.ref o1), .val (.ref o2), .val (.int (0 : Int32)), .val (.ref o3)] [])
  refine Wk.st (g' := (mkF m 32 #[.val (.ref o0), .val (.ref o1), .val (.ref o2), .val (.int (0 : Int32)), .val (.ref o3)] [(.ref o0)])) (fun X t q => XS.aloadN X.here C.hx rfl (hb C.hby d12_31) rfl rfl q) ?_
  refine Wk.st (g' := (mkF m 33 #[.val (.ref o0), .val (.ref o1), .val (.ref o2), .val (.int (0 : Int32)), .val (.ref o3)] [(.ref o2), (.ref o0)])) (fun X t q => XS.aloadN X.here C.hx rfl (hb C.hby d12_32) rfl rfl q) ?_
  refine Wk.putF C (hw _ (List.mem_of_getElem? (i := 62) rfl)) Via.refl F24 F23 (Or.inr ⟨(hw _ (List.mem_of_getElem? (i := 63) rfl)), rfl, rfl⟩) (hw _ (List.mem_of_getElem? (i := 49) rfl)) (ty := (.object "java/lang/String")) (by decide) (v' := (.ref o2)) rfl rfl G_o0 d12_33 ?_
  intro h30 W31
  have F32 : Fld Z h30 o0 "com/example/tripleshelf/tripleshelf/cli/Option" "valueName" "Ljava/lang/String;" (.ref o2) := F24.same W31
  have F33 : Exa Z h30 o2 "java/lang/String" := F7.wr W31
  have F34 : Exa Z h30 o5 "[B" := F8.wr W31
  have F35 : Fa Z h30 o5 .byte 2 (up (up (fun _ => (.int (0 : Int32))) 0 (.int x0)) 1 (.int x1)) := F9.other W31 (Ne.symm N_o0_o5)
  have F36 : Fld Z h30 o2 "java/lang/String" "coder" "B" (.int (0 : Int32)) := F10.other W31 (Or.inl (Ne.symm N_o0_o2))
  have F37 : Fld Z h30 o2 "java/lang/String" "value" "[B" (.ref o5) := F11.other W31 (Or.inl (Ne.symm N_o0_o2))
  have F38 : Exa Z h30 o1 "java/lang/String" := F12.wr W31
  have F39 : Exa Z h30 o4 "[B" := F13.wr W31
  have F40 : Fa Z h30 o4 .byte 1 (up (fun _ => (.int (0 : Int32))) 0 (.int x2)) := F14.other W31 (Ne.symm N_o0_o4)
  have F41 : Fld Z h30 o1 "java/lang/String" "coder" "B" (.int (0 : Int32)) := F15.other W31 (Or.inl (Ne.symm N_o0_o1))
  have F42 : Fld Z h30 o1 "java/lang/String" "value" "[B" (.ref o4) := F16.other W31 (Or.inl (Ne.symm N_o0_o1))
  have F43 : Exa Z h30 o3 "java/lang/String" := F17.wr W31
  have F44 : Exa Z h30 o6 "[B" := F18.wr W31
  have F45 : Fa Z h30 o6 .byte 1 (up (fun _ => (.int (0 : Int32))) 0 (.int x3)) := F19.other W31 (Ne.symm N_o0_o6)
  have F46 : Sta Z h30 "java/lang/String" "COMPACT_STRINGS" "Z" (.int x4) := F20.wr W31
  have F47 : Fld Z h30 o3 "java/lang/String" "value" "[B" (.ref o6) := F21.other W31 (Or.inl (Ne.symm N_o0_o3))
  have F48 : Fld Z h30 o3 "java/lang/String" "coder" "B" (.int (0 : Int32)) := F22.other W31 (Or.inl (Ne.symm N_o0_o3))
  have F49 : Exa Z h30 o0 "com/example/tripleshelf/tripleshelf/cli/Option" := F23.wr W31
  have F50 : Fld Z h30 o0 "com/example/tripleshelf/tripleshelf/cli/Option" "required" "Z" (.int (0 : Int32)) := F25.other W31 (Or.inr (slot_ne (Or.inr (hw _ (List.mem_of_getElem? (i := 65) rfl))) (Or.inr (hw _ (List.mem_of_getElem? (i := 63) rfl))) (by decide) (t := .boolean) (t' := (.object "java/lang/String")) (by decide) (by decide)))
  have F51 : Fld Z h30 o0 "com/example/tripleshelf/tripleshelf/cli/Option" "description" "Ljava/lang/String;" .null := F26.other W31 (Or.inr (slot_ne (Or.inr (hw _ (List.mem_of_getElem? (i := 67) rfl))) (Or.inr (hw _ (List.mem_of_getElem? (i := 63) rfl))) (by decide) (t := (.object "java/lang/String")) (t' := (.object "java/lang/String")) (by decide) (by decide)))
  have F52 : Fld Z h30 o0 "com/example/tripleshelf/tripleshelf/cli/Option" "name" "Ljava/lang/String;" (.ref o1) := F6.other W31 (Or.inr (slot_ne (Or.inr (hw _ (List.mem_of_getElem? (i := 61) rfl))) (Or.inr (hw _ (List.mem_of_getElem? (i := 63) rfl))) (by decide) (t := (.object "java/lang/String")) (t' := (.object "java/lang/String")) (by decide) (by decide)))
  have sz53 : n0 ≤ h30.size := Nat.le_trans sz27 (Nat.le_of_eq W31.size.symm)
  have sy54 : h0.size ≤ h30.size := Nat.le_trans sy28 (Nat.le_of_eq W31.size.symm)
  have K55 := K29.wr W31 (Or.inl (by simp))
  show Wk _ p l e _ s m _ below meth c n0 _ h30 0 0 (mkF m 36 #[.val (.ref o0), .val (.ref o1), .val (.ref o2), .val (.int (0 : Int32)), .val (.ref o3)] [])
  refine Wk.st (g' := (mkF m 37 #[.val (.ref o0), .val (.ref o1), .val (.ref o2), .val (.int (0 : Int32)), .val (.ref o3)] [(.ref o0)])) (fun X t q => XS.aloadN X.here C.hx rfl (hb C.hby d12_36) rfl rfl q) ?_
  refine Wk.st (g' := (mkF m 38 #[.val (.ref o0), .val (.ref o1), .val (.ref o2), .val (.int (0 : Int32)), .val (.ref o3)] [(.int (0 : Int32)), (.ref o0)])) (fun X t q => XS.iloadN X.here C.hx rfl (hb C.hby d12_37) rfl q) ?_
  refine Wk.putF C (hw _ (List.mem_of_getElem? (i := 64) rfl)) Via.refl F50 F49 (Or.inr ⟨(hw _ (List.mem_of_getElem? (i := 65) rfl)), rfl, rfl⟩) (hw _ (List.mem_of_getElem? (i := 49) rfl)) (ty := .boolean) (by decide) (v' := (.int (0 : Int32))) rfl (by decide) G_o0 d12_38 ?_
  intro h56 W57
  have F58 : Fld Z h56 o0 "com/example/tripleshelf/tripleshelf/cli/Option" "required" "Z" (.int (0 : Int32)) := F50.same W57
  have F59 : Exa Z h56 o2 "java/lang/String" := F33.wr W57
  have F60 : Exa Z h56 o5 "[B" := F34.wr W57
  have F61 : Fa Z h56 o5 .byte 2 (up (up (fun _ => (.int (0 : Int32))) 0 (.int x0)) 1 (.int x1)) := F35.other W57 (Ne.symm N_o0_o5)
  have F62 : Fld Z h56 o2 "java/lang/String" "coder" "B" (.int (0 : Int32)) := F36.other W57 (Or.inl (Ne.symm N_o0_o2))
  have F63 : Fld Z h56 o2 "java/lang/String" "value" "[B" (.ref o5) := F37.other W57 (Or.inl (Ne.symm N_o0_o2))
  have F64 : Exa Z h56 o1 "java/lang/String" := F38.wr W57
  have F65 : Exa Z h56 o4 "[B" := F39.wr W57
  have F66 : Fa Z h56 o4 .byte 1 (up (fun _ => (.int (0 : Int32))) 0 (.int x2)) := F40.other W57 (Ne.symm N_o0_o4)
  have F67 : Fld Z h56 o1 "java/lang/String" "coder" "B" (.int (0 : Int32)) := F41.other W57 (Or.inl (Ne.symm N_o0_o1))
  have F68 : Fld Z h56 o1 "java/lang/String" "value" "[B" (.ref o4) := F42.other W57 (Or.inl (Ne.symm N_o0_o1))
  have F69 : Exa Z h56 o3 "java/lang/String" := F43.wr W57
  have F70 : Exa Z h56 o6 "[B" := F44.wr W57
  have F71 : Fa Z h56 o6 .byte 1 (up (fun _ => (.int (0 : Int32))) 0 (.int x3)) := F45.other W57 (Ne.symm N_o0_o6)
  have F72 : Sta Z h56 "java/lang/String" "COMPACT_STRINGS" "Z" (.int x4) := F46.wr W57
  have F73 : Fld Z h56 o3 "java/lang/String" "value" "[B" (.ref o6) := F47.other W57 (Or.inl (Ne.symm N_o0_o3))
  have F74 : Fld Z h56 o3 "java/lang/String" "coder" "B" (.int (0 : Int32)) := F48.other W57 (Or.inl (Ne.symm N_o0_o3))
  have F75 : Exa Z h56 o0 "com/example/tripleshelf/tripleshelf/cli/Option" := F49.wr W57
  have F76 : Fld Z h56 o0 "com/example/tripleshelf/tripleshelf/cli/Option" "description" "Ljava/lang/String;" .null := F51.other W57 (Or.inr (slot_ne (Or.inr (hw _ (List.mem_of_getElem? (i := 67) rfl))) (Or.inr (hw _ (List.mem_of_getElem? (i := 65) rfl))) (by decide) (t := (.object "java/lang/String")) (t' := .boolean) (by decide) (by decide)))
  have F77 : Fld Z h56 o0 "com/example/tripleshelf/tripleshelf/cli/Option" "name" "Ljava/lang/String;" (.ref o1) := F52.other W57 (Or.inr (slot_ne (Or.inr (hw _ (List.mem_of_getElem? (i := 61) rfl))) (Or.inr (hw _ (List.mem_of_getElem? (i := 65) rfl))) (by decide) (t := (.object "java/lang/String")) (t' := .boolean) (by decide) (by decide)))
  have F78 : Fld Z h56 o0 "com/example/tripleshelf/tripleshelf/cli/Option" "valueName" "Ljava/lang/String;" (.ref o2) := F32.other W57 (Or.inr (slot_ne (Or.inr (hw _ (List.mem_of_getElem? (i := 63) rfl))) (Or.inr (hw _ (List.mem_of_getElem? (i := 65) rfl))) (by decide) (t := (.object "java/lang/String")) (t' := .boolean) (by decide) (by decide)))
  have sz79 : n0 ≤ h56.size := Nat.le_trans sz53 (Nat.le_of_eq W57.size.symm)
  have sy80 : h0.size ≤ h56.size := Nat.le_trans sy54 (Nat.le_of_eq W57.size.symm)
  have K81 := K55.wr W57 (Or.inl (by simp))
  show Wk _ p l e _ s m _ below meth c n0 _ h56 0 0 (mkF m 41 #[.val (.ref o0), .val (.ref o1), .val (.ref o2), .val (.int (0 : Int32)), .val (.ref o3)] [])
  refine Wk.st (g' := (mkF m 42 #[.val (.ref o0), .val (.ref o1), .val (.ref o2), .val (.int (0 : Int32)), .val (.ref o3)] [(.ref o0)])) (fun X t q => XS.aloadN X.here C.hx rfl (hb C.hby d12_41) rfl rfl q) ?_
  refine Wk.st (g' := (mkF m 44 #[.val (.ref o0), .val (.ref o1), .val (.ref o2), .val (.int (0 : Int32)), .val (.ref o3)] [(.ref o3), (.ref o0)])) (fun X t q => XS.aload X.here C.hx rfl (hb C.hby d12_42) rfl rfl q) ?_
  refine Wk.putF C (hw _ (List.mem_of_getElem? (i := 66) rfl)) Via.refl F76 F75 (Or.inr ⟨(hw _ (List.mem_of_getElem? (i := 67) rfl)), rfl, rfl⟩) (hw _ (List.mem_of_getElem? (i := 49) rfl)) (ty := (.object "java/lang/String")) (by decide) (v' := (.ref o3)) rfl rfl G_o0 d12_44 ?_
  intro h82 W83
  have F84 : Fld Z h82 o0 "com/example/tripleshelf/tripleshelf/cli/Option" "description" "Ljava/lang/String;" (.ref o3) := F76.same W83
  have F85 : Exa Z h82 o2 "java/lang/String" := F59.wr W83
  have F86 : Exa Z h82 o5 "[B" := F60.wr W83
  have F87 : Fa Z h82 o5 .byte 2 (up (up (fun _ => (.int (0 : Int32))) 0 (.int x0)) 1 (.int x1)) := F61.other W83 (Ne.symm N_o0_o5)
  have F88 : Fld Z h82 o2 "java/lang/String" "coder" "B" (.int (0 : Int32)) := F62.other W83 (Or.inl (Ne.symm N_o0_o2))
  have F89 : Fld Z h82 o2 "java/lang/String" "value" "[B" (.ref o5) := F63.other W83 (Or.inl (Ne.symm N_o0_o2))
  have F90 : Exa Z h82 o1 "java/lang/String" := F64.wr W83
  have F91 : Exa Z h82 o4 "[B" := F65.wr W83
  have F92 : Fa Z h82 o4 .byte 1 (up (fun _ => (.int (0 : Int32))) 0 (.int x2)) := F66.other W83 (Ne.symm N_o0_o4)
  have F93 : Fld Z h82 o1 "java/lang/String" "coder" "B" (.int (0 : Int32)) := F67.other W83 (Or.inl (Ne.symm N_o0_o1))
  have F94 : Fld Z h82 o1 "java/lang/String" "value" "[B" (.ref o4) := F68.other W83 (Or.inl (Ne.symm N_o0_o1))
  have F95 : Exa Z h82 o3 "java/lang/String" := F69.wr W83
  have F96 : Exa Z h82 o6 "[B" := F70.wr W83
  have F97 : Fa Z h82 o6 .byte 1 (up (fun _ => (.int (0 : Int32))) 0 (.int x3)) := F71.other W83 (Ne.symm N_o0_o6)
  have F98 : Sta Z h82 "java/lang/String" "COMPACT_STRINGS" "Z" (.int x4) := F72.wr W83
  have F99 : Fld Z h82 o3 "java/lang/String" "value" "[B" (.ref o6) := F73.other W83 (Or.inl (Ne.symm N_o0_o3))
  have F100 : Fld Z h82 o3 "java/lang/String" "coder" "B" (.int (0 : Int32)) := F74.other W83 (Or.inl (Ne.symm N_o0_o3))
  have F101 : Exa Z h82 o0 "com/example/tripleshelf/tripleshelf/cli/Option" := F75.wr W83
  have F102 : Fld Z h82 o0 "com/example/tripleshelf/tripleshelf/cli/Option" "name" "Ljava/lang/String;" (.ref o1) := F77.other W83 (Or.inr (slot_ne (Or.inr (hw _ (List.mem_of_getElem? (i := 61) rfl))) (Or.inr (hw _ (List.mem_of_getElem? (i := 67) rfl))) (by decide) (t := (.object "java/lang/String")) (t' := (.object "java/lang/String")) (by decide) (by decide)))
  have F103 : Fld Z h82 o0 "com/example/tripleshelf/tripleshelf/cli/Option" "valueName" "Ljava/lang/String;" (.ref o2) := F78.other W83 (Or.inr (slot_ne (Or.inr (hw _ (List.mem_of_getElem? (i := 63) rfl))) (Or.inr (hw _ (List.mem_of_getElem? (i := 67) rfl))) (by decide) (t := (.object "java/lang/String")) (t' := (.object "java/lang/String")) (by decide) (by decide)))
  have F104 : Fld Z h82 o0 "com/example/tripleshelf/tripleshelf/cli/Option" "required" "Z" (.int (0 : Int32)) := F58.other W83 (Or.inr (slot_ne (Or.inr (hw _ (List.mem_of_getElem? (i := 65) rfl))) (Or.inr (hw _ (List.mem_of_getElem? (i := 67) rfl))) (by decide) (t := .boolean) (t' := (.object "java/lang/String")) (by decide) (by decide)))
  have sz105 : n0 ≤ h82.size := Nat.le_trans sz79 (Nat.le_of_eq W83.size.symm)
  have sy106 : h0.size ≤ h82.size := Nat.le_trans sy80 (Nat.le_of_eq W83.size.symm)
  have K107 := K81.wr W83 (Or.inl (by simp))
  show Wk _ p l e _ s m _ below meth c n0 _ h82 0 0 (mkF m 47 #[.val (.ref o0), .val (.ref o1), .val (.ref o2), .val (.int (0 : Int32)), .val (.ref o3)] [])
  exact Wk.retN0 C rfl d12_47 (by decide) (by decide) ⟨rfl, K107, F98, F102, F103, F104, F84⟩
set_option maxRecDepth 65536 in
set_option maxHeartbeats 40000000 in
theorem own_14_29 (l : Launch) (Z : State) (a0 : Array Value) (hw : ∀ d ∈ tables_1, d.before a0 Z = true) (n0 : Nat) (h0 : Heap) (hsz : n0 ≤ h0.size) (o0 : Addr) (o1 : Addr) (o2 : Addr) (o3 : Addr) (o4 : Addr) (o5 : Addr) (o6 : Addr) (x0 : Int32) (x1 : Int32) (x2 : Int32) (x3 : Int32) (x4 : Int32) (P0 : Exa Z h0 o2 "java/lang/String") (P1 : Exa Z h0 o5 "[B") (P2 : Fa Z h0 o5 .byte 2 (up (up (fun _ => (.int (0 : Int32))) 0 (.int x0)) 1 (.int x1))) (P3 : Fld Z h0 o2 "java/lang/String" "coder" "B" (.int (0 : Int32))) (P4 : Fld Z h0 o2 "java/lang/String" "value" "[B" (.ref o5)) (P5 : Exa Z h0 o1 "java/lang/String") (P6 : Exa Z h0 o4 "[B") (P7 : Fa Z h0 o4 .byte 1 (up (fun _ => (.int (0 : Int32))) 0 (.int x2))) (P8 : Fld Z h0 o1 "java/lang/String" "coder" "B" (.int (0 : Int32))) (P9 : Fld Z h0 o1 "java/lang/String" "value" "[B" (.ref o4)) (P10 : Exa Z h0 o3 "java/lang/String") (P11 : Exa Z h0 o6 "[B") (P12 : Fa Z h0 o6 .byte 1 (up (fun _ => (.int (0 : Int32))) 0 (.int x3))) (P13 : Fld Z h0 o3 "java/lang/String" "value" "[B" (.ref o6)) (P14 : Fld Z h0 o3 "java/lang/String" "coder" "B" (.int (0 : Int32))) (P15 : Exa Z h0 o0 "com/example/tripleshelf/tripleshelf/cli/Option") (P16 : Sta Z h0 "java/lang/String" "COMPACT_STRINGS" "Z" (.int x4)) (P17 : Fld Z h0 o0 "com/example/tripleshelf/tripleshelf/cli/Option" "name" "Ljava/lang/String;" (.ref o1)) (P18 : Fld Z h0 o0 "com/example/tripleshelf/tripleshelf/cli/Option" "valueName" "Ljava/lang/String;" (.ref o2)) (P19 : Fld Z h0 o0 "com/example/tripleshelf/tripleshelf/cli/Option" "required" "Z" (.int (0 : Int32))) (P20 : Fld Z h0 o0 "com/example/tripleshelf/tripleshelf/cli/Option" "description" "Ljava/lang/String;" (.ref o3)) (N_o0_o1 : o0 ≠ o1) (N_o0_o2 : o0 ≠ o2) (N_o0_o3 : o0 ≠ o3) (N_o0_o4 : o0 ≠ o4) (N_o0_o5 : o0 ≠ o5) (N_o0_o6 : o0 ≠ o6) (N_o1_o2 : o1 ≠ o2) (N_o1_o3 : o1 ≠ o3) (N_o1_o4 : o1 ≠ o4) (N_o1_o5 : o1 ≠ o5) (N_o1_o6 : o1 ≠ o6) (N_o2_o3 : o2 ≠ o3) (N_o2_o4 : o2 ≠ o4) (N_o2_o5 : o2 ≠ o5) (N_o2_o6 : o2 ≠ o6) (N_o3_o4 : o3 ≠ o4) (N_o3_o5 : o3 ≠ o5) (N_o3_o6 : o3 ≠ o6) (N_o4_o5 : o4 ≠ o5) (N_o4_o6 : o4 ≠ o6) (N_o5_o6 : o5 ≠ o6) (G_o0 : n0 ≤ o0) (G_o1 : n0 ≤ o1) (G_o2 : n0 ≤ o2) (G_o3 : n0 ≤ o3) (G_o4 : n0 ≤ o4) (G_o5 : n0 ≤ o5) (G_o6 : n0 ≤ o6) (nz_x4 : ¬ x4 = (0 : Int32)) :
    Met true l Z n0 (⟨"com/example/tripleshelf/tripleshelf/cli/Option", "takesValue", "()Z"⟩ : MethodName) prog_5_method_5_code 1 (some .boolean) ({ frames := 0, cells := 0, slots := 0, locals := 0 } : Room) #[(.ref o0)] h0 (fun v h => v = some (.int (1 : Int32)) ∧ h0 = h) := by
  refine Met.of (plainFor_of_name pn_5) #[.val (.ref o0)] (fun m => by first | (simp [entryFrame, mkF, argsToLocals, Value.category]; done) | rfl) ?_
  intro p e s m below meth c C
  refine Wk.st (g' := (mkF m 1 #[.val (.ref o0)] [(.ref o0)])) (fun X t q => XS.aloadN X.here C.hx rfl (hb C.hby d14_0) rfl rfl q) ?_
  refine Wk.getF C (hw _ (List.mem_of_getElem? (i := 62) rfl)) Via.refl P18 d14_1 ?_
  show Wk _ p l e _ s m _ below meth c n0 _ h0 0 0 (mkF m 4 #[.val (.ref o0)] [(.ref o2)])
  refine Wk.st (g' := (mkF m 7 #[.val (.ref o0)] [])) (fun X t q => XS.ifnullNo X.here C.hx rfl (hb C.hby d14_4) rfl q) ?_
  refine Wk.st (g' := (mkF m 8 #[.val (.ref o0)] [(.int (1 : Int32))])) (fun X t q => XS.iconst X.here C.hx rfl (hb C.hby d14_7) q) ?_
  refine Wk.st (g' := (mkF m 12 #[.val (.ref o0)] [(.int (1 : Int32))])) (fun X t q => XS.goto X.here C.hx rfl (pc0 := 8) (pc' := 12) rfl (hb C.hby d14_8) (by decide) (by decide) q) ?_
  exact Wk.retV C (t := .boolean) rfl rfl (Or.inl ⟨rfl, by simp, _, rfl⟩) d14_12 (by decide) (by decide) ⟨rfl, rfl⟩
set_option maxRecDepth 65536 in
set_option maxHeartbeats 40000000 in
theorem own_12_30 (l : Launch) (Z : State) (a0 : Array Value) (hw : ∀ d ∈ tables_1, d.before a0 Z = true) (n0 : Nat) (h0 : Heap) (hsz : n0 ≤ h0.size) (o0 : Addr) (o1 : Addr) (o2 : Addr) (o3 : Addr) (o4 : Addr) (o5 : Addr) (o6 : Addr) (x0 : Int32) (x1 : Int32) (x2 : Int32) (x3 : Int32) (x4 : Int32) (P0 : Exa Z h0 o2 "java/lang/String") (P1 : Exa Z h0 o5 "[B") (P2 : Fa Z h0 o5 .byte 2 (up (up (fun _ => (.int (0 : Int32))) 0 (.int x0)) 1 (.int x1))) (P3 : Fld Z h0 o2 "java/lang/String" "coder" "B" (.int (0 : Int32))) (P4 : Fld Z h0 o2 "java/lang/String" "value" "[B" (.ref o5)) (P5 : Exa Z h0 o1 "java/lang/String") (P6 : Exa Z h0 o4 "[B") (P7 : Fa Z h0 o4 .byte 1 (up (fun _ => (.int (0 : Int32))) 0 (.int x2))) (P8 : Fld Z h0 o1 "java/lang/String" "coder" "B" (.int (0 : Int32))) (P9 : Fld Z h0 o1 "java/lang/String" "value" "[B" (.ref o4)) (P10 : Exa Z h0 o3 "java/lang/String") (P11 : Exa Z h0 o6 "[B") (P12 : Fa Z h0 o6 .byte 1 (up (fun _ => (.int (0 : Int32))) 0 (.int x3))) (P13 : Sta Z h0 "java/lang/String" "COMPACT_STRINGS" "Z" (.int x4)) (P14 : Fld Z h0 o3 "java/lang/String" "value" "[B" (.ref o6)) (P15 : Fld Z h0 o3 "java/lang/String" "coder" "B" (.int (0 : Int32))) (P16 : Exa Z h0 o0 "com/example/tripleshelf/tripleshelf/cli/Option") (P17 : Fld Z h0 o0 "com/example/tripleshelf/tripleshelf/cli/Option" "name" "Ljava/lang/String;" .null) (P18 : Fld Z h0 o0 "com/example/tripleshelf/tripleshelf/cli/Option" "valueName" "Ljava/lang/String;" .null) (P19 : Fld Z h0 o0 "com/example/tripleshelf/tripleshelf/cli/Option" "required" "Z" (.int (0 : Int32))) (P20 : Fld Z h0 o0 "com/example/tripleshelf/tripleshelf/cli/Option" "description" "Ljava/lang/String;" .null) (N_o0_o1 : o0 ≠ o1) (N_o0_o2 : o0 ≠ o2) (N_o0_o3 : o0 ≠ o3) (N_o0_o4 : o0 ≠ o4) (N_o0_o5 : o0 ≠ o5) (N_o0_o6 : o0 ≠ o6) (N_o1_o2 : o1 ≠ o2) (N_o1_o3 : o1 ≠ o3) (N_o1_o4 : o1 ≠ o4) (N_o1_o5 : o1 ≠ o5) (N_o1_o6 : o1 ≠ o6) (N_o2_o3 : o2 ≠ o3) (N_o2_o4 : o2 ≠ o4) (N_o2_o5 : o2 ≠ o5) (N_o2_o6 : o2 ≠ o6) (N_o3_o4 : o3 ≠ o4) (N_o3_o5 : o3 ≠ o5) (N_o3_o6 : o3 ≠ o6) (N_o4_o5 : o4 ≠ o5) (N_o4_o6 : o4 ≠ o6) (N_o5_o6 : o5 ≠ o6) (G_o0 : n0 ≤ o0) (G_o1 : n0 ≤ o1) (G_o2 : n0 ≤ o2) (G_o3 : n0 ≤ o3) (G_o4 : n0 ≤ o4) (G_o5 : n0 ≤ o5) (G_o6 : n0 ≤ o6) (nz_x4 : ¬ x4 = (0 : Int32)) :
    Met true l Z n0 (⟨"com/example/tripleshelf/tripleshelf/cli/Option", "<init>", "(Ljava/lang/String;Ljava/lang/String;ZLjava/lang/String;)V"⟩ : MethodName) prog_5_method_1_code 5 none ({ frames := 2, cells := 0, slots := 0, locals := 24 } : Room) #[(.ref o0), (.ref o1), (.ref o2), (.int (1 : Int32)), (.ref o3)] h0 (fun v h => v = none ∧ Keep h0 h [o0] ∧ Sta Z h "java/lang/String" "COMPACT_STRINGS" "Z" (.int x4) ∧ Fld Z h o0 "com/example/tripleshelf/tripleshelf/cli/Option" "name" "Ljava/lang/String;" (.ref o1) ∧ Fld Z h o0 "com/example/tripleshelf/tripleshelf/cli/Option" "valueName" "Ljava/lang/String;" (.ref o2) ∧ Fld Z h o0 "com/example/tripleshelf/tripleshelf/cli/Option" "required" "Z" (.int (1 : Int32)) ∧ Fld Z h o0 "com/example/tripleshelf/tripleshelf/cli/Option" "description" "Ljava/lang/String;" (.ref o3)) := by
  refine Met.of (plainFor_of_name pn_5) #[.val (.ref o0), .val (.ref o1), .val (.ref o2), .val (.int (1 : Int32)), .val (.ref o3)] (fun m => by first | (simp [entryFrame, mkF, argsToLocals, Value.category]; done) | rfl) ?_
  intro p e s m below meth c C
  refine Wk.st (g' := (mkF m 1 #[.val (.ref o0), .val (.ref o1), .val (.ref o2), .val (.int (1 : Int32)), .val (.ref o3)] [(.ref o0)])) (fun X t q => XS.aloadN X.here C.hx rfl (hb C.hby d12_0) rfl rfl q) ?_
  refine Wk.callI C (z := (⟨"java/lang/Record", "<init>", "()V"⟩ : MethodName)) rfl (hw _ (List.mem_of_getElem? (i := 54) rfl)) (hw _ (List.mem_of_getElem? (i := 55) rfl)) (hw _ (List.mem_of_getElem? (i := 57) rfl)) (hw _ (List.mem_of_getElem? (i := 58) rfl)) (by decide) (own_13_10 l Z a0 hw n0 h0 hsz o0 x4 P13 P16 P17 P18 P19 P20  G_o0 nz_x4) (w := 0) (by decide) (by decide) pd_11 rfl (rest := []) rfl rfl (Nat.le_of_eq rfl) (by decide) (by decide) d12_1 ?_
  rintro _ _ ⟨rfl, rfl⟩
  show Wk _ p l e _ s m _ below meth c n0 _ h0 0 0 (mkF m 4 #[.val (.ref o0), .val (.ref o1), .val (.ref o2), .val (.int (1 : Int32)), .val (.ref o3)] [])
  refine Wk.st (g' := (mkF m 5 #[.val (.ref o0), .val (.ref o1), .val (.ref o2), .val (.int (1 : Int32)), .val (.ref o3)] [(.int (1 : Int32))])) (fun X t q => XS.iloadN X.here C.hx rfl (hb C.hby d12_4) rfl q) ?_
  refine Wk.st (g' := (mkF m 8 #[.val (.ref o0), .val (.ref o1), .val (.ref o2), .val (.int (1 : Int32)), .val (.ref o3)] [])) (fun X t q => XS.ifNo X.here C.hx rfl (hb C.hby d12_5) rfl (XT.i0_eq_f (by decide)) q) ?_
  refine Wk.st (g' := (mkF m 9 #[.val (.ref o0), .val (.ref o1), .val (.ref o2), .val (.int (1 : Int32)), .val (.ref o3)] [(.ref o2)])) (fun X t q => XS.aloadN X.here C.hx rfl (hb C.hby d12_8) rfl rfl q) ?_
  refine Wk.st (g' := (mkF m 26 #[.val (.ref o0), .val (.ref o1), .val (.ref o2), .val (.int (1 : Int32)), .val (.ref o3)] [])) (fun X t q => XS.ifnonnullYes X.here C.hx rfl (pc0 := 9) (pc' := 26) rfl (hb C.hby d12_9) rfl (by decide) (by decide) q) ?_
  refine Wk.st (g' := (mkF m 27 #[.val (.ref o0), .val (.ref o1), .val (.ref o2), .val (.int (1 : Int32)), .val (.ref o3)] [(.ref o0)])) (fun X t q => XS.aloadN X.here C.hx rfl (hb C.hby d12_26) rfl rfl q) ?_
  refine Wk.st (g' := (mkF m 28 #[.val (.ref o0), .val (.ref o1), .val (.ref o2), .val (.int (1 : Int32)), .val (.ref o3)] [(.ref o1), (.ref o0)])) (fun X t q => XS.aloadN X.here C.hx rfl (hb C.hby d12_27) rfl rfl q) ?_
  refine Wk.putF C (hw _ (List.mem_of_getElem? (i := 60) rfl)) Via.refl P17 P16 (Or.inr ⟨(hw _ (List.mem_of_getElem? (i := 61) rfl)), rfl, rfl⟩) (hw _ (List.mem_of_getElem? (i := 49) rfl)) (ty := (.object "java/lang/String")) (by decide) (v' := (.ref o1)) rfl rfl G_o0 d12_28 ?_
  intro h4 W5
  have F6 : Fld Z h4 o0 "com/example/tripleshelf/tripleshelf/cli/Option" "name" "Ljava/lang/String;" (.ref o1) := P17.same W5
  have F7 : Exa Z h4 o2 "java/lang/String" := P0.wr W5
  have F8 : Exa Z h4 o5 "[B" := P1.wr W5
  have F9 : Fa Z h4 o5 .byte 2 (up (up (fun _ => (.int (0 : Int32))) 0 (.int x0)) 1 (.int x1)) := P2.other W5 (Ne.symm N_o0_o5)
  have F10 : Fld Z h4 o2 "java/lang/String" "coder" "B" (.int (0 : Int32)) := P3.other W5 (Or.inl (Ne.symm N_o0_o2))
  have F11 : Fld Z h4 o2 "java/lang/String" "value" "[B" (.ref o5) := P4.other W5 (Or.inl (Ne.symm N_o0_o2))
  have F12 : Exa Z h4 o1 "java/lang/String" := P5.wr W5
  have F13 : Exa Z h4 o4 "[B" := P6.wr W5
  have F14 : Fa Z h4 o4 .byte 1 (up (fun _ => (.int (0 : Int32))) 0 (.int x2)) := P7.other W5 (Ne.symm N_o0_o4)
  have F15 : Fld Z h4 o1 "java/lang/String" "coder" "B" (.int (0 : Int32)) := P8.other W5 (Or.inl (Ne.symm N_o0_o1))
  have F16 : Fld Z h4 o1 "java/lang/String" "value" "[B" (.ref o4) := P9.other W5 (Or.inl (Ne.symm N_o0_o1))
  have F17 : Exa Z h4 o3 "java/lang/String" := P10.wr W5
  have F18 : Exa Z h4 o6 "[B" := P11.wr W5
  have F19 : Fa Z h4 o6 .byte 1 (up (fun _ => (.int (0 : Int32))) 0 (.int x3)) := P12.other W5 (Ne.symm N_o0_o6)
  have F20 : Sta Z h4 "java/lang/String" "COMPACT_STRINGS" "Z" (.int x4) := P13.wr W5
  have F21 : Fld Z h4 o3 "java/lang/String" "value" "[B" (.ref o6) := P14.other W5 (Or.inl (Ne.symm N_o0_o3))
  have F22 : Fld Z h4 o3 "java/lang/String" "coder" "B" (.int (0 : Int32)) := P15.other W5 (Or.inl (Ne.symm N_o0_o3))
  have F23 : Exa Z h4 o0 "com/example/tripleshelf/tripleshelf/cli/Option" := P16.wr W5
  have F24 : Fld Z h4 o0 "com/example/tripleshelf/tripleshelf/cli/Option" "valueName" "Ljava/lang/String;" .null := P18.other W5 (Or.inr (slot_ne (Or.inr (hw _ (List.mem_of_getElem? (i := 63) rfl))) (Or.inr (hw _ (List.mem_of_getElem? (i := 61) rfl))) (by decide) (t := (.object "java/lang/String")) (t' := (.object "java/lang/String")) (by decide) (by decide)))
  have F25 : Fld Z h4 o0 "com/example/tripleshelf/tripleshelf/cli/Option" "required" "Z" (.int (0 : Int32)) := P19.other W5 (Or.inr (slot_ne (Or.inr (hw _ (List.mem_of_getElem? (i := 65) rfl))) (Or.inr (hw _ (List.mem_of_getElem? (i := 61) rfl))) (by decide) (t := .boolean) (t' := (.object "java/lang/String")) (by decide) (by decide)))
  have F26 : Fld Z h4 o0 "com/example/tripleshelf/tripleshelf/cli/Option" "description" "Ljava/lang/String;" .null := P20.other W5 (Or.inr (slot_ne (Or.inr (hw _ (List.mem_of_getElem? (i := 67) rfl))) (Or.inr (hw _ (List.mem_of_getElem? (i := 61) rfl))) (by decide) (t := (.object "java/lang/String")) (t' := (.object "java/lang/String")) (by decide) (by decide)))
  have sz27 : n0 ≤ h4.size := Nat.le_trans hsz (Nat.le_of_eq W5.size.symm)
  have sy28 : h0.size ≤ h4.size := Nat.le_trans (Nat.le_refl h0.size) (Nat.le_of_eq W5.size.symm)
  have K29 := (Keep.refl h0 [o0]).wr W5 (Or.inl (by simp))
  show Wk _ p l e _ s m _ below meth c n0 _ h4 0 0 (mkF m 31 #[.val (.ref o0), .val (.ref o1), .val (.ref o2), .val (.int (1 : Int32)), .val (.ref o3)] [])
  refine Wk.st (g' := (mkF m 32 #[.val (.ref o0), .val (.ref o1), .val (.ref o2), .val (.int (1 : Int32)), .val (.ref o3)] [(.ref o0)])) (fun X t q => XS.aloadN X.here C.hx rfl (hb C.hby d12_31) rfl rfl q) ?_
  refine Wk.st (g' := (mkF m 33 #[.val (.ref o0), .val (.ref o1), .val (.ref o2), .val (.int (1 : Int32)), .val (.ref o3)] [(.ref o2), (.ref o0)])) (fun X t q => XS.aloadN X.here C.hx rfl (hb C.hby d12_32) rfl rfl q) ?_
  refine Wk.putF C (hw _ (List.mem_of_getElem? (i := 62) rfl)) Via.refl F24 F23 (Or.inr ⟨(hw _ (List.mem_of_getElem? (i := 63) rfl)), rfl, rfl⟩) (hw _ (List.mem_of_getElem? (i := 49) rfl)) (ty := (.object "java/lang/String")) (by decide) (v' := (.ref o2)) rfl rfl G_o0 d12_33 ?_
  intro h30 W31
  have F32 : Fld Z h30 o0 "com/example/tripleshelf/tripleshelf/cli/Option" "valueName" "Ljava/lang/String;" (.ref o2) := F24.same W31
  have F33 : Exa Z h30 o2 "java/lang/String" := F7.wr W31
  have F34 : Exa Z h30 o5 "[B" := F8.wr W31
  have F35 : Fa Z h30 o5 .byte 2 (up (up (fun _ => (.int (0 : Int32))) 0 (.int x0)) 1 (.int x1)) := F9.other W31 (Ne.symm N_o0_o5)
  have F36 : Fld Z h30 o2 "java/lang/String" "coder" "B" (.int (0 : Int32)) := F10.other W31 (Or.inl (Ne.symm N_o0_o2))
  have F37 : Fld Z h30 o2 "java/lang/String" "value" "[B" (.ref o5) := F11.other W31 (Or.inl (Ne.symm N_o0_o2))
  have F38 : Exa Z h30 o1 "java/lang/String" := F12.wr W31
  have F39 : Exa Z h30 o4 "[B" := F13.wr W31
  have F40 : Fa Z h30 o4 .byte 1 (up (fun _ => (.int (0 : Int32))) 0 (.int x2)) := F14.other W31 (Ne.symm N_o0_o4)
  have F41 : Fld Z h30 o1 "java/lang/String" "coder" "B" (.int (0 : Int32)) := F15.other W31 (Or.inl (Ne.symm N_o0_o1))
  have F42 : Fld Z h30 o1 "java/lang/String" "value" "[B" (.ref o4) := F16.other W31 (Or.inl (Ne.symm N_o0_o1))
  have F43 : Exa Z h30 o3 "java/lang/String" := F17.wr W31
  have F44 : Exa Z h30 o6 "[B" := F18.wr W31
  have F45 : Fa Z h30 o6 .byte 1 (up (fun _ => (.int (0 : Int32))) 0 (.int x3)) := F19.other W31 (Ne.symm N_o0_o6)
  have F46 : Sta Z h30 "java/lang/String" "COMPACT_STRINGS" "Z" (.int x4) := F20.wr W31
  have F47 : Fld Z h30 o3 "java/lang/String" "value" "[B" (.ref o6) := F21.other W31 (Or.inl (Ne.symm N_o0_o3))
  have F48 : Fld Z h30 o3 "java/lang/String" "coder" "B" (.int (0 : Int32)) := F22.other W31 (Or.inl (Ne.symm N_o0_o3))
  have F49 : Exa Z h30 o0 "com/example/tripleshelf/tripleshelf/cli/Option" := F23.wr W31
  have F50 : Fld Z h30 o0 "com/example/tripleshelf/tripleshelf/cli/Option" "required" "Z" (.int (0 : Int32)) := F25.other W31 (Or.inr (slot_ne (Or.inr (hw _ (List.mem_of_getElem? (i := 65) rfl))) (Or.inr (hw _ (List.mem_of_getElem? (i := 63) rfl))) (by decide) (t := .boolean) (t' := (.object "java/lang/String")) (by decide) (by decide)))
  have F51 : Fld Z h30 o0 "com/example/tripleshelf/tripleshelf/cli/Option" "description" "Ljava/lang/String;" .null := F26.other W31 (Or.inr (slot_ne (Or.inr (hw _ (List.mem_of_getElem? (i := 67) rfl))) (Or.inr (hw _ (List.mem_of_getElem? (i := 63) rfl))) (by decide) (t := (.object "java/lang/String")) (t' := (.object "java/lang/String")) (by decide) (by decide)))
  have F52 : Fld Z h30 o0 "com/example/tripleshelf/tripleshelf/cli/Option" "name" "Ljava/lang/String;" (.ref o1) := F6.other W31 (Or.inr (slot_ne (Or.inr (hw _ (List.mem_of_getElem? (i := 61) rfl))) (Or.inr (hw _ (List.mem_of_getElem? (i := 63) rfl))) (by decide) (t := (.object "java/lang/String")) (t' := (.object "java/lang/String")) (by decide) (by decide)))
  have sz53 : n0 ≤ h30.size := Nat.le_trans sz27 (Nat.le_of_eq W31.size.symm)
  have sy54 : h0.size ≤ h30.size := Nat.le_trans sy28 (Nat.le_of_eq W31.size.symm)
  have K55 := K29.wr W31 (Or.inl (by simp))
  show Wk _ p l e _ s m _ below meth c n0 _ h30 0 0 (mkF m 36 #[.val (.ref o0), .val (.ref o1), .val (.ref o2), .val (.int (1 : Int32)), .val (.ref o3)] [])
  refine Wk.st (g' := (mkF m 37 #[.val (.ref o0), .val (.ref o1), .val (.ref o2), .val (.int (1 : Int32)), .val (.ref o3)] [(.ref o0)])) (fun X t q => XS.aloadN X.here C.hx rfl (hb C.hby d12_36) rfl rfl q) ?_
  refine Wk.st (g' := (mkF m 38 #[.val (.ref o0), .val (.ref o1), .val (.ref o2), .val (.int (1 : Int32)), .val (.ref o3)] [(.int (1 : Int32)), (.ref o0)])) (fun X t q => XS.iloadN X.here C.hx rfl (hb C.hby d12_37) rfl q) ?_
  refine Wk.putF C (hw _ (List.mem_of_getElem? (i := 64) rfl)) Via.refl F50 F49 (Or.inr ⟨(hw _ (List.mem_of_getElem? (i := 65) rfl)), rfl, rfl⟩) (hw _ (List.mem_of_getElem? (i := 49) rfl)) (ty := .boolean) (by decide) (v' := (.int (1 : Int32))) rfl (by decide) G_o0 d12_38 ?_
  intro h56 W57
  have F58 : Fld Z h56 o0 "com/example/tripleshelf/tripleshelf/cli/Option" "required" "Z" (.int (1 : Int32)) := F50.same W57
  have F59 : Exa Z h56 o2 "java/lang/String" := F33.wr W57
  have F60 : Exa Z h56 o5 "[B" := F34.wr W57
  have F61 : Fa Z h56 o5 .byte 2 (up (up (fun _ => (.int (0 : Int32))) 0 (.int x0)) 1 (.int x1)) := F35.other W57 (Ne.symm N_o0_o5)
  have F62 : Fld Z h56 o2 "java/lang/String" "coder" "B" (.int (0 : Int32)) := F36.other W57 (Or.inl (Ne.symm N_o0_o2))
  have F63 : Fld Z h56 o2 "java/lang/String" "value" "[B" (.ref o5) := F37.other W57 (Or.inl (Ne.symm N_o0_o2))
  have F64 : Exa Z h56 o1 "java/lang/String" := F38.wr W57
  have F65 : Exa Z h56 o4 "[B" := F39.wr W57
  have F66 : Fa Z h56 o4 .byte 1 (up (fun _ => (.int (0 : Int32))) 0 (.int x2)) := F40.other W57 (Ne.symm N_o0_o4)
  have F67 : Fld Z h56 o1 "java/lang/String" "coder" "B" (.int (0 : Int32)) := F41.other W57 (Or.inl (Ne.symm N_o0_o1))
  have F68 : Fld Z h56 o1 "java/lang/String" "value" "[B" (.ref o4) := F42.other W57 (Or.inl (Ne.symm N_o0_o1))
  have F69 : Exa Z h56 o3 "java/lang/String" := F43.wr W57
  have F70 : Exa Z h56 o6 "[B" := F44.wr W57
  have F71 : Fa Z h56 o6 .byte 1 (up (fun _ => (.int (0 : Int32))) 0 (.int x3)) := F45.other W57 (Ne.symm N_o0_o6)
  have F72 : Sta Z h56 "java/lang/String" "COMPACT_STRINGS" "Z" (.int x4) := F46.wr W57
  have F73 : Fld Z h56 o3 "java/lang/String" "value" "[B" (.ref o6) := F47.other W57 (Or.inl (Ne.symm N_o0_o3))
  have F74 : Fld Z h56 o3 "java/lang/String" "coder" "B" (.int (0 : Int32)) := F48.other W57 (Or.inl (Ne.symm N_o0_o3))
  have F75 : Exa Z h56 o0 "com/example/tripleshelf/tripleshelf/cli/Option" := F49.wr W57
  have F76 : Fld Z h56 o0 "com/example/tripleshelf/tripleshelf/cli/Option" "description" "Ljava/lang/String;" .null := F51.other W57 (Or.inr (slot_ne (Or.inr (hw _ (List.mem_of_getElem? (i := 67) rfl))) (Or.inr (hw _ (List.mem_of_getElem? (i := 65) rfl))) (by decide) (t := (.object "java/lang/String")) (t' := .boolean) (by decide) (by decide)))
  have F77 : Fld Z h56 o0 "com/example/tripleshelf/tripleshelf/cli/Option" "name" "Ljava/lang/String;" (.ref o1) := F52.other W57 (Or.inr (slot_ne (Or.inr (hw _ (List.mem_of_getElem? (i := 61) rfl))) (Or.inr (hw _ (List.mem_of_getElem? (i := 65) rfl))) (by decide) (t := (.object "java/lang/String")) (t' := .boolean) (by decide) (by decide)))
  have F78 : Fld Z h56 o0 "com/example/tripleshelf/tripleshelf/cli/Option" "valueName" "Ljava/lang/String;" (.ref o2) := F32.other W57 (Or.inr (slot_ne (Or.inr (hw _ (List.mem_of_getElem? (i := 63) rfl))) (Or.inr (hw _ (List.mem_of_getElem? (i := 65) rfl))) (by decide) (t := (.object "java/lang/String")) (t' := .boolean) (by decide) (by decide)))
  have sz79 : n0 ≤ h56.size := Nat.le_trans sz53 (Nat.le_of_eq W57.size.symm)
  have sy80 : h0.size ≤ h56.size := Nat.le_trans sy54 (Nat.le_of_eq W57.size.symm)
  have K81 := K55.wr W57 (Or.inl (by simp))
  show Wk _ p l e _ s m _ below meth c n0 _ h56 0 0 (mkF m 41 #[.val (.ref o0), .val (.ref o1), .val (.ref o2), .val (.int (1 : Int32)), .val (.ref o3)] [])
  refine Wk.st (g' := (mkF m 42 #[.val (.ref o0), .val (.ref o1), .val (.ref o2), .val (.int (1 : Int32)), .val (.ref o3)] [(.ref o0)])) (fun X t q => XS.aloadN X.here C.hx rfl (hb C.hby d12_41) rfl rfl q) ?_
  refine Wk.st (g' := (mkF m 44 #[.val (.ref o0), .val (.ref o1), .val (.ref o2), .val (.int (1 : Int32)), .val (.ref o3)] [(.ref o3), (.ref o0)])) (fun X t q => XS.aload X.here C.hx rfl (hb C.hby d12_42) rfl rfl q) ?_
  refine Wk.putF C (hw _ (List.mem_of_getElem? (i := 66) rfl)) Via.refl F76 F75 (Or.inr ⟨(hw _ (List.mem_of_getElem? (i := 67) rfl)), rfl, rfl⟩) (hw _ (List.mem_of_getElem? (i := 49) rfl)) (ty := (.object "java/lang/String")) (by decide) (v' := (.ref o3)) rfl rfl G_o0 d12_44 ?_
  intro h82 W83
  have F84 : Fld Z h82 o0 "com/example/tripleshelf/tripleshelf/cli/Option" "description" "Ljava/lang/String;" (.ref o3) := F76.same W83
  have F85 : Exa Z h82 o2 "java/lang/String" := F59.wr W83
  have F86 : Exa Z h82 o5 "[B" := F60.wr W83
  have F87 : Fa Z h82 o5 .byte 2 (up (up (fun _ => (.int (0 : Int32))) 0 (.int x0)) 1 (.int x1)) := F61.other W83 (Ne.symm N_o0_o5)
  have F88 : Fld Z h82 o2 "java/lang/String" "coder" "B" (.int (0 : Int32)) := F62.other W83 (Or.inl (Ne.symm N_o0_o2))
  have F89 : Fld Z h82 o2 "java/lang/String" "value" "[B" (.ref o5) := F63.other W83 (Or.inl (Ne.symm N_o0_o2))
  have F90 : Exa Z h82 o1 "java/lang/String" := F64.wr W83
  have F91 : Exa Z h82 o4 "[B" := F65.wr W83
  have F92 : Fa Z h82 o4 .byte 1 (up (fun _ => (.int (0 : Int32))) 0 (.int x2)) := F66.other W83 (Ne.symm N_o0_o4)
  have F93 : Fld Z h82 o1 "java/lang/String" "coder" "B" (.int (0 : Int32)) := F67.other W83 (Or.inl (Ne.symm N_o0_o1))
  have F94 : Fld Z h82 o1 "java/lang/String" "value" "[B" (.ref o4) := F68.other W83 (Or.inl (Ne.symm N_o0_o1))
  have F95 : Exa Z h82 o3 "java/lang/String" := F69.wr W83
  have F96 : Exa Z h82 o6 "[B" := F70.wr W83
  have F97 : Fa Z h82 o6 .byte 1 (up (fun _ => (.int (0 : Int32))) 0 (.int x3)) := F71.other W83 (Ne.symm N_o0_o6)
  have F98 : Sta Z h82 "java/lang/String" "COMPACT_STRINGS" "Z" (.int x4) := F72.wr W83
  have F99 : Fld Z h82 o3 "java/lang/String" "value" "[B" (.ref o6) := F73.other W83 (Or.inl (Ne.symm N_o0_o3))
  have F100 : Fld Z h82 o3 "java/lang/String" "coder" "B" (.int (0 : Int32)) := F74.other W83 (Or.inl (Ne.symm N_o0_o3))
  have F101 : Exa Z h82 o0 "com/example/tripleshelf/tripleshelf/cli/Option" := F75.wr W83
  have F102 : Fld Z h82 o0 "com/example/tripleshelf/tripleshelf/cli/Option" "name" "Ljava/lang/String;" (.ref o1) := F77.other W83 (Or.inr (slot_ne (Or.inr (hw _ (List.mem_of_getElem? (i := 61) rfl))) (Or.inr (hw _ (List.mem_of_getElem? (i := 67) rfl))) (by decide) (t := (.object "java/lang/String")) (t' := (.object "java/lang/String")) (by decide) (by decide)))
  have F103 : Fld Z h82 o0 "com/example/tripleshelf/tripleshelf/cli/Option" "valueName" "Ljava/lang/String;" (.ref o2) := F78.other W83 (Or.inr (slot_ne (Or.inr (hw _ (List.mem_of_getElem? (i := 63) rfl))) (Or.inr (hw _ (List.mem_of_getElem? (i := 67) rfl))) (by decide) (t := (.object "java/lang/String")) (t' := (.object "java/lang/String")) (by decide) (by decide)))
  have F104 : Fld Z h82 o0 "com/example/tripleshelf/tripleshelf/cli/Option" "required" "Z" (.int (1 : Int32)) := F58.other W83 (Or.inr (slot_ne (Or.inr (hw _ (List.mem_of_getElem? (i := 65) rfl))) (Or.inr (hw _ (List.mem_of_getElem? (i := 67) rfl))) (by decide) (t := .boolean) (t' := (.object "java/lang/String")) (by decide) (by decide)))
  have sz105 : n0 ≤ h82.size := Nat.le_trans sz79 (Nat.le_of_eq W83.size.symm)
  have sy106 : h0.size ≤ h82.size := Nat.le_trans sy80 (Nat.le_of_eq W83.size.symm)
  have K107 := K81.wr W83 (Or.inl (by simp))
  show Wk _ p l e _ s m _ below meth c n0 _ h82 0 0 (mkF m 47 #[.val (.ref o0), .val (.ref o1), .val (.ref o2), .val (.int (1 : Int32)), .val (.ref o3)] [])
  exact Wk.retN0 C rfl d12_47 (by decide) (by decide) ⟨rfl, K107, F98, F102, F103, F104, F84⟩
set_option maxRecDepth 65536 in
set_option maxHeartbeats 40000000 in
theorem own_14_31 (l : Launch) (Z : State) (a0 : Array Value) (hw : ∀ d ∈ tables_1, d.before a0 Z = true) (n0 : Nat) (h0 : Heap) (hsz : n0 ≤ h0.size) (o0 : Addr) (o1 : Addr) (o2 : Addr) (o3 : Addr) (o4 : Addr) (o5 : Addr) (o6 : Addr) (x0 : Int32) (x1 : Int32) (x2 : Int32) (x3 : Int32) (x4 : Int32) (P0 : Exa Z h0 o2 "java/lang/String") (P1 : Exa Z h0 o5 "[B") (P2 : Fa Z h0 o5 .byte 2 (up (up (fun _ => (.int (0 : Int32))) 0 (.int x0)) 1 (.int x1))) (P3 : Fld Z h0 o2 "java/lang/String" "coder" "B" (.int (0 : Int32))) (P4 : Fld Z h0 o2 "java/lang/String" "value" "[B" (.ref o5)) (P5 : Exa Z h0 o1 "java/lang/String") (P6 : Exa Z h0 o4 "[B") (P7 : Fa Z h0 o4 .byte 1 (up (fun _ => (.int (0 : Int32))) 0 (.int x2))) (P8 : Fld Z h0 o1 "java/lang/String" "coder" "B" (.int (0 : Int32))) (P9 : Fld Z h0 o1 "java/lang/String" "value" "[B" (.ref o4)) (P10 : Exa Z h0 o3 "java/lang/String") (P11 : Exa Z h0 o6 "[B") (P12 : Fa Z h0 o6 .byte 1 (up (fun _ => (.int (0 : Int32))) 0 (.int x3))) (P13 : Fld Z h0 o3 "java/lang/String" "value" "[B" (.ref o6)) (P14 : Fld Z h0 o3 "java/lang/String" "coder" "B" (.int (0 : Int32))) (P15 : Exa Z h0 o0 "com/example/tripleshelf/tripleshelf/cli/Option") (P16 : Sta Z h0 "java/lang/String" "COMPACT_STRINGS" "Z" (.int x4)) (P17 : Fld Z h0 o0 "com/example/tripleshelf/tripleshelf/cli/Option" "name" "Ljava/lang/String;" (.ref o1)) (P18 : Fld Z h0 o0 "com/example/tripleshelf/tripleshelf/cli/Option" "valueName" "Ljava/lang/String;" (.ref o2)) (P19 : Fld Z h0 o0 "com/example/tripleshelf/tripleshelf/cli/Option" "required" "Z" (.int (1 : Int32))) (P20 : Fld Z h0 o0 "com/example/tripleshelf/tripleshelf/cli/Option" "description" "Ljava/lang/String;" (.ref o3)) (N_o0_o1 : o0 ≠ o1) (N_o0_o2 : o0 ≠ o2) (N_o0_o3 : o0 ≠ o3) (N_o0_o4 : o0 ≠ o4) (N_o0_o5 : o0 ≠ o5) (N_o0_o6 : o0 ≠ o6) (N_o1_o2 : o1 ≠ o2) (N_o1_o3 : o1 ≠ o3) (N_o1_o4 : o1 ≠ o4) (N_o1_o5 : o1 ≠ o5) (N_o1_o6 : o1 ≠ o6) (N_o2_o3 : o2 ≠ o3) (N_o2_o4 : o2 ≠ o4) (N_o2_o5 : o2 ≠ o5) (N_o2_o6 : o2 ≠ o6) (N_o3_o4 : o3 ≠ o4) (N_o3_o5 : o3 ≠ o5) (N_o3_o6 : o3 ≠ o6) (N_o4_o5 : o4 ≠ o5) (N_o4_o6 : o4 ≠ o6) (N_o5_o6 : o5 ≠ o6) (G_o0 : n0 ≤ o0) (G_o1 : n0 ≤ o1) (G_o2 : n0 ≤ o2) (G_o3 : n0 ≤ o3) (G_o4 : n0 ≤ o4) (G_o5 : n0 ≤ o5) (G_o6 : n0 ≤ o6) (nz_x4 : ¬ x4 = (0 : Int32)) :
    Met true l Z n0 (⟨"com/example/tripleshelf/tripleshelf/cli/Option", "takesValue", "()Z"⟩ : MethodName) prog_5_method_5_code 1 (some .boolean) ({ frames := 0, cells := 0, slots := 0, locals := 0 } : Room) #[(.ref o0)] h0 (fun v h => v = some (.int (1 : Int32)) ∧ h0 = h) := by
  refine Met.of (plainFor_of_name pn_5) #[.val (.ref o0)] (fun m => by first | (simp [entryFrame, mkF, argsToLocals, Value.category]; done) | rfl) ?_
  intro p e s m below meth c C
  refine Wk.st (g' := (mkF m 1 #[.val (.ref o0)] [(.ref o0)])) (fun X t q => XS.aloadN X.here C.hx rfl (hb C.hby d14_0) rfl rfl q) ?_
  refine Wk.getF C (hw _ (List.mem_of_getElem? (i := 62) rfl)) Via.refl P18 d14_1 ?_
  show Wk _ p l e _ s m _ below meth c n0 _ h0 0 0 (mkF m 4 #[.val (.ref o0)] [(.ref o2)])
  refine Wk.st (g' := (mkF m 7 #[.val (.ref o0)] [])) (fun X t q => XS.ifnullNo X.here C.hx rfl (hb C.hby d14_4) rfl q) ?_
  refine Wk.st (g' := (mkF m 8 #[.val (.ref o0)] [(.int (1 : Int32))])) (fun X t q => XS.iconst X.here C.hx rfl (hb C.hby d14_7) q) ?_
  refine Wk.st (g' := (mkF m 12 #[.val (.ref o0)] [(.int (1 : Int32))])) (fun X t q => XS.goto X.here C.hx rfl (pc0 := 8) (pc' := 12) rfl (hb C.hby d14_8) (by decide) (by decide) q) ?_
  exact Wk.retV C (t := .boolean) rfl rfl (Or.inl ⟨rfl, by simp, _, rfl⟩) d14_12 (by decide) (by decide) ⟨rfl, rfl⟩
set_option maxRecDepth 65536 in
set_option maxHeartbeats 40000000 in
theorem law_met (l : Launch) (Z : State) (a0 : Array Value) (hw : ∀ d ∈ tables_1, d.before a0 Z = true) (n0 : Nat) (h0 : Heap) (hsz : n0 ≤ h0.size) (i0 i1 i2 i3 cs : Int32) (hcs : ¬ cs = (0 : Int32)) (SC : Sta Z h0 "java/lang/String" "COMPACT_STRINGS" "Z" (.int cs)) (hh : Jvm.Lit.constHeld Z "java/lang/String" 7) (hcw : Jvm.Lit.compactW.before a0 Z = true) (hkp : ∀ (b : Addr) (cl : Cell), Z.heap[b]? = some cl → h0[b]? = some cl) :
    MetL l Z n0 x code maxLocals ret room_1 #[(.int i0), (.int i1), (.int i2), (.int i3)] (some ("", 0, 0)) h0 (fun v _ _ => v = some (.int 1)) := by
  refine MetL.of (plainFor_of_name pn_1) #[.val (.int i0), .val (.int i1), .val (.int i2), .val (.int i3), .unset, .unset, .unset, .unset, .unset, .unset, .unset, .unset] (fun m => by first | (simp [entryFrame, mkF, argsToLocals, Value.category, maxLocals]; done) | rfl) ?_
  intro p e s m below meth c C
  refine Wl.st (g' := (mkF m 1 #[.val (.int i0), .val (.int i1), .val (.int i2), .val (.int i3), .unset, .unset, .unset, .unset, .unset, .unset, .unset, .unset] [(.int i0)])) (fun X t q => XS.iloadN X.here C.hx rfl (hb C.hby at_0) rfl q) ?_
  refine Wl.st (g' := (mkF m 2 #[.val (.int i0), .val (.int i1), .val (.int i2), .val (.int i3), .unset, .unset, .unset, .unset, .unset, .unset, .unset, .unset] [(.int (3 : Int32)), (.int i0)])) (fun X t q => XS.iconst X.here C.hx rfl (hb C.hby at_1) q) ?_
  refine Wl.st (g' := (mkF m 3 #[.val (.int i0), .val (.int i1), .val (.int i2), .val (.int i3), .unset, .unset, .unset, .unset, .unset, .unset, .unset, .unset] [(.int (i0 &&& (3 : Int32)))])) (fun X t q => XS.iand X.here C.hx rfl (hb C.hby at_2) rfl q) ?_
  refine Wl.st (g' := (mkF m 5 #[.val (.int i0), .val (.int i1), .val (.int i2), .val (.int i3), .val (.int (i0 &&& (3 : Int32))), .unset, .unset, .unset, .unset, .unset, .unset, .unset] [])) (fun X t q => XS.istore X.here C.hx rfl (hb C.hby at_3) rfl (l' := #[.val (.int i0), .val (.int i1), .val (.int i2), .val (.int i3), .val (.int (i0 &&& (3 : Int32))), .unset, .unset, .unset, .unset, .unset, .unset, .unset]) rfl q) ?_
  rcases and3 i0 with hi | hi | hi | hi <;> rw [hi]
  · skip
    show Wl _ p l e _ s m _ below meth c n0 _ (some ("", 0, 0)) h0 0 0 (mkF m 5 #[.val (.int i0), .val (.int i1), .val (.int i2), .val (.int i3), .val (.int (0 : Int32)), .unset, .unset, .unset, .unset, .unset, .unset, .unset] [])
    refine Wl.ofWk ?_
    show Wk _ p l e _ s m _ below meth c n0 _ h0 0 0 (mkF m 5 #[.val (.int i0), .val (.int i1), .val (.int i2), .val (.int i3), .val (.int (0 : Int32)), .unset, .unset, .unset, .unset, .unset, .unset, .unset] [])
    refine Wk.st (g' := (mkF m 7 #[.val (.int i0), .val (.int i1), .val (.int i2), .val (.int i3), .val (.int (0 : Int32)), .unset, .unset, .unset, .unset, .unset, .unset, .unset] [(.int (0 : Int32))])) (fun X t q => XS.iload X.here C.hx rfl (hb C.hby at_5) rfl q) ?_
    refine Wk.st (g' := (mkF m 8 #[.val (.int i0), .val (.int i1), .val (.int i2), .val (.int i3), .val (.int (0 : Int32)), .unset, .unset, .unset, .unset, .unset, .unset, .unset] [(.int i1), (.int (0 : Int32))])) (fun X t q => XS.iloadN X.here C.hx rfl (hb C.hby at_7) rfl q) ?_
    refine Wk.callS C (z := (⟨"com/example/tripleshelf/tripleshelf/cli/OptionTakesValuePinLaw", "valueNameOf", "(II)Ljava/lang/String;"⟩ : MethodName)) (hw _ (List.mem_of_getElem? (i := 0) rfl)) (hw _ (List.mem_of_getElem? (i := 1) rfl)) (hw _ (List.mem_of_getElem? (i := 2) rfl)) (hw _ (List.mem_of_getElem? (i := 3) rfl)) (by decide) (own_1_0 l Z a0 hw n0 h0 hsz  i1 cs SC   hcs) (w := 0) (by decide) (by decide) pd_2 rfl (rest := []) rfl rfl (Nat.le_of_eq rfl) (by decide) (by decide) at_8 ?_
    rintro _ _ ⟨rfl, rfl⟩
    show Wk _ p l e _ s m _ below meth c n0 _ h0 0 0 (mkF m 11 #[.val (.int i0), .val (.int i1), .val (.int i2), .val (.int i3), .val (.int (0 : Int32)), .unset, .unset, .unset, .unset, .unset, .unset, .unset] [.null])
    refine Wk.st (g' := (mkF m 13 #[.val (.int i0), .val (.int i1), .val (.int i2), .val (.int i3), .val (.int (0 : Int32)), .val .null, .unset, .unset, .unset, .unset, .unset, .unset] [])) (fun X t q => XS.astore X.here C.hx rfl (hb C.hby at_11) rfl rfl (l' := #[.val (.int i0), .val (.int i1), .val (.int i2), .val (.int i3), .val (.int (0 : Int32)), .val .null, .unset, .unset, .unset, .unset, .unset, .unset]) rfl q) ?_
    refine Wk.st (g' := (mkF m 15 #[.val (.int i0), .val (.int i1), .val (.int i2), .val (.int i3), .val (.int (0 : Int32)), .val .null, .unset, .unset, .unset, .unset, .unset, .unset] [(.int (0 : Int32))])) (fun X t q => XS.iload X.here C.hx rfl (hb C.hby at_13) rfl q) ?_
    refine Wk.st (g' := (mkF m 28 #[.val (.int i0), .val (.int i1), .val (.int i2), .val (.int i3), .val (.int (0 : Int32)), .val .null, .unset, .unset, .unset, .unset, .unset, .unset] [])) (fun X t q => XS.ifYes X.here C.hx rfl (pc0 := 15) (pc' := 28) rfl (hb C.hby at_15) rfl (XT.i0_eq_t (by decide)) (by decide) (by decide) q) ?_
    refine Wk.st (g' := (mkF m 29 #[.val (.int i0), .val (.int i1), .val (.int i2), .val (.int i3), .val (.int (0 : Int32)), .val .null, .unset, .unset, .unset, .unset, .unset, .unset] [(.int (0 : Int32))])) (fun X t q => XS.iconst X.here C.hx rfl (hb C.hby at_28) q) ?_
    refine Wk.st (g' := (mkF m 31 #[.val (.int i0), .val (.int i1), .val (.int i2), .val (.int i3), .val (.int (0 : Int32)), .val .null, .val (.int (0 : Int32)), .unset, .unset, .unset, .unset, .unset] [])) (fun X t q => XS.istore X.here C.hx rfl (hb C.hby at_29) rfl (l' := #[.val (.int i0), .val (.int i1), .val (.int i2), .val (.int i3), .val (.int (0 : Int32)), .val .null, .val (.int (0 : Int32)), .unset, .unset, .unset, .unset, .unset]) rfl q) ?_
    refine Wk.st (g' := (mkF m 32 #[.val (.int i0), .val (.int i1), .val (.int i2), .val (.int i3), .val (.int (0 : Int32)), .val .null, .val (.int (0 : Int32)), .unset, .unset, .unset, .unset, .unset] [(.int (1 : Int32))])) (fun X t q => XS.iconst X.here C.hx rfl (hb C.hby at_31) q) ?_
    refine Wk.fNewP C (hw _ (List.mem_of_getElem? (i := 4) rfl)) (ty := .char) (dv := (.int (0 : Int32))) (N := 1) (ad := "[C") rfl rfl (by decide) (by decide) (by decide) (cap := 1) (by decide) (by decide) at_32 (by decide) (by decide) ?_
    intro h4 b5 g6 E7 A8 F9
    have ge10 : n0 ≤ b5 := Nat.le_trans hsz (Nat.le_of_eq g6.symm)
    have gz11 : h0.size ≤ b5 := Nat.le_trans (Nat.le_refl h0.size) (Nat.le_of_eq g6.symm)
    have F12 : Sta Z h4 "java/lang/String" "COMPACT_STRINGS" "Z" (.int cs) := SC.ext E7
    have sz13 : n0 ≤ h4.size := Nat.le_trans hsz E7.1
    have sy14 : h0.size ≤ h4.size := Nat.le_trans (Nat.le_refl h0.size) E7.1
    show Wk _ p l e _ s m _ below meth c n0 _ h4 1 1 (mkF m 34 #[.val (.int i0), .val (.int i1), .val (.int i2), .val (.int i3), .val (.int (0 : Int32)), .val .null, .val (.int (0 : Int32)), .unset, .unset, .unset, .unset, .unset] [(.ref b5)])
    refine Wk.st (g' := (mkF m 36 #[.val (.int i0), .val (.int i1), .val (.int i2), .val (.int i3), .val (.int (0 : Int32)), .val .null, .val (.int (0 : Int32)), .val (.ref b5), .unset, .unset, .unset, .unset] [])) (fun X t q => XS.astore X.here C.hx rfl (hb C.hby at_34) rfl rfl (l' := #[.val (.int i0), .val (.int i1), .val (.int i2), .val (.int i3), .val (.int (0 : Int32)), .val .null, .val (.int (0 : Int32)), .val (.ref b5), .unset, .unset, .unset, .unset]) rfl q) ?_
    refine Wk.st (g' := (mkF m 38 #[.val (.int i0), .val (.int i1), .val (.int i2), .val (.int i3), .val (.int (0 : Int32)), .val .null, .val (.int (0 : Int32)), .val (.ref b5), .unset, .unset, .unset, .unset] [(.ref b5)])) (fun X t q => XS.aload X.here C.hx rfl (hb C.hby at_36) rfl rfl q) ?_
    refine Wk.st (g' := (mkF m 39 #[.val (.int i0), .val (.int i1), .val (.int i2), .val (.int i3), .val (.int (0 : Int32)), .val .null, .val (.int (0 : Int32)), .val (.ref b5), .unset, .unset, .unset, .unset] [(.int (0 : Int32)), (.ref b5)])) (fun X t q => XS.iconst X.here C.hx rfl (hb C.hby at_38) q) ?_
    refine Wk.st (g' := (mkF m 40 #[.val (.int i0), .val (.int i1), .val (.int i2), .val (.int i3), .val (.int (0 : Int32)), .val .null, .val (.int (0 : Int32)), .val (.ref b5), .unset, .unset, .unset, .unset] [(.int i2), (.int (0 : Int32)), (.ref b5)])) (fun X t q => XS.iloadN X.here C.hx rfl (hb C.hby at_39) rfl q) ?_
    refine Wk.st (g' := (mkF m 43 #[.val (.int i0), .val (.int i1), .val (.int i2), .val (.int i3), .val (.int (0 : Int32)), .val .null, .val (.int (0 : Int32)), .val (.ref b5), .unset, .unset, .unset, .unset] [(.int (255 : Int32)), (.int i2), (.int (0 : Int32)), (.ref b5)])) (fun X t q => XS.sipush X.here C.hx rfl (hb C.hby at_40) q) ?_
    refine Wk.st (g' := (mkF m 44 #[.val (.int i0), .val (.int i1), .val (.int i2), .val (.int i3), .val (.int (0 : Int32)), .val .null, .val (.int (0 : Int32)), .val (.ref b5), .unset, .unset, .unset, .unset] [(.int (i2 &&& (255 : Int32))), (.int (0 : Int32)), (.ref b5)])) (fun X t q => XS.iand X.here C.hx rfl (hb C.hby at_43) rfl q) ?_
    refine Wk.st (g' := (mkF m 45 #[.val (.int i0), .val (.int i1), .val (.int i2), .val (.int i3), .val (.int (0 : Int32)), .val .null, .val (.int (0 : Int32)), .val (.ref b5), .unset, .unset, .unset, .unset] [(.int ((i2 &&& (255 : Int32)).toUInt32.toUInt16.toUInt32.toInt32)), (.int (0 : Int32)), (.ref b5)])) (fun X t q => XS.i2c X.here C.hx rfl (hb C.hby at_44) rfl q) ?_
    refine Wk.fStC C F9 (x' := (nar .char ((i2 &&& (255 : Int32)).toUInt32.toUInt16.toUInt32.toInt32))) rfl (i := 0) (by decide) (by decide) (by decide) ge10 at_45 ?_
    intro h15 W16 F17
    have F18 : Sta Z h15 "java/lang/String" "COMPACT_STRINGS" "Z" (.int cs) := F12.wr W16
    have F19 : Exa Z h15 b5 "[C" := A8.wr W16
    have sz20 : n0 ≤ h15.size := Nat.le_trans sz13 (Nat.le_of_eq W16.size.symm)
    have sy21 : h0.size ≤ h15.size := Nat.le_trans sy14 (Nat.le_of_eq W16.size.symm)
    show Wk _ p l e _ s m _ below meth c n0 _ h15 1 1 (mkF m 46 #[.val (.int i0), .val (.int i1), .val (.int i2), .val (.int i3), .val (.int (0 : Int32)), .val .null, .val (.int (0 : Int32)), .val (.ref b5), .unset, .unset, .unset, .unset] [])
    refine Wk.newO C (hw _ (List.mem_of_getElem? (i := 5) rfl)) (hw _ (List.mem_of_getElem? (i := 6) rfl)) (hw _ (List.mem_of_getElem? (i := 7) rfl)) at_46 (by decide) (by decide) ?_
    intro h22 b23 g24 E25 A26 D27
    have ne28 : b5 ≠ b23 := Nat.ne_of_lt (Nat.lt_of_lt_of_le F19.lt (Nat.le_of_eq g24.symm))
    have ge29 : n0 ≤ b23 := Nat.le_trans sz20 (Nat.le_of_eq g24.symm)
    have gz30 : h0.size ≤ b23 := Nat.le_trans sy21 (Nat.le_of_eq g24.symm)
    have F31 : Sta Z h22 "java/lang/String" "COMPACT_STRINGS" "Z" (.int cs) := F18.ext E25
    have F32 : Exa Z h22 b5 "[C" := F19.ext E25
    have F33 : Fa Z h22 b5 .char 1 (up (fun _ => (.int (0 : Int32))) 0 (.int (nar .char ((i2 &&& (255 : Int32)).toUInt32.toUInt16.toUInt32.toInt32)))) := F17.ext E25
    have sz34 : n0 ≤ h22.size := Nat.le_trans sz20 E25.1
    have sy35 : h0.size ≤ h22.size := Nat.le_trans sy21 E25.1
    have F36 : Fld Z h22 b23 "java/lang/String" "coder" "B" (.int (0 : Int32)) := D27 (Or.inr (hw _ (List.mem_of_getElem? (i := 31) rfl))) (ty := .byte) (by decide)
    have F37 : Fld Z h22 b23 "java/lang/String" "value" "[B" .null := D27 (Or.inr (hw _ (List.mem_of_getElem? (i := 33) rfl))) (ty := (.array .byte)) (by decide)
    show Wk _ p l e _ s m _ below meth c n0 _ h22 2 5 (mkF m 49 #[.val (.int i0), .val (.int i1), .val (.int i2), .val (.int i3), .val (.int (0 : Int32)), .val .null, .val (.int (0 : Int32)), .val (.ref b5), .unset, .unset, .unset, .unset] [(.ref b23)])
    refine Wk.st (g' := (mkF m 50 #[.val (.int i0), .val (.int i1), .val (.int i2), .val (.int i3), .val (.int (0 : Int32)), .val .null, .val (.int (0 : Int32)), .val (.ref b5), .unset, .unset, .unset, .unset] [(.ref b23), (.ref b23)])) (fun X t q => XS.dup X.here C.hx rfl (hb C.hby at_49) rfl rfl q) ?_
    refine Wk.st (g' := (mkF m 52 #[.val (.int i0), .val (.int i1), .val (.int i2), .val (.int i3), .val (.int (0 : Int32)), .val .null, .val (.int (0 : Int32)), .val (.ref b5), .unset, .unset, .unset, .unset] [(.ref b5), (.ref b23), (.ref b23)])) (fun X t q => XS.aload X.here C.hx rfl (hb C.hby at_50) rfl rfl q) ?_
    refine Wk.callI C (z := (⟨"java/lang/String", "<init>", "([C)V"⟩ : MethodName)) rfl (hw _ (List.mem_of_getElem? (i := 8) rfl)) (hw _ (List.mem_of_getElem? (i := 9) rfl)) (hw _ (List.mem_of_getElem? (i := 7) rfl)) (hw _ (List.mem_of_getElem? (i := 10) rfl)) (by decide) (own_2_1 l Z a0 hw n0 h22 sz34 b23 b5 cs (nar .char ((i2 &&& (255 : Int32)).toUInt32.toUInt16.toUInt32.toInt32)) F31 F32 F33 A26 F36 F37 (Ne.symm ne28) ge29 ge10 (latn i2) hcs) (w := 1) (by decide) (by decide) pd_1 rfl (rest := [(.ref b23)]) rfl rfl (Nat.le_of_eq rfl) (by decide) (by decide) at_52 ?_
    rintro _ h39 ⟨n38_n1_n1_b2, rfl, K40, gn46, F41, F42, F43, F44, F45⟩
    show Wk _ p l e _ s m _ below meth c n0 _ h39 3 6 (mkF m 55 #[.val (.int i0), .val (.int i1), .val (.int i2), .val (.int i3), .val (.int (0 : Int32)), .val .null, .val (.int (0 : Int32)), .val (.ref b5), .unset, .unset, .unset, .unset] [(.ref b23)])
    have ne47 : b5 ≠ n38_n1_n1_b2 := Nat.ne_of_lt (Nat.lt_of_lt_of_le F32.lt gn46)
    have ne48 : b23 ≠ n38_n1_n1_b2 := Nat.ne_of_lt (Nat.lt_of_lt_of_le A26.lt gn46)
    have ge49 : n0 ≤ n38_n1_n1_b2 := Nat.le_trans sz34 gn46
    have gz50 : h0.size ≤ n38_n1_n1_b2 := Nat.le_trans sy35 gn46
    have F51 : Exa Z h39 b5 "[C" := F32.keep K40
    have F52 : Fa Z h39 b5 .char 1 (up (fun _ => (.int (0 : Int32))) 0 (.int (nar .char ((i2 &&& (255 : Int32)).toUInt32.toUInt16.toUInt32.toInt32)))) := F33.keep K40 (nmS ne28 nm0)
    have F53 : Exa Z h39 b23 "java/lang/String" := A26.keep K40
    have sz54 : n0 ≤ h39.size := Nat.le_trans sz34 K40.1
    have sy55 : h0.size ≤ h39.size := Nat.le_trans sy35 K40.1
    refine Wk.st (g' := (mkF m 57 #[.val (.int i0), .val (.int i1), .val (.int i2), .val (.int i3), .val (.int (0 : Int32)), .val .null, .val (.int (0 : Int32)), .val (.ref b5), .val (.ref b23), .unset, .unset, .unset] [])) (fun X t q => XS.astore X.here C.hx rfl (hb C.hby at_55) rfl rfl (l' := #[.val (.int i0), .val (.int i1), .val (.int i2), .val (.int i3), .val (.int (0 : Int32)), .val .null, .val (.int (0 : Int32)), .val (.ref b5), .val (.ref b23), .unset, .unset, .unset]) rfl q) ?_
    refine Wk.st (g' := (mkF m 58 #[.val (.int i0), .val (.int i1), .val (.int i2), .val (.int i3), .val (.int (0 : Int32)), .val .null, .val (.int (0 : Int32)), .val (.ref b5), .val (.ref b23), .unset, .unset, .unset] [(.int i2)])) (fun X t q => XS.iloadN X.here C.hx rfl (hb C.hby at_57) rfl q) ?_
    refine Wk.st (g' := (mkF m 60 #[.val (.int i0), .val (.int i1), .val (.int i2), .val (.int i3), .val (.int (0 : Int32)), .val .null, .val (.int (0 : Int32)), .val (.ref b5), .val (.ref b23), .unset, .unset, .unset] [(.int (8 : Int32)), (.int i2)])) (fun X t q => XS.bipush X.here C.hx rfl (hb C.hby at_58) q) ?_
    refine Wk.st (g' := (mkF m 61 #[.val (.int i0), .val (.int i1), .val (.int i2), .val (.int i3), .val (.int (0 : Int32)), .val .null, .val (.int (0 : Int32)), .val (.ref b5), .val (.ref b23), .unset, .unset, .unset] [(.int ((i2.toUInt32 >>> ((8 : Int32) &&& 31).toUInt32).toInt32))])) (fun X t q => XS.iushr X.here C.hx rfl (hb C.hby at_60) rfl q) ?_
    refine Wk.st (g' := (mkF m 64 #[.val (.int i0), .val (.int i1), .val (.int i2), .val (.int i3), .val (.int (0 : Int32)), .val .null, .val (.int (0 : Int32)), .val (.ref b5), .val (.ref b23), .unset, .unset, .unset] [(.int (255 : Int32)), (.int ((i2.toUInt32 >>> ((8 : Int32) &&& 31).toUInt32).toInt32))])) (fun X t q => XS.sipush X.here C.hx rfl (hb C.hby at_61) q) ?_
    refine Wk.st (g' := (mkF m 65 #[.val (.int i0), .val (.int i1), .val (.int i2), .val (.int i3), .val (.int (0 : Int32)), .val .null, .val (.int (0 : Int32)), .val (.ref b5), .val (.ref b23), .unset, .unset, .unset] [(.int (((i2.toUInt32 >>> ((8 : Int32) &&& 31).toUInt32).toInt32) &&& (255 : Int32)))])) (fun X t q => XS.iand X.here C.hx rfl (hb C.hby at_64) rfl q) ?_
    refine Wk.st (g' := (mkF m 66 #[.val (.int i0), .val (.int i1), .val (.int i2), .val (.int i3), .val (.int (0 : Int32)), .val .null, .val (.int (0 : Int32)), .val (.ref b5), .val (.ref b23), .unset, .unset, .unset] [(.int ((((i2.toUInt32 >>> ((8 : Int32) &&& 31).toUInt32).toInt32) &&& (255 : Int32)).toUInt32.toUInt16.toUInt32.toInt32))])) (fun X t q => XS.i2c X.here C.hx rfl (hb C.hby at_65) rfl q) ?_
    refine Wk.callS C (z := (⟨"java/lang/String", "valueOf", "(C)Ljava/lang/String;"⟩ : MethodName)) (hw _ (List.mem_of_getElem? (i := 34) rfl)) (hw _ (List.mem_of_getElem? (i := 35) rfl)) (hw _ (List.mem_of_getElem? (i := 7) rfl)) (hw _ (List.mem_of_getElem? (i := 36) rfl)) (by decide) (own_8_6 l Z a0 hw n0 h39 sz54  ((((i2.toUInt32 >>> ((8 : Int32) &&& 31).toUInt32).toInt32) &&& (255 : Int32)).toUInt32.toUInt16.toUInt32.toInt32) cs F42   (lat0 ((i2.toUInt32 >>> ((8 : Int32) &&& 31).toUInt32).toInt32)) hcs) (w := 0) (by decide) (by decide) pd_6 rfl (rest := []) rfl rfl (Nat.le_of_eq rfl) (by decide) (by decide) at_66 ?_
    rintro _ h57 ⟨n56_b5, n56_n18_b2, rfl, K58, gn65, gn66, ne67, F59, F60, F61, F62, F63, F64⟩
    show Wk _ p l e _ s m _ below meth c n0 _ h57 5 11 (mkF m 69 #[.val (.int i0), .val (.int i1), .val (.int i2), .val (.int i3), .val (.int (0 : Int32)), .val .null, .val (.int (0 : Int32)), .val (.ref b5), .val (.ref b23), .unset, .unset, .unset] [(.ref n56_b5)])
    have ne68 : b5 ≠ n56_b5 := Nat.ne_of_lt (Nat.lt_of_lt_of_le F51.lt gn65)
    have ne69 : b23 ≠ n56_b5 := Nat.ne_of_lt (Nat.lt_of_lt_of_le F53.lt gn65)
    have ne70 : n38_n1_n1_b2 ≠ n56_b5 := Nat.ne_of_lt (Nat.lt_of_lt_of_le F41.lt gn65)
    have ge71 : n0 ≤ n56_b5 := Nat.le_trans sz54 gn65
    have gz72 : h0.size ≤ n56_b5 := Nat.le_trans sy55 gn65
    have ne73 : b5 ≠ n56_n18_b2 := Nat.ne_of_lt (Nat.lt_of_lt_of_le F51.lt gn66)
    have ne74 : b23 ≠ n56_n18_b2 := Nat.ne_of_lt (Nat.lt_of_lt_of_le F53.lt gn66)
    have ne75 : n38_n1_n1_b2 ≠ n56_n18_b2 := Nat.ne_of_lt (Nat.lt_of_lt_of_le F41.lt gn66)
    have ge76 : n0 ≤ n56_n18_b2 := Nat.le_trans sz54 gn66
    have gz77 : h0.size ≤ n56_n18_b2 := Nat.le_trans sy55 gn66
    have F78 : Exa Z h57 b5 "[C" := F51.keep K58
    have F79 : Fa Z h57 b5 .char 1 (up (fun _ => (.int (0 : Int32))) 0 (.int (nar .char ((i2 &&& (255 : Int32)).toUInt32.toUInt16.toUInt32.toInt32)))) := F52.keep K58 nm0
    have F80 : Exa Z h57 b23 "java/lang/String" := F53.keep K58
    have F81 : Exa Z h57 n38_n1_n1_b2 "[B" := F41.keep K58
    have F82 : Fa Z h57 n38_n1_n1_b2 .byte 1 (up (fun _ => (.int (0 : Int32))) 0 (.int (nar .byte ((nar .char ((i2 &&& (255 : Int32)).toUInt32.toUInt16.toUInt32.toInt32)).toInt8.toInt32)))) := F43.keep K58 nm0
    have F83 : Fld Z h57 b23 "java/lang/String" "coder" "B" (.int (0 : Int32)) := F44.keep K58 nm0
    have F84 : Fld Z h57 b23 "java/lang/String" "value" "[B" (.ref n38_n1_n1_b2) := F45.keep K58 nm0
    have sz85 : n0 ≤ h57.size := Nat.le_trans sz54 K58.1
    have sy86 : h0.size ≤ h57.size := Nat.le_trans sy55 K58.1
    refine Wk.st (g' := (mkF m 71 #[.val (.int i0), .val (.int i1), .val (.int i2), .val (.int i3), .val (.int (0 : Int32)), .val .null, .val (.int (0 : Int32)), .val (.ref b5), .val (.ref b23), .val (.ref n56_b5), .unset, .unset] [])) (fun X t q => XS.astore X.here C.hx rfl (hb C.hby at_69) rfl rfl (l' := #[.val (.int i0), .val (.int i1), .val (.int i2), .val (.int i3), .val (.int (0 : Int32)), .val .null, .val (.int (0 : Int32)), .val (.ref b5), .val (.ref b23), .val (.ref n56_b5), .unset, .unset]) rfl q) ?_
    refine Wk.newO C (hw _ (List.mem_of_getElem? (i := 48) rfl)) (hw _ (List.mem_of_getElem? (i := 49) rfl)) (hw _ (List.mem_of_getElem? (i := 50) rfl)) at_71 (by decide) (by decide) ?_
    intro h87 b88 g89 E90 A91 D92
    have ne93 : b5 ≠ b88 := Nat.ne_of_lt (Nat.lt_of_lt_of_le F78.lt (Nat.le_of_eq g89.symm))
    have ne94 : b23 ≠ b88 := Nat.ne_of_lt (Nat.lt_of_lt_of_le F80.lt (Nat.le_of_eq g89.symm))
    have ne95 : n38_n1_n1_b2 ≠ b88 := Nat.ne_of_lt (Nat.lt_of_lt_of_le F81.lt (Nat.le_of_eq g89.symm))
    have ne96 : n56_b5 ≠ b88 := Nat.ne_of_lt (Nat.lt_of_lt_of_le F59.lt (Nat.le_of_eq g89.symm))
    have ne97 : n56_n18_b2 ≠ b88 := Nat.ne_of_lt (Nat.lt_of_lt_of_le F60.lt (Nat.le_of_eq g89.symm))
    have ge98 : n0 ≤ b88 := Nat.le_trans sz85 (Nat.le_of_eq g89.symm)
    have gz99 : h0.size ≤ b88 := Nat.le_trans sy86 (Nat.le_of_eq g89.symm)
    have F100 : Exa Z h87 b5 "[C" := F78.ext E90
    have F101 : Fa Z h87 b5 .char 1 (up (fun _ => (.int (0 : Int32))) 0 (.int (nar .char ((i2 &&& (255 : Int32)).toUInt32.toUInt16.toUInt32.toInt32)))) := F79.ext E90
    have F102 : Exa Z h87 b23 "java/lang/String" := F80.ext E90
    have F103 : Exa Z h87 n38_n1_n1_b2 "[B" := F81.ext E90
    have F104 : Fa Z h87 n38_n1_n1_b2 .byte 1 (up (fun _ => (.int (0 : Int32))) 0 (.int (nar .byte ((nar .char ((i2 &&& (255 : Int32)).toUInt32.toUInt16.toUInt32.toInt32)).toInt8.toInt32)))) := F82.ext E90
    have F105 : Fld Z h87 b23 "java/lang/String" "coder" "B" (.int (0 : Int32)) := F83.ext E90
    have F106 : Fld Z h87 b23 "java/lang/String" "value" "[B" (.ref n38_n1_n1_b2) := F84.ext E90
    have F107 : Exa Z h87 n56_b5 "java/lang/String" := F59.ext E90
    have F108 : Exa Z h87 n56_n18_b2 "[B" := F60.ext E90
    have F109 : Fa Z h87 n56_n18_b2 .byte 1 (up (fun _ => (.int (0 : Int32))) 0 (.int (nar .byte (((((i2.toUInt32 >>> ((8 : Int32) &&& 31).toUInt32).toInt32) &&& (255 : Int32)).toUInt32.toUInt16.toUInt32.toInt32).toInt8.toInt32)))) := F61.ext E90
    have F110 : Sta Z h87 "java/lang/String" "COMPACT_STRINGS" "Z" (.int cs) := F62.ext E90
    have F111 : Fld Z h87 n56_b5 "java/lang/String" "value" "[B" (.ref n56_n18_b2) := F63.ext E90
    have F112 : Fld Z h87 n56_b5 "java/lang/String" "coder" "B" (.int (0 : Int32)) := F64.ext E90
    have sz113 : n0 ≤ h87.size := Nat.le_trans sz85 E90.1
    have sy114 : h0.size ≤ h87.size := Nat.le_trans sy86 E90.1
    have F115 : Fld Z h87 b88 "com/example/tripleshelf/tripleshelf/cli/Option" "name" "Ljava/lang/String;" .null := D92 (Or.inr (hw _ (List.mem_of_getElem? (i := 61) rfl))) (ty := (.object "java/lang/String")) (by decide)
    have F116 : Fld Z h87 b88 "com/example/tripleshelf/tripleshelf/cli/Option" "valueName" "Ljava/lang/String;" .null := D92 (Or.inr (hw _ (List.mem_of_getElem? (i := 63) rfl))) (ty := (.object "java/lang/String")) (by decide)
    have F117 : Fld Z h87 b88 "com/example/tripleshelf/tripleshelf/cli/Option" "required" "Z" (.int (0 : Int32)) := D92 (Or.inr (hw _ (List.mem_of_getElem? (i := 65) rfl))) (ty := .boolean) (by decide)
    have F118 : Fld Z h87 b88 "com/example/tripleshelf/tripleshelf/cli/Option" "description" "Ljava/lang/String;" .null := D92 (Or.inr (hw _ (List.mem_of_getElem? (i := 67) rfl))) (ty := (.object "java/lang/String")) (by decide)
    show Wk _ p l e _ s m _ below meth c n0 _ h87 6 15 (mkF m 74 #[.val (.int i0), .val (.int i1), .val (.int i2), .val (.int i3), .val (.int (0 : Int32)), .val .null, .val (.int (0 : Int32)), .val (.ref b5), .val (.ref b23), .val (.ref n56_b5), .unset, .unset] [(.ref b88)])
    refine Wk.st (g' := (mkF m 75 #[.val (.int i0), .val (.int i1), .val (.int i2), .val (.int i3), .val (.int (0 : Int32)), .val .null, .val (.int (0 : Int32)), .val (.ref b5), .val (.ref b23), .val (.ref n56_b5), .unset, .unset] [(.ref b88), (.ref b88)])) (fun X t q => XS.dup X.here C.hx rfl (hb C.hby at_74) rfl rfl q) ?_
    refine Wk.st (g' := (mkF m 77 #[.val (.int i0), .val (.int i1), .val (.int i2), .val (.int i3), .val (.int (0 : Int32)), .val .null, .val (.int (0 : Int32)), .val (.ref b5), .val (.ref b23), .val (.ref n56_b5), .unset, .unset] [(.ref b23), (.ref b88), (.ref b88)])) (fun X t q => XS.aload X.here C.hx rfl (hb C.hby at_75) rfl rfl q) ?_
    refine Wk.st (g' := (mkF m 79 #[.val (.int i0), .val (.int i1), .val (.int i2), .val (.int i3), .val (.int (0 : Int32)), .val .null, .val (.int (0 : Int32)), .val (.ref b5), .val (.ref b23), .val (.ref n56_b5), .unset, .unset] [.null, (.ref b23), (.ref b88), (.ref b88)])) (fun X t q => XS.aload X.here C.hx rfl (hb C.hby at_77) rfl rfl q) ?_
    refine Wk.st (g' := (mkF m 81 #[.val (.int i0), .val (.int i1), .val (.int i2), .val (.int i3), .val (.int (0 : Int32)), .val .null, .val (.int (0 : Int32)), .val (.ref b5), .val (.ref b23), .val (.ref n56_b5), .unset, .unset] [(.int (0 : Int32)), .null, (.ref b23), (.ref b88), (.ref b88)])) (fun X t q => XS.iload X.here C.hx rfl (hb C.hby at_79) rfl q) ?_
    refine Wk.st (g' := (mkF m 83 #[.val (.int i0), .val (.int i1), .val (.int i2), .val (.int i3), .val (.int (0 : Int32)), .val .null, .val (.int (0 : Int32)), .val (.ref b5), .val (.ref b23), .val (.ref n56_b5), .unset, .unset] [(.ref n56_b5), (.int (0 : Int32)), .null, (.ref b23), (.ref b88), (.ref b88)])) (fun X t q => XS.aload X.here C.hx rfl (hb C.hby at_81) rfl rfl q) ?_
    refine Wk.callI C (z := (⟨"com/example/tripleshelf/tripleshelf/cli/Option", "<init>", "(Ljava/lang/String;Ljava/lang/String;ZLjava/lang/String;)V"⟩ : MethodName)) rfl (hw _ (List.mem_of_getElem? (i := 51) rfl)) (hw _ (List.mem_of_getElem? (i := 52) rfl)) (hw _ (List.mem_of_getElem? (i := 50) rfl)) (hw _ (List.mem_of_getElem? (i := 53) rfl)) (by decide) (own_12_10 l Z a0 hw n0 h87 sz113 b88 b23 n56_b5 n38_n1_n1_b2 n56_n18_b2 (nar .byte ((nar .char ((i2 &&& (255 : Int32)).toUInt32.toUInt16.toUInt32.toInt32)).toInt8.toInt32)) (nar .byte (((((i2.toUInt32 >>> ((8 : Int32) &&& 31).toUInt32).toInt32) &&& (255 : Int32)).toUInt32.toUInt16.toUInt32.toInt32).toInt8.toInt32)) cs F102 F103 F104 F105 F106 F107 F108 F109 F110 F111 F112 A91 F115 F116 F117 F118 (Ne.symm ne94) (Ne.symm ne96) (Ne.symm ne95) (Ne.symm ne97) ne69 ne48 ne74 (Ne.symm ne70) ne67 ne75 ge98 ge29 ge71 ge49 ge76 hcs) (w := 1) (by decide) (by decide) pd_10 rfl (rest := [(.ref b88)]) rfl rfl (Nat.le_of_eq rfl) (by decide) (by decide) at_83 ?_
    rintro _ h120 ⟨rfl, K121, F122, F123, F124, F125, F126⟩
    show Wk _ p l e _ s m _ below meth c n0 _ h120 6 15 (mkF m 86 #[.val (.int i0), .val (.int i1), .val (.int i2), .val (.int i3), .val (.int (0 : Int32)), .val .null, .val (.int (0 : Int32)), .val (.ref b5), .val (.ref b23), .val (.ref n56_b5), .unset, .unset] [(.ref b88)])
    have F127 : Exa Z h120 b5 "[C" := F100.keep K121
    have F128 : Fa Z h120 b5 .char 1 (up (fun _ => (.int (0 : Int32))) 0 (.int (nar .char ((i2 &&& (255 : Int32)).toUInt32.toUInt16.toUInt32.toInt32)))) := F101.keep K121 (nmS ne93 nm0)
    have F129 : Exa Z h120 b23 "java/lang/String" := F102.keep K121
    have F130 : Exa Z h120 n38_n1_n1_b2 "[B" := F103.keep K121
    have F131 : Fa Z h120 n38_n1_n1_b2 .byte 1 (up (fun _ => (.int (0 : Int32))) 0 (.int (nar .byte ((nar .char ((i2 &&& (255 : Int32)).toUInt32.toUInt16.toUInt32.toInt32)).toInt8.toInt32)))) := F104.keep K121 (nmS ne95 nm0)
    have F132 : Fld Z h120 b23 "java/lang/String" "coder" "B" (.int (0 : Int32)) := F105.keep K121 (nmS ne94 nm0)
    have F133 : Fld Z h120 b23 "java/lang/String" "value" "[B" (.ref n38_n1_n1_b2) := F106.keep K121 (nmS ne94 nm0)
    have F134 : Exa Z h120 n56_b5 "java/lang/String" := F107.keep K121
    have F135 : Exa Z h120 n56_n18_b2 "[B" := F108.keep K121
    have F136 : Fa Z h120 n56_n18_b2 .byte 1 (up (fun _ => (.int (0 : Int32))) 0 (.int (nar .byte (((((i2.toUInt32 >>> ((8 : Int32) &&& 31).toUInt32).toInt32) &&& (255 : Int32)).toUInt32.toUInt16.toUInt32.toInt32).toInt8.toInt32)))) := F109.keep K121 (nmS ne97 nm0)
    have F137 : Fld Z h120 n56_b5 "java/lang/String" "value" "[B" (.ref n56_n18_b2) := F111.keep K121 (nmS ne96 nm0)
    have F138 : Fld Z h120 n56_b5 "java/lang/String" "coder" "B" (.int (0 : Int32)) := F112.keep K121 (nmS ne96 nm0)
    have F139 : Exa Z h120 b88 "com/example/tripleshelf/tripleshelf/cli/Option" := A91.keep K121
    have sz140 : n0 ≤ h120.size := Nat.le_trans sz113 K121.1
    have sy141 : h0.size ≤ h120.size := Nat.le_trans sy114 K121.1
    refine Wk.st (g' := (mkF m 88 #[.val (.int i0), .val (.int i1), .val (.int i2), .val (.int i3), .val (.int (0 : Int32)), .val .null, .val (.int (0 : Int32)), .val (.ref b5), .val (.ref b23), .val (.ref n56_b5), .val (.ref b88), .unset] [])) (fun X t q => XS.astore X.here C.hx rfl (hb C.hby at_86) rfl rfl (l' := #[.val (.int i0), .val (.int i1), .val (.int i2), .val (.int i3), .val (.int (0 : Int32)), .val .null, .val (.int (0 : Int32)), .val (.ref b5), .val (.ref b23), .val (.ref n56_b5), .val (.ref b88), .unset]) rfl q) ?_
    refine Wk.st (g' := (mkF m 90 #[.val (.int i0), .val (.int i1), .val (.int i2), .val (.int i3), .val (.int (0 : Int32)), .val .null, .val (.int (0 : Int32)), .val (.ref b5), .val (.ref b23), .val (.ref n56_b5), .val (.ref b88), .unset] [(.ref b88)])) (fun X t q => XS.aload X.here C.hx rfl (hb C.hby at_88) rfl rfl q) ?_
    refine Wk.callV C (x := (⟨"com/example/tripleshelf/tripleshelf/cli/Option", "takesValue", "()Z"⟩ : MethodName)) (z := (⟨"com/example/tripleshelf/tripleshelf/cli/Option", "takesValue", "()Z"⟩ : MethodName)) (K := "com/example/tripleshelf/tripleshelf/cli/Option") (hw _ (List.mem_of_getElem? (i := 68) rfl)) (hw _ (List.mem_of_getElem? (i := 69) rfl)) (hw _ (List.mem_of_getElem? (i := 71) rfl)) (hw _ (List.mem_of_getElem? (i := 70) rfl)) (hw _ (List.mem_of_getElem? (i := 50) rfl)) (hw _ (List.mem_of_getElem? (i := 72) rfl)) (by decide) (fun s' hZ' => notFace_of_selects (args := #[]) (mvT hZ' (hw _ (List.mem_of_getElem? (i := 71) rfl)))) F139 (own_14_12 l Z a0 hw n0 h120 sz140 b88 b23 n56_b5 n38_n1_n1_b2 n56_n18_b2 (nar .byte ((nar .char ((i2 &&& (255 : Int32)).toUInt32.toUInt16.toUInt32.toInt32)).toInt8.toInt32)) (nar .byte (((((i2.toUInt32 >>> ((8 : Int32) &&& 31).toUInt32).toInt32) &&& (255 : Int32)).toUInt32.toUInt16.toUInt32.toInt32).toInt8.toInt32)) cs F129 F130 F131 F132 F133 F134 F135 F136 F137 F138 F139 F122 F123 F124 F125 F126 (Ne.symm ne94) (Ne.symm ne96) (Ne.symm ne95) (Ne.symm ne97) ne69 ne48 ne74 (Ne.symm ne70) ne67 ne75 ge98 ge29 ge71 ge49 ge76 hcs) (w := 0) (by decide) (by decide) pd_12 rfl (rest := []) rfl rfl (Nat.le_of_eq rfl) (by decide) (by decide) at_90 ?_
    rintro _ _ ⟨rfl, rfl⟩
    show Wk _ p l e _ s m _ below meth c n0 _ h120 6 15 (mkF m 93 #[.val (.int i0), .val (.int i1), .val (.int i2), .val (.int i3), .val (.int (0 : Int32)), .val .null, .val (.int (0 : Int32)), .val (.ref b5), .val (.ref b23), .val (.ref n56_b5), .val (.ref b88), .unset] [(.int (0 : Int32))])
    refine Wk.st (g' := (mkF m 95 #[.val (.int i0), .val (.int i1), .val (.int i2), .val (.int i3), .val (.int (0 : Int32)), .val .null, .val (.int (0 : Int32)), .val (.ref b5), .val (.ref b23), .val (.ref n56_b5), .val (.ref b88), .val (.int (0 : Int32))] [])) (fun X t q => XS.istore X.here C.hx rfl (hb C.hby at_93) rfl (l' := #[.val (.int i0), .val (.int i1), .val (.int i2), .val (.int i3), .val (.int (0 : Int32)), .val .null, .val (.int (0 : Int32)), .val (.ref b5), .val (.ref b23), .val (.ref n56_b5), .val (.ref b88), .val (.int (0 : Int32))]) rfl q) ?_
    refine Wk.st (g' := (mkF m 97 #[.val (.int i0), .val (.int i1), .val (.int i2), .val (.int i3), .val (.int (0 : Int32)), .val .null, .val (.int (0 : Int32)), .val (.ref b5), .val (.ref b23), .val (.ref n56_b5), .val (.ref b88), .val (.int (0 : Int32))] [(.int (0 : Int32))])) (fun X t q => XS.iload X.here C.hx rfl (hb C.hby at_95) rfl q) ?_
    refine Wk.st (g' := (mkF m 99 #[.val (.int i0), .val (.int i1), .val (.int i2), .val (.int i3), .val (.int (0 : Int32)), .val .null, .val (.int (0 : Int32)), .val (.ref b5), .val (.ref b23), .val (.ref n56_b5), .val (.ref b88), .val (.int (0 : Int32))] [(.int (0 : Int32)), (.int (0 : Int32))])) (fun X t q => XS.iload X.here C.hx rfl (hb C.hby at_97) rfl q) ?_
    refine Wk.st (g' := (mkF m 106 #[.val (.int i0), .val (.int i1), .val (.int i2), .val (.int i3), .val (.int (0 : Int32)), .val .null, .val (.int (0 : Int32)), .val (.ref b5), .val (.ref b23), .val (.ref n56_b5), .val (.ref b88), .val (.int (0 : Int32))] [(.int (0 : Int32))])) (fun X t q => XS.ifYes X.here C.hx rfl (pc0 := 99) (pc' := 106) rfl (hb C.hby at_99) rfl (XT.i0_eq_t (by decide)) (by decide) (by decide) q) ?_
    refine Wk.st (g' := (mkF m 107 #[.val (.int i0), .val (.int i1), .val (.int i2), .val (.int i3), .val (.int (0 : Int32)), .val .null, .val (.int (0 : Int32)), .val (.ref b5), .val (.ref b23), .val (.ref n56_b5), .val (.ref b88), .val (.int (0 : Int32))] [(.int (0 : Int32)), (.int (0 : Int32))])) (fun X t q => XS.iconst X.here C.hx rfl (hb C.hby at_106) q) ?_
    refine Wk.st (g' := (mkF m 110 #[.val (.int i0), .val (.int i1), .val (.int i2), .val (.int i3), .val (.int (0 : Int32)), .val .null, .val (.int (0 : Int32)), .val (.ref b5), .val (.ref b23), .val (.ref n56_b5), .val (.ref b88), .val (.int (0 : Int32))] [])) (fun X t q => XS.icmpNo X.here C.hx rfl (hb C.hby at_107) rfl (XT.ii_ne_f (by decide)) q) ?_
    refine Wk.st (g' := (mkF m 111 #[.val (.int i0), .val (.int i1), .val (.int i2), .val (.int i3), .val (.int (0 : Int32)), .val .null, .val (.int (0 : Int32)), .val (.ref b5), .val (.ref b23), .val (.ref n56_b5), .val (.ref b88), .val (.int (0 : Int32))] [(.int (1 : Int32))])) (fun X t q => XS.iconst X.here C.hx rfl (hb C.hby at_110) q) ?_
    refine Wk.st (g' := (mkF m 115 #[.val (.int i0), .val (.int i1), .val (.int i2), .val (.int i3), .val (.int (0 : Int32)), .val .null, .val (.int (0 : Int32)), .val (.ref b5), .val (.ref b23), .val (.ref n56_b5), .val (.ref b88), .val (.int (0 : Int32))] [(.int (1 : Int32))])) (fun X t q => XS.goto X.here C.hx rfl (pc0 := 111) (pc' := 115) rfl (hb C.hby at_111) (by decide) (by decide) q) ?_
    exact Wk.retV C (t := .boolean) rfl rfl (Or.inl ⟨rfl, by simp, _, rfl⟩) at_115 (by decide) (by decide) rfl
  · skip
    show Wl _ p l e _ s m _ below meth c n0 _ (some ("", 0, 0)) h0 0 0 (mkF m 5 #[.val (.int i0), .val (.int i1), .val (.int i2), .val (.int i3), .val (.int (1 : Int32)), .unset, .unset, .unset, .unset, .unset, .unset, .unset] [])
    refine Wl.st (g' := (mkF m 7 #[.val (.int i0), .val (.int i1), .val (.int i2), .val (.int i3), .val (.int (1 : Int32)), .unset, .unset, .unset, .unset, .unset, .unset, .unset] [(.int (1 : Int32))])) (fun X t q => XS.iload X.here C.hx rfl (hb C.hby at_5) rfl q) ?_
    refine Wl.st (g' := (mkF m 8 #[.val (.int i0), .val (.int i1), .val (.int i2), .val (.int i3), .val (.int (1 : Int32)), .unset, .unset, .unset, .unset, .unset, .unset, .unset] [(.int i1), (.int (1 : Int32))])) (fun X t q => XS.iloadN X.here C.hx rfl (hb C.hby at_7) rfl q) ?_
    refine Wl.callS C (z := (⟨"com/example/tripleshelf/tripleshelf/cli/OptionTakesValuePinLaw", "valueNameOf", "(II)Ljava/lang/String;"⟩ : MethodName)) (hw _ (List.mem_of_getElem? (i := 0) rfl)) (hw _ (List.mem_of_getElem? (i := 1) rfl)) (hw _ (List.mem_of_getElem? (i := 2) rfl)) (hw _ (List.mem_of_getElem? (i := 3) rfl)) (by decide) (own_vn1 l Z a0 hw n0 h0 hsz i1 cs SC hh hcw hkp) (w := 0) (by decide) (by decide) pd_2 rfl (rest := []) rfl rfl (Nat.le_of_eq rfl) (by decide) (by decide) at_8 ?_
    rintro _ hv _ ⟨⟨av, rfl, KV, gv, EV, SV⟩, rfl⟩
    show Wl _ p l e _ s m _ below meth c n0 _ none hv 4 8 (mkF m 11 #[.val (.int i0), .val (.int i1), .val (.int i2), .val (.int i3), .val (.int (1 : Int32)), .unset, .unset, .unset, .unset, .unset, .unset, .unset] [(.ref av)])
    refine Wl.ofWk ?_
    show Wk _ p l e _ s m _ below meth c n0 _ hv 4 8 (mkF m 11 #[.val (.int i0), .val (.int i1), .val (.int i2), .val (.int i3), .val (.int (1 : Int32)), .unset, .unset, .unset, .unset, .unset, .unset, .unset] [(.ref av)])
    have szv : n0 ≤ hv.size := Nat.le_trans hsz KV.1
    have gev : n0 ≤ av := Nat.le_trans hsz gv
    refine Wk.st (g' := (mkF m 13 #[.val (.int i0), .val (.int i1), .val (.int i2), .val (.int i3), .val (.int (1 : Int32)), .val (.ref av), .unset, .unset, .unset, .unset, .unset, .unset] [])) (fun X t q => XS.astore X.here C.hx rfl (hb C.hby at_11) rfl rfl (l' := #[.val (.int i0), .val (.int i1), .val (.int i2), .val (.int i3), .val (.int (1 : Int32)), .val (.ref av), .unset, .unset, .unset, .unset, .unset, .unset]) rfl q) ?_
    refine Wk.st (g' := (mkF m 15 #[.val (.int i0), .val (.int i1), .val (.int i2), .val (.int i3), .val (.int (1 : Int32)), .val (.ref av), .unset, .unset, .unset, .unset, .unset, .unset] [(.int (1 : Int32))])) (fun X t q => XS.iload X.here C.hx rfl (hb C.hby at_13) rfl q) ?_
    refine Wk.st (g' := (mkF m 18 #[.val (.int i0), .val (.int i1), .val (.int i2), .val (.int i3), .val (.int (1 : Int32)), .val (.ref av), .unset, .unset, .unset, .unset, .unset, .unset] [])) (fun X t q => XS.ifNo X.here C.hx rfl (hb C.hby at_15) rfl (XT.i0_eq_f (by decide)) q) ?_
    refine Wk.st (g' := (mkF m 19 #[.val (.int i0), .val (.int i1), .val (.int i2), .val (.int i3), .val (.int (1 : Int32)), .val (.ref av), .unset, .unset, .unset, .unset, .unset, .unset] [(.int i3)])) (fun X t q => XS.iloadN X.here C.hx rfl (hb C.hby at_18) rfl q) ?_
    refine Wk.st (g' := (mkF m 20 #[.val (.int i0), .val (.int i1), .val (.int i2), .val (.int i3), .val (.int (1 : Int32)), .val (.ref av), .unset, .unset, .unset, .unset, .unset, .unset] [(.int (1 : Int32)), (.int i3)])) (fun X t q => XS.iconst X.here C.hx rfl (hb C.hby at_19) q) ?_
    refine Wk.st (g' := (mkF m 21 #[.val (.int i0), .val (.int i1), .val (.int i2), .val (.int i3), .val (.int (1 : Int32)), .val (.ref av), .unset, .unset, .unset, .unset, .unset, .unset] [(.int (i3 &&& (1 : Int32)))])) (fun X t q => XS.iand X.here C.hx rfl (hb C.hby at_20) rfl q) ?_
    by_cases hb145 : (i3 &&& (1 : Int32)) = (0 : Int32)
    · skip
      refine Wk.st (g' := (mkF m 28 #[.val (.int i0), .val (.int i1), .val (.int i2), .val (.int i3), .val (.int (1 : Int32)), .val (.ref av), .unset, .unset, .unset, .unset, .unset, .unset] [])) (fun X t q => XS.ifYes X.here C.hx rfl (pc0 := 21) (pc' := 28) rfl (hb C.hby at_21) rfl (XT.i0_eq_t hb145) (by decide) (by decide) q) ?_
      refine Wk.st (g' := (mkF m 29 #[.val (.int i0), .val (.int i1), .val (.int i2), .val (.int i3), .val (.int (1 : Int32)), .val (.ref av), .unset, .unset, .unset, .unset, .unset, .unset] [(.int (0 : Int32))])) (fun X t q => XS.iconst X.here C.hx rfl (hb C.hby at_28) q) ?_
      refine Wk.st (g' := (mkF m 31 #[.val (.int i0), .val (.int i1), .val (.int i2), .val (.int i3), .val (.int (1 : Int32)), .val (.ref av), .val (.int (0 : Int32)), .unset, .unset, .unset, .unset, .unset] [])) (fun X t q => XS.istore X.here C.hx rfl (hb C.hby at_29) rfl (l' := #[.val (.int i0), .val (.int i1), .val (.int i2), .val (.int i3), .val (.int (1 : Int32)), .val (.ref av), .val (.int (0 : Int32)), .unset, .unset, .unset, .unset, .unset]) rfl q) ?_
      refine Wk.st (g' := (mkF m 32 #[.val (.int i0), .val (.int i1), .val (.int i2), .val (.int i3), .val (.int (1 : Int32)), .val (.ref av), .val (.int (0 : Int32)), .unset, .unset, .unset, .unset, .unset] [(.int (1 : Int32))])) (fun X t q => XS.iconst X.here C.hx rfl (hb C.hby at_31) q) ?_
      refine Wk.fNewP C (hw _ (List.mem_of_getElem? (i := 4) rfl)) (ty := .char) (dv := (.int (0 : Int32))) (N := 1) (ad := "[C") rfl rfl (by decide) (by decide) (by decide) (cap := 1) (by decide) (by decide) at_32 (by decide) (by decide) ?_
      intro h146 b147 g148 E149 A150 F151
      have ne152 : av ≠ b147 := Nat.ne_of_lt (Nat.lt_of_lt_of_le EV.lt (Nat.le_of_eq g148.symm))
      have ge153 : n0 ≤ b147 := Nat.le_trans szv (Nat.le_of_eq g148.symm)
      have F154 : Sta Z h146 "java/lang/String" "COMPACT_STRINGS" "Z" (.int cs) := SV.ext E149
      have F155 : Exa Z h146 av "java/lang/String" := EV.ext E149
      have sz156 : n0 ≤ h146.size := Nat.le_trans szv E149.1
      show Wk _ p l e _ s m _ below meth c n0 _ h146 5 9 (mkF m 34 #[.val (.int i0), .val (.int i1), .val (.int i2), .val (.int i3), .val (.int (1 : Int32)), .val (.ref av), .val (.int (0 : Int32)), .unset, .unset, .unset, .unset, .unset] [(.ref b147)])
      refine Wk.st (g' := (mkF m 36 #[.val (.int i0), .val (.int i1), .val (.int i2), .val (.int i3), .val (.int (1 : Int32)), .val (.ref av), .val (.int (0 : Int32)), .val (.ref b147), .unset, .unset, .unset, .unset] [])) (fun X t q => XS.astore X.here C.hx rfl (hb C.hby at_34) rfl rfl (l' := #[.val (.int i0), .val (.int i1), .val (.int i2), .val (.int i3), .val (.int (1 : Int32)), .val (.ref av), .val (.int (0 : Int32)), .val (.ref b147), .unset, .unset, .unset, .unset]) rfl q) ?_
      refine Wk.st (g' := (mkF m 38 #[.val (.int i0), .val (.int i1), .val (.int i2), .val (.int i3), .val (.int (1 : Int32)), .val (.ref av), .val (.int (0 : Int32)), .val (.ref b147), .unset, .unset, .unset, .unset] [(.ref b147)])) (fun X t q => XS.aload X.here C.hx rfl (hb C.hby at_36) rfl rfl q) ?_
      refine Wk.st (g' := (mkF m 39 #[.val (.int i0), .val (.int i1), .val (.int i2), .val (.int i3), .val (.int (1 : Int32)), .val (.ref av), .val (.int (0 : Int32)), .val (.ref b147), .unset, .unset, .unset, .unset] [(.int (0 : Int32)), (.ref b147)])) (fun X t q => XS.iconst X.here C.hx rfl (hb C.hby at_38) q) ?_
      refine Wk.st (g' := (mkF m 40 #[.val (.int i0), .val (.int i1), .val (.int i2), .val (.int i3), .val (.int (1 : Int32)), .val (.ref av), .val (.int (0 : Int32)), .val (.ref b147), .unset, .unset, .unset, .unset] [(.int i2), (.int (0 : Int32)), (.ref b147)])) (fun X t q => XS.iloadN X.here C.hx rfl (hb C.hby at_39) rfl q) ?_
      refine Wk.st (g' := (mkF m 43 #[.val (.int i0), .val (.int i1), .val (.int i2), .val (.int i3), .val (.int (1 : Int32)), .val (.ref av), .val (.int (0 : Int32)), .val (.ref b147), .unset, .unset, .unset, .unset] [(.int (255 : Int32)), (.int i2), (.int (0 : Int32)), (.ref b147)])) (fun X t q => XS.sipush X.here C.hx rfl (hb C.hby at_40) q) ?_
      refine Wk.st (g' := (mkF m 44 #[.val (.int i0), .val (.int i1), .val (.int i2), .val (.int i3), .val (.int (1 : Int32)), .val (.ref av), .val (.int (0 : Int32)), .val (.ref b147), .unset, .unset, .unset, .unset] [(.int (i2 &&& (255 : Int32))), (.int (0 : Int32)), (.ref b147)])) (fun X t q => XS.iand X.here C.hx rfl (hb C.hby at_43) rfl q) ?_
      refine Wk.st (g' := (mkF m 45 #[.val (.int i0), .val (.int i1), .val (.int i2), .val (.int i3), .val (.int (1 : Int32)), .val (.ref av), .val (.int (0 : Int32)), .val (.ref b147), .unset, .unset, .unset, .unset] [(.int ((i2 &&& (255 : Int32)).toUInt32.toUInt16.toUInt32.toInt32)), (.int (0 : Int32)), (.ref b147)])) (fun X t q => XS.i2c X.here C.hx rfl (hb C.hby at_44) rfl q) ?_
      refine Wk.fStC C F151 (x' := (nar .char ((i2 &&& (255 : Int32)).toUInt32.toUInt16.toUInt32.toInt32))) rfl (i := 0) (by decide) (by decide) (by decide) ge153 at_45 ?_
      intro h157 W158 F159
      have F160 : Sta Z h157 "java/lang/String" "COMPACT_STRINGS" "Z" (.int cs) := F154.wr W158
      have F161 : Exa Z h157 av "java/lang/String" := F155.wr W158
      have F162 : Exa Z h157 b147 "[C" := A150.wr W158
      have sz163 : n0 ≤ h157.size := Nat.le_trans sz156 (Nat.le_of_eq W158.size.symm)
      show Wk _ p l e _ s m _ below meth c n0 _ h157 5 9 (mkF m 46 #[.val (.int i0), .val (.int i1), .val (.int i2), .val (.int i3), .val (.int (1 : Int32)), .val (.ref av), .val (.int (0 : Int32)), .val (.ref b147), .unset, .unset, .unset, .unset] [])
      refine Wk.newO C (hw _ (List.mem_of_getElem? (i := 5) rfl)) (hw _ (List.mem_of_getElem? (i := 6) rfl)) (hw _ (List.mem_of_getElem? (i := 7) rfl)) at_46 (by decide) (by decide) ?_
      intro h164 b165 g166 E167 A168 D169
      have ne170 : av ≠ b165 := Nat.ne_of_lt (Nat.lt_of_lt_of_le F161.lt (Nat.le_of_eq g166.symm))
      have ne171 : b147 ≠ b165 := Nat.ne_of_lt (Nat.lt_of_lt_of_le F162.lt (Nat.le_of_eq g166.symm))
      have ge172 : n0 ≤ b165 := Nat.le_trans sz163 (Nat.le_of_eq g166.symm)
      have F173 : Sta Z h164 "java/lang/String" "COMPACT_STRINGS" "Z" (.int cs) := F160.ext E167
      have F174 : Exa Z h164 av "java/lang/String" := F161.ext E167
      have F175 : Exa Z h164 b147 "[C" := F162.ext E167
      have F176 : Fa Z h164 b147 .char 1 (up (fun _ => (.int (0 : Int32))) 0 (.int (nar .char ((i2 &&& (255 : Int32)).toUInt32.toUInt16.toUInt32.toInt32)))) := F159.ext E167
      have sz177 : n0 ≤ h164.size := Nat.le_trans sz163 E167.1
      have F178 : Fld Z h164 b165 "java/lang/String" "coder" "B" (.int (0 : Int32)) := D169 (Or.inr (hw _ (List.mem_of_getElem? (i := 31) rfl))) (ty := .byte) (by decide)
      have F179 : Fld Z h164 b165 "java/lang/String" "value" "[B" .null := D169 (Or.inr (hw _ (List.mem_of_getElem? (i := 33) rfl))) (ty := (.array .byte)) (by decide)
      show Wk _ p l e _ s m _ below meth c n0 _ h164 6 13 (mkF m 49 #[.val (.int i0), .val (.int i1), .val (.int i2), .val (.int i3), .val (.int (1 : Int32)), .val (.ref av), .val (.int (0 : Int32)), .val (.ref b147), .unset, .unset, .unset, .unset] [(.ref b165)])
      refine Wk.st (g' := (mkF m 50 #[.val (.int i0), .val (.int i1), .val (.int i2), .val (.int i3), .val (.int (1 : Int32)), .val (.ref av), .val (.int (0 : Int32)), .val (.ref b147), .unset, .unset, .unset, .unset] [(.ref b165), (.ref b165)])) (fun X t q => XS.dup X.here C.hx rfl (hb C.hby at_49) rfl rfl q) ?_
      refine Wk.st (g' := (mkF m 52 #[.val (.int i0), .val (.int i1), .val (.int i2), .val (.int i3), .val (.int (1 : Int32)), .val (.ref av), .val (.int (0 : Int32)), .val (.ref b147), .unset, .unset, .unset, .unset] [(.ref b147), (.ref b165), (.ref b165)])) (fun X t q => XS.aload X.here C.hx rfl (hb C.hby at_50) rfl rfl q) ?_
      refine Wk.callI C (z := (⟨"java/lang/String", "<init>", "([C)V"⟩ : MethodName)) rfl (hw _ (List.mem_of_getElem? (i := 8) rfl)) (hw _ (List.mem_of_getElem? (i := 9) rfl)) (hw _ (List.mem_of_getElem? (i := 7) rfl)) (hw _ (List.mem_of_getElem? (i := 10) rfl)) (by decide) (own_2_1 l Z a0 hw n0 h164 sz177 b165 b147 cs (nar .char ((i2 &&& (255 : Int32)).toUInt32.toUInt16.toUInt32.toInt32)) F173 F175 F176 A168 F178 F179 (Ne.symm ne171) ge172 ge153 (latn i2) hcs) (w := 1) (by decide) (by decide) pd_1 rfl (rest := [(.ref b165)]) rfl rfl (Nat.le_of_eq rfl) (by decide) (by decide) at_52 ?_
      rintro _ h181 ⟨n180_n1_n1_b2, rfl, K182, gn188, F183, F184, F185, F186, F187⟩
      show Wk _ p l e _ s m _ below meth c n0 _ h181 7 14 (mkF m 55 #[.val (.int i0), .val (.int i1), .val (.int i2), .val (.int i3), .val (.int (1 : Int32)), .val (.ref av), .val (.int (0 : Int32)), .val (.ref b147), .unset, .unset, .unset, .unset] [(.ref b165)])
      have ne189 : av ≠ n180_n1_n1_b2 := Nat.ne_of_lt (Nat.lt_of_lt_of_le F174.lt gn188)
      have ne190 : b147 ≠ n180_n1_n1_b2 := Nat.ne_of_lt (Nat.lt_of_lt_of_le F175.lt gn188)
      have ne191 : b165 ≠ n180_n1_n1_b2 := Nat.ne_of_lt (Nat.lt_of_lt_of_le A168.lt gn188)
      have ge192 : n0 ≤ n180_n1_n1_b2 := Nat.le_trans sz177 gn188
      have F193 : Exa Z h181 av "java/lang/String" := F174.keep K182
      have F194 : Exa Z h181 b147 "[C" := F175.keep K182
      have F195 : Fa Z h181 b147 .char 1 (up (fun _ => (.int (0 : Int32))) 0 (.int (nar .char ((i2 &&& (255 : Int32)).toUInt32.toUInt16.toUInt32.toInt32)))) := F176.keep K182 (nmS ne171 nm0)
      have F196 : Exa Z h181 b165 "java/lang/String" := A168.keep K182
      have sz197 : n0 ≤ h181.size := Nat.le_trans sz177 K182.1
      refine Wk.st (g' := (mkF m 57 #[.val (.int i0), .val (.int i1), .val (.int i2), .val (.int i3), .val (.int (1 : Int32)), .val (.ref av), .val (.int (0 : Int32)), .val (.ref b147), .val (.ref b165), .unset, .unset, .unset] [])) (fun X t q => XS.astore X.here C.hx rfl (hb C.hby at_55) rfl rfl (l' := #[.val (.int i0), .val (.int i1), .val (.int i2), .val (.int i3), .val (.int (1 : Int32)), .val (.ref av), .val (.int (0 : Int32)), .val (.ref b147), .val (.ref b165), .unset, .unset, .unset]) rfl q) ?_
      refine Wk.st (g' := (mkF m 58 #[.val (.int i0), .val (.int i1), .val (.int i2), .val (.int i3), .val (.int (1 : Int32)), .val (.ref av), .val (.int (0 : Int32)), .val (.ref b147), .val (.ref b165), .unset, .unset, .unset] [(.int i2)])) (fun X t q => XS.iloadN X.here C.hx rfl (hb C.hby at_57) rfl q) ?_
      refine Wk.st (g' := (mkF m 60 #[.val (.int i0), .val (.int i1), .val (.int i2), .val (.int i3), .val (.int (1 : Int32)), .val (.ref av), .val (.int (0 : Int32)), .val (.ref b147), .val (.ref b165), .unset, .unset, .unset] [(.int (8 : Int32)), (.int i2)])) (fun X t q => XS.bipush X.here C.hx rfl (hb C.hby at_58) q) ?_
      refine Wk.st (g' := (mkF m 61 #[.val (.int i0), .val (.int i1), .val (.int i2), .val (.int i3), .val (.int (1 : Int32)), .val (.ref av), .val (.int (0 : Int32)), .val (.ref b147), .val (.ref b165), .unset, .unset, .unset] [(.int ((i2.toUInt32 >>> ((8 : Int32) &&& 31).toUInt32).toInt32))])) (fun X t q => XS.iushr X.here C.hx rfl (hb C.hby at_60) rfl q) ?_
      refine Wk.st (g' := (mkF m 64 #[.val (.int i0), .val (.int i1), .val (.int i2), .val (.int i3), .val (.int (1 : Int32)), .val (.ref av), .val (.int (0 : Int32)), .val (.ref b147), .val (.ref b165), .unset, .unset, .unset] [(.int (255 : Int32)), (.int ((i2.toUInt32 >>> ((8 : Int32) &&& 31).toUInt32).toInt32))])) (fun X t q => XS.sipush X.here C.hx rfl (hb C.hby at_61) q) ?_
      refine Wk.st (g' := (mkF m 65 #[.val (.int i0), .val (.int i1), .val (.int i2), .val (.int i3), .val (.int (1 : Int32)), .val (.ref av), .val (.int (0 : Int32)), .val (.ref b147), .val (.ref b165), .unset, .unset, .unset] [(.int (((i2.toUInt32 >>> ((8 : Int32) &&& 31).toUInt32).toInt32) &&& (255 : Int32)))])) (fun X t q => XS.iand X.here C.hx rfl (hb C.hby at_64) rfl q) ?_
      refine Wk.st (g' := (mkF m 66 #[.val (.int i0), .val (.int i1), .val (.int i2), .val (.int i3), .val (.int (1 : Int32)), .val (.ref av), .val (.int (0 : Int32)), .val (.ref b147), .val (.ref b165), .unset, .unset, .unset] [(.int ((((i2.toUInt32 >>> ((8 : Int32) &&& 31).toUInt32).toInt32) &&& (255 : Int32)).toUInt32.toUInt16.toUInt32.toInt32))])) (fun X t q => XS.i2c X.here C.hx rfl (hb C.hby at_65) rfl q) ?_
      refine Wk.callS C (z := (⟨"java/lang/String", "valueOf", "(C)Ljava/lang/String;"⟩ : MethodName)) (hw _ (List.mem_of_getElem? (i := 34) rfl)) (hw _ (List.mem_of_getElem? (i := 35) rfl)) (hw _ (List.mem_of_getElem? (i := 7) rfl)) (hw _ (List.mem_of_getElem? (i := 36) rfl)) (by decide) (own_8_6 l Z a0 hw n0 h181 sz197  ((((i2.toUInt32 >>> ((8 : Int32) &&& 31).toUInt32).toInt32) &&& (255 : Int32)).toUInt32.toUInt16.toUInt32.toInt32) cs F184   (lat0 ((i2.toUInt32 >>> ((8 : Int32) &&& 31).toUInt32).toInt32)) hcs) (w := 0) (by decide) (by decide) pd_6 rfl (rest := []) rfl rfl (Nat.le_of_eq rfl) (by decide) (by decide) at_66 ?_
      rintro _ h199 ⟨n198_b5, n198_n18_b2, rfl, K200, gn207, gn208, ne209, F201, F202, F203, F204, F205, F206⟩
      show Wk _ p l e _ s m _ below meth c n0 _ h199 9 19 (mkF m 69 #[.val (.int i0), .val (.int i1), .val (.int i2), .val (.int i3), .val (.int (1 : Int32)), .val (.ref av), .val (.int (0 : Int32)), .val (.ref b147), .val (.ref b165), .unset, .unset, .unset] [(.ref n198_b5)])
      have ne210 : av ≠ n198_b5 := Nat.ne_of_lt (Nat.lt_of_lt_of_le F193.lt gn207)
      have ne211 : b147 ≠ n198_b5 := Nat.ne_of_lt (Nat.lt_of_lt_of_le F194.lt gn207)
      have ne212 : b165 ≠ n198_b5 := Nat.ne_of_lt (Nat.lt_of_lt_of_le F196.lt gn207)
      have ne213 : n180_n1_n1_b2 ≠ n198_b5 := Nat.ne_of_lt (Nat.lt_of_lt_of_le F183.lt gn207)
      have ge214 : n0 ≤ n198_b5 := Nat.le_trans sz197 gn207
      have ne215 : av ≠ n198_n18_b2 := Nat.ne_of_lt (Nat.lt_of_lt_of_le F193.lt gn208)
      have ne216 : b147 ≠ n198_n18_b2 := Nat.ne_of_lt (Nat.lt_of_lt_of_le F194.lt gn208)
      have ne217 : b165 ≠ n198_n18_b2 := Nat.ne_of_lt (Nat.lt_of_lt_of_le F196.lt gn208)
      have ne218 : n180_n1_n1_b2 ≠ n198_n18_b2 := Nat.ne_of_lt (Nat.lt_of_lt_of_le F183.lt gn208)
      have ge219 : n0 ≤ n198_n18_b2 := Nat.le_trans sz197 gn208
      have F220 : Exa Z h199 av "java/lang/String" := F193.keep K200
      have F221 : Exa Z h199 b147 "[C" := F194.keep K200
      have F222 : Fa Z h199 b147 .char 1 (up (fun _ => (.int (0 : Int32))) 0 (.int (nar .char ((i2 &&& (255 : Int32)).toUInt32.toUInt16.toUInt32.toInt32)))) := F195.keep K200 nm0
      have F223 : Exa Z h199 b165 "java/lang/String" := F196.keep K200
      have F224 : Exa Z h199 n180_n1_n1_b2 "[B" := F183.keep K200
      have F225 : Fa Z h199 n180_n1_n1_b2 .byte 1 (up (fun _ => (.int (0 : Int32))) 0 (.int (nar .byte ((nar .char ((i2 &&& (255 : Int32)).toUInt32.toUInt16.toUInt32.toInt32)).toInt8.toInt32)))) := F185.keep K200 nm0
      have F226 : Fld Z h199 b165 "java/lang/String" "coder" "B" (.int (0 : Int32)) := F186.keep K200 nm0
      have F227 : Fld Z h199 b165 "java/lang/String" "value" "[B" (.ref n180_n1_n1_b2) := F187.keep K200 nm0
      have sz228 : n0 ≤ h199.size := Nat.le_trans sz197 K200.1
      refine Wk.st (g' := (mkF m 71 #[.val (.int i0), .val (.int i1), .val (.int i2), .val (.int i3), .val (.int (1 : Int32)), .val (.ref av), .val (.int (0 : Int32)), .val (.ref b147), .val (.ref b165), .val (.ref n198_b5), .unset, .unset] [])) (fun X t q => XS.astore X.here C.hx rfl (hb C.hby at_69) rfl rfl (l' := #[.val (.int i0), .val (.int i1), .val (.int i2), .val (.int i3), .val (.int (1 : Int32)), .val (.ref av), .val (.int (0 : Int32)), .val (.ref b147), .val (.ref b165), .val (.ref n198_b5), .unset, .unset]) rfl q) ?_
      refine Wk.newO C (hw _ (List.mem_of_getElem? (i := 48) rfl)) (hw _ (List.mem_of_getElem? (i := 49) rfl)) (hw _ (List.mem_of_getElem? (i := 50) rfl)) at_71 (by decide) (by decide) ?_
      intro h229 b230 g231 E232 A233 D234
      have ne235 : av ≠ b230 := Nat.ne_of_lt (Nat.lt_of_lt_of_le F220.lt (Nat.le_of_eq g231.symm))
      have ne236 : b147 ≠ b230 := Nat.ne_of_lt (Nat.lt_of_lt_of_le F221.lt (Nat.le_of_eq g231.symm))
      have ne237 : b165 ≠ b230 := Nat.ne_of_lt (Nat.lt_of_lt_of_le F223.lt (Nat.le_of_eq g231.symm))
      have ne238 : n180_n1_n1_b2 ≠ b230 := Nat.ne_of_lt (Nat.lt_of_lt_of_le F224.lt (Nat.le_of_eq g231.symm))
      have ne239 : n198_b5 ≠ b230 := Nat.ne_of_lt (Nat.lt_of_lt_of_le F201.lt (Nat.le_of_eq g231.symm))
      have ne240 : n198_n18_b2 ≠ b230 := Nat.ne_of_lt (Nat.lt_of_lt_of_le F202.lt (Nat.le_of_eq g231.symm))
      have ge241 : n0 ≤ b230 := Nat.le_trans sz228 (Nat.le_of_eq g231.symm)
      have F242 : Exa Z h229 av "java/lang/String" := F220.ext E232
      have F243 : Exa Z h229 b147 "[C" := F221.ext E232
      have F244 : Fa Z h229 b147 .char 1 (up (fun _ => (.int (0 : Int32))) 0 (.int (nar .char ((i2 &&& (255 : Int32)).toUInt32.toUInt16.toUInt32.toInt32)))) := F222.ext E232
      have F245 : Exa Z h229 b165 "java/lang/String" := F223.ext E232
      have F246 : Exa Z h229 n180_n1_n1_b2 "[B" := F224.ext E232
      have F247 : Fa Z h229 n180_n1_n1_b2 .byte 1 (up (fun _ => (.int (0 : Int32))) 0 (.int (nar .byte ((nar .char ((i2 &&& (255 : Int32)).toUInt32.toUInt16.toUInt32.toInt32)).toInt8.toInt32)))) := F225.ext E232
      have F248 : Fld Z h229 b165 "java/lang/String" "coder" "B" (.int (0 : Int32)) := F226.ext E232
      have F249 : Fld Z h229 b165 "java/lang/String" "value" "[B" (.ref n180_n1_n1_b2) := F227.ext E232
      have F250 : Exa Z h229 n198_b5 "java/lang/String" := F201.ext E232
      have F251 : Exa Z h229 n198_n18_b2 "[B" := F202.ext E232
      have F252 : Fa Z h229 n198_n18_b2 .byte 1 (up (fun _ => (.int (0 : Int32))) 0 (.int (nar .byte (((((i2.toUInt32 >>> ((8 : Int32) &&& 31).toUInt32).toInt32) &&& (255 : Int32)).toUInt32.toUInt16.toUInt32.toInt32).toInt8.toInt32)))) := F203.ext E232
      have F253 : Sta Z h229 "java/lang/String" "COMPACT_STRINGS" "Z" (.int cs) := F204.ext E232
      have F254 : Fld Z h229 n198_b5 "java/lang/String" "value" "[B" (.ref n198_n18_b2) := F205.ext E232
      have F255 : Fld Z h229 n198_b5 "java/lang/String" "coder" "B" (.int (0 : Int32)) := F206.ext E232
      have sz256 : n0 ≤ h229.size := Nat.le_trans sz228 E232.1
      have F257 : Fld Z h229 b230 "com/example/tripleshelf/tripleshelf/cli/Option" "name" "Ljava/lang/String;" .null := D234 (Or.inr (hw _ (List.mem_of_getElem? (i := 61) rfl))) (ty := (.object "java/lang/String")) (by decide)
      have F258 : Fld Z h229 b230 "com/example/tripleshelf/tripleshelf/cli/Option" "valueName" "Ljava/lang/String;" .null := D234 (Or.inr (hw _ (List.mem_of_getElem? (i := 63) rfl))) (ty := (.object "java/lang/String")) (by decide)
      have F259 : Fld Z h229 b230 "com/example/tripleshelf/tripleshelf/cli/Option" "required" "Z" (.int (0 : Int32)) := D234 (Or.inr (hw _ (List.mem_of_getElem? (i := 65) rfl))) (ty := .boolean) (by decide)
      have F260 : Fld Z h229 b230 "com/example/tripleshelf/tripleshelf/cli/Option" "description" "Ljava/lang/String;" .null := D234 (Or.inr (hw _ (List.mem_of_getElem? (i := 67) rfl))) (ty := (.object "java/lang/String")) (by decide)
      show Wk _ p l e _ s m _ below meth c n0 _ h229 10 23 (mkF m 74 #[.val (.int i0), .val (.int i1), .val (.int i2), .val (.int i3), .val (.int (1 : Int32)), .val (.ref av), .val (.int (0 : Int32)), .val (.ref b147), .val (.ref b165), .val (.ref n198_b5), .unset, .unset] [(.ref b230)])
      refine Wk.st (g' := (mkF m 75 #[.val (.int i0), .val (.int i1), .val (.int i2), .val (.int i3), .val (.int (1 : Int32)), .val (.ref av), .val (.int (0 : Int32)), .val (.ref b147), .val (.ref b165), .val (.ref n198_b5), .unset, .unset] [(.ref b230), (.ref b230)])) (fun X t q => XS.dup X.here C.hx rfl (hb C.hby at_74) rfl rfl q) ?_
      refine Wk.st (g' := (mkF m 77 #[.val (.int i0), .val (.int i1), .val (.int i2), .val (.int i3), .val (.int (1 : Int32)), .val (.ref av), .val (.int (0 : Int32)), .val (.ref b147), .val (.ref b165), .val (.ref n198_b5), .unset, .unset] [(.ref b165), (.ref b230), (.ref b230)])) (fun X t q => XS.aload X.here C.hx rfl (hb C.hby at_75) rfl rfl q) ?_
      refine Wk.st (g' := (mkF m 79 #[.val (.int i0), .val (.int i1), .val (.int i2), .val (.int i3), .val (.int (1 : Int32)), .val (.ref av), .val (.int (0 : Int32)), .val (.ref b147), .val (.ref b165), .val (.ref n198_b5), .unset, .unset] [(.ref av), (.ref b165), (.ref b230), (.ref b230)])) (fun X t q => XS.aload X.here C.hx rfl (hb C.hby at_77) rfl rfl q) ?_
      refine Wk.st (g' := (mkF m 81 #[.val (.int i0), .val (.int i1), .val (.int i2), .val (.int i3), .val (.int (1 : Int32)), .val (.ref av), .val (.int (0 : Int32)), .val (.ref b147), .val (.ref b165), .val (.ref n198_b5), .unset, .unset] [(.int (0 : Int32)), (.ref av), (.ref b165), (.ref b230), (.ref b230)])) (fun X t q => XS.iload X.here C.hx rfl (hb C.hby at_79) rfl q) ?_
      refine Wk.st (g' := (mkF m 83 #[.val (.int i0), .val (.int i1), .val (.int i2), .val (.int i3), .val (.int (1 : Int32)), .val (.ref av), .val (.int (0 : Int32)), .val (.ref b147), .val (.ref b165), .val (.ref n198_b5), .unset, .unset] [(.ref n198_b5), (.int (0 : Int32)), (.ref av), (.ref b165), (.ref b230), (.ref b230)])) (fun X t q => XS.aload X.here C.hx rfl (hb C.hby at_81) rfl rfl q) ?_
      refine Wk.callI C (z := (⟨"com/example/tripleshelf/tripleshelf/cli/Option", "<init>", "(Ljava/lang/String;Ljava/lang/String;ZLjava/lang/String;)V"⟩ : MethodName)) rfl (hw _ (List.mem_of_getElem? (i := 51) rfl)) (hw _ (List.mem_of_getElem? (i := 52) rfl)) (hw _ (List.mem_of_getElem? (i := 50) rfl)) (hw _ (List.mem_of_getElem? (i := 53) rfl)) (by decide) (own_12_13 l Z a0 hw n0 h229 sz256 b230 b165 av n198_b5 n180_n1_n1_b2 n198_n18_b2 (nar .byte ((nar .char ((i2 &&& (255 : Int32)).toUInt32.toUInt16.toUInt32.toInt32)).toInt8.toInt32)) (nar .byte (((((i2.toUInt32 >>> ((8 : Int32) &&& 31).toUInt32).toInt32) &&& (255 : Int32)).toUInt32.toUInt16.toUInt32.toInt32).toInt8.toInt32)) cs F242 F245 F246 F247 F248 F249 F250 F251 F252 F253 F254 F255 A233 F257 F258 F259 F260 (Ne.symm ne237) (Ne.symm ne235) (Ne.symm ne239) (Ne.symm ne238) (Ne.symm ne240) (Ne.symm ne170) ne212 ne191 ne217 ne210 ne189 ne215 (Ne.symm ne213) ne209 ne218 ge241 ge172 gev ge214 ge192 ge219 hcs) (w := 1) (by decide) (by decide) pd_10 rfl (rest := [(.ref b230)]) rfl rfl (Nat.le_of_eq rfl) (by decide) (by decide) at_83 ?_
      rintro _ h262 ⟨rfl, K263, F264, F265, F266, F267, F268⟩
      show Wk _ p l e _ s m _ below meth c n0 _ h262 10 23 (mkF m 86 #[.val (.int i0), .val (.int i1), .val (.int i2), .val (.int i3), .val (.int (1 : Int32)), .val (.ref av), .val (.int (0 : Int32)), .val (.ref b147), .val (.ref b165), .val (.ref n198_b5), .unset, .unset] [(.ref b230)])
      have F269 : Exa Z h262 av "java/lang/String" := F242.keep K263
      have F270 : Exa Z h262 b147 "[C" := F243.keep K263
      have F271 : Fa Z h262 b147 .char 1 (up (fun _ => (.int (0 : Int32))) 0 (.int (nar .char ((i2 &&& (255 : Int32)).toUInt32.toUInt16.toUInt32.toInt32)))) := F244.keep K263 (nmS ne236 nm0)
      have F272 : Exa Z h262 b165 "java/lang/String" := F245.keep K263
      have F273 : Exa Z h262 n180_n1_n1_b2 "[B" := F246.keep K263
      have F274 : Fa Z h262 n180_n1_n1_b2 .byte 1 (up (fun _ => (.int (0 : Int32))) 0 (.int (nar .byte ((nar .char ((i2 &&& (255 : Int32)).toUInt32.toUInt16.toUInt32.toInt32)).toInt8.toInt32)))) := F247.keep K263 (nmS ne238 nm0)
      have F275 : Fld Z h262 b165 "java/lang/String" "coder" "B" (.int (0 : Int32)) := F248.keep K263 (nmS ne237 nm0)
      have F276 : Fld Z h262 b165 "java/lang/String" "value" "[B" (.ref n180_n1_n1_b2) := F249.keep K263 (nmS ne237 nm0)
      have F277 : Exa Z h262 n198_b5 "java/lang/String" := F250.keep K263
      have F278 : Exa Z h262 n198_n18_b2 "[B" := F251.keep K263
      have F279 : Fa Z h262 n198_n18_b2 .byte 1 (up (fun _ => (.int (0 : Int32))) 0 (.int (nar .byte (((((i2.toUInt32 >>> ((8 : Int32) &&& 31).toUInt32).toInt32) &&& (255 : Int32)).toUInt32.toUInt16.toUInt32.toInt32).toInt8.toInt32)))) := F252.keep K263 (nmS ne240 nm0)
      have F280 : Fld Z h262 n198_b5 "java/lang/String" "value" "[B" (.ref n198_n18_b2) := F254.keep K263 (nmS ne239 nm0)
      have F281 : Fld Z h262 n198_b5 "java/lang/String" "coder" "B" (.int (0 : Int32)) := F255.keep K263 (nmS ne239 nm0)
      have F282 : Exa Z h262 b230 "com/example/tripleshelf/tripleshelf/cli/Option" := A233.keep K263
      have sz283 : n0 ≤ h262.size := Nat.le_trans sz256 K263.1
      refine Wk.st (g' := (mkF m 88 #[.val (.int i0), .val (.int i1), .val (.int i2), .val (.int i3), .val (.int (1 : Int32)), .val (.ref av), .val (.int (0 : Int32)), .val (.ref b147), .val (.ref b165), .val (.ref n198_b5), .val (.ref b230), .unset] [])) (fun X t q => XS.astore X.here C.hx rfl (hb C.hby at_86) rfl rfl (l' := #[.val (.int i0), .val (.int i1), .val (.int i2), .val (.int i3), .val (.int (1 : Int32)), .val (.ref av), .val (.int (0 : Int32)), .val (.ref b147), .val (.ref b165), .val (.ref n198_b5), .val (.ref b230), .unset]) rfl q) ?_
      refine Wk.st (g' := (mkF m 90 #[.val (.int i0), .val (.int i1), .val (.int i2), .val (.int i3), .val (.int (1 : Int32)), .val (.ref av), .val (.int (0 : Int32)), .val (.ref b147), .val (.ref b165), .val (.ref n198_b5), .val (.ref b230), .unset] [(.ref b230)])) (fun X t q => XS.aload X.here C.hx rfl (hb C.hby at_88) rfl rfl q) ?_
      refine Wk.callV C (x := (⟨"com/example/tripleshelf/tripleshelf/cli/Option", "takesValue", "()Z"⟩ : MethodName)) (z := (⟨"com/example/tripleshelf/tripleshelf/cli/Option", "takesValue", "()Z"⟩ : MethodName)) (K := "com/example/tripleshelf/tripleshelf/cli/Option") (hw _ (List.mem_of_getElem? (i := 68) rfl)) (hw _ (List.mem_of_getElem? (i := 69) rfl)) (hw _ (List.mem_of_getElem? (i := 71) rfl)) (hw _ (List.mem_of_getElem? (i := 70) rfl)) (hw _ (List.mem_of_getElem? (i := 50) rfl)) (hw _ (List.mem_of_getElem? (i := 72) rfl)) (by decide) (fun s' hZ' => notFace_of_selects (args := #[]) (mvT hZ' (hw _ (List.mem_of_getElem? (i := 71) rfl)))) F282 (own_14_14 l Z a0 hw n0 h262 sz283 b230 b165 av n198_b5 n180_n1_n1_b2 n198_n18_b2 (nar .byte ((nar .char ((i2 &&& (255 : Int32)).toUInt32.toUInt16.toUInt32.toInt32)).toInt8.toInt32)) (nar .byte (((((i2.toUInt32 >>> ((8 : Int32) &&& 31).toUInt32).toInt32) &&& (255 : Int32)).toUInt32.toUInt16.toUInt32.toInt32).toInt8.toInt32)) cs F269 F272 F273 F274 F275 F276 F277 F278 F279 F280 F281 F282 F264 F265 F266 F267 F268 (Ne.symm ne237) (Ne.symm ne235) (Ne.symm ne239) (Ne.symm ne238) (Ne.symm ne240) (Ne.symm ne170) ne212 ne191 ne217 ne210 ne189 ne215 (Ne.symm ne213) ne209 ne218 ge241 ge172 gev ge214 ge192 ge219 hcs) (w := 0) (by decide) (by decide) pd_12 rfl (rest := []) rfl rfl (Nat.le_of_eq rfl) (by decide) (by decide) at_90 ?_
      rintro _ _ ⟨rfl, rfl⟩
      show Wk _ p l e _ s m _ below meth c n0 _ h262 10 23 (mkF m 93 #[.val (.int i0), .val (.int i1), .val (.int i2), .val (.int i3), .val (.int (1 : Int32)), .val (.ref av), .val (.int (0 : Int32)), .val (.ref b147), .val (.ref b165), .val (.ref n198_b5), .val (.ref b230), .unset] [(.int (1 : Int32))])
      refine Wk.st (g' := (mkF m 95 #[.val (.int i0), .val (.int i1), .val (.int i2), .val (.int i3), .val (.int (1 : Int32)), .val (.ref av), .val (.int (0 : Int32)), .val (.ref b147), .val (.ref b165), .val (.ref n198_b5), .val (.ref b230), .val (.int (1 : Int32))] [])) (fun X t q => XS.istore X.here C.hx rfl (hb C.hby at_93) rfl (l' := #[.val (.int i0), .val (.int i1), .val (.int i2), .val (.int i3), .val (.int (1 : Int32)), .val (.ref av), .val (.int (0 : Int32)), .val (.ref b147), .val (.ref b165), .val (.ref n198_b5), .val (.ref b230), .val (.int (1 : Int32))]) rfl q) ?_
      refine Wk.st (g' := (mkF m 97 #[.val (.int i0), .val (.int i1), .val (.int i2), .val (.int i3), .val (.int (1 : Int32)), .val (.ref av), .val (.int (0 : Int32)), .val (.ref b147), .val (.ref b165), .val (.ref n198_b5), .val (.ref b230), .val (.int (1 : Int32))] [(.int (1 : Int32))])) (fun X t q => XS.iload X.here C.hx rfl (hb C.hby at_95) rfl q) ?_
      refine Wk.st (g' := (mkF m 99 #[.val (.int i0), .val (.int i1), .val (.int i2), .val (.int i3), .val (.int (1 : Int32)), .val (.ref av), .val (.int (0 : Int32)), .val (.ref b147), .val (.ref b165), .val (.ref n198_b5), .val (.ref b230), .val (.int (1 : Int32))] [(.int (1 : Int32)), (.int (1 : Int32))])) (fun X t q => XS.iload X.here C.hx rfl (hb C.hby at_97) rfl q) ?_
      refine Wk.st (g' := (mkF m 102 #[.val (.int i0), .val (.int i1), .val (.int i2), .val (.int i3), .val (.int (1 : Int32)), .val (.ref av), .val (.int (0 : Int32)), .val (.ref b147), .val (.ref b165), .val (.ref n198_b5), .val (.ref b230), .val (.int (1 : Int32))] [(.int (1 : Int32))])) (fun X t q => XS.ifNo X.here C.hx rfl (hb C.hby at_99) rfl (XT.i0_eq_f (by decide)) q) ?_
      refine Wk.st (g' := (mkF m 103 #[.val (.int i0), .val (.int i1), .val (.int i2), .val (.int i3), .val (.int (1 : Int32)), .val (.ref av), .val (.int (0 : Int32)), .val (.ref b147), .val (.ref b165), .val (.ref n198_b5), .val (.ref b230), .val (.int (1 : Int32))] [(.int (1 : Int32)), (.int (1 : Int32))])) (fun X t q => XS.iconst X.here C.hx rfl (hb C.hby at_102) q) ?_
      refine Wk.st (g' := (mkF m 107 #[.val (.int i0), .val (.int i1), .val (.int i2), .val (.int i3), .val (.int (1 : Int32)), .val (.ref av), .val (.int (0 : Int32)), .val (.ref b147), .val (.ref b165), .val (.ref n198_b5), .val (.ref b230), .val (.int (1 : Int32))] [(.int (1 : Int32)), (.int (1 : Int32))])) (fun X t q => XS.goto X.here C.hx rfl (pc0 := 103) (pc' := 107) rfl (hb C.hby at_103) (by decide) (by decide) q) ?_
      refine Wk.st (g' := (mkF m 110 #[.val (.int i0), .val (.int i1), .val (.int i2), .val (.int i3), .val (.int (1 : Int32)), .val (.ref av), .val (.int (0 : Int32)), .val (.ref b147), .val (.ref b165), .val (.ref n198_b5), .val (.ref b230), .val (.int (1 : Int32))] [])) (fun X t q => XS.icmpNo X.here C.hx rfl (hb C.hby at_107) rfl (XT.ii_ne_f (by decide)) q) ?_
      refine Wk.st (g' := (mkF m 111 #[.val (.int i0), .val (.int i1), .val (.int i2), .val (.int i3), .val (.int (1 : Int32)), .val (.ref av), .val (.int (0 : Int32)), .val (.ref b147), .val (.ref b165), .val (.ref n198_b5), .val (.ref b230), .val (.int (1 : Int32))] [(.int (1 : Int32))])) (fun X t q => XS.iconst X.here C.hx rfl (hb C.hby at_110) q) ?_
      refine Wk.st (g' := (mkF m 115 #[.val (.int i0), .val (.int i1), .val (.int i2), .val (.int i3), .val (.int (1 : Int32)), .val (.ref av), .val (.int (0 : Int32)), .val (.ref b147), .val (.ref b165), .val (.ref n198_b5), .val (.ref b230), .val (.int (1 : Int32))] [(.int (1 : Int32))])) (fun X t q => XS.goto X.here C.hx rfl (pc0 := 111) (pc' := 115) rfl (hb C.hby at_111) (by decide) (by decide) q) ?_
      exact Wk.retV C (t := .boolean) rfl rfl (Or.inl ⟨rfl, by simp, _, rfl⟩) at_115 (by decide) (by decide) rfl
    · skip
      refine Wk.st (g' := (mkF m 24 #[.val (.int i0), .val (.int i1), .val (.int i2), .val (.int i3), .val (.int (1 : Int32)), .val (.ref av), .unset, .unset, .unset, .unset, .unset, .unset] [])) (fun X t q => XS.ifNo X.here C.hx rfl (hb C.hby at_21) rfl (XT.i0_eq_f hb145) q) ?_
      refine Wk.st (g' := (mkF m 25 #[.val (.int i0), .val (.int i1), .val (.int i2), .val (.int i3), .val (.int (1 : Int32)), .val (.ref av), .unset, .unset, .unset, .unset, .unset, .unset] [(.int (1 : Int32))])) (fun X t q => XS.iconst X.here C.hx rfl (hb C.hby at_24) q) ?_
      refine Wk.st (g' := (mkF m 29 #[.val (.int i0), .val (.int i1), .val (.int i2), .val (.int i3), .val (.int (1 : Int32)), .val (.ref av), .unset, .unset, .unset, .unset, .unset, .unset] [(.int (1 : Int32))])) (fun X t q => XS.goto X.here C.hx rfl (pc0 := 25) (pc' := 29) rfl (hb C.hby at_25) (by decide) (by decide) q) ?_
      refine Wk.st (g' := (mkF m 31 #[.val (.int i0), .val (.int i1), .val (.int i2), .val (.int i3), .val (.int (1 : Int32)), .val (.ref av), .val (.int (1 : Int32)), .unset, .unset, .unset, .unset, .unset] [])) (fun X t q => XS.istore X.here C.hx rfl (hb C.hby at_29) rfl (l' := #[.val (.int i0), .val (.int i1), .val (.int i2), .val (.int i3), .val (.int (1 : Int32)), .val (.ref av), .val (.int (1 : Int32)), .unset, .unset, .unset, .unset, .unset]) rfl q) ?_
      refine Wk.st (g' := (mkF m 32 #[.val (.int i0), .val (.int i1), .val (.int i2), .val (.int i3), .val (.int (1 : Int32)), .val (.ref av), .val (.int (1 : Int32)), .unset, .unset, .unset, .unset, .unset] [(.int (1 : Int32))])) (fun X t q => XS.iconst X.here C.hx rfl (hb C.hby at_31) q) ?_
      refine Wk.fNewP C (hw _ (List.mem_of_getElem? (i := 4) rfl)) (ty := .char) (dv := (.int (0 : Int32))) (N := 1) (ad := "[C") rfl rfl (by decide) (by decide) (by decide) (cap := 1) (by decide) (by decide) at_32 (by decide) (by decide) ?_
      intro h287 b288 g289 E290 A291 F292
      have ne293 : av ≠ b288 := Nat.ne_of_lt (Nat.lt_of_lt_of_le EV.lt (Nat.le_of_eq g289.symm))
      have ge294 : n0 ≤ b288 := Nat.le_trans szv (Nat.le_of_eq g289.symm)
      have F295 : Sta Z h287 "java/lang/String" "COMPACT_STRINGS" "Z" (.int cs) := SV.ext E290
      have F296 : Exa Z h287 av "java/lang/String" := EV.ext E290
      have sz297 : n0 ≤ h287.size := Nat.le_trans szv E290.1
      show Wk _ p l e _ s m _ below meth c n0 _ h287 5 9 (mkF m 34 #[.val (.int i0), .val (.int i1), .val (.int i2), .val (.int i3), .val (.int (1 : Int32)), .val (.ref av), .val (.int (1 : Int32)), .unset, .unset, .unset, .unset, .unset] [(.ref b288)])
      refine Wk.st (g' := (mkF m 36 #[.val (.int i0), .val (.int i1), .val (.int i2), .val (.int i3), .val (.int (1 : Int32)), .val (.ref av), .val (.int (1 : Int32)), .val (.ref b288), .unset, .unset, .unset, .unset] [])) (fun X t q => XS.astore X.here C.hx rfl (hb C.hby at_34) rfl rfl (l' := #[.val (.int i0), .val (.int i1), .val (.int i2), .val (.int i3), .val (.int (1 : Int32)), .val (.ref av), .val (.int (1 : Int32)), .val (.ref b288), .unset, .unset, .unset, .unset]) rfl q) ?_
      refine Wk.st (g' := (mkF m 38 #[.val (.int i0), .val (.int i1), .val (.int i2), .val (.int i3), .val (.int (1 : Int32)), .val (.ref av), .val (.int (1 : Int32)), .val (.ref b288), .unset, .unset, .unset, .unset] [(.ref b288)])) (fun X t q => XS.aload X.here C.hx rfl (hb C.hby at_36) rfl rfl q) ?_
      refine Wk.st (g' := (mkF m 39 #[.val (.int i0), .val (.int i1), .val (.int i2), .val (.int i3), .val (.int (1 : Int32)), .val (.ref av), .val (.int (1 : Int32)), .val (.ref b288), .unset, .unset, .unset, .unset] [(.int (0 : Int32)), (.ref b288)])) (fun X t q => XS.iconst X.here C.hx rfl (hb C.hby at_38) q) ?_
      refine Wk.st (g' := (mkF m 40 #[.val (.int i0), .val (.int i1), .val (.int i2), .val (.int i3), .val (.int (1 : Int32)), .val (.ref av), .val (.int (1 : Int32)), .val (.ref b288), .unset, .unset, .unset, .unset] [(.int i2), (.int (0 : Int32)), (.ref b288)])) (fun X t q => XS.iloadN X.here C.hx rfl (hb C.hby at_39) rfl q) ?_
      refine Wk.st (g' := (mkF m 43 #[.val (.int i0), .val (.int i1), .val (.int i2), .val (.int i3), .val (.int (1 : Int32)), .val (.ref av), .val (.int (1 : Int32)), .val (.ref b288), .unset, .unset, .unset, .unset] [(.int (255 : Int32)), (.int i2), (.int (0 : Int32)), (.ref b288)])) (fun X t q => XS.sipush X.here C.hx rfl (hb C.hby at_40) q) ?_
      refine Wk.st (g' := (mkF m 44 #[.val (.int i0), .val (.int i1), .val (.int i2), .val (.int i3), .val (.int (1 : Int32)), .val (.ref av), .val (.int (1 : Int32)), .val (.ref b288), .unset, .unset, .unset, .unset] [(.int (i2 &&& (255 : Int32))), (.int (0 : Int32)), (.ref b288)])) (fun X t q => XS.iand X.here C.hx rfl (hb C.hby at_43) rfl q) ?_
      refine Wk.st (g' := (mkF m 45 #[.val (.int i0), .val (.int i1), .val (.int i2), .val (.int i3), .val (.int (1 : Int32)), .val (.ref av), .val (.int (1 : Int32)), .val (.ref b288), .unset, .unset, .unset, .unset] [(.int ((i2 &&& (255 : Int32)).toUInt32.toUInt16.toUInt32.toInt32)), (.int (0 : Int32)), (.ref b288)])) (fun X t q => XS.i2c X.here C.hx rfl (hb C.hby at_44) rfl q) ?_
      refine Wk.fStC C F292 (x' := (nar .char ((i2 &&& (255 : Int32)).toUInt32.toUInt16.toUInt32.toInt32))) rfl (i := 0) (by decide) (by decide) (by decide) ge294 at_45 ?_
      intro h298 W299 F300
      have F301 : Sta Z h298 "java/lang/String" "COMPACT_STRINGS" "Z" (.int cs) := F295.wr W299
      have F302 : Exa Z h298 av "java/lang/String" := F296.wr W299
      have F303 : Exa Z h298 b288 "[C" := A291.wr W299
      have sz304 : n0 ≤ h298.size := Nat.le_trans sz297 (Nat.le_of_eq W299.size.symm)
      show Wk _ p l e _ s m _ below meth c n0 _ h298 5 9 (mkF m 46 #[.val (.int i0), .val (.int i1), .val (.int i2), .val (.int i3), .val (.int (1 : Int32)), .val (.ref av), .val (.int (1 : Int32)), .val (.ref b288), .unset, .unset, .unset, .unset] [])
      refine Wk.newO C (hw _ (List.mem_of_getElem? (i := 5) rfl)) (hw _ (List.mem_of_getElem? (i := 6) rfl)) (hw _ (List.mem_of_getElem? (i := 7) rfl)) at_46 (by decide) (by decide) ?_
      intro h305 b306 g307 E308 A309 D310
      have ne311 : av ≠ b306 := Nat.ne_of_lt (Nat.lt_of_lt_of_le F302.lt (Nat.le_of_eq g307.symm))
      have ne312 : b288 ≠ b306 := Nat.ne_of_lt (Nat.lt_of_lt_of_le F303.lt (Nat.le_of_eq g307.symm))
      have ge313 : n0 ≤ b306 := Nat.le_trans sz304 (Nat.le_of_eq g307.symm)
      have F314 : Sta Z h305 "java/lang/String" "COMPACT_STRINGS" "Z" (.int cs) := F301.ext E308
      have F315 : Exa Z h305 av "java/lang/String" := F302.ext E308
      have F316 : Exa Z h305 b288 "[C" := F303.ext E308
      have F317 : Fa Z h305 b288 .char 1 (up (fun _ => (.int (0 : Int32))) 0 (.int (nar .char ((i2 &&& (255 : Int32)).toUInt32.toUInt16.toUInt32.toInt32)))) := F300.ext E308
      have sz318 : n0 ≤ h305.size := Nat.le_trans sz304 E308.1
      have F319 : Fld Z h305 b306 "java/lang/String" "coder" "B" (.int (0 : Int32)) := D310 (Or.inr (hw _ (List.mem_of_getElem? (i := 31) rfl))) (ty := .byte) (by decide)
      have F320 : Fld Z h305 b306 "java/lang/String" "value" "[B" .null := D310 (Or.inr (hw _ (List.mem_of_getElem? (i := 33) rfl))) (ty := (.array .byte)) (by decide)
      show Wk _ p l e _ s m _ below meth c n0 _ h305 6 13 (mkF m 49 #[.val (.int i0), .val (.int i1), .val (.int i2), .val (.int i3), .val (.int (1 : Int32)), .val (.ref av), .val (.int (1 : Int32)), .val (.ref b288), .unset, .unset, .unset, .unset] [(.ref b306)])
      refine Wk.st (g' := (mkF m 50 #[.val (.int i0), .val (.int i1), .val (.int i2), .val (.int i3), .val (.int (1 : Int32)), .val (.ref av), .val (.int (1 : Int32)), .val (.ref b288), .unset, .unset, .unset, .unset] [(.ref b306), (.ref b306)])) (fun X t q => XS.dup X.here C.hx rfl (hb C.hby at_49) rfl rfl q) ?_
      refine Wk.st (g' := (mkF m 52 #[.val (.int i0), .val (.int i1), .val (.int i2), .val (.int i3), .val (.int (1 : Int32)), .val (.ref av), .val (.int (1 : Int32)), .val (.ref b288), .unset, .unset, .unset, .unset] [(.ref b288), (.ref b306), (.ref b306)])) (fun X t q => XS.aload X.here C.hx rfl (hb C.hby at_50) rfl rfl q) ?_
      refine Wk.callI C (z := (⟨"java/lang/String", "<init>", "([C)V"⟩ : MethodName)) rfl (hw _ (List.mem_of_getElem? (i := 8) rfl)) (hw _ (List.mem_of_getElem? (i := 9) rfl)) (hw _ (List.mem_of_getElem? (i := 7) rfl)) (hw _ (List.mem_of_getElem? (i := 10) rfl)) (by decide) (own_2_1 l Z a0 hw n0 h305 sz318 b306 b288 cs (nar .char ((i2 &&& (255 : Int32)).toUInt32.toUInt16.toUInt32.toInt32)) F314 F316 F317 A309 F319 F320 (Ne.symm ne312) ge313 ge294 (latn i2) hcs) (w := 1) (by decide) (by decide) pd_1 rfl (rest := [(.ref b306)]) rfl rfl (Nat.le_of_eq rfl) (by decide) (by decide) at_52 ?_
      rintro _ h322 ⟨n321_n1_n1_b2, rfl, K323, gn329, F324, F325, F326, F327, F328⟩
      show Wk _ p l e _ s m _ below meth c n0 _ h322 7 14 (mkF m 55 #[.val (.int i0), .val (.int i1), .val (.int i2), .val (.int i3), .val (.int (1 : Int32)), .val (.ref av), .val (.int (1 : Int32)), .val (.ref b288), .unset, .unset, .unset, .unset] [(.ref b306)])
      have ne330 : av ≠ n321_n1_n1_b2 := Nat.ne_of_lt (Nat.lt_of_lt_of_le F315.lt gn329)
      have ne331 : b288 ≠ n321_n1_n1_b2 := Nat.ne_of_lt (Nat.lt_of_lt_of_le F316.lt gn329)
      have ne332 : b306 ≠ n321_n1_n1_b2 := Nat.ne_of_lt (Nat.lt_of_lt_of_le A309.lt gn329)
      have ge333 : n0 ≤ n321_n1_n1_b2 := Nat.le_trans sz318 gn329
      have F334 : Exa Z h322 av "java/lang/String" := F315.keep K323
      have F335 : Exa Z h322 b288 "[C" := F316.keep K323
      have F336 : Fa Z h322 b288 .char 1 (up (fun _ => (.int (0 : Int32))) 0 (.int (nar .char ((i2 &&& (255 : Int32)).toUInt32.toUInt16.toUInt32.toInt32)))) := F317.keep K323 (nmS ne312 nm0)
      have F337 : Exa Z h322 b306 "java/lang/String" := A309.keep K323
      have sz338 : n0 ≤ h322.size := Nat.le_trans sz318 K323.1
      refine Wk.st (g' := (mkF m 57 #[.val (.int i0), .val (.int i1), .val (.int i2), .val (.int i3), .val (.int (1 : Int32)), .val (.ref av), .val (.int (1 : Int32)), .val (.ref b288), .val (.ref b306), .unset, .unset, .unset] [])) (fun X t q => XS.astore X.here C.hx rfl (hb C.hby at_55) rfl rfl (l' := #[.val (.int i0), .val (.int i1), .val (.int i2), .val (.int i3), .val (.int (1 : Int32)), .val (.ref av), .val (.int (1 : Int32)), .val (.ref b288), .val (.ref b306), .unset, .unset, .unset]) rfl q) ?_
      refine Wk.st (g' := (mkF m 58 #[.val (.int i0), .val (.int i1), .val (.int i2), .val (.int i3), .val (.int (1 : Int32)), .val (.ref av), .val (.int (1 : Int32)), .val (.ref b288), .val (.ref b306), .unset, .unset, .unset] [(.int i2)])) (fun X t q => XS.iloadN X.here C.hx rfl (hb C.hby at_57) rfl q) ?_
      refine Wk.st (g' := (mkF m 60 #[.val (.int i0), .val (.int i1), .val (.int i2), .val (.int i3), .val (.int (1 : Int32)), .val (.ref av), .val (.int (1 : Int32)), .val (.ref b288), .val (.ref b306), .unset, .unset, .unset] [(.int (8 : Int32)), (.int i2)])) (fun X t q => XS.bipush X.here C.hx rfl (hb C.hby at_58) q) ?_
      refine Wk.st (g' := (mkF m 61 #[.val (.int i0), .val (.int i1), .val (.int i2), .val (.int i3), .val (.int (1 : Int32)), .val (.ref av), .val (.int (1 : Int32)), .val (.ref b288), .val (.ref b306), .unset, .unset, .unset] [(.int ((i2.toUInt32 >>> ((8 : Int32) &&& 31).toUInt32).toInt32))])) (fun X t q => XS.iushr X.here C.hx rfl (hb C.hby at_60) rfl q) ?_
      refine Wk.st (g' := (mkF m 64 #[.val (.int i0), .val (.int i1), .val (.int i2), .val (.int i3), .val (.int (1 : Int32)), .val (.ref av), .val (.int (1 : Int32)), .val (.ref b288), .val (.ref b306), .unset, .unset, .unset] [(.int (255 : Int32)), (.int ((i2.toUInt32 >>> ((8 : Int32) &&& 31).toUInt32).toInt32))])) (fun X t q => XS.sipush X.here C.hx rfl (hb C.hby at_61) q) ?_
      refine Wk.st (g' := (mkF m 65 #[.val (.int i0), .val (.int i1), .val (.int i2), .val (.int i3), .val (.int (1 : Int32)), .val (.ref av), .val (.int (1 : Int32)), .val (.ref b288), .val (.ref b306), .unset, .unset, .unset] [(.int (((i2.toUInt32 >>> ((8 : Int32) &&& 31).toUInt32).toInt32) &&& (255 : Int32)))])) (fun X t q => XS.iand X.here C.hx rfl (hb C.hby at_64) rfl q) ?_
      refine Wk.st (g' := (mkF m 66 #[.val (.int i0), .val (.int i1), .val (.int i2), .val (.int i3), .val (.int (1 : Int32)), .val (.ref av), .val (.int (1 : Int32)), .val (.ref b288), .val (.ref b306), .unset, .unset, .unset] [(.int ((((i2.toUInt32 >>> ((8 : Int32) &&& 31).toUInt32).toInt32) &&& (255 : Int32)).toUInt32.toUInt16.toUInt32.toInt32))])) (fun X t q => XS.i2c X.here C.hx rfl (hb C.hby at_65) rfl q) ?_
      refine Wk.callS C (z := (⟨"java/lang/String", "valueOf", "(C)Ljava/lang/String;"⟩ : MethodName)) (hw _ (List.mem_of_getElem? (i := 34) rfl)) (hw _ (List.mem_of_getElem? (i := 35) rfl)) (hw _ (List.mem_of_getElem? (i := 7) rfl)) (hw _ (List.mem_of_getElem? (i := 36) rfl)) (by decide) (own_8_6 l Z a0 hw n0 h322 sz338  ((((i2.toUInt32 >>> ((8 : Int32) &&& 31).toUInt32).toInt32) &&& (255 : Int32)).toUInt32.toUInt16.toUInt32.toInt32) cs F325   (lat0 ((i2.toUInt32 >>> ((8 : Int32) &&& 31).toUInt32).toInt32)) hcs) (w := 0) (by decide) (by decide) pd_6 rfl (rest := []) rfl rfl (Nat.le_of_eq rfl) (by decide) (by decide) at_66 ?_
      rintro _ h340 ⟨n339_b5, n339_n18_b2, rfl, K341, gn348, gn349, ne350, F342, F343, F344, F345, F346, F347⟩
      show Wk _ p l e _ s m _ below meth c n0 _ h340 9 19 (mkF m 69 #[.val (.int i0), .val (.int i1), .val (.int i2), .val (.int i3), .val (.int (1 : Int32)), .val (.ref av), .val (.int (1 : Int32)), .val (.ref b288), .val (.ref b306), .unset, .unset, .unset] [(.ref n339_b5)])
      have ne351 : av ≠ n339_b5 := Nat.ne_of_lt (Nat.lt_of_lt_of_le F334.lt gn348)
      have ne352 : b288 ≠ n339_b5 := Nat.ne_of_lt (Nat.lt_of_lt_of_le F335.lt gn348)
      have ne353 : b306 ≠ n339_b5 := Nat.ne_of_lt (Nat.lt_of_lt_of_le F337.lt gn348)
      have ne354 : n321_n1_n1_b2 ≠ n339_b5 := Nat.ne_of_lt (Nat.lt_of_lt_of_le F324.lt gn348)
      have ge355 : n0 ≤ n339_b5 := Nat.le_trans sz338 gn348
      have ne356 : av ≠ n339_n18_b2 := Nat.ne_of_lt (Nat.lt_of_lt_of_le F334.lt gn349)
      have ne357 : b288 ≠ n339_n18_b2 := Nat.ne_of_lt (Nat.lt_of_lt_of_le F335.lt gn349)
      have ne358 : b306 ≠ n339_n18_b2 := Nat.ne_of_lt (Nat.lt_of_lt_of_le F337.lt gn349)
      have ne359 : n321_n1_n1_b2 ≠ n339_n18_b2 := Nat.ne_of_lt (Nat.lt_of_lt_of_le F324.lt gn349)
      have ge360 : n0 ≤ n339_n18_b2 := Nat.le_trans sz338 gn349
      have F361 : Exa Z h340 av "java/lang/String" := F334.keep K341
      have F362 : Exa Z h340 b288 "[C" := F335.keep K341
      have F363 : Fa Z h340 b288 .char 1 (up (fun _ => (.int (0 : Int32))) 0 (.int (nar .char ((i2 &&& (255 : Int32)).toUInt32.toUInt16.toUInt32.toInt32)))) := F336.keep K341 nm0
      have F364 : Exa Z h340 b306 "java/lang/String" := F337.keep K341
      have F365 : Exa Z h340 n321_n1_n1_b2 "[B" := F324.keep K341
      have F366 : Fa Z h340 n321_n1_n1_b2 .byte 1 (up (fun _ => (.int (0 : Int32))) 0 (.int (nar .byte ((nar .char ((i2 &&& (255 : Int32)).toUInt32.toUInt16.toUInt32.toInt32)).toInt8.toInt32)))) := F326.keep K341 nm0
      have F367 : Fld Z h340 b306 "java/lang/String" "coder" "B" (.int (0 : Int32)) := F327.keep K341 nm0
      have F368 : Fld Z h340 b306 "java/lang/String" "value" "[B" (.ref n321_n1_n1_b2) := F328.keep K341 nm0
      have sz369 : n0 ≤ h340.size := Nat.le_trans sz338 K341.1
      refine Wk.st (g' := (mkF m 71 #[.val (.int i0), .val (.int i1), .val (.int i2), .val (.int i3), .val (.int (1 : Int32)), .val (.ref av), .val (.int (1 : Int32)), .val (.ref b288), .val (.ref b306), .val (.ref n339_b5), .unset, .unset] [])) (fun X t q => XS.astore X.here C.hx rfl (hb C.hby at_69) rfl rfl (l' := #[.val (.int i0), .val (.int i1), .val (.int i2), .val (.int i3), .val (.int (1 : Int32)), .val (.ref av), .val (.int (1 : Int32)), .val (.ref b288), .val (.ref b306), .val (.ref n339_b5), .unset, .unset]) rfl q) ?_
      refine Wk.newO C (hw _ (List.mem_of_getElem? (i := 48) rfl)) (hw _ (List.mem_of_getElem? (i := 49) rfl)) (hw _ (List.mem_of_getElem? (i := 50) rfl)) at_71 (by decide) (by decide) ?_
      intro h370 b371 g372 E373 A374 D375
      have ne376 : av ≠ b371 := Nat.ne_of_lt (Nat.lt_of_lt_of_le F361.lt (Nat.le_of_eq g372.symm))
      have ne377 : b288 ≠ b371 := Nat.ne_of_lt (Nat.lt_of_lt_of_le F362.lt (Nat.le_of_eq g372.symm))
      have ne378 : b306 ≠ b371 := Nat.ne_of_lt (Nat.lt_of_lt_of_le F364.lt (Nat.le_of_eq g372.symm))
      have ne379 : n321_n1_n1_b2 ≠ b371 := Nat.ne_of_lt (Nat.lt_of_lt_of_le F365.lt (Nat.le_of_eq g372.symm))
      have ne380 : n339_b5 ≠ b371 := Nat.ne_of_lt (Nat.lt_of_lt_of_le F342.lt (Nat.le_of_eq g372.symm))
      have ne381 : n339_n18_b2 ≠ b371 := Nat.ne_of_lt (Nat.lt_of_lt_of_le F343.lt (Nat.le_of_eq g372.symm))
      have ge382 : n0 ≤ b371 := Nat.le_trans sz369 (Nat.le_of_eq g372.symm)
      have F383 : Exa Z h370 av "java/lang/String" := F361.ext E373
      have F384 : Exa Z h370 b288 "[C" := F362.ext E373
      have F385 : Fa Z h370 b288 .char 1 (up (fun _ => (.int (0 : Int32))) 0 (.int (nar .char ((i2 &&& (255 : Int32)).toUInt32.toUInt16.toUInt32.toInt32)))) := F363.ext E373
      have F386 : Exa Z h370 b306 "java/lang/String" := F364.ext E373
      have F387 : Exa Z h370 n321_n1_n1_b2 "[B" := F365.ext E373
      have F388 : Fa Z h370 n321_n1_n1_b2 .byte 1 (up (fun _ => (.int (0 : Int32))) 0 (.int (nar .byte ((nar .char ((i2 &&& (255 : Int32)).toUInt32.toUInt16.toUInt32.toInt32)).toInt8.toInt32)))) := F366.ext E373
      have F389 : Fld Z h370 b306 "java/lang/String" "coder" "B" (.int (0 : Int32)) := F367.ext E373
      have F390 : Fld Z h370 b306 "java/lang/String" "value" "[B" (.ref n321_n1_n1_b2) := F368.ext E373
      have F391 : Exa Z h370 n339_b5 "java/lang/String" := F342.ext E373
      have F392 : Exa Z h370 n339_n18_b2 "[B" := F343.ext E373
      have F393 : Fa Z h370 n339_n18_b2 .byte 1 (up (fun _ => (.int (0 : Int32))) 0 (.int (nar .byte (((((i2.toUInt32 >>> ((8 : Int32) &&& 31).toUInt32).toInt32) &&& (255 : Int32)).toUInt32.toUInt16.toUInt32.toInt32).toInt8.toInt32)))) := F344.ext E373
      have F394 : Sta Z h370 "java/lang/String" "COMPACT_STRINGS" "Z" (.int cs) := F345.ext E373
      have F395 : Fld Z h370 n339_b5 "java/lang/String" "value" "[B" (.ref n339_n18_b2) := F346.ext E373
      have F396 : Fld Z h370 n339_b5 "java/lang/String" "coder" "B" (.int (0 : Int32)) := F347.ext E373
      have sz397 : n0 ≤ h370.size := Nat.le_trans sz369 E373.1
      have F398 : Fld Z h370 b371 "com/example/tripleshelf/tripleshelf/cli/Option" "name" "Ljava/lang/String;" .null := D375 (Or.inr (hw _ (List.mem_of_getElem? (i := 61) rfl))) (ty := (.object "java/lang/String")) (by decide)
      have F399 : Fld Z h370 b371 "com/example/tripleshelf/tripleshelf/cli/Option" "valueName" "Ljava/lang/String;" .null := D375 (Or.inr (hw _ (List.mem_of_getElem? (i := 63) rfl))) (ty := (.object "java/lang/String")) (by decide)
      have F400 : Fld Z h370 b371 "com/example/tripleshelf/tripleshelf/cli/Option" "required" "Z" (.int (0 : Int32)) := D375 (Or.inr (hw _ (List.mem_of_getElem? (i := 65) rfl))) (ty := .boolean) (by decide)
      have F401 : Fld Z h370 b371 "com/example/tripleshelf/tripleshelf/cli/Option" "description" "Ljava/lang/String;" .null := D375 (Or.inr (hw _ (List.mem_of_getElem? (i := 67) rfl))) (ty := (.object "java/lang/String")) (by decide)
      show Wk _ p l e _ s m _ below meth c n0 _ h370 10 23 (mkF m 74 #[.val (.int i0), .val (.int i1), .val (.int i2), .val (.int i3), .val (.int (1 : Int32)), .val (.ref av), .val (.int (1 : Int32)), .val (.ref b288), .val (.ref b306), .val (.ref n339_b5), .unset, .unset] [(.ref b371)])
      refine Wk.st (g' := (mkF m 75 #[.val (.int i0), .val (.int i1), .val (.int i2), .val (.int i3), .val (.int (1 : Int32)), .val (.ref av), .val (.int (1 : Int32)), .val (.ref b288), .val (.ref b306), .val (.ref n339_b5), .unset, .unset] [(.ref b371), (.ref b371)])) (fun X t q => XS.dup X.here C.hx rfl (hb C.hby at_74) rfl rfl q) ?_
      refine Wk.st (g' := (mkF m 77 #[.val (.int i0), .val (.int i1), .val (.int i2), .val (.int i3), .val (.int (1 : Int32)), .val (.ref av), .val (.int (1 : Int32)), .val (.ref b288), .val (.ref b306), .val (.ref n339_b5), .unset, .unset] [(.ref b306), (.ref b371), (.ref b371)])) (fun X t q => XS.aload X.here C.hx rfl (hb C.hby at_75) rfl rfl q) ?_
      refine Wk.st (g' := (mkF m 79 #[.val (.int i0), .val (.int i1), .val (.int i2), .val (.int i3), .val (.int (1 : Int32)), .val (.ref av), .val (.int (1 : Int32)), .val (.ref b288), .val (.ref b306), .val (.ref n339_b5), .unset, .unset] [(.ref av), (.ref b306), (.ref b371), (.ref b371)])) (fun X t q => XS.aload X.here C.hx rfl (hb C.hby at_77) rfl rfl q) ?_
      refine Wk.st (g' := (mkF m 81 #[.val (.int i0), .val (.int i1), .val (.int i2), .val (.int i3), .val (.int (1 : Int32)), .val (.ref av), .val (.int (1 : Int32)), .val (.ref b288), .val (.ref b306), .val (.ref n339_b5), .unset, .unset] [(.int (1 : Int32)), (.ref av), (.ref b306), (.ref b371), (.ref b371)])) (fun X t q => XS.iload X.here C.hx rfl (hb C.hby at_79) rfl q) ?_
      refine Wk.st (g' := (mkF m 83 #[.val (.int i0), .val (.int i1), .val (.int i2), .val (.int i3), .val (.int (1 : Int32)), .val (.ref av), .val (.int (1 : Int32)), .val (.ref b288), .val (.ref b306), .val (.ref n339_b5), .unset, .unset] [(.ref n339_b5), (.int (1 : Int32)), (.ref av), (.ref b306), (.ref b371), (.ref b371)])) (fun X t q => XS.aload X.here C.hx rfl (hb C.hby at_81) rfl rfl q) ?_
      refine Wk.callI C (z := (⟨"com/example/tripleshelf/tripleshelf/cli/Option", "<init>", "(Ljava/lang/String;Ljava/lang/String;ZLjava/lang/String;)V"⟩ : MethodName)) rfl (hw _ (List.mem_of_getElem? (i := 51) rfl)) (hw _ (List.mem_of_getElem? (i := 52) rfl)) (hw _ (List.mem_of_getElem? (i := 50) rfl)) (hw _ (List.mem_of_getElem? (i := 53) rfl)) (by decide) (own_12_15 l Z a0 hw n0 h370 sz397 b371 b306 av n339_b5 n321_n1_n1_b2 n339_n18_b2 (nar .byte ((nar .char ((i2 &&& (255 : Int32)).toUInt32.toUInt16.toUInt32.toInt32)).toInt8.toInt32)) (nar .byte (((((i2.toUInt32 >>> ((8 : Int32) &&& 31).toUInt32).toInt32) &&& (255 : Int32)).toUInt32.toUInt16.toUInt32.toInt32).toInt8.toInt32)) cs F383 F386 F387 F388 F389 F390 F391 F392 F393 F394 F395 F396 A374 F398 F399 F400 F401 (Ne.symm ne378) (Ne.symm ne376) (Ne.symm ne380) (Ne.symm ne379) (Ne.symm ne381) (Ne.symm ne311) ne353 ne332 ne358 ne351 ne330 ne356 (Ne.symm ne354) ne350 ne359 ge382 ge313 gev ge355 ge333 ge360 hcs) (w := 1) (by decide) (by decide) pd_10 rfl (rest := [(.ref b371)]) rfl rfl (Nat.le_of_eq rfl) (by decide) (by decide) at_83 ?_
      rintro _ h403 ⟨rfl, K404, F405, F406, F407, F408, F409⟩
      show Wk _ p l e _ s m _ below meth c n0 _ h403 10 23 (mkF m 86 #[.val (.int i0), .val (.int i1), .val (.int i2), .val (.int i3), .val (.int (1 : Int32)), .val (.ref av), .val (.int (1 : Int32)), .val (.ref b288), .val (.ref b306), .val (.ref n339_b5), .unset, .unset] [(.ref b371)])
      have F410 : Exa Z h403 av "java/lang/String" := F383.keep K404
      have F411 : Exa Z h403 b288 "[C" := F384.keep K404
      have F412 : Fa Z h403 b288 .char 1 (up (fun _ => (.int (0 : Int32))) 0 (.int (nar .char ((i2 &&& (255 : Int32)).toUInt32.toUInt16.toUInt32.toInt32)))) := F385.keep K404 (nmS ne377 nm0)
      have F413 : Exa Z h403 b306 "java/lang/String" := F386.keep K404
      have F414 : Exa Z h403 n321_n1_n1_b2 "[B" := F387.keep K404
      have F415 : Fa Z h403 n321_n1_n1_b2 .byte 1 (up (fun _ => (.int (0 : Int32))) 0 (.int (nar .byte ((nar .char ((i2 &&& (255 : Int32)).toUInt32.toUInt16.toUInt32.toInt32)).toInt8.toInt32)))) := F388.keep K404 (nmS ne379 nm0)
      have F416 : Fld Z h403 b306 "java/lang/String" "coder" "B" (.int (0 : Int32)) := F389.keep K404 (nmS ne378 nm0)
      have F417 : Fld Z h403 b306 "java/lang/String" "value" "[B" (.ref n321_n1_n1_b2) := F390.keep K404 (nmS ne378 nm0)
      have F418 : Exa Z h403 n339_b5 "java/lang/String" := F391.keep K404
      have F419 : Exa Z h403 n339_n18_b2 "[B" := F392.keep K404
      have F420 : Fa Z h403 n339_n18_b2 .byte 1 (up (fun _ => (.int (0 : Int32))) 0 (.int (nar .byte (((((i2.toUInt32 >>> ((8 : Int32) &&& 31).toUInt32).toInt32) &&& (255 : Int32)).toUInt32.toUInt16.toUInt32.toInt32).toInt8.toInt32)))) := F393.keep K404 (nmS ne381 nm0)
      have F421 : Fld Z h403 n339_b5 "java/lang/String" "value" "[B" (.ref n339_n18_b2) := F395.keep K404 (nmS ne380 nm0)
      have F422 : Fld Z h403 n339_b5 "java/lang/String" "coder" "B" (.int (0 : Int32)) := F396.keep K404 (nmS ne380 nm0)
      have F423 : Exa Z h403 b371 "com/example/tripleshelf/tripleshelf/cli/Option" := A374.keep K404
      have sz424 : n0 ≤ h403.size := Nat.le_trans sz397 K404.1
      refine Wk.st (g' := (mkF m 88 #[.val (.int i0), .val (.int i1), .val (.int i2), .val (.int i3), .val (.int (1 : Int32)), .val (.ref av), .val (.int (1 : Int32)), .val (.ref b288), .val (.ref b306), .val (.ref n339_b5), .val (.ref b371), .unset] [])) (fun X t q => XS.astore X.here C.hx rfl (hb C.hby at_86) rfl rfl (l' := #[.val (.int i0), .val (.int i1), .val (.int i2), .val (.int i3), .val (.int (1 : Int32)), .val (.ref av), .val (.int (1 : Int32)), .val (.ref b288), .val (.ref b306), .val (.ref n339_b5), .val (.ref b371), .unset]) rfl q) ?_
      refine Wk.st (g' := (mkF m 90 #[.val (.int i0), .val (.int i1), .val (.int i2), .val (.int i3), .val (.int (1 : Int32)), .val (.ref av), .val (.int (1 : Int32)), .val (.ref b288), .val (.ref b306), .val (.ref n339_b5), .val (.ref b371), .unset] [(.ref b371)])) (fun X t q => XS.aload X.here C.hx rfl (hb C.hby at_88) rfl rfl q) ?_
      refine Wk.callV C (x := (⟨"com/example/tripleshelf/tripleshelf/cli/Option", "takesValue", "()Z"⟩ : MethodName)) (z := (⟨"com/example/tripleshelf/tripleshelf/cli/Option", "takesValue", "()Z"⟩ : MethodName)) (K := "com/example/tripleshelf/tripleshelf/cli/Option") (hw _ (List.mem_of_getElem? (i := 68) rfl)) (hw _ (List.mem_of_getElem? (i := 69) rfl)) (hw _ (List.mem_of_getElem? (i := 71) rfl)) (hw _ (List.mem_of_getElem? (i := 70) rfl)) (hw _ (List.mem_of_getElem? (i := 50) rfl)) (hw _ (List.mem_of_getElem? (i := 72) rfl)) (by decide) (fun s' hZ' => notFace_of_selects (args := #[]) (mvT hZ' (hw _ (List.mem_of_getElem? (i := 71) rfl)))) F423 (own_14_16 l Z a0 hw n0 h403 sz424 b371 b306 av n339_b5 n321_n1_n1_b2 n339_n18_b2 (nar .byte ((nar .char ((i2 &&& (255 : Int32)).toUInt32.toUInt16.toUInt32.toInt32)).toInt8.toInt32)) (nar .byte (((((i2.toUInt32 >>> ((8 : Int32) &&& 31).toUInt32).toInt32) &&& (255 : Int32)).toUInt32.toUInt16.toUInt32.toInt32).toInt8.toInt32)) cs F410 F413 F414 F415 F416 F417 F418 F419 F420 F421 F422 F423 F405 F406 F407 F408 F409 (Ne.symm ne378) (Ne.symm ne376) (Ne.symm ne380) (Ne.symm ne379) (Ne.symm ne381) (Ne.symm ne311) ne353 ne332 ne358 ne351 ne330 ne356 (Ne.symm ne354) ne350 ne359 ge382 ge313 gev ge355 ge333 ge360 hcs) (w := 0) (by decide) (by decide) pd_12 rfl (rest := []) rfl rfl (Nat.le_of_eq rfl) (by decide) (by decide) at_90 ?_
      rintro _ _ ⟨rfl, rfl⟩
      show Wk _ p l e _ s m _ below meth c n0 _ h403 10 23 (mkF m 93 #[.val (.int i0), .val (.int i1), .val (.int i2), .val (.int i3), .val (.int (1 : Int32)), .val (.ref av), .val (.int (1 : Int32)), .val (.ref b288), .val (.ref b306), .val (.ref n339_b5), .val (.ref b371), .unset] [(.int (1 : Int32))])
      refine Wk.st (g' := (mkF m 95 #[.val (.int i0), .val (.int i1), .val (.int i2), .val (.int i3), .val (.int (1 : Int32)), .val (.ref av), .val (.int (1 : Int32)), .val (.ref b288), .val (.ref b306), .val (.ref n339_b5), .val (.ref b371), .val (.int (1 : Int32))] [])) (fun X t q => XS.istore X.here C.hx rfl (hb C.hby at_93) rfl (l' := #[.val (.int i0), .val (.int i1), .val (.int i2), .val (.int i3), .val (.int (1 : Int32)), .val (.ref av), .val (.int (1 : Int32)), .val (.ref b288), .val (.ref b306), .val (.ref n339_b5), .val (.ref b371), .val (.int (1 : Int32))]) rfl q) ?_
      refine Wk.st (g' := (mkF m 97 #[.val (.int i0), .val (.int i1), .val (.int i2), .val (.int i3), .val (.int (1 : Int32)), .val (.ref av), .val (.int (1 : Int32)), .val (.ref b288), .val (.ref b306), .val (.ref n339_b5), .val (.ref b371), .val (.int (1 : Int32))] [(.int (1 : Int32))])) (fun X t q => XS.iload X.here C.hx rfl (hb C.hby at_95) rfl q) ?_
      refine Wk.st (g' := (mkF m 99 #[.val (.int i0), .val (.int i1), .val (.int i2), .val (.int i3), .val (.int (1 : Int32)), .val (.ref av), .val (.int (1 : Int32)), .val (.ref b288), .val (.ref b306), .val (.ref n339_b5), .val (.ref b371), .val (.int (1 : Int32))] [(.int (1 : Int32)), (.int (1 : Int32))])) (fun X t q => XS.iload X.here C.hx rfl (hb C.hby at_97) rfl q) ?_
      refine Wk.st (g' := (mkF m 102 #[.val (.int i0), .val (.int i1), .val (.int i2), .val (.int i3), .val (.int (1 : Int32)), .val (.ref av), .val (.int (1 : Int32)), .val (.ref b288), .val (.ref b306), .val (.ref n339_b5), .val (.ref b371), .val (.int (1 : Int32))] [(.int (1 : Int32))])) (fun X t q => XS.ifNo X.here C.hx rfl (hb C.hby at_99) rfl (XT.i0_eq_f (by decide)) q) ?_
      refine Wk.st (g' := (mkF m 103 #[.val (.int i0), .val (.int i1), .val (.int i2), .val (.int i3), .val (.int (1 : Int32)), .val (.ref av), .val (.int (1 : Int32)), .val (.ref b288), .val (.ref b306), .val (.ref n339_b5), .val (.ref b371), .val (.int (1 : Int32))] [(.int (1 : Int32)), (.int (1 : Int32))])) (fun X t q => XS.iconst X.here C.hx rfl (hb C.hby at_102) q) ?_
      refine Wk.st (g' := (mkF m 107 #[.val (.int i0), .val (.int i1), .val (.int i2), .val (.int i3), .val (.int (1 : Int32)), .val (.ref av), .val (.int (1 : Int32)), .val (.ref b288), .val (.ref b306), .val (.ref n339_b5), .val (.ref b371), .val (.int (1 : Int32))] [(.int (1 : Int32)), (.int (1 : Int32))])) (fun X t q => XS.goto X.here C.hx rfl (pc0 := 103) (pc' := 107) rfl (hb C.hby at_103) (by decide) (by decide) q) ?_
      refine Wk.st (g' := (mkF m 110 #[.val (.int i0), .val (.int i1), .val (.int i2), .val (.int i3), .val (.int (1 : Int32)), .val (.ref av), .val (.int (1 : Int32)), .val (.ref b288), .val (.ref b306), .val (.ref n339_b5), .val (.ref b371), .val (.int (1 : Int32))] [])) (fun X t q => XS.icmpNo X.here C.hx rfl (hb C.hby at_107) rfl (XT.ii_ne_f (by decide)) q) ?_
      refine Wk.st (g' := (mkF m 111 #[.val (.int i0), .val (.int i1), .val (.int i2), .val (.int i3), .val (.int (1 : Int32)), .val (.ref av), .val (.int (1 : Int32)), .val (.ref b288), .val (.ref b306), .val (.ref n339_b5), .val (.ref b371), .val (.int (1 : Int32))] [(.int (1 : Int32))])) (fun X t q => XS.iconst X.here C.hx rfl (hb C.hby at_110) q) ?_
      refine Wk.st (g' := (mkF m 115 #[.val (.int i0), .val (.int i1), .val (.int i2), .val (.int i3), .val (.int (1 : Int32)), .val (.ref av), .val (.int (1 : Int32)), .val (.ref b288), .val (.ref b306), .val (.ref n339_b5), .val (.ref b371), .val (.int (1 : Int32))] [(.int (1 : Int32))])) (fun X t q => XS.goto X.here C.hx rfl (pc0 := 111) (pc' := 115) rfl (hb C.hby at_111) (by decide) (by decide) q) ?_
      exact Wk.retV C (t := .boolean) rfl rfl (Or.inl ⟨rfl, by simp, _, rfl⟩) at_115 (by decide) (by decide) rfl
  · skip
    show Wl _ p l e _ s m _ below meth c n0 _ (some ("", 0, 0)) h0 0 0 (mkF m 5 #[.val (.int i0), .val (.int i1), .val (.int i2), .val (.int i3), .val (.int (2 : Int32)), .unset, .unset, .unset, .unset, .unset, .unset, .unset] [])
    refine Wl.ofWk ?_
    show Wk _ p l e _ s m _ below meth c n0 _ h0 0 0 (mkF m 5 #[.val (.int i0), .val (.int i1), .val (.int i2), .val (.int i3), .val (.int (2 : Int32)), .unset, .unset, .unset, .unset, .unset, .unset, .unset] [])
    refine Wk.st (g' := (mkF m 7 #[.val (.int i0), .val (.int i1), .val (.int i2), .val (.int i3), .val (.int (2 : Int32)), .unset, .unset, .unset, .unset, .unset, .unset, .unset] [(.int (2 : Int32))])) (fun X t q => XS.iload X.here C.hx rfl (hb C.hby at_5) rfl q) ?_
    refine Wk.st (g' := (mkF m 8 #[.val (.int i0), .val (.int i1), .val (.int i2), .val (.int i3), .val (.int (2 : Int32)), .unset, .unset, .unset, .unset, .unset, .unset, .unset] [(.int i1), (.int (2 : Int32))])) (fun X t q => XS.iloadN X.here C.hx rfl (hb C.hby at_7) rfl q) ?_
    refine Wk.callS C (z := (⟨"com/example/tripleshelf/tripleshelf/cli/OptionTakesValuePinLaw", "valueNameOf", "(II)Ljava/lang/String;"⟩ : MethodName)) (hw _ (List.mem_of_getElem? (i := 0) rfl)) (hw _ (List.mem_of_getElem? (i := 1) rfl)) (hw _ (List.mem_of_getElem? (i := 2) rfl)) (hw _ (List.mem_of_getElem? (i := 3) rfl)) (by decide) (own_1_17 l Z a0 hw n0 h0 hsz  i1 cs SC   hcs) (w := 0) (by decide) (by decide) pd_2 rfl (rest := []) rfl rfl (Nat.le_of_eq rfl) (by decide) (by decide) at_8 ?_
    rintro _ h429 ⟨n428_b22, n428_n38_n1_n1_b2, rfl, K430, gn437, gn438, ne439, F431, F432, F433, F434, F435, F436⟩
    show Wk _ p l e _ s m _ below meth c n0 _ h429 3 6 (mkF m 11 #[.val (.int i0), .val (.int i1), .val (.int i2), .val (.int i3), .val (.int (2 : Int32)), .unset, .unset, .unset, .unset, .unset, .unset, .unset] [(.ref n428_b22)])
    have ge440 : n0 ≤ n428_b22 := Nat.le_trans hsz gn437
    have gz441 : h0.size ≤ n428_b22 := Nat.le_trans (Nat.le_refl h0.size) gn437
    have ge442 : n0 ≤ n428_n38_n1_n1_b2 := Nat.le_trans hsz gn438
    have gz443 : h0.size ≤ n428_n38_n1_n1_b2 := Nat.le_trans (Nat.le_refl h0.size) gn438
    have sz444 : n0 ≤ h429.size := Nat.le_trans hsz K430.1
    have sy445 : h0.size ≤ h429.size := Nat.le_trans (Nat.le_refl h0.size) K430.1
    refine Wk.st (g' := (mkF m 13 #[.val (.int i0), .val (.int i1), .val (.int i2), .val (.int i3), .val (.int (2 : Int32)), .val (.ref n428_b22), .unset, .unset, .unset, .unset, .unset, .unset] [])) (fun X t q => XS.astore X.here C.hx rfl (hb C.hby at_11) rfl rfl (l' := #[.val (.int i0), .val (.int i1), .val (.int i2), .val (.int i3), .val (.int (2 : Int32)), .val (.ref n428_b22), .unset, .unset, .unset, .unset, .unset, .unset]) rfl q) ?_
    refine Wk.st (g' := (mkF m 15 #[.val (.int i0), .val (.int i1), .val (.int i2), .val (.int i3), .val (.int (2 : Int32)), .val (.ref n428_b22), .unset, .unset, .unset, .unset, .unset, .unset] [(.int (2 : Int32))])) (fun X t q => XS.iload X.here C.hx rfl (hb C.hby at_13) rfl q) ?_
    refine Wk.st (g' := (mkF m 18 #[.val (.int i0), .val (.int i1), .val (.int i2), .val (.int i3), .val (.int (2 : Int32)), .val (.ref n428_b22), .unset, .unset, .unset, .unset, .unset, .unset] [])) (fun X t q => XS.ifNo X.here C.hx rfl (hb C.hby at_15) rfl (XT.i0_eq_f (by decide)) q) ?_
    refine Wk.st (g' := (mkF m 19 #[.val (.int i0), .val (.int i1), .val (.int i2), .val (.int i3), .val (.int (2 : Int32)), .val (.ref n428_b22), .unset, .unset, .unset, .unset, .unset, .unset] [(.int i3)])) (fun X t q => XS.iloadN X.here C.hx rfl (hb C.hby at_18) rfl q) ?_
    refine Wk.st (g' := (mkF m 20 #[.val (.int i0), .val (.int i1), .val (.int i2), .val (.int i3), .val (.int (2 : Int32)), .val (.ref n428_b22), .unset, .unset, .unset, .unset, .unset, .unset] [(.int (1 : Int32)), (.int i3)])) (fun X t q => XS.iconst X.here C.hx rfl (hb C.hby at_19) q) ?_
    refine Wk.st (g' := (mkF m 21 #[.val (.int i0), .val (.int i1), .val (.int i2), .val (.int i3), .val (.int (2 : Int32)), .val (.ref n428_b22), .unset, .unset, .unset, .unset, .unset, .unset] [(.int (i3 &&& (1 : Int32)))])) (fun X t q => XS.iand X.here C.hx rfl (hb C.hby at_20) rfl q) ?_
    by_cases hb446 : (i3 &&& (1 : Int32)) = (0 : Int32)
    · skip
      refine Wk.st (g' := (mkF m 28 #[.val (.int i0), .val (.int i1), .val (.int i2), .val (.int i3), .val (.int (2 : Int32)), .val (.ref n428_b22), .unset, .unset, .unset, .unset, .unset, .unset] [])) (fun X t q => XS.ifYes X.here C.hx rfl (pc0 := 21) (pc' := 28) rfl (hb C.hby at_21) rfl (XT.i0_eq_t hb446) (by decide) (by decide) q) ?_
      refine Wk.st (g' := (mkF m 29 #[.val (.int i0), .val (.int i1), .val (.int i2), .val (.int i3), .val (.int (2 : Int32)), .val (.ref n428_b22), .unset, .unset, .unset, .unset, .unset, .unset] [(.int (0 : Int32))])) (fun X t q => XS.iconst X.here C.hx rfl (hb C.hby at_28) q) ?_
      refine Wk.st (g' := (mkF m 31 #[.val (.int i0), .val (.int i1), .val (.int i2), .val (.int i3), .val (.int (2 : Int32)), .val (.ref n428_b22), .val (.int (0 : Int32)), .unset, .unset, .unset, .unset, .unset] [])) (fun X t q => XS.istore X.here C.hx rfl (hb C.hby at_29) rfl (l' := #[.val (.int i0), .val (.int i1), .val (.int i2), .val (.int i3), .val (.int (2 : Int32)), .val (.ref n428_b22), .val (.int (0 : Int32)), .unset, .unset, .unset, .unset, .unset]) rfl q) ?_
      refine Wk.st (g' := (mkF m 32 #[.val (.int i0), .val (.int i1), .val (.int i2), .val (.int i3), .val (.int (2 : Int32)), .val (.ref n428_b22), .val (.int (0 : Int32)), .unset, .unset, .unset, .unset, .unset] [(.int (1 : Int32))])) (fun X t q => XS.iconst X.here C.hx rfl (hb C.hby at_31) q) ?_
      refine Wk.fNewP C (hw _ (List.mem_of_getElem? (i := 4) rfl)) (ty := .char) (dv := (.int (0 : Int32))) (N := 1) (ad := "[C") rfl rfl (by decide) (by decide) (by decide) (cap := 1) (by decide) (by decide) at_32 (by decide) (by decide) ?_
      intro h447 b448 g449 E450 A451 F452
      have ne453 : n428_b22 ≠ b448 := Nat.ne_of_lt (Nat.lt_of_lt_of_le F431.lt (Nat.le_of_eq g449.symm))
      have ne454 : n428_n38_n1_n1_b2 ≠ b448 := Nat.ne_of_lt (Nat.lt_of_lt_of_le F432.lt (Nat.le_of_eq g449.symm))
      have ge455 : n0 ≤ b448 := Nat.le_trans sz444 (Nat.le_of_eq g449.symm)
      have gz456 : h0.size ≤ b448 := Nat.le_trans sy445 (Nat.le_of_eq g449.symm)
      have F457 : Exa Z h447 n428_b22 "java/lang/String" := F431.ext E450
      have F458 : Exa Z h447 n428_n38_n1_n1_b2 "[B" := F432.ext E450
      have F459 : Sta Z h447 "java/lang/String" "COMPACT_STRINGS" "Z" (.int cs) := F433.ext E450
      have F460 : Fa Z h447 n428_n38_n1_n1_b2 .byte 1 (up (fun _ => (.int (0 : Int32))) 0 (.int (nar .byte ((nar .char ((i1 &&& (255 : Int32)).toUInt32.toUInt16.toUInt32.toInt32)).toInt8.toInt32)))) := F434.ext E450
      have F461 : Fld Z h447 n428_b22 "java/lang/String" "coder" "B" (.int (0 : Int32)) := F435.ext E450
      have F462 : Fld Z h447 n428_b22 "java/lang/String" "value" "[B" (.ref n428_n38_n1_n1_b2) := F436.ext E450
      have sz463 : n0 ≤ h447.size := Nat.le_trans sz444 E450.1
      have sy464 : h0.size ≤ h447.size := Nat.le_trans sy445 E450.1
      show Wk _ p l e _ s m _ below meth c n0 _ h447 4 7 (mkF m 34 #[.val (.int i0), .val (.int i1), .val (.int i2), .val (.int i3), .val (.int (2 : Int32)), .val (.ref n428_b22), .val (.int (0 : Int32)), .unset, .unset, .unset, .unset, .unset] [(.ref b448)])
      refine Wk.st (g' := (mkF m 36 #[.val (.int i0), .val (.int i1), .val (.int i2), .val (.int i3), .val (.int (2 : Int32)), .val (.ref n428_b22), .val (.int (0 : Int32)), .val (.ref b448), .unset, .unset, .unset, .unset] [])) (fun X t q => XS.astore X.here C.hx rfl (hb C.hby at_34) rfl rfl (l' := #[.val (.int i0), .val (.int i1), .val (.int i2), .val (.int i3), .val (.int (2 : Int32)), .val (.ref n428_b22), .val (.int (0 : Int32)), .val (.ref b448), .unset, .unset, .unset, .unset]) rfl q) ?_
      refine Wk.st (g' := (mkF m 38 #[.val (.int i0), .val (.int i1), .val (.int i2), .val (.int i3), .val (.int (2 : Int32)), .val (.ref n428_b22), .val (.int (0 : Int32)), .val (.ref b448), .unset, .unset, .unset, .unset] [(.ref b448)])) (fun X t q => XS.aload X.here C.hx rfl (hb C.hby at_36) rfl rfl q) ?_
      refine Wk.st (g' := (mkF m 39 #[.val (.int i0), .val (.int i1), .val (.int i2), .val (.int i3), .val (.int (2 : Int32)), .val (.ref n428_b22), .val (.int (0 : Int32)), .val (.ref b448), .unset, .unset, .unset, .unset] [(.int (0 : Int32)), (.ref b448)])) (fun X t q => XS.iconst X.here C.hx rfl (hb C.hby at_38) q) ?_
      refine Wk.st (g' := (mkF m 40 #[.val (.int i0), .val (.int i1), .val (.int i2), .val (.int i3), .val (.int (2 : Int32)), .val (.ref n428_b22), .val (.int (0 : Int32)), .val (.ref b448), .unset, .unset, .unset, .unset] [(.int i2), (.int (0 : Int32)), (.ref b448)])) (fun X t q => XS.iloadN X.here C.hx rfl (hb C.hby at_39) rfl q) ?_
      refine Wk.st (g' := (mkF m 43 #[.val (.int i0), .val (.int i1), .val (.int i2), .val (.int i3), .val (.int (2 : Int32)), .val (.ref n428_b22), .val (.int (0 : Int32)), .val (.ref b448), .unset, .unset, .unset, .unset] [(.int (255 : Int32)), (.int i2), (.int (0 : Int32)), (.ref b448)])) (fun X t q => XS.sipush X.here C.hx rfl (hb C.hby at_40) q) ?_
      refine Wk.st (g' := (mkF m 44 #[.val (.int i0), .val (.int i1), .val (.int i2), .val (.int i3), .val (.int (2 : Int32)), .val (.ref n428_b22), .val (.int (0 : Int32)), .val (.ref b448), .unset, .unset, .unset, .unset] [(.int (i2 &&& (255 : Int32))), (.int (0 : Int32)), (.ref b448)])) (fun X t q => XS.iand X.here C.hx rfl (hb C.hby at_43) rfl q) ?_
      refine Wk.st (g' := (mkF m 45 #[.val (.int i0), .val (.int i1), .val (.int i2), .val (.int i3), .val (.int (2 : Int32)), .val (.ref n428_b22), .val (.int (0 : Int32)), .val (.ref b448), .unset, .unset, .unset, .unset] [(.int ((i2 &&& (255 : Int32)).toUInt32.toUInt16.toUInt32.toInt32)), (.int (0 : Int32)), (.ref b448)])) (fun X t q => XS.i2c X.here C.hx rfl (hb C.hby at_44) rfl q) ?_
      refine Wk.fStC C F452 (x' := (nar .char ((i2 &&& (255 : Int32)).toUInt32.toUInt16.toUInt32.toInt32))) rfl (i := 0) (by decide) (by decide) (by decide) ge455 at_45 ?_
      intro h465 W466 F467
      have F468 : Exa Z h465 n428_b22 "java/lang/String" := F457.wr W466
      have F469 : Exa Z h465 n428_n38_n1_n1_b2 "[B" := F458.wr W466
      have F470 : Sta Z h465 "java/lang/String" "COMPACT_STRINGS" "Z" (.int cs) := F459.wr W466
      have F471 : Fa Z h465 n428_n38_n1_n1_b2 .byte 1 (up (fun _ => (.int (0 : Int32))) 0 (.int (nar .byte ((nar .char ((i1 &&& (255 : Int32)).toUInt32.toUInt16.toUInt32.toInt32)).toInt8.toInt32)))) := F460.other W466 ne454
      have F472 : Fld Z h465 n428_b22 "java/lang/String" "coder" "B" (.int (0 : Int32)) := F461.other W466 (Or.inl ne453)
      have F473 : Fld Z h465 n428_b22 "java/lang/String" "value" "[B" (.ref n428_n38_n1_n1_b2) := F462.other W466 (Or.inl ne453)
      have F474 : Exa Z h465 b448 "[C" := A451.wr W466
      have sz475 : n0 ≤ h465.size := Nat.le_trans sz463 (Nat.le_of_eq W466.size.symm)
      have sy476 : h0.size ≤ h465.size := Nat.le_trans sy464 (Nat.le_of_eq W466.size.symm)
      show Wk _ p l e _ s m _ below meth c n0 _ h465 4 7 (mkF m 46 #[.val (.int i0), .val (.int i1), .val (.int i2), .val (.int i3), .val (.int (2 : Int32)), .val (.ref n428_b22), .val (.int (0 : Int32)), .val (.ref b448), .unset, .unset, .unset, .unset] [])
      refine Wk.newO C (hw _ (List.mem_of_getElem? (i := 5) rfl)) (hw _ (List.mem_of_getElem? (i := 6) rfl)) (hw _ (List.mem_of_getElem? (i := 7) rfl)) at_46 (by decide) (by decide) ?_
      intro h477 b478 g479 E480 A481 D482
      have ne483 : n428_b22 ≠ b478 := Nat.ne_of_lt (Nat.lt_of_lt_of_le F468.lt (Nat.le_of_eq g479.symm))
      have ne484 : n428_n38_n1_n1_b2 ≠ b478 := Nat.ne_of_lt (Nat.lt_of_lt_of_le F469.lt (Nat.le_of_eq g479.symm))
      have ne485 : b448 ≠ b478 := Nat.ne_of_lt (Nat.lt_of_lt_of_le F474.lt (Nat.le_of_eq g479.symm))
      have ge486 : n0 ≤ b478 := Nat.le_trans sz475 (Nat.le_of_eq g479.symm)
      have gz487 : h0.size ≤ b478 := Nat.le_trans sy476 (Nat.le_of_eq g479.symm)
      have F488 : Exa Z h477 n428_b22 "java/lang/String" := F468.ext E480
      have F489 : Exa Z h477 n428_n38_n1_n1_b2 "[B" := F469.ext E480
      have F490 : Sta Z h477 "java/lang/String" "COMPACT_STRINGS" "Z" (.int cs) := F470.ext E480
      have F491 : Fa Z h477 n428_n38_n1_n1_b2 .byte 1 (up (fun _ => (.int (0 : Int32))) 0 (.int (nar .byte ((nar .char ((i1 &&& (255 : Int32)).toUInt32.toUInt16.toUInt32.toInt32)).toInt8.toInt32)))) := F471.ext E480
      have F492 : Fld Z h477 n428_b22 "java/lang/String" "coder" "B" (.int (0 : Int32)) := F472.ext E480
      have F493 : Fld Z h477 n428_b22 "java/lang/String" "value" "[B" (.ref n428_n38_n1_n1_b2) := F473.ext E480
      have F494 : Exa Z h477 b448 "[C" := F474.ext E480
      have F495 : Fa Z h477 b448 .char 1 (up (fun _ => (.int (0 : Int32))) 0 (.int (nar .char ((i2 &&& (255 : Int32)).toUInt32.toUInt16.toUInt32.toInt32)))) := F467.ext E480
      have sz496 : n0 ≤ h477.size := Nat.le_trans sz475 E480.1
      have sy497 : h0.size ≤ h477.size := Nat.le_trans sy476 E480.1
      have F498 : Fld Z h477 b478 "java/lang/String" "coder" "B" (.int (0 : Int32)) := D482 (Or.inr (hw _ (List.mem_of_getElem? (i := 31) rfl))) (ty := .byte) (by decide)
      have F499 : Fld Z h477 b478 "java/lang/String" "value" "[B" .null := D482 (Or.inr (hw _ (List.mem_of_getElem? (i := 33) rfl))) (ty := (.array .byte)) (by decide)
      show Wk _ p l e _ s m _ below meth c n0 _ h477 5 11 (mkF m 49 #[.val (.int i0), .val (.int i1), .val (.int i2), .val (.int i3), .val (.int (2 : Int32)), .val (.ref n428_b22), .val (.int (0 : Int32)), .val (.ref b448), .unset, .unset, .unset, .unset] [(.ref b478)])
      refine Wk.st (g' := (mkF m 50 #[.val (.int i0), .val (.int i1), .val (.int i2), .val (.int i3), .val (.int (2 : Int32)), .val (.ref n428_b22), .val (.int (0 : Int32)), .val (.ref b448), .unset, .unset, .unset, .unset] [(.ref b478), (.ref b478)])) (fun X t q => XS.dup X.here C.hx rfl (hb C.hby at_49) rfl rfl q) ?_
      refine Wk.st (g' := (mkF m 52 #[.val (.int i0), .val (.int i1), .val (.int i2), .val (.int i3), .val (.int (2 : Int32)), .val (.ref n428_b22), .val (.int (0 : Int32)), .val (.ref b448), .unset, .unset, .unset, .unset] [(.ref b448), (.ref b478), (.ref b478)])) (fun X t q => XS.aload X.here C.hx rfl (hb C.hby at_50) rfl rfl q) ?_
      refine Wk.callI C (z := (⟨"java/lang/String", "<init>", "([C)V"⟩ : MethodName)) rfl (hw _ (List.mem_of_getElem? (i := 8) rfl)) (hw _ (List.mem_of_getElem? (i := 9) rfl)) (hw _ (List.mem_of_getElem? (i := 7) rfl)) (hw _ (List.mem_of_getElem? (i := 10) rfl)) (by decide) (own_2_1 l Z a0 hw n0 h477 sz496 b478 b448 cs (nar .char ((i2 &&& (255 : Int32)).toUInt32.toUInt16.toUInt32.toInt32)) F490 F494 F495 A481 F498 F499 (Ne.symm ne485) ge486 ge455 (latn i2) hcs) (w := 1) (by decide) (by decide) pd_1 rfl (rest := [(.ref b478)]) rfl rfl (Nat.le_of_eq rfl) (by decide) (by decide) at_52 ?_
      rintro _ h501 ⟨n500_n1_n1_b2, rfl, K502, gn508, F503, F504, F505, F506, F507⟩
      show Wk _ p l e _ s m _ below meth c n0 _ h501 6 12 (mkF m 55 #[.val (.int i0), .val (.int i1), .val (.int i2), .val (.int i3), .val (.int (2 : Int32)), .val (.ref n428_b22), .val (.int (0 : Int32)), .val (.ref b448), .unset, .unset, .unset, .unset] [(.ref b478)])
      have ne509 : n428_b22 ≠ n500_n1_n1_b2 := Nat.ne_of_lt (Nat.lt_of_lt_of_le F488.lt gn508)
      have ne510 : n428_n38_n1_n1_b2 ≠ n500_n1_n1_b2 := Nat.ne_of_lt (Nat.lt_of_lt_of_le F489.lt gn508)
      have ne511 : b448 ≠ n500_n1_n1_b2 := Nat.ne_of_lt (Nat.lt_of_lt_of_le F494.lt gn508)
      have ne512 : b478 ≠ n500_n1_n1_b2 := Nat.ne_of_lt (Nat.lt_of_lt_of_le A481.lt gn508)
      have ge513 : n0 ≤ n500_n1_n1_b2 := Nat.le_trans sz496 gn508
      have gz514 : h0.size ≤ n500_n1_n1_b2 := Nat.le_trans sy497 gn508
      have F515 : Exa Z h501 n428_b22 "java/lang/String" := F488.keep K502
      have F516 : Exa Z h501 n428_n38_n1_n1_b2 "[B" := F489.keep K502
      have F517 : Fa Z h501 n428_n38_n1_n1_b2 .byte 1 (up (fun _ => (.int (0 : Int32))) 0 (.int (nar .byte ((nar .char ((i1 &&& (255 : Int32)).toUInt32.toUInt16.toUInt32.toInt32)).toInt8.toInt32)))) := F491.keep K502 (nmS ne484 nm0)
      have F518 : Fld Z h501 n428_b22 "java/lang/String" "coder" "B" (.int (0 : Int32)) := F492.keep K502 (nmS ne483 nm0)
      have F519 : Fld Z h501 n428_b22 "java/lang/String" "value" "[B" (.ref n428_n38_n1_n1_b2) := F493.keep K502 (nmS ne483 nm0)
      have F520 : Exa Z h501 b448 "[C" := F494.keep K502
      have F521 : Fa Z h501 b448 .char 1 (up (fun _ => (.int (0 : Int32))) 0 (.int (nar .char ((i2 &&& (255 : Int32)).toUInt32.toUInt16.toUInt32.toInt32)))) := F495.keep K502 (nmS ne485 nm0)
      have F522 : Exa Z h501 b478 "java/lang/String" := A481.keep K502
      have sz523 : n0 ≤ h501.size := Nat.le_trans sz496 K502.1
      have sy524 : h0.size ≤ h501.size := Nat.le_trans sy497 K502.1
      refine Wk.st (g' := (mkF m 57 #[.val (.int i0), .val (.int i1), .val (.int i2), .val (.int i3), .val (.int (2 : Int32)), .val (.ref n428_b22), .val (.int (0 : Int32)), .val (.ref b448), .val (.ref b478), .unset, .unset, .unset] [])) (fun X t q => XS.astore X.here C.hx rfl (hb C.hby at_55) rfl rfl (l' := #[.val (.int i0), .val (.int i1), .val (.int i2), .val (.int i3), .val (.int (2 : Int32)), .val (.ref n428_b22), .val (.int (0 : Int32)), .val (.ref b448), .val (.ref b478), .unset, .unset, .unset]) rfl q) ?_
      refine Wk.st (g' := (mkF m 58 #[.val (.int i0), .val (.int i1), .val (.int i2), .val (.int i3), .val (.int (2 : Int32)), .val (.ref n428_b22), .val (.int (0 : Int32)), .val (.ref b448), .val (.ref b478), .unset, .unset, .unset] [(.int i2)])) (fun X t q => XS.iloadN X.here C.hx rfl (hb C.hby at_57) rfl q) ?_
      refine Wk.st (g' := (mkF m 60 #[.val (.int i0), .val (.int i1), .val (.int i2), .val (.int i3), .val (.int (2 : Int32)), .val (.ref n428_b22), .val (.int (0 : Int32)), .val (.ref b448), .val (.ref b478), .unset, .unset, .unset] [(.int (8 : Int32)), (.int i2)])) (fun X t q => XS.bipush X.here C.hx rfl (hb C.hby at_58) q) ?_
      refine Wk.st (g' := (mkF m 61 #[.val (.int i0), .val (.int i1), .val (.int i2), .val (.int i3), .val (.int (2 : Int32)), .val (.ref n428_b22), .val (.int (0 : Int32)), .val (.ref b448), .val (.ref b478), .unset, .unset, .unset] [(.int ((i2.toUInt32 >>> ((8 : Int32) &&& 31).toUInt32).toInt32))])) (fun X t q => XS.iushr X.here C.hx rfl (hb C.hby at_60) rfl q) ?_
      refine Wk.st (g' := (mkF m 64 #[.val (.int i0), .val (.int i1), .val (.int i2), .val (.int i3), .val (.int (2 : Int32)), .val (.ref n428_b22), .val (.int (0 : Int32)), .val (.ref b448), .val (.ref b478), .unset, .unset, .unset] [(.int (255 : Int32)), (.int ((i2.toUInt32 >>> ((8 : Int32) &&& 31).toUInt32).toInt32))])) (fun X t q => XS.sipush X.here C.hx rfl (hb C.hby at_61) q) ?_
      refine Wk.st (g' := (mkF m 65 #[.val (.int i0), .val (.int i1), .val (.int i2), .val (.int i3), .val (.int (2 : Int32)), .val (.ref n428_b22), .val (.int (0 : Int32)), .val (.ref b448), .val (.ref b478), .unset, .unset, .unset] [(.int (((i2.toUInt32 >>> ((8 : Int32) &&& 31).toUInt32).toInt32) &&& (255 : Int32)))])) (fun X t q => XS.iand X.here C.hx rfl (hb C.hby at_64) rfl q) ?_
      refine Wk.st (g' := (mkF m 66 #[.val (.int i0), .val (.int i1), .val (.int i2), .val (.int i3), .val (.int (2 : Int32)), .val (.ref n428_b22), .val (.int (0 : Int32)), .val (.ref b448), .val (.ref b478), .unset, .unset, .unset] [(.int ((((i2.toUInt32 >>> ((8 : Int32) &&& 31).toUInt32).toInt32) &&& (255 : Int32)).toUInt32.toUInt16.toUInt32.toInt32))])) (fun X t q => XS.i2c X.here C.hx rfl (hb C.hby at_65) rfl q) ?_
      refine Wk.callS C (z := (⟨"java/lang/String", "valueOf", "(C)Ljava/lang/String;"⟩ : MethodName)) (hw _ (List.mem_of_getElem? (i := 34) rfl)) (hw _ (List.mem_of_getElem? (i := 35) rfl)) (hw _ (List.mem_of_getElem? (i := 7) rfl)) (hw _ (List.mem_of_getElem? (i := 36) rfl)) (by decide) (own_8_6 l Z a0 hw n0 h501 sz523  ((((i2.toUInt32 >>> ((8 : Int32) &&& 31).toUInt32).toInt32) &&& (255 : Int32)).toUInt32.toUInt16.toUInt32.toInt32) cs F504   (lat0 ((i2.toUInt32 >>> ((8 : Int32) &&& 31).toUInt32).toInt32)) hcs) (w := 0) (by decide) (by decide) pd_6 rfl (rest := []) rfl rfl (Nat.le_of_eq rfl) (by decide) (by decide) at_66 ?_
      rintro _ h526 ⟨n525_b5, n525_n18_b2, rfl, K527, gn534, gn535, ne536, F528, F529, F530, F531, F532, F533⟩
      show Wk _ p l e _ s m _ below meth c n0 _ h526 8 17 (mkF m 69 #[.val (.int i0), .val (.int i1), .val (.int i2), .val (.int i3), .val (.int (2 : Int32)), .val (.ref n428_b22), .val (.int (0 : Int32)), .val (.ref b448), .val (.ref b478), .unset, .unset, .unset] [(.ref n525_b5)])
      have ne537 : n428_b22 ≠ n525_b5 := Nat.ne_of_lt (Nat.lt_of_lt_of_le F515.lt gn534)
      have ne538 : n428_n38_n1_n1_b2 ≠ n525_b5 := Nat.ne_of_lt (Nat.lt_of_lt_of_le F516.lt gn534)
      have ne539 : b448 ≠ n525_b5 := Nat.ne_of_lt (Nat.lt_of_lt_of_le F520.lt gn534)
      have ne540 : b478 ≠ n525_b5 := Nat.ne_of_lt (Nat.lt_of_lt_of_le F522.lt gn534)
      have ne541 : n500_n1_n1_b2 ≠ n525_b5 := Nat.ne_of_lt (Nat.lt_of_lt_of_le F503.lt gn534)
      have ge542 : n0 ≤ n525_b5 := Nat.le_trans sz523 gn534
      have gz543 : h0.size ≤ n525_b5 := Nat.le_trans sy524 gn534
      have ne544 : n428_b22 ≠ n525_n18_b2 := Nat.ne_of_lt (Nat.lt_of_lt_of_le F515.lt gn535)
      have ne545 : n428_n38_n1_n1_b2 ≠ n525_n18_b2 := Nat.ne_of_lt (Nat.lt_of_lt_of_le F516.lt gn535)
      have ne546 : b448 ≠ n525_n18_b2 := Nat.ne_of_lt (Nat.lt_of_lt_of_le F520.lt gn535)
      have ne547 : b478 ≠ n525_n18_b2 := Nat.ne_of_lt (Nat.lt_of_lt_of_le F522.lt gn535)
      have ne548 : n500_n1_n1_b2 ≠ n525_n18_b2 := Nat.ne_of_lt (Nat.lt_of_lt_of_le F503.lt gn535)
      have ge549 : n0 ≤ n525_n18_b2 := Nat.le_trans sz523 gn535
      have gz550 : h0.size ≤ n525_n18_b2 := Nat.le_trans sy524 gn535
      have F551 : Exa Z h526 n428_b22 "java/lang/String" := F515.keep K527
      have F552 : Exa Z h526 n428_n38_n1_n1_b2 "[B" := F516.keep K527
      have F553 : Fa Z h526 n428_n38_n1_n1_b2 .byte 1 (up (fun _ => (.int (0 : Int32))) 0 (.int (nar .byte ((nar .char ((i1 &&& (255 : Int32)).toUInt32.toUInt16.toUInt32.toInt32)).toInt8.toInt32)))) := F517.keep K527 nm0
      have F554 : Fld Z h526 n428_b22 "java/lang/String" "coder" "B" (.int (0 : Int32)) := F518.keep K527 nm0
      have F555 : Fld Z h526 n428_b22 "java/lang/String" "value" "[B" (.ref n428_n38_n1_n1_b2) := F519.keep K527 nm0
      have F556 : Exa Z h526 b448 "[C" := F520.keep K527
      have F557 : Fa Z h526 b448 .char 1 (up (fun _ => (.int (0 : Int32))) 0 (.int (nar .char ((i2 &&& (255 : Int32)).toUInt32.toUInt16.toUInt32.toInt32)))) := F521.keep K527 nm0
      have F558 : Exa Z h526 b478 "java/lang/String" := F522.keep K527
      have F559 : Exa Z h526 n500_n1_n1_b2 "[B" := F503.keep K527
      have F560 : Fa Z h526 n500_n1_n1_b2 .byte 1 (up (fun _ => (.int (0 : Int32))) 0 (.int (nar .byte ((nar .char ((i2 &&& (255 : Int32)).toUInt32.toUInt16.toUInt32.toInt32)).toInt8.toInt32)))) := F505.keep K527 nm0
      have F561 : Fld Z h526 b478 "java/lang/String" "coder" "B" (.int (0 : Int32)) := F506.keep K527 nm0
      have F562 : Fld Z h526 b478 "java/lang/String" "value" "[B" (.ref n500_n1_n1_b2) := F507.keep K527 nm0
      have sz563 : n0 ≤ h526.size := Nat.le_trans sz523 K527.1
      have sy564 : h0.size ≤ h526.size := Nat.le_trans sy524 K527.1
      refine Wk.st (g' := (mkF m 71 #[.val (.int i0), .val (.int i1), .val (.int i2), .val (.int i3), .val (.int (2 : Int32)), .val (.ref n428_b22), .val (.int (0 : Int32)), .val (.ref b448), .val (.ref b478), .val (.ref n525_b5), .unset, .unset] [])) (fun X t q => XS.astore X.here C.hx rfl (hb C.hby at_69) rfl rfl (l' := #[.val (.int i0), .val (.int i1), .val (.int i2), .val (.int i3), .val (.int (2 : Int32)), .val (.ref n428_b22), .val (.int (0 : Int32)), .val (.ref b448), .val (.ref b478), .val (.ref n525_b5), .unset, .unset]) rfl q) ?_
      refine Wk.newO C (hw _ (List.mem_of_getElem? (i := 48) rfl)) (hw _ (List.mem_of_getElem? (i := 49) rfl)) (hw _ (List.mem_of_getElem? (i := 50) rfl)) at_71 (by decide) (by decide) ?_
      intro h565 b566 g567 E568 A569 D570
      have ne571 : n428_b22 ≠ b566 := Nat.ne_of_lt (Nat.lt_of_lt_of_le F551.lt (Nat.le_of_eq g567.symm))
      have ne572 : n428_n38_n1_n1_b2 ≠ b566 := Nat.ne_of_lt (Nat.lt_of_lt_of_le F552.lt (Nat.le_of_eq g567.symm))
      have ne573 : b448 ≠ b566 := Nat.ne_of_lt (Nat.lt_of_lt_of_le F556.lt (Nat.le_of_eq g567.symm))
      have ne574 : b478 ≠ b566 := Nat.ne_of_lt (Nat.lt_of_lt_of_le F558.lt (Nat.le_of_eq g567.symm))
      have ne575 : n500_n1_n1_b2 ≠ b566 := Nat.ne_of_lt (Nat.lt_of_lt_of_le F559.lt (Nat.le_of_eq g567.symm))
      have ne576 : n525_b5 ≠ b566 := Nat.ne_of_lt (Nat.lt_of_lt_of_le F528.lt (Nat.le_of_eq g567.symm))
      have ne577 : n525_n18_b2 ≠ b566 := Nat.ne_of_lt (Nat.lt_of_lt_of_le F529.lt (Nat.le_of_eq g567.symm))
      have ge578 : n0 ≤ b566 := Nat.le_trans sz563 (Nat.le_of_eq g567.symm)
      have gz579 : h0.size ≤ b566 := Nat.le_trans sy564 (Nat.le_of_eq g567.symm)
      have F580 : Exa Z h565 n428_b22 "java/lang/String" := F551.ext E568
      have F581 : Exa Z h565 n428_n38_n1_n1_b2 "[B" := F552.ext E568
      have F582 : Fa Z h565 n428_n38_n1_n1_b2 .byte 1 (up (fun _ => (.int (0 : Int32))) 0 (.int (nar .byte ((nar .char ((i1 &&& (255 : Int32)).toUInt32.toUInt16.toUInt32.toInt32)).toInt8.toInt32)))) := F553.ext E568
      have F583 : Fld Z h565 n428_b22 "java/lang/String" "coder" "B" (.int (0 : Int32)) := F554.ext E568
      have F584 : Fld Z h565 n428_b22 "java/lang/String" "value" "[B" (.ref n428_n38_n1_n1_b2) := F555.ext E568
      have F585 : Exa Z h565 b448 "[C" := F556.ext E568
      have F586 : Fa Z h565 b448 .char 1 (up (fun _ => (.int (0 : Int32))) 0 (.int (nar .char ((i2 &&& (255 : Int32)).toUInt32.toUInt16.toUInt32.toInt32)))) := F557.ext E568
      have F587 : Exa Z h565 b478 "java/lang/String" := F558.ext E568
      have F588 : Exa Z h565 n500_n1_n1_b2 "[B" := F559.ext E568
      have F589 : Fa Z h565 n500_n1_n1_b2 .byte 1 (up (fun _ => (.int (0 : Int32))) 0 (.int (nar .byte ((nar .char ((i2 &&& (255 : Int32)).toUInt32.toUInt16.toUInt32.toInt32)).toInt8.toInt32)))) := F560.ext E568
      have F590 : Fld Z h565 b478 "java/lang/String" "coder" "B" (.int (0 : Int32)) := F561.ext E568
      have F591 : Fld Z h565 b478 "java/lang/String" "value" "[B" (.ref n500_n1_n1_b2) := F562.ext E568
      have F592 : Exa Z h565 n525_b5 "java/lang/String" := F528.ext E568
      have F593 : Exa Z h565 n525_n18_b2 "[B" := F529.ext E568
      have F594 : Fa Z h565 n525_n18_b2 .byte 1 (up (fun _ => (.int (0 : Int32))) 0 (.int (nar .byte (((((i2.toUInt32 >>> ((8 : Int32) &&& 31).toUInt32).toInt32) &&& (255 : Int32)).toUInt32.toUInt16.toUInt32.toInt32).toInt8.toInt32)))) := F530.ext E568
      have F595 : Sta Z h565 "java/lang/String" "COMPACT_STRINGS" "Z" (.int cs) := F531.ext E568
      have F596 : Fld Z h565 n525_b5 "java/lang/String" "value" "[B" (.ref n525_n18_b2) := F532.ext E568
      have F597 : Fld Z h565 n525_b5 "java/lang/String" "coder" "B" (.int (0 : Int32)) := F533.ext E568
      have sz598 : n0 ≤ h565.size := Nat.le_trans sz563 E568.1
      have sy599 : h0.size ≤ h565.size := Nat.le_trans sy564 E568.1
      have F600 : Fld Z h565 b566 "com/example/tripleshelf/tripleshelf/cli/Option" "name" "Ljava/lang/String;" .null := D570 (Or.inr (hw _ (List.mem_of_getElem? (i := 61) rfl))) (ty := (.object "java/lang/String")) (by decide)
      have F601 : Fld Z h565 b566 "com/example/tripleshelf/tripleshelf/cli/Option" "valueName" "Ljava/lang/String;" .null := D570 (Or.inr (hw _ (List.mem_of_getElem? (i := 63) rfl))) (ty := (.object "java/lang/String")) (by decide)
      have F602 : Fld Z h565 b566 "com/example/tripleshelf/tripleshelf/cli/Option" "required" "Z" (.int (0 : Int32)) := D570 (Or.inr (hw _ (List.mem_of_getElem? (i := 65) rfl))) (ty := .boolean) (by decide)
      have F603 : Fld Z h565 b566 "com/example/tripleshelf/tripleshelf/cli/Option" "description" "Ljava/lang/String;" .null := D570 (Or.inr (hw _ (List.mem_of_getElem? (i := 67) rfl))) (ty := (.object "java/lang/String")) (by decide)
      show Wk _ p l e _ s m _ below meth c n0 _ h565 9 21 (mkF m 74 #[.val (.int i0), .val (.int i1), .val (.int i2), .val (.int i3), .val (.int (2 : Int32)), .val (.ref n428_b22), .val (.int (0 : Int32)), .val (.ref b448), .val (.ref b478), .val (.ref n525_b5), .unset, .unset] [(.ref b566)])
      refine Wk.st (g' := (mkF m 75 #[.val (.int i0), .val (.int i1), .val (.int i2), .val (.int i3), .val (.int (2 : Int32)), .val (.ref n428_b22), .val (.int (0 : Int32)), .val (.ref b448), .val (.ref b478), .val (.ref n525_b5), .unset, .unset] [(.ref b566), (.ref b566)])) (fun X t q => XS.dup X.here C.hx rfl (hb C.hby at_74) rfl rfl q) ?_
      refine Wk.st (g' := (mkF m 77 #[.val (.int i0), .val (.int i1), .val (.int i2), .val (.int i3), .val (.int (2 : Int32)), .val (.ref n428_b22), .val (.int (0 : Int32)), .val (.ref b448), .val (.ref b478), .val (.ref n525_b5), .unset, .unset] [(.ref b478), (.ref b566), (.ref b566)])) (fun X t q => XS.aload X.here C.hx rfl (hb C.hby at_75) rfl rfl q) ?_
      refine Wk.st (g' := (mkF m 79 #[.val (.int i0), .val (.int i1), .val (.int i2), .val (.int i3), .val (.int (2 : Int32)), .val (.ref n428_b22), .val (.int (0 : Int32)), .val (.ref b448), .val (.ref b478), .val (.ref n525_b5), .unset, .unset] [(.ref n428_b22), (.ref b478), (.ref b566), (.ref b566)])) (fun X t q => XS.aload X.here C.hx rfl (hb C.hby at_77) rfl rfl q) ?_
      refine Wk.st (g' := (mkF m 81 #[.val (.int i0), .val (.int i1), .val (.int i2), .val (.int i3), .val (.int (2 : Int32)), .val (.ref n428_b22), .val (.int (0 : Int32)), .val (.ref b448), .val (.ref b478), .val (.ref n525_b5), .unset, .unset] [(.int (0 : Int32)), (.ref n428_b22), (.ref b478), (.ref b566), (.ref b566)])) (fun X t q => XS.iload X.here C.hx rfl (hb C.hby at_79) rfl q) ?_
      refine Wk.st (g' := (mkF m 83 #[.val (.int i0), .val (.int i1), .val (.int i2), .val (.int i3), .val (.int (2 : Int32)), .val (.ref n428_b22), .val (.int (0 : Int32)), .val (.ref b448), .val (.ref b478), .val (.ref n525_b5), .unset, .unset] [(.ref n525_b5), (.int (0 : Int32)), (.ref n428_b22), (.ref b478), (.ref b566), (.ref b566)])) (fun X t q => XS.aload X.here C.hx rfl (hb C.hby at_81) rfl rfl q) ?_
      refine Wk.callI C (z := (⟨"com/example/tripleshelf/tripleshelf/cli/Option", "<init>", "(Ljava/lang/String;Ljava/lang/String;ZLjava/lang/String;)V"⟩ : MethodName)) rfl (hw _ (List.mem_of_getElem? (i := 51) rfl)) (hw _ (List.mem_of_getElem? (i := 52) rfl)) (hw _ (List.mem_of_getElem? (i := 50) rfl)) (hw _ (List.mem_of_getElem? (i := 53) rfl)) (by decide) (own_12_18 l Z a0 hw n0 h565 sz598 b566 b478 n428_b22 n525_b5 n500_n1_n1_b2 n428_n38_n1_n1_b2 n525_n18_b2 (nar .byte ((nar .char ((i1 &&& (255 : Int32)).toUInt32.toUInt16.toUInt32.toInt32)).toInt8.toInt32)) (nar .byte ((nar .char ((i2 &&& (255 : Int32)).toUInt32.toUInt16.toUInt32.toInt32)).toInt8.toInt32)) (nar .byte (((((i2.toUInt32 >>> ((8 : Int32) &&& 31).toUInt32).toInt32) &&& (255 : Int32)).toUInt32.toUInt16.toUInt32.toInt32).toInt8.toInt32)) cs F580 F581 F582 F583 F584 F587 F588 F589 F590 F591 F592 F593 F594 F595 F596 F597 A569 F600 F601 F602 F603 (Ne.symm ne574) (Ne.symm ne571) (Ne.symm ne576) (Ne.symm ne575) (Ne.symm ne572) (Ne.symm ne577) (Ne.symm ne483) ne540 ne512 (Ne.symm ne484) ne547 ne537 ne509 ne439 ne544 (Ne.symm ne541) (Ne.symm ne538) ne536 (Ne.symm ne510) ne548 ne545 ge578 ge486 ge440 ge542 ge513 ge442 ge549 hcs) (w := 1) (by decide) (by decide) pd_10 rfl (rest := [(.ref b566)]) rfl rfl (Nat.le_of_eq rfl) (by decide) (by decide) at_83 ?_
      rintro _ h605 ⟨rfl, K606, F607, F608, F609, F610, F611⟩
      show Wk _ p l e _ s m _ below meth c n0 _ h605 9 21 (mkF m 86 #[.val (.int i0), .val (.int i1), .val (.int i2), .val (.int i3), .val (.int (2 : Int32)), .val (.ref n428_b22), .val (.int (0 : Int32)), .val (.ref b448), .val (.ref b478), .val (.ref n525_b5), .unset, .unset] [(.ref b566)])
      have F612 : Exa Z h605 n428_b22 "java/lang/String" := F580.keep K606
      have F613 : Exa Z h605 n428_n38_n1_n1_b2 "[B" := F581.keep K606
      have F614 : Fa Z h605 n428_n38_n1_n1_b2 .byte 1 (up (fun _ => (.int (0 : Int32))) 0 (.int (nar .byte ((nar .char ((i1 &&& (255 : Int32)).toUInt32.toUInt16.toUInt32.toInt32)).toInt8.toInt32)))) := F582.keep K606 (nmS ne572 nm0)
      have F615 : Fld Z h605 n428_b22 "java/lang/String" "coder" "B" (.int (0 : Int32)) := F583.keep K606 (nmS ne571 nm0)
      have F616 : Fld Z h605 n428_b22 "java/lang/String" "value" "[B" (.ref n428_n38_n1_n1_b2) := F584.keep K606 (nmS ne571 nm0)
      have F617 : Exa Z h605 b448 "[C" := F585.keep K606
      have F618 : Fa Z h605 b448 .char 1 (up (fun _ => (.int (0 : Int32))) 0 (.int (nar .char ((i2 &&& (255 : Int32)).toUInt32.toUInt16.toUInt32.toInt32)))) := F586.keep K606 (nmS ne573 nm0)
      have F619 : Exa Z h605 b478 "java/lang/String" := F587.keep K606
      have F620 : Exa Z h605 n500_n1_n1_b2 "[B" := F588.keep K606
      have F621 : Fa Z h605 n500_n1_n1_b2 .byte 1 (up (fun _ => (.int (0 : Int32))) 0 (.int (nar .byte ((nar .char ((i2 &&& (255 : Int32)).toUInt32.toUInt16.toUInt32.toInt32)).toInt8.toInt32)))) := F589.keep K606 (nmS ne575 nm0)
      have F622 : Fld Z h605 b478 "java/lang/String" "coder" "B" (.int (0 : Int32)) := F590.keep K606 (nmS ne574 nm0)
      have F623 : Fld Z h605 b478 "java/lang/String" "value" "[B" (.ref n500_n1_n1_b2) := F591.keep K606 (nmS ne574 nm0)
      have F624 : Exa Z h605 n525_b5 "java/lang/String" := F592.keep K606
      have F625 : Exa Z h605 n525_n18_b2 "[B" := F593.keep K606
      have F626 : Fa Z h605 n525_n18_b2 .byte 1 (up (fun _ => (.int (0 : Int32))) 0 (.int (nar .byte (((((i2.toUInt32 >>> ((8 : Int32) &&& 31).toUInt32).toInt32) &&& (255 : Int32)).toUInt32.toUInt16.toUInt32.toInt32).toInt8.toInt32)))) := F594.keep K606 (nmS ne577 nm0)
      have F627 : Fld Z h605 n525_b5 "java/lang/String" "value" "[B" (.ref n525_n18_b2) := F596.keep K606 (nmS ne576 nm0)
      have F628 : Fld Z h605 n525_b5 "java/lang/String" "coder" "B" (.int (0 : Int32)) := F597.keep K606 (nmS ne576 nm0)
      have F629 : Exa Z h605 b566 "com/example/tripleshelf/tripleshelf/cli/Option" := A569.keep K606
      have sz630 : n0 ≤ h605.size := Nat.le_trans sz598 K606.1
      have sy631 : h0.size ≤ h605.size := Nat.le_trans sy599 K606.1
      refine Wk.st (g' := (mkF m 88 #[.val (.int i0), .val (.int i1), .val (.int i2), .val (.int i3), .val (.int (2 : Int32)), .val (.ref n428_b22), .val (.int (0 : Int32)), .val (.ref b448), .val (.ref b478), .val (.ref n525_b5), .val (.ref b566), .unset] [])) (fun X t q => XS.astore X.here C.hx rfl (hb C.hby at_86) rfl rfl (l' := #[.val (.int i0), .val (.int i1), .val (.int i2), .val (.int i3), .val (.int (2 : Int32)), .val (.ref n428_b22), .val (.int (0 : Int32)), .val (.ref b448), .val (.ref b478), .val (.ref n525_b5), .val (.ref b566), .unset]) rfl q) ?_
      refine Wk.st (g' := (mkF m 90 #[.val (.int i0), .val (.int i1), .val (.int i2), .val (.int i3), .val (.int (2 : Int32)), .val (.ref n428_b22), .val (.int (0 : Int32)), .val (.ref b448), .val (.ref b478), .val (.ref n525_b5), .val (.ref b566), .unset] [(.ref b566)])) (fun X t q => XS.aload X.here C.hx rfl (hb C.hby at_88) rfl rfl q) ?_
      refine Wk.callV C (x := (⟨"com/example/tripleshelf/tripleshelf/cli/Option", "takesValue", "()Z"⟩ : MethodName)) (z := (⟨"com/example/tripleshelf/tripleshelf/cli/Option", "takesValue", "()Z"⟩ : MethodName)) (K := "com/example/tripleshelf/tripleshelf/cli/Option") (hw _ (List.mem_of_getElem? (i := 68) rfl)) (hw _ (List.mem_of_getElem? (i := 69) rfl)) (hw _ (List.mem_of_getElem? (i := 71) rfl)) (hw _ (List.mem_of_getElem? (i := 70) rfl)) (hw _ (List.mem_of_getElem? (i := 50) rfl)) (hw _ (List.mem_of_getElem? (i := 72) rfl)) (by decide) (fun s' hZ' => notFace_of_selects (args := #[]) (mvT hZ' (hw _ (List.mem_of_getElem? (i := 71) rfl)))) F629 (own_14_19 l Z a0 hw n0 h605 sz630 b566 b478 n428_b22 n525_b5 n500_n1_n1_b2 n428_n38_n1_n1_b2 n525_n18_b2 (nar .byte ((nar .char ((i1 &&& (255 : Int32)).toUInt32.toUInt16.toUInt32.toInt32)).toInt8.toInt32)) (nar .byte ((nar .char ((i2 &&& (255 : Int32)).toUInt32.toUInt16.toUInt32.toInt32)).toInt8.toInt32)) (nar .byte (((((i2.toUInt32 >>> ((8 : Int32) &&& 31).toUInt32).toInt32) &&& (255 : Int32)).toUInt32.toUInt16.toUInt32.toInt32).toInt8.toInt32)) cs F612 F613 F614 F615 F616 F619 F620 F621 F622 F623 F624 F625 F626 F627 F628 F629 F607 F608 F609 F610 F611 (Ne.symm ne574) (Ne.symm ne571) (Ne.symm ne576) (Ne.symm ne575) (Ne.symm ne572) (Ne.symm ne577) (Ne.symm ne483) ne540 ne512 (Ne.symm ne484) ne547 ne537 ne509 ne439 ne544 (Ne.symm ne541) (Ne.symm ne538) ne536 (Ne.symm ne510) ne548 ne545 ge578 ge486 ge440 ge542 ge513 ge442 ge549 hcs) (w := 0) (by decide) (by decide) pd_12 rfl (rest := []) rfl rfl (Nat.le_of_eq rfl) (by decide) (by decide) at_90 ?_
      rintro _ _ ⟨rfl, rfl⟩
      show Wk _ p l e _ s m _ below meth c n0 _ h605 9 21 (mkF m 93 #[.val (.int i0), .val (.int i1), .val (.int i2), .val (.int i3), .val (.int (2 : Int32)), .val (.ref n428_b22), .val (.int (0 : Int32)), .val (.ref b448), .val (.ref b478), .val (.ref n525_b5), .val (.ref b566), .unset] [(.int (1 : Int32))])
      refine Wk.st (g' := (mkF m 95 #[.val (.int i0), .val (.int i1), .val (.int i2), .val (.int i3), .val (.int (2 : Int32)), .val (.ref n428_b22), .val (.int (0 : Int32)), .val (.ref b448), .val (.ref b478), .val (.ref n525_b5), .val (.ref b566), .val (.int (1 : Int32))] [])) (fun X t q => XS.istore X.here C.hx rfl (hb C.hby at_93) rfl (l' := #[.val (.int i0), .val (.int i1), .val (.int i2), .val (.int i3), .val (.int (2 : Int32)), .val (.ref n428_b22), .val (.int (0 : Int32)), .val (.ref b448), .val (.ref b478), .val (.ref n525_b5), .val (.ref b566), .val (.int (1 : Int32))]) rfl q) ?_
      refine Wk.st (g' := (mkF m 97 #[.val (.int i0), .val (.int i1), .val (.int i2), .val (.int i3), .val (.int (2 : Int32)), .val (.ref n428_b22), .val (.int (0 : Int32)), .val (.ref b448), .val (.ref b478), .val (.ref n525_b5), .val (.ref b566), .val (.int (1 : Int32))] [(.int (1 : Int32))])) (fun X t q => XS.iload X.here C.hx rfl (hb C.hby at_95) rfl q) ?_
      refine Wk.st (g' := (mkF m 99 #[.val (.int i0), .val (.int i1), .val (.int i2), .val (.int i3), .val (.int (2 : Int32)), .val (.ref n428_b22), .val (.int (0 : Int32)), .val (.ref b448), .val (.ref b478), .val (.ref n525_b5), .val (.ref b566), .val (.int (1 : Int32))] [(.int (2 : Int32)), (.int (1 : Int32))])) (fun X t q => XS.iload X.here C.hx rfl (hb C.hby at_97) rfl q) ?_
      refine Wk.st (g' := (mkF m 102 #[.val (.int i0), .val (.int i1), .val (.int i2), .val (.int i3), .val (.int (2 : Int32)), .val (.ref n428_b22), .val (.int (0 : Int32)), .val (.ref b448), .val (.ref b478), .val (.ref n525_b5), .val (.ref b566), .val (.int (1 : Int32))] [(.int (1 : Int32))])) (fun X t q => XS.ifNo X.here C.hx rfl (hb C.hby at_99) rfl (XT.i0_eq_f (by decide)) q) ?_
      refine Wk.st (g' := (mkF m 103 #[.val (.int i0), .val (.int i1), .val (.int i2), .val (.int i3), .val (.int (2 : Int32)), .val (.ref n428_b22), .val (.int (0 : Int32)), .val (.ref b448), .val (.ref b478), .val (.ref n525_b5), .val (.ref b566), .val (.int (1 : Int32))] [(.int (1 : Int32)), (.int (1 : Int32))])) (fun X t q => XS.iconst X.here C.hx rfl (hb C.hby at_102) q) ?_
      refine Wk.st (g' := (mkF m 107 #[.val (.int i0), .val (.int i1), .val (.int i2), .val (.int i3), .val (.int (2 : Int32)), .val (.ref n428_b22), .val (.int (0 : Int32)), .val (.ref b448), .val (.ref b478), .val (.ref n525_b5), .val (.ref b566), .val (.int (1 : Int32))] [(.int (1 : Int32)), (.int (1 : Int32))])) (fun X t q => XS.goto X.here C.hx rfl (pc0 := 103) (pc' := 107) rfl (hb C.hby at_103) (by decide) (by decide) q) ?_
      refine Wk.st (g' := (mkF m 110 #[.val (.int i0), .val (.int i1), .val (.int i2), .val (.int i3), .val (.int (2 : Int32)), .val (.ref n428_b22), .val (.int (0 : Int32)), .val (.ref b448), .val (.ref b478), .val (.ref n525_b5), .val (.ref b566), .val (.int (1 : Int32))] [])) (fun X t q => XS.icmpNo X.here C.hx rfl (hb C.hby at_107) rfl (XT.ii_ne_f (by decide)) q) ?_
      refine Wk.st (g' := (mkF m 111 #[.val (.int i0), .val (.int i1), .val (.int i2), .val (.int i3), .val (.int (2 : Int32)), .val (.ref n428_b22), .val (.int (0 : Int32)), .val (.ref b448), .val (.ref b478), .val (.ref n525_b5), .val (.ref b566), .val (.int (1 : Int32))] [(.int (1 : Int32))])) (fun X t q => XS.iconst X.here C.hx rfl (hb C.hby at_110) q) ?_
      refine Wk.st (g' := (mkF m 115 #[.val (.int i0), .val (.int i1), .val (.int i2), .val (.int i3), .val (.int (2 : Int32)), .val (.ref n428_b22), .val (.int (0 : Int32)), .val (.ref b448), .val (.ref b478), .val (.ref n525_b5), .val (.ref b566), .val (.int (1 : Int32))] [(.int (1 : Int32))])) (fun X t q => XS.goto X.here C.hx rfl (pc0 := 111) (pc' := 115) rfl (hb C.hby at_111) (by decide) (by decide) q) ?_
      exact Wk.retV C (t := .boolean) rfl rfl (Or.inl ⟨rfl, by simp, _, rfl⟩) at_115 (by decide) (by decide) rfl
    · skip
      refine Wk.st (g' := (mkF m 24 #[.val (.int i0), .val (.int i1), .val (.int i2), .val (.int i3), .val (.int (2 : Int32)), .val (.ref n428_b22), .unset, .unset, .unset, .unset, .unset, .unset] [])) (fun X t q => XS.ifNo X.here C.hx rfl (hb C.hby at_21) rfl (XT.i0_eq_f hb446) q) ?_
      refine Wk.st (g' := (mkF m 25 #[.val (.int i0), .val (.int i1), .val (.int i2), .val (.int i3), .val (.int (2 : Int32)), .val (.ref n428_b22), .unset, .unset, .unset, .unset, .unset, .unset] [(.int (1 : Int32))])) (fun X t q => XS.iconst X.here C.hx rfl (hb C.hby at_24) q) ?_
      refine Wk.st (g' := (mkF m 29 #[.val (.int i0), .val (.int i1), .val (.int i2), .val (.int i3), .val (.int (2 : Int32)), .val (.ref n428_b22), .unset, .unset, .unset, .unset, .unset, .unset] [(.int (1 : Int32))])) (fun X t q => XS.goto X.here C.hx rfl (pc0 := 25) (pc' := 29) rfl (hb C.hby at_25) (by decide) (by decide) q) ?_
      refine Wk.st (g' := (mkF m 31 #[.val (.int i0), .val (.int i1), .val (.int i2), .val (.int i3), .val (.int (2 : Int32)), .val (.ref n428_b22), .val (.int (1 : Int32)), .unset, .unset, .unset, .unset, .unset] [])) (fun X t q => XS.istore X.here C.hx rfl (hb C.hby at_29) rfl (l' := #[.val (.int i0), .val (.int i1), .val (.int i2), .val (.int i3), .val (.int (2 : Int32)), .val (.ref n428_b22), .val (.int (1 : Int32)), .unset, .unset, .unset, .unset, .unset]) rfl q) ?_
      refine Wk.st (g' := (mkF m 32 #[.val (.int i0), .val (.int i1), .val (.int i2), .val (.int i3), .val (.int (2 : Int32)), .val (.ref n428_b22), .val (.int (1 : Int32)), .unset, .unset, .unset, .unset, .unset] [(.int (1 : Int32))])) (fun X t q => XS.iconst X.here C.hx rfl (hb C.hby at_31) q) ?_
      refine Wk.fNewP C (hw _ (List.mem_of_getElem? (i := 4) rfl)) (ty := .char) (dv := (.int (0 : Int32))) (N := 1) (ad := "[C") rfl rfl (by decide) (by decide) (by decide) (cap := 1) (by decide) (by decide) at_32 (by decide) (by decide) ?_
      intro h635 b636 g637 E638 A639 F640
      have ne641 : n428_b22 ≠ b636 := Nat.ne_of_lt (Nat.lt_of_lt_of_le F431.lt (Nat.le_of_eq g637.symm))
      have ne642 : n428_n38_n1_n1_b2 ≠ b636 := Nat.ne_of_lt (Nat.lt_of_lt_of_le F432.lt (Nat.le_of_eq g637.symm))
      have ge643 : n0 ≤ b636 := Nat.le_trans sz444 (Nat.le_of_eq g637.symm)
      have gz644 : h0.size ≤ b636 := Nat.le_trans sy445 (Nat.le_of_eq g637.symm)
      have F645 : Exa Z h635 n428_b22 "java/lang/String" := F431.ext E638
      have F646 : Exa Z h635 n428_n38_n1_n1_b2 "[B" := F432.ext E638
      have F647 : Sta Z h635 "java/lang/String" "COMPACT_STRINGS" "Z" (.int cs) := F433.ext E638
      have F648 : Fa Z h635 n428_n38_n1_n1_b2 .byte 1 (up (fun _ => (.int (0 : Int32))) 0 (.int (nar .byte ((nar .char ((i1 &&& (255 : Int32)).toUInt32.toUInt16.toUInt32.toInt32)).toInt8.toInt32)))) := F434.ext E638
      have F649 : Fld Z h635 n428_b22 "java/lang/String" "coder" "B" (.int (0 : Int32)) := F435.ext E638
      have F650 : Fld Z h635 n428_b22 "java/lang/String" "value" "[B" (.ref n428_n38_n1_n1_b2) := F436.ext E638
      have sz651 : n0 ≤ h635.size := Nat.le_trans sz444 E638.1
      have sy652 : h0.size ≤ h635.size := Nat.le_trans sy445 E638.1
      show Wk _ p l e _ s m _ below meth c n0 _ h635 4 7 (mkF m 34 #[.val (.int i0), .val (.int i1), .val (.int i2), .val (.int i3), .val (.int (2 : Int32)), .val (.ref n428_b22), .val (.int (1 : Int32)), .unset, .unset, .unset, .unset, .unset] [(.ref b636)])
      refine Wk.st (g' := (mkF m 36 #[.val (.int i0), .val (.int i1), .val (.int i2), .val (.int i3), .val (.int (2 : Int32)), .val (.ref n428_b22), .val (.int (1 : Int32)), .val (.ref b636), .unset, .unset, .unset, .unset] [])) (fun X t q => XS.astore X.here C.hx rfl (hb C.hby at_34) rfl rfl (l' := #[.val (.int i0), .val (.int i1), .val (.int i2), .val (.int i3), .val (.int (2 : Int32)), .val (.ref n428_b22), .val (.int (1 : Int32)), .val (.ref b636), .unset, .unset, .unset, .unset]) rfl q) ?_
      refine Wk.st (g' := (mkF m 38 #[.val (.int i0), .val (.int i1), .val (.int i2), .val (.int i3), .val (.int (2 : Int32)), .val (.ref n428_b22), .val (.int (1 : Int32)), .val (.ref b636), .unset, .unset, .unset, .unset] [(.ref b636)])) (fun X t q => XS.aload X.here C.hx rfl (hb C.hby at_36) rfl rfl q) ?_
      refine Wk.st (g' := (mkF m 39 #[.val (.int i0), .val (.int i1), .val (.int i2), .val (.int i3), .val (.int (2 : Int32)), .val (.ref n428_b22), .val (.int (1 : Int32)), .val (.ref b636), .unset, .unset, .unset, .unset] [(.int (0 : Int32)), (.ref b636)])) (fun X t q => XS.iconst X.here C.hx rfl (hb C.hby at_38) q) ?_
      refine Wk.st (g' := (mkF m 40 #[.val (.int i0), .val (.int i1), .val (.int i2), .val (.int i3), .val (.int (2 : Int32)), .val (.ref n428_b22), .val (.int (1 : Int32)), .val (.ref b636), .unset, .unset, .unset, .unset] [(.int i2), (.int (0 : Int32)), (.ref b636)])) (fun X t q => XS.iloadN X.here C.hx rfl (hb C.hby at_39) rfl q) ?_
      refine Wk.st (g' := (mkF m 43 #[.val (.int i0), .val (.int i1), .val (.int i2), .val (.int i3), .val (.int (2 : Int32)), .val (.ref n428_b22), .val (.int (1 : Int32)), .val (.ref b636), .unset, .unset, .unset, .unset] [(.int (255 : Int32)), (.int i2), (.int (0 : Int32)), (.ref b636)])) (fun X t q => XS.sipush X.here C.hx rfl (hb C.hby at_40) q) ?_
      refine Wk.st (g' := (mkF m 44 #[.val (.int i0), .val (.int i1), .val (.int i2), .val (.int i3), .val (.int (2 : Int32)), .val (.ref n428_b22), .val (.int (1 : Int32)), .val (.ref b636), .unset, .unset, .unset, .unset] [(.int (i2 &&& (255 : Int32))), (.int (0 : Int32)), (.ref b636)])) (fun X t q => XS.iand X.here C.hx rfl (hb C.hby at_43) rfl q) ?_
      refine Wk.st (g' := (mkF m 45 #[.val (.int i0), .val (.int i1), .val (.int i2), .val (.int i3), .val (.int (2 : Int32)), .val (.ref n428_b22), .val (.int (1 : Int32)), .val (.ref b636), .unset, .unset, .unset, .unset] [(.int ((i2 &&& (255 : Int32)).toUInt32.toUInt16.toUInt32.toInt32)), (.int (0 : Int32)), (.ref b636)])) (fun X t q => XS.i2c X.here C.hx rfl (hb C.hby at_44) rfl q) ?_
      refine Wk.fStC C F640 (x' := (nar .char ((i2 &&& (255 : Int32)).toUInt32.toUInt16.toUInt32.toInt32))) rfl (i := 0) (by decide) (by decide) (by decide) ge643 at_45 ?_
      intro h653 W654 F655
      have F656 : Exa Z h653 n428_b22 "java/lang/String" := F645.wr W654
      have F657 : Exa Z h653 n428_n38_n1_n1_b2 "[B" := F646.wr W654
      have F658 : Sta Z h653 "java/lang/String" "COMPACT_STRINGS" "Z" (.int cs) := F647.wr W654
      have F659 : Fa Z h653 n428_n38_n1_n1_b2 .byte 1 (up (fun _ => (.int (0 : Int32))) 0 (.int (nar .byte ((nar .char ((i1 &&& (255 : Int32)).toUInt32.toUInt16.toUInt32.toInt32)).toInt8.toInt32)))) := F648.other W654 ne642
      have F660 : Fld Z h653 n428_b22 "java/lang/String" "coder" "B" (.int (0 : Int32)) := F649.other W654 (Or.inl ne641)
      have F661 : Fld Z h653 n428_b22 "java/lang/String" "value" "[B" (.ref n428_n38_n1_n1_b2) := F650.other W654 (Or.inl ne641)
      have F662 : Exa Z h653 b636 "[C" := A639.wr W654
      have sz663 : n0 ≤ h653.size := Nat.le_trans sz651 (Nat.le_of_eq W654.size.symm)
      have sy664 : h0.size ≤ h653.size := Nat.le_trans sy652 (Nat.le_of_eq W654.size.symm)
      show Wk _ p l e _ s m _ below meth c n0 _ h653 4 7 (mkF m 46 #[.val (.int i0), .val (.int i1), .val (.int i2), .val (.int i3), .val (.int (2 : Int32)), .val (.ref n428_b22), .val (.int (1 : Int32)), .val (.ref b636), .unset, .unset, .unset, .unset] [])
      refine Wk.newO C (hw _ (List.mem_of_getElem? (i := 5) rfl)) (hw _ (List.mem_of_getElem? (i := 6) rfl)) (hw _ (List.mem_of_getElem? (i := 7) rfl)) at_46 (by decide) (by decide) ?_
      intro h665 b666 g667 E668 A669 D670
      have ne671 : n428_b22 ≠ b666 := Nat.ne_of_lt (Nat.lt_of_lt_of_le F656.lt (Nat.le_of_eq g667.symm))
      have ne672 : n428_n38_n1_n1_b2 ≠ b666 := Nat.ne_of_lt (Nat.lt_of_lt_of_le F657.lt (Nat.le_of_eq g667.symm))
      have ne673 : b636 ≠ b666 := Nat.ne_of_lt (Nat.lt_of_lt_of_le F662.lt (Nat.le_of_eq g667.symm))
      have ge674 : n0 ≤ b666 := Nat.le_trans sz663 (Nat.le_of_eq g667.symm)
      have gz675 : h0.size ≤ b666 := Nat.le_trans sy664 (Nat.le_of_eq g667.symm)
      have F676 : Exa Z h665 n428_b22 "java/lang/String" := F656.ext E668
      have F677 : Exa Z h665 n428_n38_n1_n1_b2 "[B" := F657.ext E668
      have F678 : Sta Z h665 "java/lang/String" "COMPACT_STRINGS" "Z" (.int cs) := F658.ext E668
      have F679 : Fa Z h665 n428_n38_n1_n1_b2 .byte 1 (up (fun _ => (.int (0 : Int32))) 0 (.int (nar .byte ((nar .char ((i1 &&& (255 : Int32)).toUInt32.toUInt16.toUInt32.toInt32)).toInt8.toInt32)))) := F659.ext E668
      have F680 : Fld Z h665 n428_b22 "java/lang/String" "coder" "B" (.int (0 : Int32)) := F660.ext E668
      have F681 : Fld Z h665 n428_b22 "java/lang/String" "value" "[B" (.ref n428_n38_n1_n1_b2) := F661.ext E668
      have F682 : Exa Z h665 b636 "[C" := F662.ext E668
      have F683 : Fa Z h665 b636 .char 1 (up (fun _ => (.int (0 : Int32))) 0 (.int (nar .char ((i2 &&& (255 : Int32)).toUInt32.toUInt16.toUInt32.toInt32)))) := F655.ext E668
      have sz684 : n0 ≤ h665.size := Nat.le_trans sz663 E668.1
      have sy685 : h0.size ≤ h665.size := Nat.le_trans sy664 E668.1
      have F686 : Fld Z h665 b666 "java/lang/String" "coder" "B" (.int (0 : Int32)) := D670 (Or.inr (hw _ (List.mem_of_getElem? (i := 31) rfl))) (ty := .byte) (by decide)
      have F687 : Fld Z h665 b666 "java/lang/String" "value" "[B" .null := D670 (Or.inr (hw _ (List.mem_of_getElem? (i := 33) rfl))) (ty := (.array .byte)) (by decide)
      show Wk _ p l e _ s m _ below meth c n0 _ h665 5 11 (mkF m 49 #[.val (.int i0), .val (.int i1), .val (.int i2), .val (.int i3), .val (.int (2 : Int32)), .val (.ref n428_b22), .val (.int (1 : Int32)), .val (.ref b636), .unset, .unset, .unset, .unset] [(.ref b666)])
      refine Wk.st (g' := (mkF m 50 #[.val (.int i0), .val (.int i1), .val (.int i2), .val (.int i3), .val (.int (2 : Int32)), .val (.ref n428_b22), .val (.int (1 : Int32)), .val (.ref b636), .unset, .unset, .unset, .unset] [(.ref b666), (.ref b666)])) (fun X t q => XS.dup X.here C.hx rfl (hb C.hby at_49) rfl rfl q) ?_
      refine Wk.st (g' := (mkF m 52 #[.val (.int i0), .val (.int i1), .val (.int i2), .val (.int i3), .val (.int (2 : Int32)), .val (.ref n428_b22), .val (.int (1 : Int32)), .val (.ref b636), .unset, .unset, .unset, .unset] [(.ref b636), (.ref b666), (.ref b666)])) (fun X t q => XS.aload X.here C.hx rfl (hb C.hby at_50) rfl rfl q) ?_
      refine Wk.callI C (z := (⟨"java/lang/String", "<init>", "([C)V"⟩ : MethodName)) rfl (hw _ (List.mem_of_getElem? (i := 8) rfl)) (hw _ (List.mem_of_getElem? (i := 9) rfl)) (hw _ (List.mem_of_getElem? (i := 7) rfl)) (hw _ (List.mem_of_getElem? (i := 10) rfl)) (by decide) (own_2_1 l Z a0 hw n0 h665 sz684 b666 b636 cs (nar .char ((i2 &&& (255 : Int32)).toUInt32.toUInt16.toUInt32.toInt32)) F678 F682 F683 A669 F686 F687 (Ne.symm ne673) ge674 ge643 (latn i2) hcs) (w := 1) (by decide) (by decide) pd_1 rfl (rest := [(.ref b666)]) rfl rfl (Nat.le_of_eq rfl) (by decide) (by decide) at_52 ?_
      rintro _ h689 ⟨n688_n1_n1_b2, rfl, K690, gn696, F691, F692, F693, F694, F695⟩
      show Wk _ p l e _ s m _ below meth c n0 _ h689 6 12 (mkF m 55 #[.val (.int i0), .val (.int i1), .val (.int i2), .val (.int i3), .val (.int (2 : Int32)), .val (.ref n428_b22), .val (.int (1 : Int32)), .val (.ref b636), .unset, .unset, .unset, .unset] [(.ref b666)])
      have ne697 : n428_b22 ≠ n688_n1_n1_b2 := Nat.ne_of_lt (Nat.lt_of_lt_of_le F676.lt gn696)
      have ne698 : n428_n38_n1_n1_b2 ≠ n688_n1_n1_b2 := Nat.ne_of_lt (Nat.lt_of_lt_of_le F677.lt gn696)
      have ne699 : b636 ≠ n688_n1_n1_b2 := Nat.ne_of_lt (Nat.lt_of_lt_of_le F682.lt gn696)
      have ne700 : b666 ≠ n688_n1_n1_b2 := Nat.ne_of_lt (Nat.lt_of_lt_of_le A669.lt gn696)
      have ge701 : n0 ≤ n688_n1_n1_b2 := Nat.le_trans sz684 gn696
      have gz702 : h0.size ≤ n688_n1_n1_b2 := Nat.le_trans sy685 gn696
      have F703 : Exa Z h689 n428_b22 "java/lang/String" := F676.keep K690
      have F704 : Exa Z h689 n428_n38_n1_n1_b2 "[B" := F677.keep K690
      have F705 : Fa Z h689 n428_n38_n1_n1_b2 .byte 1 (up (fun _ => (.int (0 : Int32))) 0 (.int (nar .byte ((nar .char ((i1 &&& (255 : Int32)).toUInt32.toUInt16.toUInt32.toInt32)).toInt8.toInt32)))) := F679.keep K690 (nmS ne672 nm0)
      have F706 : Fld Z h689 n428_b22 "java/lang/String" "coder" "B" (.int (0 : Int32)) := F680.keep K690 (nmS ne671 nm0)
      have F707 : Fld Z h689 n428_b22 "java/lang/String" "value" "[B" (.ref n428_n38_n1_n1_b2) := F681.keep K690 (nmS ne671 nm0)
      have F708 : Exa Z h689 b636 "[C" := F682.keep K690
      have F709 : Fa Z h689 b636 .char 1 (up (fun _ => (.int (0 : Int32))) 0 (.int (nar .char ((i2 &&& (255 : Int32)).toUInt32.toUInt16.toUInt32.toInt32)))) := F683.keep K690 (nmS ne673 nm0)
      have F710 : Exa Z h689 b666 "java/lang/String" := A669.keep K690
      have sz711 : n0 ≤ h689.size := Nat.le_trans sz684 K690.1
      have sy712 : h0.size ≤ h689.size := Nat.le_trans sy685 K690.1
      refine Wk.st (g' := (mkF m 57 #[.val (.int i0), .val (.int i1), .val (.int i2), .val (.int i3), .val (.int (2 : Int32)), .val (.ref n428_b22), .val (.int (1 : Int32)), .val (.ref b636), .val (.ref b666), .unset, .unset, .unset] [])) (fun X t q => XS.astore X.here C.hx rfl (hb C.hby at_55) rfl rfl (l' := #[.val (.int i0), .val (.int i1), .val (.int i2), .val (.int i3), .val (.int (2 : Int32)), .val (.ref n428_b22), .val (.int (1 : Int32)), .val (.ref b636), .val (.ref b666), .unset, .unset, .unset]) rfl q) ?_
      refine Wk.st (g' := (mkF m 58 #[.val (.int i0), .val (.int i1), .val (.int i2), .val (.int i3), .val (.int (2 : Int32)), .val (.ref n428_b22), .val (.int (1 : Int32)), .val (.ref b636), .val (.ref b666), .unset, .unset, .unset] [(.int i2)])) (fun X t q => XS.iloadN X.here C.hx rfl (hb C.hby at_57) rfl q) ?_
      refine Wk.st (g' := (mkF m 60 #[.val (.int i0), .val (.int i1), .val (.int i2), .val (.int i3), .val (.int (2 : Int32)), .val (.ref n428_b22), .val (.int (1 : Int32)), .val (.ref b636), .val (.ref b666), .unset, .unset, .unset] [(.int (8 : Int32)), (.int i2)])) (fun X t q => XS.bipush X.here C.hx rfl (hb C.hby at_58) q) ?_
      refine Wk.st (g' := (mkF m 61 #[.val (.int i0), .val (.int i1), .val (.int i2), .val (.int i3), .val (.int (2 : Int32)), .val (.ref n428_b22), .val (.int (1 : Int32)), .val (.ref b636), .val (.ref b666), .unset, .unset, .unset] [(.int ((i2.toUInt32 >>> ((8 : Int32) &&& 31).toUInt32).toInt32))])) (fun X t q => XS.iushr X.here C.hx rfl (hb C.hby at_60) rfl q) ?_
      refine Wk.st (g' := (mkF m 64 #[.val (.int i0), .val (.int i1), .val (.int i2), .val (.int i3), .val (.int (2 : Int32)), .val (.ref n428_b22), .val (.int (1 : Int32)), .val (.ref b636), .val (.ref b666), .unset, .unset, .unset] [(.int (255 : Int32)), (.int ((i2.toUInt32 >>> ((8 : Int32) &&& 31).toUInt32).toInt32))])) (fun X t q => XS.sipush X.here C.hx rfl (hb C.hby at_61) q) ?_
      refine Wk.st (g' := (mkF m 65 #[.val (.int i0), .val (.int i1), .val (.int i2), .val (.int i3), .val (.int (2 : Int32)), .val (.ref n428_b22), .val (.int (1 : Int32)), .val (.ref b636), .val (.ref b666), .unset, .unset, .unset] [(.int (((i2.toUInt32 >>> ((8 : Int32) &&& 31).toUInt32).toInt32) &&& (255 : Int32)))])) (fun X t q => XS.iand X.here C.hx rfl (hb C.hby at_64) rfl q) ?_
      refine Wk.st (g' := (mkF m 66 #[.val (.int i0), .val (.int i1), .val (.int i2), .val (.int i3), .val (.int (2 : Int32)), .val (.ref n428_b22), .val (.int (1 : Int32)), .val (.ref b636), .val (.ref b666), .unset, .unset, .unset] [(.int ((((i2.toUInt32 >>> ((8 : Int32) &&& 31).toUInt32).toInt32) &&& (255 : Int32)).toUInt32.toUInt16.toUInt32.toInt32))])) (fun X t q => XS.i2c X.here C.hx rfl (hb C.hby at_65) rfl q) ?_
      refine Wk.callS C (z := (⟨"java/lang/String", "valueOf", "(C)Ljava/lang/String;"⟩ : MethodName)) (hw _ (List.mem_of_getElem? (i := 34) rfl)) (hw _ (List.mem_of_getElem? (i := 35) rfl)) (hw _ (List.mem_of_getElem? (i := 7) rfl)) (hw _ (List.mem_of_getElem? (i := 36) rfl)) (by decide) (own_8_6 l Z a0 hw n0 h689 sz711  ((((i2.toUInt32 >>> ((8 : Int32) &&& 31).toUInt32).toInt32) &&& (255 : Int32)).toUInt32.toUInt16.toUInt32.toInt32) cs F692   (lat0 ((i2.toUInt32 >>> ((8 : Int32) &&& 31).toUInt32).toInt32)) hcs) (w := 0) (by decide) (by decide) pd_6 rfl (rest := []) rfl rfl (Nat.le_of_eq rfl) (by decide) (by decide) at_66 ?_
      rintro _ h714 ⟨n713_b5, n713_n18_b2, rfl, K715, gn722, gn723, ne724, F716, F717, F718, F719, F720, F721⟩
      show Wk _ p l e _ s m _ below meth c n0 _ h714 8 17 (mkF m 69 #[.val (.int i0), .val (.int i1), .val (.int i2), .val (.int i3), .val (.int (2 : Int32)), .val (.ref n428_b22), .val (.int (1 : Int32)), .val (.ref b636), .val (.ref b666), .unset, .unset, .unset] [(.ref n713_b5)])
      have ne725 : n428_b22 ≠ n713_b5 := Nat.ne_of_lt (Nat.lt_of_lt_of_le F703.lt gn722)
      have ne726 : n428_n38_n1_n1_b2 ≠ n713_b5 := Nat.ne_of_lt (Nat.lt_of_lt_of_le F704.lt gn722)
      have ne727 : b636 ≠ n713_b5 := Nat.ne_of_lt (Nat.lt_of_lt_of_le F708.lt gn722)
      have ne728 : b666 ≠ n713_b5 := Nat.ne_of_lt (Nat.lt_of_lt_of_le F710.lt gn722)
      have ne729 : n688_n1_n1_b2 ≠ n713_b5 := Nat.ne_of_lt (Nat.lt_of_lt_of_le F691.lt gn722)
      have ge730 : n0 ≤ n713_b5 := Nat.le_trans sz711 gn722
      have gz731 : h0.size ≤ n713_b5 := Nat.le_trans sy712 gn722
      have ne732 : n428_b22 ≠ n713_n18_b2 := Nat.ne_of_lt (Nat.lt_of_lt_of_le F703.lt gn723)
      have ne733 : n428_n38_n1_n1_b2 ≠ n713_n18_b2 := Nat.ne_of_lt (Nat.lt_of_lt_of_le F704.lt gn723)
      have ne734 : b636 ≠ n713_n18_b2 := Nat.ne_of_lt (Nat.lt_of_lt_of_le F708.lt gn723)
      have ne735 : b666 ≠ n713_n18_b2 := Nat.ne_of_lt (Nat.lt_of_lt_of_le F710.lt gn723)
      have ne736 : n688_n1_n1_b2 ≠ n713_n18_b2 := Nat.ne_of_lt (Nat.lt_of_lt_of_le F691.lt gn723)
      have ge737 : n0 ≤ n713_n18_b2 := Nat.le_trans sz711 gn723
      have gz738 : h0.size ≤ n713_n18_b2 := Nat.le_trans sy712 gn723
      have F739 : Exa Z h714 n428_b22 "java/lang/String" := F703.keep K715
      have F740 : Exa Z h714 n428_n38_n1_n1_b2 "[B" := F704.keep K715
      have F741 : Fa Z h714 n428_n38_n1_n1_b2 .byte 1 (up (fun _ => (.int (0 : Int32))) 0 (.int (nar .byte ((nar .char ((i1 &&& (255 : Int32)).toUInt32.toUInt16.toUInt32.toInt32)).toInt8.toInt32)))) := F705.keep K715 nm0
      have F742 : Fld Z h714 n428_b22 "java/lang/String" "coder" "B" (.int (0 : Int32)) := F706.keep K715 nm0
      have F743 : Fld Z h714 n428_b22 "java/lang/String" "value" "[B" (.ref n428_n38_n1_n1_b2) := F707.keep K715 nm0
      have F744 : Exa Z h714 b636 "[C" := F708.keep K715
      have F745 : Fa Z h714 b636 .char 1 (up (fun _ => (.int (0 : Int32))) 0 (.int (nar .char ((i2 &&& (255 : Int32)).toUInt32.toUInt16.toUInt32.toInt32)))) := F709.keep K715 nm0
      have F746 : Exa Z h714 b666 "java/lang/String" := F710.keep K715
      have F747 : Exa Z h714 n688_n1_n1_b2 "[B" := F691.keep K715
      have F748 : Fa Z h714 n688_n1_n1_b2 .byte 1 (up (fun _ => (.int (0 : Int32))) 0 (.int (nar .byte ((nar .char ((i2 &&& (255 : Int32)).toUInt32.toUInt16.toUInt32.toInt32)).toInt8.toInt32)))) := F693.keep K715 nm0
      have F749 : Fld Z h714 b666 "java/lang/String" "coder" "B" (.int (0 : Int32)) := F694.keep K715 nm0
      have F750 : Fld Z h714 b666 "java/lang/String" "value" "[B" (.ref n688_n1_n1_b2) := F695.keep K715 nm0
      have sz751 : n0 ≤ h714.size := Nat.le_trans sz711 K715.1
      have sy752 : h0.size ≤ h714.size := Nat.le_trans sy712 K715.1
      refine Wk.st (g' := (mkF m 71 #[.val (.int i0), .val (.int i1), .val (.int i2), .val (.int i3), .val (.int (2 : Int32)), .val (.ref n428_b22), .val (.int (1 : Int32)), .val (.ref b636), .val (.ref b666), .val (.ref n713_b5), .unset, .unset] [])) (fun X t q => XS.astore X.here C.hx rfl (hb C.hby at_69) rfl rfl (l' := #[.val (.int i0), .val (.int i1), .val (.int i2), .val (.int i3), .val (.int (2 : Int32)), .val (.ref n428_b22), .val (.int (1 : Int32)), .val (.ref b636), .val (.ref b666), .val (.ref n713_b5), .unset, .unset]) rfl q) ?_
      refine Wk.newO C (hw _ (List.mem_of_getElem? (i := 48) rfl)) (hw _ (List.mem_of_getElem? (i := 49) rfl)) (hw _ (List.mem_of_getElem? (i := 50) rfl)) at_71 (by decide) (by decide) ?_
      intro h753 b754 g755 E756 A757 D758
      have ne759 : n428_b22 ≠ b754 := Nat.ne_of_lt (Nat.lt_of_lt_of_le F739.lt (Nat.le_of_eq g755.symm))
      have ne760 : n428_n38_n1_n1_b2 ≠ b754 := Nat.ne_of_lt (Nat.lt_of_lt_of_le F740.lt (Nat.le_of_eq g755.symm))
      have ne761 : b636 ≠ b754 := Nat.ne_of_lt (Nat.lt_of_lt_of_le F744.lt (Nat.le_of_eq g755.symm))
      have ne762 : b666 ≠ b754 := Nat.ne_of_lt (Nat.lt_of_lt_of_le F746.lt (Nat.le_of_eq g755.symm))
      have ne763 : n688_n1_n1_b2 ≠ b754 := Nat.ne_of_lt (Nat.lt_of_lt_of_le F747.lt (Nat.le_of_eq g755.symm))
      have ne764 : n713_b5 ≠ b754 := Nat.ne_of_lt (Nat.lt_of_lt_of_le F716.lt (Nat.le_of_eq g755.symm))
      have ne765 : n713_n18_b2 ≠ b754 := Nat.ne_of_lt (Nat.lt_of_lt_of_le F717.lt (Nat.le_of_eq g755.symm))
      have ge766 : n0 ≤ b754 := Nat.le_trans sz751 (Nat.le_of_eq g755.symm)
      have gz767 : h0.size ≤ b754 := Nat.le_trans sy752 (Nat.le_of_eq g755.symm)
      have F768 : Exa Z h753 n428_b22 "java/lang/String" := F739.ext E756
      have F769 : Exa Z h753 n428_n38_n1_n1_b2 "[B" := F740.ext E756
      have F770 : Fa Z h753 n428_n38_n1_n1_b2 .byte 1 (up (fun _ => (.int (0 : Int32))) 0 (.int (nar .byte ((nar .char ((i1 &&& (255 : Int32)).toUInt32.toUInt16.toUInt32.toInt32)).toInt8.toInt32)))) := F741.ext E756
      have F771 : Fld Z h753 n428_b22 "java/lang/String" "coder" "B" (.int (0 : Int32)) := F742.ext E756
      have F772 : Fld Z h753 n428_b22 "java/lang/String" "value" "[B" (.ref n428_n38_n1_n1_b2) := F743.ext E756
      have F773 : Exa Z h753 b636 "[C" := F744.ext E756
      have F774 : Fa Z h753 b636 .char 1 (up (fun _ => (.int (0 : Int32))) 0 (.int (nar .char ((i2 &&& (255 : Int32)).toUInt32.toUInt16.toUInt32.toInt32)))) := F745.ext E756
      have F775 : Exa Z h753 b666 "java/lang/String" := F746.ext E756
      have F776 : Exa Z h753 n688_n1_n1_b2 "[B" := F747.ext E756
      have F777 : Fa Z h753 n688_n1_n1_b2 .byte 1 (up (fun _ => (.int (0 : Int32))) 0 (.int (nar .byte ((nar .char ((i2 &&& (255 : Int32)).toUInt32.toUInt16.toUInt32.toInt32)).toInt8.toInt32)))) := F748.ext E756
      have F778 : Fld Z h753 b666 "java/lang/String" "coder" "B" (.int (0 : Int32)) := F749.ext E756
      have F779 : Fld Z h753 b666 "java/lang/String" "value" "[B" (.ref n688_n1_n1_b2) := F750.ext E756
      have F780 : Exa Z h753 n713_b5 "java/lang/String" := F716.ext E756
      have F781 : Exa Z h753 n713_n18_b2 "[B" := F717.ext E756
      have F782 : Fa Z h753 n713_n18_b2 .byte 1 (up (fun _ => (.int (0 : Int32))) 0 (.int (nar .byte (((((i2.toUInt32 >>> ((8 : Int32) &&& 31).toUInt32).toInt32) &&& (255 : Int32)).toUInt32.toUInt16.toUInt32.toInt32).toInt8.toInt32)))) := F718.ext E756
      have F783 : Sta Z h753 "java/lang/String" "COMPACT_STRINGS" "Z" (.int cs) := F719.ext E756
      have F784 : Fld Z h753 n713_b5 "java/lang/String" "value" "[B" (.ref n713_n18_b2) := F720.ext E756
      have F785 : Fld Z h753 n713_b5 "java/lang/String" "coder" "B" (.int (0 : Int32)) := F721.ext E756
      have sz786 : n0 ≤ h753.size := Nat.le_trans sz751 E756.1
      have sy787 : h0.size ≤ h753.size := Nat.le_trans sy752 E756.1
      have F788 : Fld Z h753 b754 "com/example/tripleshelf/tripleshelf/cli/Option" "name" "Ljava/lang/String;" .null := D758 (Or.inr (hw _ (List.mem_of_getElem? (i := 61) rfl))) (ty := (.object "java/lang/String")) (by decide)
      have F789 : Fld Z h753 b754 "com/example/tripleshelf/tripleshelf/cli/Option" "valueName" "Ljava/lang/String;" .null := D758 (Or.inr (hw _ (List.mem_of_getElem? (i := 63) rfl))) (ty := (.object "java/lang/String")) (by decide)
      have F790 : Fld Z h753 b754 "com/example/tripleshelf/tripleshelf/cli/Option" "required" "Z" (.int (0 : Int32)) := D758 (Or.inr (hw _ (List.mem_of_getElem? (i := 65) rfl))) (ty := .boolean) (by decide)
      have F791 : Fld Z h753 b754 "com/example/tripleshelf/tripleshelf/cli/Option" "description" "Ljava/lang/String;" .null := D758 (Or.inr (hw _ (List.mem_of_getElem? (i := 67) rfl))) (ty := (.object "java/lang/String")) (by decide)
      show Wk _ p l e _ s m _ below meth c n0 _ h753 9 21 (mkF m 74 #[.val (.int i0), .val (.int i1), .val (.int i2), .val (.int i3), .val (.int (2 : Int32)), .val (.ref n428_b22), .val (.int (1 : Int32)), .val (.ref b636), .val (.ref b666), .val (.ref n713_b5), .unset, .unset] [(.ref b754)])
      refine Wk.st (g' := (mkF m 75 #[.val (.int i0), .val (.int i1), .val (.int i2), .val (.int i3), .val (.int (2 : Int32)), .val (.ref n428_b22), .val (.int (1 : Int32)), .val (.ref b636), .val (.ref b666), .val (.ref n713_b5), .unset, .unset] [(.ref b754), (.ref b754)])) (fun X t q => XS.dup X.here C.hx rfl (hb C.hby at_74) rfl rfl q) ?_
      refine Wk.st (g' := (mkF m 77 #[.val (.int i0), .val (.int i1), .val (.int i2), .val (.int i3), .val (.int (2 : Int32)), .val (.ref n428_b22), .val (.int (1 : Int32)), .val (.ref b636), .val (.ref b666), .val (.ref n713_b5), .unset, .unset] [(.ref b666), (.ref b754), (.ref b754)])) (fun X t q => XS.aload X.here C.hx rfl (hb C.hby at_75) rfl rfl q) ?_
      refine Wk.st (g' := (mkF m 79 #[.val (.int i0), .val (.int i1), .val (.int i2), .val (.int i3), .val (.int (2 : Int32)), .val (.ref n428_b22), .val (.int (1 : Int32)), .val (.ref b636), .val (.ref b666), .val (.ref n713_b5), .unset, .unset] [(.ref n428_b22), (.ref b666), (.ref b754), (.ref b754)])) (fun X t q => XS.aload X.here C.hx rfl (hb C.hby at_77) rfl rfl q) ?_
      refine Wk.st (g' := (mkF m 81 #[.val (.int i0), .val (.int i1), .val (.int i2), .val (.int i3), .val (.int (2 : Int32)), .val (.ref n428_b22), .val (.int (1 : Int32)), .val (.ref b636), .val (.ref b666), .val (.ref n713_b5), .unset, .unset] [(.int (1 : Int32)), (.ref n428_b22), (.ref b666), (.ref b754), (.ref b754)])) (fun X t q => XS.iload X.here C.hx rfl (hb C.hby at_79) rfl q) ?_
      refine Wk.st (g' := (mkF m 83 #[.val (.int i0), .val (.int i1), .val (.int i2), .val (.int i3), .val (.int (2 : Int32)), .val (.ref n428_b22), .val (.int (1 : Int32)), .val (.ref b636), .val (.ref b666), .val (.ref n713_b5), .unset, .unset] [(.ref n713_b5), (.int (1 : Int32)), (.ref n428_b22), (.ref b666), (.ref b754), (.ref b754)])) (fun X t q => XS.aload X.here C.hx rfl (hb C.hby at_81) rfl rfl q) ?_
      refine Wk.callI C (z := (⟨"com/example/tripleshelf/tripleshelf/cli/Option", "<init>", "(Ljava/lang/String;Ljava/lang/String;ZLjava/lang/String;)V"⟩ : MethodName)) rfl (hw _ (List.mem_of_getElem? (i := 51) rfl)) (hw _ (List.mem_of_getElem? (i := 52) rfl)) (hw _ (List.mem_of_getElem? (i := 50) rfl)) (hw _ (List.mem_of_getElem? (i := 53) rfl)) (by decide) (own_12_20 l Z a0 hw n0 h753 sz786 b754 b666 n428_b22 n713_b5 n688_n1_n1_b2 n428_n38_n1_n1_b2 n713_n18_b2 (nar .byte ((nar .char ((i1 &&& (255 : Int32)).toUInt32.toUInt16.toUInt32.toInt32)).toInt8.toInt32)) (nar .byte ((nar .char ((i2 &&& (255 : Int32)).toUInt32.toUInt16.toUInt32.toInt32)).toInt8.toInt32)) (nar .byte (((((i2.toUInt32 >>> ((8 : Int32) &&& 31).toUInt32).toInt32) &&& (255 : Int32)).toUInt32.toUInt16.toUInt32.toInt32).toInt8.toInt32)) cs F768 F769 F770 F771 F772 F775 F776 F777 F778 F779 F780 F781 F782 F783 F784 F785 A757 F788 F789 F790 F791 (Ne.symm ne762) (Ne.symm ne759) (Ne.symm ne764) (Ne.symm ne763) (Ne.symm ne760) (Ne.symm ne765) (Ne.symm ne671) ne728 ne700 (Ne.symm ne672) ne735 ne725 ne697 ne439 ne732 (Ne.symm ne729) (Ne.symm ne726) ne724 (Ne.symm ne698) ne736 ne733 ge766 ge674 ge440 ge730 ge701 ge442 ge737 hcs) (w := 1) (by decide) (by decide) pd_10 rfl (rest := [(.ref b754)]) rfl rfl (Nat.le_of_eq rfl) (by decide) (by decide) at_83 ?_
      rintro _ h793 ⟨rfl, K794, F795, F796, F797, F798, F799⟩
      show Wk _ p l e _ s m _ below meth c n0 _ h793 9 21 (mkF m 86 #[.val (.int i0), .val (.int i1), .val (.int i2), .val (.int i3), .val (.int (2 : Int32)), .val (.ref n428_b22), .val (.int (1 : Int32)), .val (.ref b636), .val (.ref b666), .val (.ref n713_b5), .unset, .unset] [(.ref b754)])
      have F800 : Exa Z h793 n428_b22 "java/lang/String" := F768.keep K794
      have F801 : Exa Z h793 n428_n38_n1_n1_b2 "[B" := F769.keep K794
      have F802 : Fa Z h793 n428_n38_n1_n1_b2 .byte 1 (up (fun _ => (.int (0 : Int32))) 0 (.int (nar .byte ((nar .char ((i1 &&& (255 : Int32)).toUInt32.toUInt16.toUInt32.toInt32)).toInt8.toInt32)))) := F770.keep K794 (nmS ne760 nm0)
      have F803 : Fld Z h793 n428_b22 "java/lang/String" "coder" "B" (.int (0 : Int32)) := F771.keep K794 (nmS ne759 nm0)
      have F804 : Fld Z h793 n428_b22 "java/lang/String" "value" "[B" (.ref n428_n38_n1_n1_b2) := F772.keep K794 (nmS ne759 nm0)
      have F805 : Exa Z h793 b636 "[C" := F773.keep K794
      have F806 : Fa Z h793 b636 .char 1 (up (fun _ => (.int (0 : Int32))) 0 (.int (nar .char ((i2 &&& (255 : Int32)).toUInt32.toUInt16.toUInt32.toInt32)))) := F774.keep K794 (nmS ne761 nm0)
      have F807 : Exa Z h793 b666 "java/lang/String" := F775.keep K794
      have F808 : Exa Z h793 n688_n1_n1_b2 "[B" := F776.keep K794
      have F809 : Fa Z h793 n688_n1_n1_b2 .byte 1 (up (fun _ => (.int (0 : Int32))) 0 (.int (nar .byte ((nar .char ((i2 &&& (255 : Int32)).toUInt32.toUInt16.toUInt32.toInt32)).toInt8.toInt32)))) := F777.keep K794 (nmS ne763 nm0)
      have F810 : Fld Z h793 b666 "java/lang/String" "coder" "B" (.int (0 : Int32)) := F778.keep K794 (nmS ne762 nm0)
      have F811 : Fld Z h793 b666 "java/lang/String" "value" "[B" (.ref n688_n1_n1_b2) := F779.keep K794 (nmS ne762 nm0)
      have F812 : Exa Z h793 n713_b5 "java/lang/String" := F780.keep K794
      have F813 : Exa Z h793 n713_n18_b2 "[B" := F781.keep K794
      have F814 : Fa Z h793 n713_n18_b2 .byte 1 (up (fun _ => (.int (0 : Int32))) 0 (.int (nar .byte (((((i2.toUInt32 >>> ((8 : Int32) &&& 31).toUInt32).toInt32) &&& (255 : Int32)).toUInt32.toUInt16.toUInt32.toInt32).toInt8.toInt32)))) := F782.keep K794 (nmS ne765 nm0)
      have F815 : Fld Z h793 n713_b5 "java/lang/String" "value" "[B" (.ref n713_n18_b2) := F784.keep K794 (nmS ne764 nm0)
      have F816 : Fld Z h793 n713_b5 "java/lang/String" "coder" "B" (.int (0 : Int32)) := F785.keep K794 (nmS ne764 nm0)
      have F817 : Exa Z h793 b754 "com/example/tripleshelf/tripleshelf/cli/Option" := A757.keep K794
      have sz818 : n0 ≤ h793.size := Nat.le_trans sz786 K794.1
      have sy819 : h0.size ≤ h793.size := Nat.le_trans sy787 K794.1
      refine Wk.st (g' := (mkF m 88 #[.val (.int i0), .val (.int i1), .val (.int i2), .val (.int i3), .val (.int (2 : Int32)), .val (.ref n428_b22), .val (.int (1 : Int32)), .val (.ref b636), .val (.ref b666), .val (.ref n713_b5), .val (.ref b754), .unset] [])) (fun X t q => XS.astore X.here C.hx rfl (hb C.hby at_86) rfl rfl (l' := #[.val (.int i0), .val (.int i1), .val (.int i2), .val (.int i3), .val (.int (2 : Int32)), .val (.ref n428_b22), .val (.int (1 : Int32)), .val (.ref b636), .val (.ref b666), .val (.ref n713_b5), .val (.ref b754), .unset]) rfl q) ?_
      refine Wk.st (g' := (mkF m 90 #[.val (.int i0), .val (.int i1), .val (.int i2), .val (.int i3), .val (.int (2 : Int32)), .val (.ref n428_b22), .val (.int (1 : Int32)), .val (.ref b636), .val (.ref b666), .val (.ref n713_b5), .val (.ref b754), .unset] [(.ref b754)])) (fun X t q => XS.aload X.here C.hx rfl (hb C.hby at_88) rfl rfl q) ?_
      refine Wk.callV C (x := (⟨"com/example/tripleshelf/tripleshelf/cli/Option", "takesValue", "()Z"⟩ : MethodName)) (z := (⟨"com/example/tripleshelf/tripleshelf/cli/Option", "takesValue", "()Z"⟩ : MethodName)) (K := "com/example/tripleshelf/tripleshelf/cli/Option") (hw _ (List.mem_of_getElem? (i := 68) rfl)) (hw _ (List.mem_of_getElem? (i := 69) rfl)) (hw _ (List.mem_of_getElem? (i := 71) rfl)) (hw _ (List.mem_of_getElem? (i := 70) rfl)) (hw _ (List.mem_of_getElem? (i := 50) rfl)) (hw _ (List.mem_of_getElem? (i := 72) rfl)) (by decide) (fun s' hZ' => notFace_of_selects (args := #[]) (mvT hZ' (hw _ (List.mem_of_getElem? (i := 71) rfl)))) F817 (own_14_21 l Z a0 hw n0 h793 sz818 b754 b666 n428_b22 n713_b5 n688_n1_n1_b2 n428_n38_n1_n1_b2 n713_n18_b2 (nar .byte ((nar .char ((i1 &&& (255 : Int32)).toUInt32.toUInt16.toUInt32.toInt32)).toInt8.toInt32)) (nar .byte ((nar .char ((i2 &&& (255 : Int32)).toUInt32.toUInt16.toUInt32.toInt32)).toInt8.toInt32)) (nar .byte (((((i2.toUInt32 >>> ((8 : Int32) &&& 31).toUInt32).toInt32) &&& (255 : Int32)).toUInt32.toUInt16.toUInt32.toInt32).toInt8.toInt32)) cs F800 F801 F802 F803 F804 F807 F808 F809 F810 F811 F812 F813 F814 F815 F816 F817 F795 F796 F797 F798 F799 (Ne.symm ne762) (Ne.symm ne759) (Ne.symm ne764) (Ne.symm ne763) (Ne.symm ne760) (Ne.symm ne765) (Ne.symm ne671) ne728 ne700 (Ne.symm ne672) ne735 ne725 ne697 ne439 ne732 (Ne.symm ne729) (Ne.symm ne726) ne724 (Ne.symm ne698) ne736 ne733 ge766 ge674 ge440 ge730 ge701 ge442 ge737 hcs) (w := 0) (by decide) (by decide) pd_12 rfl (rest := []) rfl rfl (Nat.le_of_eq rfl) (by decide) (by decide) at_90 ?_
      rintro _ _ ⟨rfl, rfl⟩
      show Wk _ p l e _ s m _ below meth c n0 _ h793 9 21 (mkF m 93 #[.val (.int i0), .val (.int i1), .val (.int i2), .val (.int i3), .val (.int (2 : Int32)), .val (.ref n428_b22), .val (.int (1 : Int32)), .val (.ref b636), .val (.ref b666), .val (.ref n713_b5), .val (.ref b754), .unset] [(.int (1 : Int32))])
      refine Wk.st (g' := (mkF m 95 #[.val (.int i0), .val (.int i1), .val (.int i2), .val (.int i3), .val (.int (2 : Int32)), .val (.ref n428_b22), .val (.int (1 : Int32)), .val (.ref b636), .val (.ref b666), .val (.ref n713_b5), .val (.ref b754), .val (.int (1 : Int32))] [])) (fun X t q => XS.istore X.here C.hx rfl (hb C.hby at_93) rfl (l' := #[.val (.int i0), .val (.int i1), .val (.int i2), .val (.int i3), .val (.int (2 : Int32)), .val (.ref n428_b22), .val (.int (1 : Int32)), .val (.ref b636), .val (.ref b666), .val (.ref n713_b5), .val (.ref b754), .val (.int (1 : Int32))]) rfl q) ?_
      refine Wk.st (g' := (mkF m 97 #[.val (.int i0), .val (.int i1), .val (.int i2), .val (.int i3), .val (.int (2 : Int32)), .val (.ref n428_b22), .val (.int (1 : Int32)), .val (.ref b636), .val (.ref b666), .val (.ref n713_b5), .val (.ref b754), .val (.int (1 : Int32))] [(.int (1 : Int32))])) (fun X t q => XS.iload X.here C.hx rfl (hb C.hby at_95) rfl q) ?_
      refine Wk.st (g' := (mkF m 99 #[.val (.int i0), .val (.int i1), .val (.int i2), .val (.int i3), .val (.int (2 : Int32)), .val (.ref n428_b22), .val (.int (1 : Int32)), .val (.ref b636), .val (.ref b666), .val (.ref n713_b5), .val (.ref b754), .val (.int (1 : Int32))] [(.int (2 : Int32)), (.int (1 : Int32))])) (fun X t q => XS.iload X.here C.hx rfl (hb C.hby at_97) rfl q) ?_
      refine Wk.st (g' := (mkF m 102 #[.val (.int i0), .val (.int i1), .val (.int i2), .val (.int i3), .val (.int (2 : Int32)), .val (.ref n428_b22), .val (.int (1 : Int32)), .val (.ref b636), .val (.ref b666), .val (.ref n713_b5), .val (.ref b754), .val (.int (1 : Int32))] [(.int (1 : Int32))])) (fun X t q => XS.ifNo X.here C.hx rfl (hb C.hby at_99) rfl (XT.i0_eq_f (by decide)) q) ?_
      refine Wk.st (g' := (mkF m 103 #[.val (.int i0), .val (.int i1), .val (.int i2), .val (.int i3), .val (.int (2 : Int32)), .val (.ref n428_b22), .val (.int (1 : Int32)), .val (.ref b636), .val (.ref b666), .val (.ref n713_b5), .val (.ref b754), .val (.int (1 : Int32))] [(.int (1 : Int32)), (.int (1 : Int32))])) (fun X t q => XS.iconst X.here C.hx rfl (hb C.hby at_102) q) ?_
      refine Wk.st (g' := (mkF m 107 #[.val (.int i0), .val (.int i1), .val (.int i2), .val (.int i3), .val (.int (2 : Int32)), .val (.ref n428_b22), .val (.int (1 : Int32)), .val (.ref b636), .val (.ref b666), .val (.ref n713_b5), .val (.ref b754), .val (.int (1 : Int32))] [(.int (1 : Int32)), (.int (1 : Int32))])) (fun X t q => XS.goto X.here C.hx rfl (pc0 := 103) (pc' := 107) rfl (hb C.hby at_103) (by decide) (by decide) q) ?_
      refine Wk.st (g' := (mkF m 110 #[.val (.int i0), .val (.int i1), .val (.int i2), .val (.int i3), .val (.int (2 : Int32)), .val (.ref n428_b22), .val (.int (1 : Int32)), .val (.ref b636), .val (.ref b666), .val (.ref n713_b5), .val (.ref b754), .val (.int (1 : Int32))] [])) (fun X t q => XS.icmpNo X.here C.hx rfl (hb C.hby at_107) rfl (XT.ii_ne_f (by decide)) q) ?_
      refine Wk.st (g' := (mkF m 111 #[.val (.int i0), .val (.int i1), .val (.int i2), .val (.int i3), .val (.int (2 : Int32)), .val (.ref n428_b22), .val (.int (1 : Int32)), .val (.ref b636), .val (.ref b666), .val (.ref n713_b5), .val (.ref b754), .val (.int (1 : Int32))] [(.int (1 : Int32))])) (fun X t q => XS.iconst X.here C.hx rfl (hb C.hby at_110) q) ?_
      refine Wk.st (g' := (mkF m 115 #[.val (.int i0), .val (.int i1), .val (.int i2), .val (.int i3), .val (.int (2 : Int32)), .val (.ref n428_b22), .val (.int (1 : Int32)), .val (.ref b636), .val (.ref b666), .val (.ref n713_b5), .val (.ref b754), .val (.int (1 : Int32))] [(.int (1 : Int32))])) (fun X t q => XS.goto X.here C.hx rfl (pc0 := 111) (pc' := 115) rfl (hb C.hby at_111) (by decide) (by decide) q) ?_
      exact Wk.retV C (t := .boolean) rfl rfl (Or.inl ⟨rfl, by simp, _, rfl⟩) at_115 (by decide) (by decide) rfl
  · skip
    show Wl _ p l e _ s m _ below meth c n0 _ (some ("", 0, 0)) h0 0 0 (mkF m 5 #[.val (.int i0), .val (.int i1), .val (.int i2), .val (.int i3), .val (.int (3 : Int32)), .unset, .unset, .unset, .unset, .unset, .unset, .unset] [])
    refine Wl.ofWk ?_
    show Wk _ p l e _ s m _ below meth c n0 _ h0 0 0 (mkF m 5 #[.val (.int i0), .val (.int i1), .val (.int i2), .val (.int i3), .val (.int (3 : Int32)), .unset, .unset, .unset, .unset, .unset, .unset, .unset] [])
    refine Wk.st (g' := (mkF m 7 #[.val (.int i0), .val (.int i1), .val (.int i2), .val (.int i3), .val (.int (3 : Int32)), .unset, .unset, .unset, .unset, .unset, .unset, .unset] [(.int (3 : Int32))])) (fun X t q => XS.iload X.here C.hx rfl (hb C.hby at_5) rfl q) ?_
    refine Wk.st (g' := (mkF m 8 #[.val (.int i0), .val (.int i1), .val (.int i2), .val (.int i3), .val (.int (3 : Int32)), .unset, .unset, .unset, .unset, .unset, .unset, .unset] [(.int i1), (.int (3 : Int32))])) (fun X t q => XS.iloadN X.here C.hx rfl (hb C.hby at_7) rfl q) ?_
    refine Wk.callS C (z := (⟨"com/example/tripleshelf/tripleshelf/cli/OptionTakesValuePinLaw", "valueNameOf", "(II)Ljava/lang/String;"⟩ : MethodName)) (hw _ (List.mem_of_getElem? (i := 0) rfl)) (hw _ (List.mem_of_getElem? (i := 1) rfl)) (hw _ (List.mem_of_getElem? (i := 2) rfl)) (hw _ (List.mem_of_getElem? (i := 3) rfl)) (by decide) (own_1_22 l Z a0 hw n0 h0 hsz  i1 cs SC   hcs) (w := 0) (by decide) (by decide) pd_2 rfl (rest := []) rfl rfl (Nat.le_of_eq rfl) (by decide) (by decide) at_8 ?_
    rintro _ h824 ⟨n823_b30, n823_n46_n1_n1_b2, rfl, K825, gn832, gn833, ne834, F826, F827, F828, F829, F830, F831⟩
    show Wk _ p l e _ s m _ below meth c n0 _ h824 3 8 (mkF m 11 #[.val (.int i0), .val (.int i1), .val (.int i2), .val (.int i3), .val (.int (3 : Int32)), .unset, .unset, .unset, .unset, .unset, .unset, .unset] [(.ref n823_b30)])
    have ge835 : n0 ≤ n823_b30 := Nat.le_trans hsz gn832
    have gz836 : h0.size ≤ n823_b30 := Nat.le_trans (Nat.le_refl h0.size) gn832
    have ge837 : n0 ≤ n823_n46_n1_n1_b2 := Nat.le_trans hsz gn833
    have gz838 : h0.size ≤ n823_n46_n1_n1_b2 := Nat.le_trans (Nat.le_refl h0.size) gn833
    have sz839 : n0 ≤ h824.size := Nat.le_trans hsz K825.1
    have sy840 : h0.size ≤ h824.size := Nat.le_trans (Nat.le_refl h0.size) K825.1
    refine Wk.st (g' := (mkF m 13 #[.val (.int i0), .val (.int i1), .val (.int i2), .val (.int i3), .val (.int (3 : Int32)), .val (.ref n823_b30), .unset, .unset, .unset, .unset, .unset, .unset] [])) (fun X t q => XS.astore X.here C.hx rfl (hb C.hby at_11) rfl rfl (l' := #[.val (.int i0), .val (.int i1), .val (.int i2), .val (.int i3), .val (.int (3 : Int32)), .val (.ref n823_b30), .unset, .unset, .unset, .unset, .unset, .unset]) rfl q) ?_
    refine Wk.st (g' := (mkF m 15 #[.val (.int i0), .val (.int i1), .val (.int i2), .val (.int i3), .val (.int (3 : Int32)), .val (.ref n823_b30), .unset, .unset, .unset, .unset, .unset, .unset] [(.int (3 : Int32))])) (fun X t q => XS.iload X.here C.hx rfl (hb C.hby at_13) rfl q) ?_
    refine Wk.st (g' := (mkF m 18 #[.val (.int i0), .val (.int i1), .val (.int i2), .val (.int i3), .val (.int (3 : Int32)), .val (.ref n823_b30), .unset, .unset, .unset, .unset, .unset, .unset] [])) (fun X t q => XS.ifNo X.here C.hx rfl (hb C.hby at_15) rfl (XT.i0_eq_f (by decide)) q) ?_
    refine Wk.st (g' := (mkF m 19 #[.val (.int i0), .val (.int i1), .val (.int i2), .val (.int i3), .val (.int (3 : Int32)), .val (.ref n823_b30), .unset, .unset, .unset, .unset, .unset, .unset] [(.int i3)])) (fun X t q => XS.iloadN X.here C.hx rfl (hb C.hby at_18) rfl q) ?_
    refine Wk.st (g' := (mkF m 20 #[.val (.int i0), .val (.int i1), .val (.int i2), .val (.int i3), .val (.int (3 : Int32)), .val (.ref n823_b30), .unset, .unset, .unset, .unset, .unset, .unset] [(.int (1 : Int32)), (.int i3)])) (fun X t q => XS.iconst X.here C.hx rfl (hb C.hby at_19) q) ?_
    refine Wk.st (g' := (mkF m 21 #[.val (.int i0), .val (.int i1), .val (.int i2), .val (.int i3), .val (.int (3 : Int32)), .val (.ref n823_b30), .unset, .unset, .unset, .unset, .unset, .unset] [(.int (i3 &&& (1 : Int32)))])) (fun X t q => XS.iand X.here C.hx rfl (hb C.hby at_20) rfl q) ?_
    by_cases hb841 : (i3 &&& (1 : Int32)) = (0 : Int32)
    · skip
      refine Wk.st (g' := (mkF m 28 #[.val (.int i0), .val (.int i1), .val (.int i2), .val (.int i3), .val (.int (3 : Int32)), .val (.ref n823_b30), .unset, .unset, .unset, .unset, .unset, .unset] [])) (fun X t q => XS.ifYes X.here C.hx rfl (pc0 := 21) (pc' := 28) rfl (hb C.hby at_21) rfl (XT.i0_eq_t hb841) (by decide) (by decide) q) ?_
      refine Wk.st (g' := (mkF m 29 #[.val (.int i0), .val (.int i1), .val (.int i2), .val (.int i3), .val (.int (3 : Int32)), .val (.ref n823_b30), .unset, .unset, .unset, .unset, .unset, .unset] [(.int (0 : Int32))])) (fun X t q => XS.iconst X.here C.hx rfl (hb C.hby at_28) q) ?_
      refine Wk.st (g' := (mkF m 31 #[.val (.int i0), .val (.int i1), .val (.int i2), .val (.int i3), .val (.int (3 : Int32)), .val (.ref n823_b30), .val (.int (0 : Int32)), .unset, .unset, .unset, .unset, .unset] [])) (fun X t q => XS.istore X.here C.hx rfl (hb C.hby at_29) rfl (l' := #[.val (.int i0), .val (.int i1), .val (.int i2), .val (.int i3), .val (.int (3 : Int32)), .val (.ref n823_b30), .val (.int (0 : Int32)), .unset, .unset, .unset, .unset, .unset]) rfl q) ?_
      refine Wk.st (g' := (mkF m 32 #[.val (.int i0), .val (.int i1), .val (.int i2), .val (.int i3), .val (.int (3 : Int32)), .val (.ref n823_b30), .val (.int (0 : Int32)), .unset, .unset, .unset, .unset, .unset] [(.int (1 : Int32))])) (fun X t q => XS.iconst X.here C.hx rfl (hb C.hby at_31) q) ?_
      refine Wk.fNewP C (hw _ (List.mem_of_getElem? (i := 4) rfl)) (ty := .char) (dv := (.int (0 : Int32))) (N := 1) (ad := "[C") rfl rfl (by decide) (by decide) (by decide) (cap := 1) (by decide) (by decide) at_32 (by decide) (by decide) ?_
      intro h842 b843 g844 E845 A846 F847
      have ne848 : n823_b30 ≠ b843 := Nat.ne_of_lt (Nat.lt_of_lt_of_le F826.lt (Nat.le_of_eq g844.symm))
      have ne849 : n823_n46_n1_n1_b2 ≠ b843 := Nat.ne_of_lt (Nat.lt_of_lt_of_le F827.lt (Nat.le_of_eq g844.symm))
      have ge850 : n0 ≤ b843 := Nat.le_trans sz839 (Nat.le_of_eq g844.symm)
      have gz851 : h0.size ≤ b843 := Nat.le_trans sy840 (Nat.le_of_eq g844.symm)
      have F852 : Exa Z h842 n823_b30 "java/lang/String" := F826.ext E845
      have F853 : Exa Z h842 n823_n46_n1_n1_b2 "[B" := F827.ext E845
      have F854 : Sta Z h842 "java/lang/String" "COMPACT_STRINGS" "Z" (.int cs) := F828.ext E845
      have F855 : Fa Z h842 n823_n46_n1_n1_b2 .byte 2 (up (up (fun _ => (.int (0 : Int32))) 0 (.int (nar .byte ((nar .char ((i1 &&& (255 : Int32)).toUInt32.toUInt16.toUInt32.toInt32)).toInt8.toInt32)))) 1 (.int (nar .byte ((nar .char ((((i1.toUInt32 >>> ((8 : Int32) &&& 31).toUInt32).toInt32) &&& (255 : Int32)).toUInt32.toUInt16.toUInt32.toInt32)).toInt8.toInt32)))) := F829.ext E845
      have F856 : Fld Z h842 n823_b30 "java/lang/String" "coder" "B" (.int (0 : Int32)) := F830.ext E845
      have F857 : Fld Z h842 n823_b30 "java/lang/String" "value" "[B" (.ref n823_n46_n1_n1_b2) := F831.ext E845
      have sz858 : n0 ≤ h842.size := Nat.le_trans sz839 E845.1
      have sy859 : h0.size ≤ h842.size := Nat.le_trans sy840 E845.1
      show Wk _ p l e _ s m _ below meth c n0 _ h842 4 9 (mkF m 34 #[.val (.int i0), .val (.int i1), .val (.int i2), .val (.int i3), .val (.int (3 : Int32)), .val (.ref n823_b30), .val (.int (0 : Int32)), .unset, .unset, .unset, .unset, .unset] [(.ref b843)])
      refine Wk.st (g' := (mkF m 36 #[.val (.int i0), .val (.int i1), .val (.int i2), .val (.int i3), .val (.int (3 : Int32)), .val (.ref n823_b30), .val (.int (0 : Int32)), .val (.ref b843), .unset, .unset, .unset, .unset] [])) (fun X t q => XS.astore X.here C.hx rfl (hb C.hby at_34) rfl rfl (l' := #[.val (.int i0), .val (.int i1), .val (.int i2), .val (.int i3), .val (.int (3 : Int32)), .val (.ref n823_b30), .val (.int (0 : Int32)), .val (.ref b843), .unset, .unset, .unset, .unset]) rfl q) ?_
      refine Wk.st (g' := (mkF m 38 #[.val (.int i0), .val (.int i1), .val (.int i2), .val (.int i3), .val (.int (3 : Int32)), .val (.ref n823_b30), .val (.int (0 : Int32)), .val (.ref b843), .unset, .unset, .unset, .unset] [(.ref b843)])) (fun X t q => XS.aload X.here C.hx rfl (hb C.hby at_36) rfl rfl q) ?_
      refine Wk.st (g' := (mkF m 39 #[.val (.int i0), .val (.int i1), .val (.int i2), .val (.int i3), .val (.int (3 : Int32)), .val (.ref n823_b30), .val (.int (0 : Int32)), .val (.ref b843), .unset, .unset, .unset, .unset] [(.int (0 : Int32)), (.ref b843)])) (fun X t q => XS.iconst X.here C.hx rfl (hb C.hby at_38) q) ?_
      refine Wk.st (g' := (mkF m 40 #[.val (.int i0), .val (.int i1), .val (.int i2), .val (.int i3), .val (.int (3 : Int32)), .val (.ref n823_b30), .val (.int (0 : Int32)), .val (.ref b843), .unset, .unset, .unset, .unset] [(.int i2), (.int (0 : Int32)), (.ref b843)])) (fun X t q => XS.iloadN X.here C.hx rfl (hb C.hby at_39) rfl q) ?_
      refine Wk.st (g' := (mkF m 43 #[.val (.int i0), .val (.int i1), .val (.int i2), .val (.int i3), .val (.int (3 : Int32)), .val (.ref n823_b30), .val (.int (0 : Int32)), .val (.ref b843), .unset, .unset, .unset, .unset] [(.int (255 : Int32)), (.int i2), (.int (0 : Int32)), (.ref b843)])) (fun X t q => XS.sipush X.here C.hx rfl (hb C.hby at_40) q) ?_
      refine Wk.st (g' := (mkF m 44 #[.val (.int i0), .val (.int i1), .val (.int i2), .val (.int i3), .val (.int (3 : Int32)), .val (.ref n823_b30), .val (.int (0 : Int32)), .val (.ref b843), .unset, .unset, .unset, .unset] [(.int (i2 &&& (255 : Int32))), (.int (0 : Int32)), (.ref b843)])) (fun X t q => XS.iand X.here C.hx rfl (hb C.hby at_43) rfl q) ?_
      refine Wk.st (g' := (mkF m 45 #[.val (.int i0), .val (.int i1), .val (.int i2), .val (.int i3), .val (.int (3 : Int32)), .val (.ref n823_b30), .val (.int (0 : Int32)), .val (.ref b843), .unset, .unset, .unset, .unset] [(.int ((i2 &&& (255 : Int32)).toUInt32.toUInt16.toUInt32.toInt32)), (.int (0 : Int32)), (.ref b843)])) (fun X t q => XS.i2c X.here C.hx rfl (hb C.hby at_44) rfl q) ?_
      refine Wk.fStC C F847 (x' := (nar .char ((i2 &&& (255 : Int32)).toUInt32.toUInt16.toUInt32.toInt32))) rfl (i := 0) (by decide) (by decide) (by decide) ge850 at_45 ?_
      intro h860 W861 F862
      have F863 : Exa Z h860 n823_b30 "java/lang/String" := F852.wr W861
      have F864 : Exa Z h860 n823_n46_n1_n1_b2 "[B" := F853.wr W861
      have F865 : Sta Z h860 "java/lang/String" "COMPACT_STRINGS" "Z" (.int cs) := F854.wr W861
      have F866 : Fa Z h860 n823_n46_n1_n1_b2 .byte 2 (up (up (fun _ => (.int (0 : Int32))) 0 (.int (nar .byte ((nar .char ((i1 &&& (255 : Int32)).toUInt32.toUInt16.toUInt32.toInt32)).toInt8.toInt32)))) 1 (.int (nar .byte ((nar .char ((((i1.toUInt32 >>> ((8 : Int32) &&& 31).toUInt32).toInt32) &&& (255 : Int32)).toUInt32.toUInt16.toUInt32.toInt32)).toInt8.toInt32)))) := F855.other W861 ne849
      have F867 : Fld Z h860 n823_b30 "java/lang/String" "coder" "B" (.int (0 : Int32)) := F856.other W861 (Or.inl ne848)
      have F868 : Fld Z h860 n823_b30 "java/lang/String" "value" "[B" (.ref n823_n46_n1_n1_b2) := F857.other W861 (Or.inl ne848)
      have F869 : Exa Z h860 b843 "[C" := A846.wr W861
      have sz870 : n0 ≤ h860.size := Nat.le_trans sz858 (Nat.le_of_eq W861.size.symm)
      have sy871 : h0.size ≤ h860.size := Nat.le_trans sy859 (Nat.le_of_eq W861.size.symm)
      show Wk _ p l e _ s m _ below meth c n0 _ h860 4 9 (mkF m 46 #[.val (.int i0), .val (.int i1), .val (.int i2), .val (.int i3), .val (.int (3 : Int32)), .val (.ref n823_b30), .val (.int (0 : Int32)), .val (.ref b843), .unset, .unset, .unset, .unset] [])
      refine Wk.newO C (hw _ (List.mem_of_getElem? (i := 5) rfl)) (hw _ (List.mem_of_getElem? (i := 6) rfl)) (hw _ (List.mem_of_getElem? (i := 7) rfl)) at_46 (by decide) (by decide) ?_
      intro h872 b873 g874 E875 A876 D877
      have ne878 : n823_b30 ≠ b873 := Nat.ne_of_lt (Nat.lt_of_lt_of_le F863.lt (Nat.le_of_eq g874.symm))
      have ne879 : n823_n46_n1_n1_b2 ≠ b873 := Nat.ne_of_lt (Nat.lt_of_lt_of_le F864.lt (Nat.le_of_eq g874.symm))
      have ne880 : b843 ≠ b873 := Nat.ne_of_lt (Nat.lt_of_lt_of_le F869.lt (Nat.le_of_eq g874.symm))
      have ge881 : n0 ≤ b873 := Nat.le_trans sz870 (Nat.le_of_eq g874.symm)
      have gz882 : h0.size ≤ b873 := Nat.le_trans sy871 (Nat.le_of_eq g874.symm)
      have F883 : Exa Z h872 n823_b30 "java/lang/String" := F863.ext E875
      have F884 : Exa Z h872 n823_n46_n1_n1_b2 "[B" := F864.ext E875
      have F885 : Sta Z h872 "java/lang/String" "COMPACT_STRINGS" "Z" (.int cs) := F865.ext E875
      have F886 : Fa Z h872 n823_n46_n1_n1_b2 .byte 2 (up (up (fun _ => (.int (0 : Int32))) 0 (.int (nar .byte ((nar .char ((i1 &&& (255 : Int32)).toUInt32.toUInt16.toUInt32.toInt32)).toInt8.toInt32)))) 1 (.int (nar .byte ((nar .char ((((i1.toUInt32 >>> ((8 : Int32) &&& 31).toUInt32).toInt32) &&& (255 : Int32)).toUInt32.toUInt16.toUInt32.toInt32)).toInt8.toInt32)))) := F866.ext E875
      have F887 : Fld Z h872 n823_b30 "java/lang/String" "coder" "B" (.int (0 : Int32)) := F867.ext E875
      have F888 : Fld Z h872 n823_b30 "java/lang/String" "value" "[B" (.ref n823_n46_n1_n1_b2) := F868.ext E875
      have F889 : Exa Z h872 b843 "[C" := F869.ext E875
      have F890 : Fa Z h872 b843 .char 1 (up (fun _ => (.int (0 : Int32))) 0 (.int (nar .char ((i2 &&& (255 : Int32)).toUInt32.toUInt16.toUInt32.toInt32)))) := F862.ext E875
      have sz891 : n0 ≤ h872.size := Nat.le_trans sz870 E875.1
      have sy892 : h0.size ≤ h872.size := Nat.le_trans sy871 E875.1
      have F893 : Fld Z h872 b873 "java/lang/String" "coder" "B" (.int (0 : Int32)) := D877 (Or.inr (hw _ (List.mem_of_getElem? (i := 31) rfl))) (ty := .byte) (by decide)
      have F894 : Fld Z h872 b873 "java/lang/String" "value" "[B" .null := D877 (Or.inr (hw _ (List.mem_of_getElem? (i := 33) rfl))) (ty := (.array .byte)) (by decide)
      show Wk _ p l e _ s m _ below meth c n0 _ h872 5 13 (mkF m 49 #[.val (.int i0), .val (.int i1), .val (.int i2), .val (.int i3), .val (.int (3 : Int32)), .val (.ref n823_b30), .val (.int (0 : Int32)), .val (.ref b843), .unset, .unset, .unset, .unset] [(.ref b873)])
      refine Wk.st (g' := (mkF m 50 #[.val (.int i0), .val (.int i1), .val (.int i2), .val (.int i3), .val (.int (3 : Int32)), .val (.ref n823_b30), .val (.int (0 : Int32)), .val (.ref b843), .unset, .unset, .unset, .unset] [(.ref b873), (.ref b873)])) (fun X t q => XS.dup X.here C.hx rfl (hb C.hby at_49) rfl rfl q) ?_
      refine Wk.st (g' := (mkF m 52 #[.val (.int i0), .val (.int i1), .val (.int i2), .val (.int i3), .val (.int (3 : Int32)), .val (.ref n823_b30), .val (.int (0 : Int32)), .val (.ref b843), .unset, .unset, .unset, .unset] [(.ref b843), (.ref b873), (.ref b873)])) (fun X t q => XS.aload X.here C.hx rfl (hb C.hby at_50) rfl rfl q) ?_
      refine Wk.callI C (z := (⟨"java/lang/String", "<init>", "([C)V"⟩ : MethodName)) rfl (hw _ (List.mem_of_getElem? (i := 8) rfl)) (hw _ (List.mem_of_getElem? (i := 9) rfl)) (hw _ (List.mem_of_getElem? (i := 7) rfl)) (hw _ (List.mem_of_getElem? (i := 10) rfl)) (by decide) (own_2_1 l Z a0 hw n0 h872 sz891 b873 b843 cs (nar .char ((i2 &&& (255 : Int32)).toUInt32.toUInt16.toUInt32.toInt32)) F885 F889 F890 A876 F893 F894 (Ne.symm ne880) ge881 ge850 (latn i2) hcs) (w := 1) (by decide) (by decide) pd_1 rfl (rest := [(.ref b873)]) rfl rfl (Nat.le_of_eq rfl) (by decide) (by decide) at_52 ?_
      rintro _ h896 ⟨n895_n1_n1_b2, rfl, K897, gn903, F898, F899, F900, F901, F902⟩
      show Wk _ p l e _ s m _ below meth c n0 _ h896 6 14 (mkF m 55 #[.val (.int i0), .val (.int i1), .val (.int i2), .val (.int i3), .val (.int (3 : Int32)), .val (.ref n823_b30), .val (.int (0 : Int32)), .val (.ref b843), .unset, .unset, .unset, .unset] [(.ref b873)])
      have ne904 : n823_b30 ≠ n895_n1_n1_b2 := Nat.ne_of_lt (Nat.lt_of_lt_of_le F883.lt gn903)
      have ne905 : n823_n46_n1_n1_b2 ≠ n895_n1_n1_b2 := Nat.ne_of_lt (Nat.lt_of_lt_of_le F884.lt gn903)
      have ne906 : b843 ≠ n895_n1_n1_b2 := Nat.ne_of_lt (Nat.lt_of_lt_of_le F889.lt gn903)
      have ne907 : b873 ≠ n895_n1_n1_b2 := Nat.ne_of_lt (Nat.lt_of_lt_of_le A876.lt gn903)
      have ge908 : n0 ≤ n895_n1_n1_b2 := Nat.le_trans sz891 gn903
      have gz909 : h0.size ≤ n895_n1_n1_b2 := Nat.le_trans sy892 gn903
      have F910 : Exa Z h896 n823_b30 "java/lang/String" := F883.keep K897
      have F911 : Exa Z h896 n823_n46_n1_n1_b2 "[B" := F884.keep K897
      have F912 : Fa Z h896 n823_n46_n1_n1_b2 .byte 2 (up (up (fun _ => (.int (0 : Int32))) 0 (.int (nar .byte ((nar .char ((i1 &&& (255 : Int32)).toUInt32.toUInt16.toUInt32.toInt32)).toInt8.toInt32)))) 1 (.int (nar .byte ((nar .char ((((i1.toUInt32 >>> ((8 : Int32) &&& 31).toUInt32).toInt32) &&& (255 : Int32)).toUInt32.toUInt16.toUInt32.toInt32)).toInt8.toInt32)))) := F886.keep K897 (nmS ne879 nm0)
      have F913 : Fld Z h896 n823_b30 "java/lang/String" "coder" "B" (.int (0 : Int32)) := F887.keep K897 (nmS ne878 nm0)
      have F914 : Fld Z h896 n823_b30 "java/lang/String" "value" "[B" (.ref n823_n46_n1_n1_b2) := F888.keep K897 (nmS ne878 nm0)
      have F915 : Exa Z h896 b843 "[C" := F889.keep K897
      have F916 : Fa Z h896 b843 .char 1 (up (fun _ => (.int (0 : Int32))) 0 (.int (nar .char ((i2 &&& (255 : Int32)).toUInt32.toUInt16.toUInt32.toInt32)))) := F890.keep K897 (nmS ne880 nm0)
      have F917 : Exa Z h896 b873 "java/lang/String" := A876.keep K897
      have sz918 : n0 ≤ h896.size := Nat.le_trans sz891 K897.1
      have sy919 : h0.size ≤ h896.size := Nat.le_trans sy892 K897.1
      refine Wk.st (g' := (mkF m 57 #[.val (.int i0), .val (.int i1), .val (.int i2), .val (.int i3), .val (.int (3 : Int32)), .val (.ref n823_b30), .val (.int (0 : Int32)), .val (.ref b843), .val (.ref b873), .unset, .unset, .unset] [])) (fun X t q => XS.astore X.here C.hx rfl (hb C.hby at_55) rfl rfl (l' := #[.val (.int i0), .val (.int i1), .val (.int i2), .val (.int i3), .val (.int (3 : Int32)), .val (.ref n823_b30), .val (.int (0 : Int32)), .val (.ref b843), .val (.ref b873), .unset, .unset, .unset]) rfl q) ?_
      refine Wk.st (g' := (mkF m 58 #[.val (.int i0), .val (.int i1), .val (.int i2), .val (.int i3), .val (.int (3 : Int32)), .val (.ref n823_b30), .val (.int (0 : Int32)), .val (.ref b843), .val (.ref b873), .unset, .unset, .unset] [(.int i2)])) (fun X t q => XS.iloadN X.here C.hx rfl (hb C.hby at_57) rfl q) ?_
      refine Wk.st (g' := (mkF m 60 #[.val (.int i0), .val (.int i1), .val (.int i2), .val (.int i3), .val (.int (3 : Int32)), .val (.ref n823_b30), .val (.int (0 : Int32)), .val (.ref b843), .val (.ref b873), .unset, .unset, .unset] [(.int (8 : Int32)), (.int i2)])) (fun X t q => XS.bipush X.here C.hx rfl (hb C.hby at_58) q) ?_
      refine Wk.st (g' := (mkF m 61 #[.val (.int i0), .val (.int i1), .val (.int i2), .val (.int i3), .val (.int (3 : Int32)), .val (.ref n823_b30), .val (.int (0 : Int32)), .val (.ref b843), .val (.ref b873), .unset, .unset, .unset] [(.int ((i2.toUInt32 >>> ((8 : Int32) &&& 31).toUInt32).toInt32))])) (fun X t q => XS.iushr X.here C.hx rfl (hb C.hby at_60) rfl q) ?_
      refine Wk.st (g' := (mkF m 64 #[.val (.int i0), .val (.int i1), .val (.int i2), .val (.int i3), .val (.int (3 : Int32)), .val (.ref n823_b30), .val (.int (0 : Int32)), .val (.ref b843), .val (.ref b873), .unset, .unset, .unset] [(.int (255 : Int32)), (.int ((i2.toUInt32 >>> ((8 : Int32) &&& 31).toUInt32).toInt32))])) (fun X t q => XS.sipush X.here C.hx rfl (hb C.hby at_61) q) ?_
      refine Wk.st (g' := (mkF m 65 #[.val (.int i0), .val (.int i1), .val (.int i2), .val (.int i3), .val (.int (3 : Int32)), .val (.ref n823_b30), .val (.int (0 : Int32)), .val (.ref b843), .val (.ref b873), .unset, .unset, .unset] [(.int (((i2.toUInt32 >>> ((8 : Int32) &&& 31).toUInt32).toInt32) &&& (255 : Int32)))])) (fun X t q => XS.iand X.here C.hx rfl (hb C.hby at_64) rfl q) ?_
      refine Wk.st (g' := (mkF m 66 #[.val (.int i0), .val (.int i1), .val (.int i2), .val (.int i3), .val (.int (3 : Int32)), .val (.ref n823_b30), .val (.int (0 : Int32)), .val (.ref b843), .val (.ref b873), .unset, .unset, .unset] [(.int ((((i2.toUInt32 >>> ((8 : Int32) &&& 31).toUInt32).toInt32) &&& (255 : Int32)).toUInt32.toUInt16.toUInt32.toInt32))])) (fun X t q => XS.i2c X.here C.hx rfl (hb C.hby at_65) rfl q) ?_
      refine Wk.callS C (z := (⟨"java/lang/String", "valueOf", "(C)Ljava/lang/String;"⟩ : MethodName)) (hw _ (List.mem_of_getElem? (i := 34) rfl)) (hw _ (List.mem_of_getElem? (i := 35) rfl)) (hw _ (List.mem_of_getElem? (i := 7) rfl)) (hw _ (List.mem_of_getElem? (i := 36) rfl)) (by decide) (own_8_6 l Z a0 hw n0 h896 sz918  ((((i2.toUInt32 >>> ((8 : Int32) &&& 31).toUInt32).toInt32) &&& (255 : Int32)).toUInt32.toUInt16.toUInt32.toInt32) cs F899   (lat0 ((i2.toUInt32 >>> ((8 : Int32) &&& 31).toUInt32).toInt32)) hcs) (w := 0) (by decide) (by decide) pd_6 rfl (rest := []) rfl rfl (Nat.le_of_eq rfl) (by decide) (by decide) at_66 ?_
      rintro _ h921 ⟨n920_b5, n920_n18_b2, rfl, K922, gn929, gn930, ne931, F923, F924, F925, F926, F927, F928⟩
      show Wk _ p l e _ s m _ below meth c n0 _ h921 8 19 (mkF m 69 #[.val (.int i0), .val (.int i1), .val (.int i2), .val (.int i3), .val (.int (3 : Int32)), .val (.ref n823_b30), .val (.int (0 : Int32)), .val (.ref b843), .val (.ref b873), .unset, .unset, .unset] [(.ref n920_b5)])
      have ne932 : n823_b30 ≠ n920_b5 := Nat.ne_of_lt (Nat.lt_of_lt_of_le F910.lt gn929)
      have ne933 : n823_n46_n1_n1_b2 ≠ n920_b5 := Nat.ne_of_lt (Nat.lt_of_lt_of_le F911.lt gn929)
      have ne934 : b843 ≠ n920_b5 := Nat.ne_of_lt (Nat.lt_of_lt_of_le F915.lt gn929)
      have ne935 : b873 ≠ n920_b5 := Nat.ne_of_lt (Nat.lt_of_lt_of_le F917.lt gn929)
      have ne936 : n895_n1_n1_b2 ≠ n920_b5 := Nat.ne_of_lt (Nat.lt_of_lt_of_le F898.lt gn929)
      have ge937 : n0 ≤ n920_b5 := Nat.le_trans sz918 gn929
      have gz938 : h0.size ≤ n920_b5 := Nat.le_trans sy919 gn929
      have ne939 : n823_b30 ≠ n920_n18_b2 := Nat.ne_of_lt (Nat.lt_of_lt_of_le F910.lt gn930)
      have ne940 : n823_n46_n1_n1_b2 ≠ n920_n18_b2 := Nat.ne_of_lt (Nat.lt_of_lt_of_le F911.lt gn930)
      have ne941 : b843 ≠ n920_n18_b2 := Nat.ne_of_lt (Nat.lt_of_lt_of_le F915.lt gn930)
      have ne942 : b873 ≠ n920_n18_b2 := Nat.ne_of_lt (Nat.lt_of_lt_of_le F917.lt gn930)
      have ne943 : n895_n1_n1_b2 ≠ n920_n18_b2 := Nat.ne_of_lt (Nat.lt_of_lt_of_le F898.lt gn930)
      have ge944 : n0 ≤ n920_n18_b2 := Nat.le_trans sz918 gn930
      have gz945 : h0.size ≤ n920_n18_b2 := Nat.le_trans sy919 gn930
      have F946 : Exa Z h921 n823_b30 "java/lang/String" := F910.keep K922
      have F947 : Exa Z h921 n823_n46_n1_n1_b2 "[B" := F911.keep K922
      have F948 : Fa Z h921 n823_n46_n1_n1_b2 .byte 2 (up (up (fun _ => (.int (0 : Int32))) 0 (.int (nar .byte ((nar .char ((i1 &&& (255 : Int32)).toUInt32.toUInt16.toUInt32.toInt32)).toInt8.toInt32)))) 1 (.int (nar .byte ((nar .char ((((i1.toUInt32 >>> ((8 : Int32) &&& 31).toUInt32).toInt32) &&& (255 : Int32)).toUInt32.toUInt16.toUInt32.toInt32)).toInt8.toInt32)))) := F912.keep K922 nm0
      have F949 : Fld Z h921 n823_b30 "java/lang/String" "coder" "B" (.int (0 : Int32)) := F913.keep K922 nm0
      have F950 : Fld Z h921 n823_b30 "java/lang/String" "value" "[B" (.ref n823_n46_n1_n1_b2) := F914.keep K922 nm0
      have F951 : Exa Z h921 b843 "[C" := F915.keep K922
      have F952 : Fa Z h921 b843 .char 1 (up (fun _ => (.int (0 : Int32))) 0 (.int (nar .char ((i2 &&& (255 : Int32)).toUInt32.toUInt16.toUInt32.toInt32)))) := F916.keep K922 nm0
      have F953 : Exa Z h921 b873 "java/lang/String" := F917.keep K922
      have F954 : Exa Z h921 n895_n1_n1_b2 "[B" := F898.keep K922
      have F955 : Fa Z h921 n895_n1_n1_b2 .byte 1 (up (fun _ => (.int (0 : Int32))) 0 (.int (nar .byte ((nar .char ((i2 &&& (255 : Int32)).toUInt32.toUInt16.toUInt32.toInt32)).toInt8.toInt32)))) := F900.keep K922 nm0
      have F956 : Fld Z h921 b873 "java/lang/String" "coder" "B" (.int (0 : Int32)) := F901.keep K922 nm0
      have F957 : Fld Z h921 b873 "java/lang/String" "value" "[B" (.ref n895_n1_n1_b2) := F902.keep K922 nm0
      have sz958 : n0 ≤ h921.size := Nat.le_trans sz918 K922.1
      have sy959 : h0.size ≤ h921.size := Nat.le_trans sy919 K922.1
      refine Wk.st (g' := (mkF m 71 #[.val (.int i0), .val (.int i1), .val (.int i2), .val (.int i3), .val (.int (3 : Int32)), .val (.ref n823_b30), .val (.int (0 : Int32)), .val (.ref b843), .val (.ref b873), .val (.ref n920_b5), .unset, .unset] [])) (fun X t q => XS.astore X.here C.hx rfl (hb C.hby at_69) rfl rfl (l' := #[.val (.int i0), .val (.int i1), .val (.int i2), .val (.int i3), .val (.int (3 : Int32)), .val (.ref n823_b30), .val (.int (0 : Int32)), .val (.ref b843), .val (.ref b873), .val (.ref n920_b5), .unset, .unset]) rfl q) ?_
      refine Wk.newO C (hw _ (List.mem_of_getElem? (i := 48) rfl)) (hw _ (List.mem_of_getElem? (i := 49) rfl)) (hw _ (List.mem_of_getElem? (i := 50) rfl)) at_71 (by decide) (by decide) ?_
      intro h960 b961 g962 E963 A964 D965
      have ne966 : n823_b30 ≠ b961 := Nat.ne_of_lt (Nat.lt_of_lt_of_le F946.lt (Nat.le_of_eq g962.symm))
      have ne967 : n823_n46_n1_n1_b2 ≠ b961 := Nat.ne_of_lt (Nat.lt_of_lt_of_le F947.lt (Nat.le_of_eq g962.symm))
      have ne968 : b843 ≠ b961 := Nat.ne_of_lt (Nat.lt_of_lt_of_le F951.lt (Nat.le_of_eq g962.symm))
      have ne969 : b873 ≠ b961 := Nat.ne_of_lt (Nat.lt_of_lt_of_le F953.lt (Nat.le_of_eq g962.symm))
      have ne970 : n895_n1_n1_b2 ≠ b961 := Nat.ne_of_lt (Nat.lt_of_lt_of_le F954.lt (Nat.le_of_eq g962.symm))
      have ne971 : n920_b5 ≠ b961 := Nat.ne_of_lt (Nat.lt_of_lt_of_le F923.lt (Nat.le_of_eq g962.symm))
      have ne972 : n920_n18_b2 ≠ b961 := Nat.ne_of_lt (Nat.lt_of_lt_of_le F924.lt (Nat.le_of_eq g962.symm))
      have ge973 : n0 ≤ b961 := Nat.le_trans sz958 (Nat.le_of_eq g962.symm)
      have gz974 : h0.size ≤ b961 := Nat.le_trans sy959 (Nat.le_of_eq g962.symm)
      have F975 : Exa Z h960 n823_b30 "java/lang/String" := F946.ext E963
      have F976 : Exa Z h960 n823_n46_n1_n1_b2 "[B" := F947.ext E963
      have F977 : Fa Z h960 n823_n46_n1_n1_b2 .byte 2 (up (up (fun _ => (.int (0 : Int32))) 0 (.int (nar .byte ((nar .char ((i1 &&& (255 : Int32)).toUInt32.toUInt16.toUInt32.toInt32)).toInt8.toInt32)))) 1 (.int (nar .byte ((nar .char ((((i1.toUInt32 >>> ((8 : Int32) &&& 31).toUInt32).toInt32) &&& (255 : Int32)).toUInt32.toUInt16.toUInt32.toInt32)).toInt8.toInt32)))) := F948.ext E963
      have F978 : Fld Z h960 n823_b30 "java/lang/String" "coder" "B" (.int (0 : Int32)) := F949.ext E963
      have F979 : Fld Z h960 n823_b30 "java/lang/String" "value" "[B" (.ref n823_n46_n1_n1_b2) := F950.ext E963
      have F980 : Exa Z h960 b843 "[C" := F951.ext E963
      have F981 : Fa Z h960 b843 .char 1 (up (fun _ => (.int (0 : Int32))) 0 (.int (nar .char ((i2 &&& (255 : Int32)).toUInt32.toUInt16.toUInt32.toInt32)))) := F952.ext E963
      have F982 : Exa Z h960 b873 "java/lang/String" := F953.ext E963
      have F983 : Exa Z h960 n895_n1_n1_b2 "[B" := F954.ext E963
      have F984 : Fa Z h960 n895_n1_n1_b2 .byte 1 (up (fun _ => (.int (0 : Int32))) 0 (.int (nar .byte ((nar .char ((i2 &&& (255 : Int32)).toUInt32.toUInt16.toUInt32.toInt32)).toInt8.toInt32)))) := F955.ext E963
      have F985 : Fld Z h960 b873 "java/lang/String" "coder" "B" (.int (0 : Int32)) := F956.ext E963
      have F986 : Fld Z h960 b873 "java/lang/String" "value" "[B" (.ref n895_n1_n1_b2) := F957.ext E963
      have F987 : Exa Z h960 n920_b5 "java/lang/String" := F923.ext E963
      have F988 : Exa Z h960 n920_n18_b2 "[B" := F924.ext E963
      have F989 : Fa Z h960 n920_n18_b2 .byte 1 (up (fun _ => (.int (0 : Int32))) 0 (.int (nar .byte (((((i2.toUInt32 >>> ((8 : Int32) &&& 31).toUInt32).toInt32) &&& (255 : Int32)).toUInt32.toUInt16.toUInt32.toInt32).toInt8.toInt32)))) := F925.ext E963
      have F990 : Sta Z h960 "java/lang/String" "COMPACT_STRINGS" "Z" (.int cs) := F926.ext E963
      have F991 : Fld Z h960 n920_b5 "java/lang/String" "value" "[B" (.ref n920_n18_b2) := F927.ext E963
      have F992 : Fld Z h960 n920_b5 "java/lang/String" "coder" "B" (.int (0 : Int32)) := F928.ext E963
      have sz993 : n0 ≤ h960.size := Nat.le_trans sz958 E963.1
      have sy994 : h0.size ≤ h960.size := Nat.le_trans sy959 E963.1
      have F995 : Fld Z h960 b961 "com/example/tripleshelf/tripleshelf/cli/Option" "name" "Ljava/lang/String;" .null := D965 (Or.inr (hw _ (List.mem_of_getElem? (i := 61) rfl))) (ty := (.object "java/lang/String")) (by decide)
      have F996 : Fld Z h960 b961 "com/example/tripleshelf/tripleshelf/cli/Option" "valueName" "Ljava/lang/String;" .null := D965 (Or.inr (hw _ (List.mem_of_getElem? (i := 63) rfl))) (ty := (.object "java/lang/String")) (by decide)
      have F997 : Fld Z h960 b961 "com/example/tripleshelf/tripleshelf/cli/Option" "required" "Z" (.int (0 : Int32)) := D965 (Or.inr (hw _ (List.mem_of_getElem? (i := 65) rfl))) (ty := .boolean) (by decide)
      have F998 : Fld Z h960 b961 "com/example/tripleshelf/tripleshelf/cli/Option" "description" "Ljava/lang/String;" .null := D965 (Or.inr (hw _ (List.mem_of_getElem? (i := 67) rfl))) (ty := (.object "java/lang/String")) (by decide)
      show Wk _ p l e _ s m _ below meth c n0 _ h960 9 23 (mkF m 74 #[.val (.int i0), .val (.int i1), .val (.int i2), .val (.int i3), .val (.int (3 : Int32)), .val (.ref n823_b30), .val (.int (0 : Int32)), .val (.ref b843), .val (.ref b873), .val (.ref n920_b5), .unset, .unset] [(.ref b961)])
      refine Wk.st (g' := (mkF m 75 #[.val (.int i0), .val (.int i1), .val (.int i2), .val (.int i3), .val (.int (3 : Int32)), .val (.ref n823_b30), .val (.int (0 : Int32)), .val (.ref b843), .val (.ref b873), .val (.ref n920_b5), .unset, .unset] [(.ref b961), (.ref b961)])) (fun X t q => XS.dup X.here C.hx rfl (hb C.hby at_74) rfl rfl q) ?_
      refine Wk.st (g' := (mkF m 77 #[.val (.int i0), .val (.int i1), .val (.int i2), .val (.int i3), .val (.int (3 : Int32)), .val (.ref n823_b30), .val (.int (0 : Int32)), .val (.ref b843), .val (.ref b873), .val (.ref n920_b5), .unset, .unset] [(.ref b873), (.ref b961), (.ref b961)])) (fun X t q => XS.aload X.here C.hx rfl (hb C.hby at_75) rfl rfl q) ?_
      refine Wk.st (g' := (mkF m 79 #[.val (.int i0), .val (.int i1), .val (.int i2), .val (.int i3), .val (.int (3 : Int32)), .val (.ref n823_b30), .val (.int (0 : Int32)), .val (.ref b843), .val (.ref b873), .val (.ref n920_b5), .unset, .unset] [(.ref n823_b30), (.ref b873), (.ref b961), (.ref b961)])) (fun X t q => XS.aload X.here C.hx rfl (hb C.hby at_77) rfl rfl q) ?_
      refine Wk.st (g' := (mkF m 81 #[.val (.int i0), .val (.int i1), .val (.int i2), .val (.int i3), .val (.int (3 : Int32)), .val (.ref n823_b30), .val (.int (0 : Int32)), .val (.ref b843), .val (.ref b873), .val (.ref n920_b5), .unset, .unset] [(.int (0 : Int32)), (.ref n823_b30), (.ref b873), (.ref b961), (.ref b961)])) (fun X t q => XS.iload X.here C.hx rfl (hb C.hby at_79) rfl q) ?_
      refine Wk.st (g' := (mkF m 83 #[.val (.int i0), .val (.int i1), .val (.int i2), .val (.int i3), .val (.int (3 : Int32)), .val (.ref n823_b30), .val (.int (0 : Int32)), .val (.ref b843), .val (.ref b873), .val (.ref n920_b5), .unset, .unset] [(.ref n920_b5), (.int (0 : Int32)), (.ref n823_b30), (.ref b873), (.ref b961), (.ref b961)])) (fun X t q => XS.aload X.here C.hx rfl (hb C.hby at_81) rfl rfl q) ?_
      refine Wk.callI C (z := (⟨"com/example/tripleshelf/tripleshelf/cli/Option", "<init>", "(Ljava/lang/String;Ljava/lang/String;ZLjava/lang/String;)V"⟩ : MethodName)) rfl (hw _ (List.mem_of_getElem? (i := 51) rfl)) (hw _ (List.mem_of_getElem? (i := 52) rfl)) (hw _ (List.mem_of_getElem? (i := 50) rfl)) (hw _ (List.mem_of_getElem? (i := 53) rfl)) (by decide) (own_12_28 l Z a0 hw n0 h960 sz993 b961 b873 n823_b30 n920_b5 n895_n1_n1_b2 n823_n46_n1_n1_b2 n920_n18_b2 (nar .byte ((nar .char ((i1 &&& (255 : Int32)).toUInt32.toUInt16.toUInt32.toInt32)).toInt8.toInt32)) (nar .byte ((nar .char ((((i1.toUInt32 >>> ((8 : Int32) &&& 31).toUInt32).toInt32) &&& (255 : Int32)).toUInt32.toUInt16.toUInt32.toInt32)).toInt8.toInt32)) (nar .byte ((nar .char ((i2 &&& (255 : Int32)).toUInt32.toUInt16.toUInt32.toInt32)).toInt8.toInt32)) (nar .byte (((((i2.toUInt32 >>> ((8 : Int32) &&& 31).toUInt32).toInt32) &&& (255 : Int32)).toUInt32.toUInt16.toUInt32.toInt32).toInt8.toInt32)) cs F975 F976 F977 F978 F979 F982 F983 F984 F985 F986 F987 F988 F989 F990 F991 F992 A964 F995 F996 F997 F998 (Ne.symm ne969) (Ne.symm ne966) (Ne.symm ne971) (Ne.symm ne970) (Ne.symm ne967) (Ne.symm ne972) (Ne.symm ne878) ne935 ne907 (Ne.symm ne879) ne942 ne932 ne904 ne834 ne939 (Ne.symm ne936) (Ne.symm ne933) ne931 (Ne.symm ne905) ne943 ne940 ge973 ge881 ge835 ge937 ge908 ge837 ge944 hcs) (w := 1) (by decide) (by decide) pd_10 rfl (rest := [(.ref b961)]) rfl rfl (Nat.le_of_eq rfl) (by decide) (by decide) at_83 ?_
      rintro _ h1000 ⟨rfl, K1001, F1002, F1003, F1004, F1005, F1006⟩
      show Wk _ p l e _ s m _ below meth c n0 _ h1000 9 23 (mkF m 86 #[.val (.int i0), .val (.int i1), .val (.int i2), .val (.int i3), .val (.int (3 : Int32)), .val (.ref n823_b30), .val (.int (0 : Int32)), .val (.ref b843), .val (.ref b873), .val (.ref n920_b5), .unset, .unset] [(.ref b961)])
      have F1007 : Exa Z h1000 n823_b30 "java/lang/String" := F975.keep K1001
      have F1008 : Exa Z h1000 n823_n46_n1_n1_b2 "[B" := F976.keep K1001
      have F1009 : Fa Z h1000 n823_n46_n1_n1_b2 .byte 2 (up (up (fun _ => (.int (0 : Int32))) 0 (.int (nar .byte ((nar .char ((i1 &&& (255 : Int32)).toUInt32.toUInt16.toUInt32.toInt32)).toInt8.toInt32)))) 1 (.int (nar .byte ((nar .char ((((i1.toUInt32 >>> ((8 : Int32) &&& 31).toUInt32).toInt32) &&& (255 : Int32)).toUInt32.toUInt16.toUInt32.toInt32)).toInt8.toInt32)))) := F977.keep K1001 (nmS ne967 nm0)
      have F1010 : Fld Z h1000 n823_b30 "java/lang/String" "coder" "B" (.int (0 : Int32)) := F978.keep K1001 (nmS ne966 nm0)
      have F1011 : Fld Z h1000 n823_b30 "java/lang/String" "value" "[B" (.ref n823_n46_n1_n1_b2) := F979.keep K1001 (nmS ne966 nm0)
      have F1012 : Exa Z h1000 b843 "[C" := F980.keep K1001
      have F1013 : Fa Z h1000 b843 .char 1 (up (fun _ => (.int (0 : Int32))) 0 (.int (nar .char ((i2 &&& (255 : Int32)).toUInt32.toUInt16.toUInt32.toInt32)))) := F981.keep K1001 (nmS ne968 nm0)
      have F1014 : Exa Z h1000 b873 "java/lang/String" := F982.keep K1001
      have F1015 : Exa Z h1000 n895_n1_n1_b2 "[B" := F983.keep K1001
      have F1016 : Fa Z h1000 n895_n1_n1_b2 .byte 1 (up (fun _ => (.int (0 : Int32))) 0 (.int (nar .byte ((nar .char ((i2 &&& (255 : Int32)).toUInt32.toUInt16.toUInt32.toInt32)).toInt8.toInt32)))) := F984.keep K1001 (nmS ne970 nm0)
      have F1017 : Fld Z h1000 b873 "java/lang/String" "coder" "B" (.int (0 : Int32)) := F985.keep K1001 (nmS ne969 nm0)
      have F1018 : Fld Z h1000 b873 "java/lang/String" "value" "[B" (.ref n895_n1_n1_b2) := F986.keep K1001 (nmS ne969 nm0)
      have F1019 : Exa Z h1000 n920_b5 "java/lang/String" := F987.keep K1001
      have F1020 : Exa Z h1000 n920_n18_b2 "[B" := F988.keep K1001
      have F1021 : Fa Z h1000 n920_n18_b2 .byte 1 (up (fun _ => (.int (0 : Int32))) 0 (.int (nar .byte (((((i2.toUInt32 >>> ((8 : Int32) &&& 31).toUInt32).toInt32) &&& (255 : Int32)).toUInt32.toUInt16.toUInt32.toInt32).toInt8.toInt32)))) := F989.keep K1001 (nmS ne972 nm0)
      have F1022 : Fld Z h1000 n920_b5 "java/lang/String" "value" "[B" (.ref n920_n18_b2) := F991.keep K1001 (nmS ne971 nm0)
      have F1023 : Fld Z h1000 n920_b5 "java/lang/String" "coder" "B" (.int (0 : Int32)) := F992.keep K1001 (nmS ne971 nm0)
      have F1024 : Exa Z h1000 b961 "com/example/tripleshelf/tripleshelf/cli/Option" := A964.keep K1001
      have sz1025 : n0 ≤ h1000.size := Nat.le_trans sz993 K1001.1
      have sy1026 : h0.size ≤ h1000.size := Nat.le_trans sy994 K1001.1
      refine Wk.st (g' := (mkF m 88 #[.val (.int i0), .val (.int i1), .val (.int i2), .val (.int i3), .val (.int (3 : Int32)), .val (.ref n823_b30), .val (.int (0 : Int32)), .val (.ref b843), .val (.ref b873), .val (.ref n920_b5), .val (.ref b961), .unset] [])) (fun X t q => XS.astore X.here C.hx rfl (hb C.hby at_86) rfl rfl (l' := #[.val (.int i0), .val (.int i1), .val (.int i2), .val (.int i3), .val (.int (3 : Int32)), .val (.ref n823_b30), .val (.int (0 : Int32)), .val (.ref b843), .val (.ref b873), .val (.ref n920_b5), .val (.ref b961), .unset]) rfl q) ?_
      refine Wk.st (g' := (mkF m 90 #[.val (.int i0), .val (.int i1), .val (.int i2), .val (.int i3), .val (.int (3 : Int32)), .val (.ref n823_b30), .val (.int (0 : Int32)), .val (.ref b843), .val (.ref b873), .val (.ref n920_b5), .val (.ref b961), .unset] [(.ref b961)])) (fun X t q => XS.aload X.here C.hx rfl (hb C.hby at_88) rfl rfl q) ?_
      refine Wk.callV C (x := (⟨"com/example/tripleshelf/tripleshelf/cli/Option", "takesValue", "()Z"⟩ : MethodName)) (z := (⟨"com/example/tripleshelf/tripleshelf/cli/Option", "takesValue", "()Z"⟩ : MethodName)) (K := "com/example/tripleshelf/tripleshelf/cli/Option") (hw _ (List.mem_of_getElem? (i := 68) rfl)) (hw _ (List.mem_of_getElem? (i := 69) rfl)) (hw _ (List.mem_of_getElem? (i := 71) rfl)) (hw _ (List.mem_of_getElem? (i := 70) rfl)) (hw _ (List.mem_of_getElem? (i := 50) rfl)) (hw _ (List.mem_of_getElem? (i := 72) rfl)) (by decide) (fun s' hZ' => notFace_of_selects (args := #[]) (mvT hZ' (hw _ (List.mem_of_getElem? (i := 71) rfl)))) F1024 (own_14_29 l Z a0 hw n0 h1000 sz1025 b961 b873 n823_b30 n920_b5 n895_n1_n1_b2 n823_n46_n1_n1_b2 n920_n18_b2 (nar .byte ((nar .char ((i1 &&& (255 : Int32)).toUInt32.toUInt16.toUInt32.toInt32)).toInt8.toInt32)) (nar .byte ((nar .char ((((i1.toUInt32 >>> ((8 : Int32) &&& 31).toUInt32).toInt32) &&& (255 : Int32)).toUInt32.toUInt16.toUInt32.toInt32)).toInt8.toInt32)) (nar .byte ((nar .char ((i2 &&& (255 : Int32)).toUInt32.toUInt16.toUInt32.toInt32)).toInt8.toInt32)) (nar .byte (((((i2.toUInt32 >>> ((8 : Int32) &&& 31).toUInt32).toInt32) &&& (255 : Int32)).toUInt32.toUInt16.toUInt32.toInt32).toInt8.toInt32)) cs F1007 F1008 F1009 F1010 F1011 F1014 F1015 F1016 F1017 F1018 F1019 F1020 F1021 F1022 F1023 F1024 F1002 F1003 F1004 F1005 F1006 (Ne.symm ne969) (Ne.symm ne966) (Ne.symm ne971) (Ne.symm ne970) (Ne.symm ne967) (Ne.symm ne972) (Ne.symm ne878) ne935 ne907 (Ne.symm ne879) ne942 ne932 ne904 ne834 ne939 (Ne.symm ne936) (Ne.symm ne933) ne931 (Ne.symm ne905) ne943 ne940 ge973 ge881 ge835 ge937 ge908 ge837 ge944 hcs) (w := 0) (by decide) (by decide) pd_12 rfl (rest := []) rfl rfl (Nat.le_of_eq rfl) (by decide) (by decide) at_90 ?_
      rintro _ _ ⟨rfl, rfl⟩
      show Wk _ p l e _ s m _ below meth c n0 _ h1000 9 23 (mkF m 93 #[.val (.int i0), .val (.int i1), .val (.int i2), .val (.int i3), .val (.int (3 : Int32)), .val (.ref n823_b30), .val (.int (0 : Int32)), .val (.ref b843), .val (.ref b873), .val (.ref n920_b5), .val (.ref b961), .unset] [(.int (1 : Int32))])
      refine Wk.st (g' := (mkF m 95 #[.val (.int i0), .val (.int i1), .val (.int i2), .val (.int i3), .val (.int (3 : Int32)), .val (.ref n823_b30), .val (.int (0 : Int32)), .val (.ref b843), .val (.ref b873), .val (.ref n920_b5), .val (.ref b961), .val (.int (1 : Int32))] [])) (fun X t q => XS.istore X.here C.hx rfl (hb C.hby at_93) rfl (l' := #[.val (.int i0), .val (.int i1), .val (.int i2), .val (.int i3), .val (.int (3 : Int32)), .val (.ref n823_b30), .val (.int (0 : Int32)), .val (.ref b843), .val (.ref b873), .val (.ref n920_b5), .val (.ref b961), .val (.int (1 : Int32))]) rfl q) ?_
      refine Wk.st (g' := (mkF m 97 #[.val (.int i0), .val (.int i1), .val (.int i2), .val (.int i3), .val (.int (3 : Int32)), .val (.ref n823_b30), .val (.int (0 : Int32)), .val (.ref b843), .val (.ref b873), .val (.ref n920_b5), .val (.ref b961), .val (.int (1 : Int32))] [(.int (1 : Int32))])) (fun X t q => XS.iload X.here C.hx rfl (hb C.hby at_95) rfl q) ?_
      refine Wk.st (g' := (mkF m 99 #[.val (.int i0), .val (.int i1), .val (.int i2), .val (.int i3), .val (.int (3 : Int32)), .val (.ref n823_b30), .val (.int (0 : Int32)), .val (.ref b843), .val (.ref b873), .val (.ref n920_b5), .val (.ref b961), .val (.int (1 : Int32))] [(.int (3 : Int32)), (.int (1 : Int32))])) (fun X t q => XS.iload X.here C.hx rfl (hb C.hby at_97) rfl q) ?_
      refine Wk.st (g' := (mkF m 102 #[.val (.int i0), .val (.int i1), .val (.int i2), .val (.int i3), .val (.int (3 : Int32)), .val (.ref n823_b30), .val (.int (0 : Int32)), .val (.ref b843), .val (.ref b873), .val (.ref n920_b5), .val (.ref b961), .val (.int (1 : Int32))] [(.int (1 : Int32))])) (fun X t q => XS.ifNo X.here C.hx rfl (hb C.hby at_99) rfl (XT.i0_eq_f (by decide)) q) ?_
      refine Wk.st (g' := (mkF m 103 #[.val (.int i0), .val (.int i1), .val (.int i2), .val (.int i3), .val (.int (3 : Int32)), .val (.ref n823_b30), .val (.int (0 : Int32)), .val (.ref b843), .val (.ref b873), .val (.ref n920_b5), .val (.ref b961), .val (.int (1 : Int32))] [(.int (1 : Int32)), (.int (1 : Int32))])) (fun X t q => XS.iconst X.here C.hx rfl (hb C.hby at_102) q) ?_
      refine Wk.st (g' := (mkF m 107 #[.val (.int i0), .val (.int i1), .val (.int i2), .val (.int i3), .val (.int (3 : Int32)), .val (.ref n823_b30), .val (.int (0 : Int32)), .val (.ref b843), .val (.ref b873), .val (.ref n920_b5), .val (.ref b961), .val (.int (1 : Int32))] [(.int (1 : Int32)), (.int (1 : Int32))])) (fun X t q => XS.goto X.here C.hx rfl (pc0 := 103) (pc' := 107) rfl (hb C.hby at_103) (by decide) (by decide) q) ?_
      refine Wk.st (g' := (mkF m 110 #[.val (.int i0), .val (.int i1), .val (.int i2), .val (.int i3), .val (.int (3 : Int32)), .val (.ref n823_b30), .val (.int (0 : Int32)), .val (.ref b843), .val (.ref b873), .val (.ref n920_b5), .val (.ref b961), .val (.int (1 : Int32))] [])) (fun X t q => XS.icmpNo X.here C.hx rfl (hb C.hby at_107) rfl (XT.ii_ne_f (by decide)) q) ?_
      refine Wk.st (g' := (mkF m 111 #[.val (.int i0), .val (.int i1), .val (.int i2), .val (.int i3), .val (.int (3 : Int32)), .val (.ref n823_b30), .val (.int (0 : Int32)), .val (.ref b843), .val (.ref b873), .val (.ref n920_b5), .val (.ref b961), .val (.int (1 : Int32))] [(.int (1 : Int32))])) (fun X t q => XS.iconst X.here C.hx rfl (hb C.hby at_110) q) ?_
      refine Wk.st (g' := (mkF m 115 #[.val (.int i0), .val (.int i1), .val (.int i2), .val (.int i3), .val (.int (3 : Int32)), .val (.ref n823_b30), .val (.int (0 : Int32)), .val (.ref b843), .val (.ref b873), .val (.ref n920_b5), .val (.ref b961), .val (.int (1 : Int32))] [(.int (1 : Int32))])) (fun X t q => XS.goto X.here C.hx rfl (pc0 := 111) (pc' := 115) rfl (hb C.hby at_111) (by decide) (by decide) q) ?_
      exact Wk.retV C (t := .boolean) rfl rfl (Or.inl ⟨rfl, by simp, _, rfl⟩) at_115 (by decide) (by decide) rfl
    · skip
      refine Wk.st (g' := (mkF m 24 #[.val (.int i0), .val (.int i1), .val (.int i2), .val (.int i3), .val (.int (3 : Int32)), .val (.ref n823_b30), .unset, .unset, .unset, .unset, .unset, .unset] [])) (fun X t q => XS.ifNo X.here C.hx rfl (hb C.hby at_21) rfl (XT.i0_eq_f hb841) q) ?_
      refine Wk.st (g' := (mkF m 25 #[.val (.int i0), .val (.int i1), .val (.int i2), .val (.int i3), .val (.int (3 : Int32)), .val (.ref n823_b30), .unset, .unset, .unset, .unset, .unset, .unset] [(.int (1 : Int32))])) (fun X t q => XS.iconst X.here C.hx rfl (hb C.hby at_24) q) ?_
      refine Wk.st (g' := (mkF m 29 #[.val (.int i0), .val (.int i1), .val (.int i2), .val (.int i3), .val (.int (3 : Int32)), .val (.ref n823_b30), .unset, .unset, .unset, .unset, .unset, .unset] [(.int (1 : Int32))])) (fun X t q => XS.goto X.here C.hx rfl (pc0 := 25) (pc' := 29) rfl (hb C.hby at_25) (by decide) (by decide) q) ?_
      refine Wk.st (g' := (mkF m 31 #[.val (.int i0), .val (.int i1), .val (.int i2), .val (.int i3), .val (.int (3 : Int32)), .val (.ref n823_b30), .val (.int (1 : Int32)), .unset, .unset, .unset, .unset, .unset] [])) (fun X t q => XS.istore X.here C.hx rfl (hb C.hby at_29) rfl (l' := #[.val (.int i0), .val (.int i1), .val (.int i2), .val (.int i3), .val (.int (3 : Int32)), .val (.ref n823_b30), .val (.int (1 : Int32)), .unset, .unset, .unset, .unset, .unset]) rfl q) ?_
      refine Wk.st (g' := (mkF m 32 #[.val (.int i0), .val (.int i1), .val (.int i2), .val (.int i3), .val (.int (3 : Int32)), .val (.ref n823_b30), .val (.int (1 : Int32)), .unset, .unset, .unset, .unset, .unset] [(.int (1 : Int32))])) (fun X t q => XS.iconst X.here C.hx rfl (hb C.hby at_31) q) ?_
      refine Wk.fNewP C (hw _ (List.mem_of_getElem? (i := 4) rfl)) (ty := .char) (dv := (.int (0 : Int32))) (N := 1) (ad := "[C") rfl rfl (by decide) (by decide) (by decide) (cap := 1) (by decide) (by decide) at_32 (by decide) (by decide) ?_
      intro h1030 b1031 g1032 E1033 A1034 F1035
      have ne1036 : n823_b30 ≠ b1031 := Nat.ne_of_lt (Nat.lt_of_lt_of_le F826.lt (Nat.le_of_eq g1032.symm))
      have ne1037 : n823_n46_n1_n1_b2 ≠ b1031 := Nat.ne_of_lt (Nat.lt_of_lt_of_le F827.lt (Nat.le_of_eq g1032.symm))
      have ge1038 : n0 ≤ b1031 := Nat.le_trans sz839 (Nat.le_of_eq g1032.symm)
      have gz1039 : h0.size ≤ b1031 := Nat.le_trans sy840 (Nat.le_of_eq g1032.symm)
      have F1040 : Exa Z h1030 n823_b30 "java/lang/String" := F826.ext E1033
      have F1041 : Exa Z h1030 n823_n46_n1_n1_b2 "[B" := F827.ext E1033
      have F1042 : Sta Z h1030 "java/lang/String" "COMPACT_STRINGS" "Z" (.int cs) := F828.ext E1033
      have F1043 : Fa Z h1030 n823_n46_n1_n1_b2 .byte 2 (up (up (fun _ => (.int (0 : Int32))) 0 (.int (nar .byte ((nar .char ((i1 &&& (255 : Int32)).toUInt32.toUInt16.toUInt32.toInt32)).toInt8.toInt32)))) 1 (.int (nar .byte ((nar .char ((((i1.toUInt32 >>> ((8 : Int32) &&& 31).toUInt32).toInt32) &&& (255 : Int32)).toUInt32.toUInt16.toUInt32.toInt32)).toInt8.toInt32)))) := F829.ext E1033
      have F1044 : Fld Z h1030 n823_b30 "java/lang/String" "coder" "B" (.int (0 : Int32)) := F830.ext E1033
      have F1045 : Fld Z h1030 n823_b30 "java/lang/String" "value" "[B" (.ref n823_n46_n1_n1_b2) := F831.ext E1033
      have sz1046 : n0 ≤ h1030.size := Nat.le_trans sz839 E1033.1
      have sy1047 : h0.size ≤ h1030.size := Nat.le_trans sy840 E1033.1
      show Wk _ p l e _ s m _ below meth c n0 _ h1030 4 9 (mkF m 34 #[.val (.int i0), .val (.int i1), .val (.int i2), .val (.int i3), .val (.int (3 : Int32)), .val (.ref n823_b30), .val (.int (1 : Int32)), .unset, .unset, .unset, .unset, .unset] [(.ref b1031)])
      refine Wk.st (g' := (mkF m 36 #[.val (.int i0), .val (.int i1), .val (.int i2), .val (.int i3), .val (.int (3 : Int32)), .val (.ref n823_b30), .val (.int (1 : Int32)), .val (.ref b1031), .unset, .unset, .unset, .unset] [])) (fun X t q => XS.astore X.here C.hx rfl (hb C.hby at_34) rfl rfl (l' := #[.val (.int i0), .val (.int i1), .val (.int i2), .val (.int i3), .val (.int (3 : Int32)), .val (.ref n823_b30), .val (.int (1 : Int32)), .val (.ref b1031), .unset, .unset, .unset, .unset]) rfl q) ?_
      refine Wk.st (g' := (mkF m 38 #[.val (.int i0), .val (.int i1), .val (.int i2), .val (.int i3), .val (.int (3 : Int32)), .val (.ref n823_b30), .val (.int (1 : Int32)), .val (.ref b1031), .unset, .unset, .unset, .unset] [(.ref b1031)])) (fun X t q => XS.aload X.here C.hx rfl (hb C.hby at_36) rfl rfl q) ?_
      refine Wk.st (g' := (mkF m 39 #[.val (.int i0), .val (.int i1), .val (.int i2), .val (.int i3), .val (.int (3 : Int32)), .val (.ref n823_b30), .val (.int (1 : Int32)), .val (.ref b1031), .unset, .unset, .unset, .unset] [(.int (0 : Int32)), (.ref b1031)])) (fun X t q => XS.iconst X.here C.hx rfl (hb C.hby at_38) q) ?_
      refine Wk.st (g' := (mkF m 40 #[.val (.int i0), .val (.int i1), .val (.int i2), .val (.int i3), .val (.int (3 : Int32)), .val (.ref n823_b30), .val (.int (1 : Int32)), .val (.ref b1031), .unset, .unset, .unset, .unset] [(.int i2), (.int (0 : Int32)), (.ref b1031)])) (fun X t q => XS.iloadN X.here C.hx rfl (hb C.hby at_39) rfl q) ?_
      refine Wk.st (g' := (mkF m 43 #[.val (.int i0), .val (.int i1), .val (.int i2), .val (.int i3), .val (.int (3 : Int32)), .val (.ref n823_b30), .val (.int (1 : Int32)), .val (.ref b1031), .unset, .unset, .unset, .unset] [(.int (255 : Int32)), (.int i2), (.int (0 : Int32)), (.ref b1031)])) (fun X t q => XS.sipush X.here C.hx rfl (hb C.hby at_40) q) ?_
      refine Wk.st (g' := (mkF m 44 #[.val (.int i0), .val (.int i1), .val (.int i2), .val (.int i3), .val (.int (3 : Int32)), .val (.ref n823_b30), .val (.int (1 : Int32)), .val (.ref b1031), .unset, .unset, .unset, .unset] [(.int (i2 &&& (255 : Int32))), (.int (0 : Int32)), (.ref b1031)])) (fun X t q => XS.iand X.here C.hx rfl (hb C.hby at_43) rfl q) ?_
      refine Wk.st (g' := (mkF m 45 #[.val (.int i0), .val (.int i1), .val (.int i2), .val (.int i3), .val (.int (3 : Int32)), .val (.ref n823_b30), .val (.int (1 : Int32)), .val (.ref b1031), .unset, .unset, .unset, .unset] [(.int ((i2 &&& (255 : Int32)).toUInt32.toUInt16.toUInt32.toInt32)), (.int (0 : Int32)), (.ref b1031)])) (fun X t q => XS.i2c X.here C.hx rfl (hb C.hby at_44) rfl q) ?_
      refine Wk.fStC C F1035 (x' := (nar .char ((i2 &&& (255 : Int32)).toUInt32.toUInt16.toUInt32.toInt32))) rfl (i := 0) (by decide) (by decide) (by decide) ge1038 at_45 ?_
      intro h1048 W1049 F1050
      have F1051 : Exa Z h1048 n823_b30 "java/lang/String" := F1040.wr W1049
      have F1052 : Exa Z h1048 n823_n46_n1_n1_b2 "[B" := F1041.wr W1049
      have F1053 : Sta Z h1048 "java/lang/String" "COMPACT_STRINGS" "Z" (.int cs) := F1042.wr W1049
      have F1054 : Fa Z h1048 n823_n46_n1_n1_b2 .byte 2 (up (up (fun _ => (.int (0 : Int32))) 0 (.int (nar .byte ((nar .char ((i1 &&& (255 : Int32)).toUInt32.toUInt16.toUInt32.toInt32)).toInt8.toInt32)))) 1 (.int (nar .byte ((nar .char ((((i1.toUInt32 >>> ((8 : Int32) &&& 31).toUInt32).toInt32) &&& (255 : Int32)).toUInt32.toUInt16.toUInt32.toInt32)).toInt8.toInt32)))) := F1043.other W1049 ne1037
      have F1055 : Fld Z h1048 n823_b30 "java/lang/String" "coder" "B" (.int (0 : Int32)) := F1044.other W1049 (Or.inl ne1036)
      have F1056 : Fld Z h1048 n823_b30 "java/lang/String" "value" "[B" (.ref n823_n46_n1_n1_b2) := F1045.other W1049 (Or.inl ne1036)
      have F1057 : Exa Z h1048 b1031 "[C" := A1034.wr W1049
      have sz1058 : n0 ≤ h1048.size := Nat.le_trans sz1046 (Nat.le_of_eq W1049.size.symm)
      have sy1059 : h0.size ≤ h1048.size := Nat.le_trans sy1047 (Nat.le_of_eq W1049.size.symm)
      show Wk _ p l e _ s m _ below meth c n0 _ h1048 4 9 (mkF m 46 #[.val (.int i0), .val (.int i1), .val (.int i2), .val (.int i3), .val (.int (3 : Int32)), .val (.ref n823_b30), .val (.int (1 : Int32)), .val (.ref b1031), .unset, .unset, .unset, .unset] [])
      refine Wk.newO C (hw _ (List.mem_of_getElem? (i := 5) rfl)) (hw _ (List.mem_of_getElem? (i := 6) rfl)) (hw _ (List.mem_of_getElem? (i := 7) rfl)) at_46 (by decide) (by decide) ?_
      intro h1060 b1061 g1062 E1063 A1064 D1065
      have ne1066 : n823_b30 ≠ b1061 := Nat.ne_of_lt (Nat.lt_of_lt_of_le F1051.lt (Nat.le_of_eq g1062.symm))
      have ne1067 : n823_n46_n1_n1_b2 ≠ b1061 := Nat.ne_of_lt (Nat.lt_of_lt_of_le F1052.lt (Nat.le_of_eq g1062.symm))
      have ne1068 : b1031 ≠ b1061 := Nat.ne_of_lt (Nat.lt_of_lt_of_le F1057.lt (Nat.le_of_eq g1062.symm))
      have ge1069 : n0 ≤ b1061 := Nat.le_trans sz1058 (Nat.le_of_eq g1062.symm)
      have gz1070 : h0.size ≤ b1061 := Nat.le_trans sy1059 (Nat.le_of_eq g1062.symm)
      have F1071 : Exa Z h1060 n823_b30 "java/lang/String" := F1051.ext E1063
      have F1072 : Exa Z h1060 n823_n46_n1_n1_b2 "[B" := F1052.ext E1063
      have F1073 : Sta Z h1060 "java/lang/String" "COMPACT_STRINGS" "Z" (.int cs) := F1053.ext E1063
      have F1074 : Fa Z h1060 n823_n46_n1_n1_b2 .byte 2 (up (up (fun _ => (.int (0 : Int32))) 0 (.int (nar .byte ((nar .char ((i1 &&& (255 : Int32)).toUInt32.toUInt16.toUInt32.toInt32)).toInt8.toInt32)))) 1 (.int (nar .byte ((nar .char ((((i1.toUInt32 >>> ((8 : Int32) &&& 31).toUInt32).toInt32) &&& (255 : Int32)).toUInt32.toUInt16.toUInt32.toInt32)).toInt8.toInt32)))) := F1054.ext E1063
      have F1075 : Fld Z h1060 n823_b30 "java/lang/String" "coder" "B" (.int (0 : Int32)) := F1055.ext E1063
      have F1076 : Fld Z h1060 n823_b30 "java/lang/String" "value" "[B" (.ref n823_n46_n1_n1_b2) := F1056.ext E1063
      have F1077 : Exa Z h1060 b1031 "[C" := F1057.ext E1063
      have F1078 : Fa Z h1060 b1031 .char 1 (up (fun _ => (.int (0 : Int32))) 0 (.int (nar .char ((i2 &&& (255 : Int32)).toUInt32.toUInt16.toUInt32.toInt32)))) := F1050.ext E1063
      have sz1079 : n0 ≤ h1060.size := Nat.le_trans sz1058 E1063.1
      have sy1080 : h0.size ≤ h1060.size := Nat.le_trans sy1059 E1063.1
      have F1081 : Fld Z h1060 b1061 "java/lang/String" "coder" "B" (.int (0 : Int32)) := D1065 (Or.inr (hw _ (List.mem_of_getElem? (i := 31) rfl))) (ty := .byte) (by decide)
      have F1082 : Fld Z h1060 b1061 "java/lang/String" "value" "[B" .null := D1065 (Or.inr (hw _ (List.mem_of_getElem? (i := 33) rfl))) (ty := (.array .byte)) (by decide)
      show Wk _ p l e _ s m _ below meth c n0 _ h1060 5 13 (mkF m 49 #[.val (.int i0), .val (.int i1), .val (.int i2), .val (.int i3), .val (.int (3 : Int32)), .val (.ref n823_b30), .val (.int (1 : Int32)), .val (.ref b1031), .unset, .unset, .unset, .unset] [(.ref b1061)])
      refine Wk.st (g' := (mkF m 50 #[.val (.int i0), .val (.int i1), .val (.int i2), .val (.int i3), .val (.int (3 : Int32)), .val (.ref n823_b30), .val (.int (1 : Int32)), .val (.ref b1031), .unset, .unset, .unset, .unset] [(.ref b1061), (.ref b1061)])) (fun X t q => XS.dup X.here C.hx rfl (hb C.hby at_49) rfl rfl q) ?_
      refine Wk.st (g' := (mkF m 52 #[.val (.int i0), .val (.int i1), .val (.int i2), .val (.int i3), .val (.int (3 : Int32)), .val (.ref n823_b30), .val (.int (1 : Int32)), .val (.ref b1031), .unset, .unset, .unset, .unset] [(.ref b1031), (.ref b1061), (.ref b1061)])) (fun X t q => XS.aload X.here C.hx rfl (hb C.hby at_50) rfl rfl q) ?_
      refine Wk.callI C (z := (⟨"java/lang/String", "<init>", "([C)V"⟩ : MethodName)) rfl (hw _ (List.mem_of_getElem? (i := 8) rfl)) (hw _ (List.mem_of_getElem? (i := 9) rfl)) (hw _ (List.mem_of_getElem? (i := 7) rfl)) (hw _ (List.mem_of_getElem? (i := 10) rfl)) (by decide) (own_2_1 l Z a0 hw n0 h1060 sz1079 b1061 b1031 cs (nar .char ((i2 &&& (255 : Int32)).toUInt32.toUInt16.toUInt32.toInt32)) F1073 F1077 F1078 A1064 F1081 F1082 (Ne.symm ne1068) ge1069 ge1038 (latn i2) hcs) (w := 1) (by decide) (by decide) pd_1 rfl (rest := [(.ref b1061)]) rfl rfl (Nat.le_of_eq rfl) (by decide) (by decide) at_52 ?_
      rintro _ h1084 ⟨n1083_n1_n1_b2, rfl, K1085, gn1091, F1086, F1087, F1088, F1089, F1090⟩
      show Wk _ p l e _ s m _ below meth c n0 _ h1084 6 14 (mkF m 55 #[.val (.int i0), .val (.int i1), .val (.int i2), .val (.int i3), .val (.int (3 : Int32)), .val (.ref n823_b30), .val (.int (1 : Int32)), .val (.ref b1031), .unset, .unset, .unset, .unset] [(.ref b1061)])
      have ne1092 : n823_b30 ≠ n1083_n1_n1_b2 := Nat.ne_of_lt (Nat.lt_of_lt_of_le F1071.lt gn1091)
      have ne1093 : n823_n46_n1_n1_b2 ≠ n1083_n1_n1_b2 := Nat.ne_of_lt (Nat.lt_of_lt_of_le F1072.lt gn1091)
      have ne1094 : b1031 ≠ n1083_n1_n1_b2 := Nat.ne_of_lt (Nat.lt_of_lt_of_le F1077.lt gn1091)
      have ne1095 : b1061 ≠ n1083_n1_n1_b2 := Nat.ne_of_lt (Nat.lt_of_lt_of_le A1064.lt gn1091)
      have ge1096 : n0 ≤ n1083_n1_n1_b2 := Nat.le_trans sz1079 gn1091
      have gz1097 : h0.size ≤ n1083_n1_n1_b2 := Nat.le_trans sy1080 gn1091
      have F1098 : Exa Z h1084 n823_b30 "java/lang/String" := F1071.keep K1085
      have F1099 : Exa Z h1084 n823_n46_n1_n1_b2 "[B" := F1072.keep K1085
      have F1100 : Fa Z h1084 n823_n46_n1_n1_b2 .byte 2 (up (up (fun _ => (.int (0 : Int32))) 0 (.int (nar .byte ((nar .char ((i1 &&& (255 : Int32)).toUInt32.toUInt16.toUInt32.toInt32)).toInt8.toInt32)))) 1 (.int (nar .byte ((nar .char ((((i1.toUInt32 >>> ((8 : Int32) &&& 31).toUInt32).toInt32) &&& (255 : Int32)).toUInt32.toUInt16.toUInt32.toInt32)).toInt8.toInt32)))) := F1074.keep K1085 (nmS ne1067 nm0)
      have F1101 : Fld Z h1084 n823_b30 "java/lang/String" "coder" "B" (.int (0 : Int32)) := F1075.keep K1085 (nmS ne1066 nm0)
      have F1102 : Fld Z h1084 n823_b30 "java/lang/String" "value" "[B" (.ref n823_n46_n1_n1_b2) := F1076.keep K1085 (nmS ne1066 nm0)
      have F1103 : Exa Z h1084 b1031 "[C" := F1077.keep K1085
      have F1104 : Fa Z h1084 b1031 .char 1 (up (fun _ => (.int (0 : Int32))) 0 (.int (nar .char ((i2 &&& (255 : Int32)).toUInt32.toUInt16.toUInt32.toInt32)))) := F1078.keep K1085 (nmS ne1068 nm0)
      have F1105 : Exa Z h1084 b1061 "java/lang/String" := A1064.keep K1085
      have sz1106 : n0 ≤ h1084.size := Nat.le_trans sz1079 K1085.1
      have sy1107 : h0.size ≤ h1084.size := Nat.le_trans sy1080 K1085.1
      refine Wk.st (g' := (mkF m 57 #[.val (.int i0), .val (.int i1), .val (.int i2), .val (.int i3), .val (.int (3 : Int32)), .val (.ref n823_b30), .val (.int (1 : Int32)), .val (.ref b1031), .val (.ref b1061), .unset, .unset, .unset] [])) (fun X t q => XS.astore X.here C.hx rfl (hb C.hby at_55) rfl rfl (l' := #[.val (.int i0), .val (.int i1), .val (.int i2), .val (.int i3), .val (.int (3 : Int32)), .val (.ref n823_b30), .val (.int (1 : Int32)), .val (.ref b1031), .val (.ref b1061), .unset, .unset, .unset]) rfl q) ?_
      refine Wk.st (g' := (mkF m 58 #[.val (.int i0), .val (.int i1), .val (.int i2), .val (.int i3), .val (.int (3 : Int32)), .val (.ref n823_b30), .val (.int (1 : Int32)), .val (.ref b1031), .val (.ref b1061), .unset, .unset, .unset] [(.int i2)])) (fun X t q => XS.iloadN X.here C.hx rfl (hb C.hby at_57) rfl q) ?_
      refine Wk.st (g' := (mkF m 60 #[.val (.int i0), .val (.int i1), .val (.int i2), .val (.int i3), .val (.int (3 : Int32)), .val (.ref n823_b30), .val (.int (1 : Int32)), .val (.ref b1031), .val (.ref b1061), .unset, .unset, .unset] [(.int (8 : Int32)), (.int i2)])) (fun X t q => XS.bipush X.here C.hx rfl (hb C.hby at_58) q) ?_
      refine Wk.st (g' := (mkF m 61 #[.val (.int i0), .val (.int i1), .val (.int i2), .val (.int i3), .val (.int (3 : Int32)), .val (.ref n823_b30), .val (.int (1 : Int32)), .val (.ref b1031), .val (.ref b1061), .unset, .unset, .unset] [(.int ((i2.toUInt32 >>> ((8 : Int32) &&& 31).toUInt32).toInt32))])) (fun X t q => XS.iushr X.here C.hx rfl (hb C.hby at_60) rfl q) ?_
      refine Wk.st (g' := (mkF m 64 #[.val (.int i0), .val (.int i1), .val (.int i2), .val (.int i3), .val (.int (3 : Int32)), .val (.ref n823_b30), .val (.int (1 : Int32)), .val (.ref b1031), .val (.ref b1061), .unset, .unset, .unset] [(.int (255 : Int32)), (.int ((i2.toUInt32 >>> ((8 : Int32) &&& 31).toUInt32).toInt32))])) (fun X t q => XS.sipush X.here C.hx rfl (hb C.hby at_61) q) ?_
      refine Wk.st (g' := (mkF m 65 #[.val (.int i0), .val (.int i1), .val (.int i2), .val (.int i3), .val (.int (3 : Int32)), .val (.ref n823_b30), .val (.int (1 : Int32)), .val (.ref b1031), .val (.ref b1061), .unset, .unset, .unset] [(.int (((i2.toUInt32 >>> ((8 : Int32) &&& 31).toUInt32).toInt32) &&& (255 : Int32)))])) (fun X t q => XS.iand X.here C.hx rfl (hb C.hby at_64) rfl q) ?_
      refine Wk.st (g' := (mkF m 66 #[.val (.int i0), .val (.int i1), .val (.int i2), .val (.int i3), .val (.int (3 : Int32)), .val (.ref n823_b30), .val (.int (1 : Int32)), .val (.ref b1031), .val (.ref b1061), .unset, .unset, .unset] [(.int ((((i2.toUInt32 >>> ((8 : Int32) &&& 31).toUInt32).toInt32) &&& (255 : Int32)).toUInt32.toUInt16.toUInt32.toInt32))])) (fun X t q => XS.i2c X.here C.hx rfl (hb C.hby at_65) rfl q) ?_
      refine Wk.callS C (z := (⟨"java/lang/String", "valueOf", "(C)Ljava/lang/String;"⟩ : MethodName)) (hw _ (List.mem_of_getElem? (i := 34) rfl)) (hw _ (List.mem_of_getElem? (i := 35) rfl)) (hw _ (List.mem_of_getElem? (i := 7) rfl)) (hw _ (List.mem_of_getElem? (i := 36) rfl)) (by decide) (own_8_6 l Z a0 hw n0 h1084 sz1106  ((((i2.toUInt32 >>> ((8 : Int32) &&& 31).toUInt32).toInt32) &&& (255 : Int32)).toUInt32.toUInt16.toUInt32.toInt32) cs F1087   (lat0 ((i2.toUInt32 >>> ((8 : Int32) &&& 31).toUInt32).toInt32)) hcs) (w := 0) (by decide) (by decide) pd_6 rfl (rest := []) rfl rfl (Nat.le_of_eq rfl) (by decide) (by decide) at_66 ?_
      rintro _ h1109 ⟨n1108_b5, n1108_n18_b2, rfl, K1110, gn1117, gn1118, ne1119, F1111, F1112, F1113, F1114, F1115, F1116⟩
      show Wk _ p l e _ s m _ below meth c n0 _ h1109 8 19 (mkF m 69 #[.val (.int i0), .val (.int i1), .val (.int i2), .val (.int i3), .val (.int (3 : Int32)), .val (.ref n823_b30), .val (.int (1 : Int32)), .val (.ref b1031), .val (.ref b1061), .unset, .unset, .unset] [(.ref n1108_b5)])
      have ne1120 : n823_b30 ≠ n1108_b5 := Nat.ne_of_lt (Nat.lt_of_lt_of_le F1098.lt gn1117)
      have ne1121 : n823_n46_n1_n1_b2 ≠ n1108_b5 := Nat.ne_of_lt (Nat.lt_of_lt_of_le F1099.lt gn1117)
      have ne1122 : b1031 ≠ n1108_b5 := Nat.ne_of_lt (Nat.lt_of_lt_of_le F1103.lt gn1117)
      have ne1123 : b1061 ≠ n1108_b5 := Nat.ne_of_lt (Nat.lt_of_lt_of_le F1105.lt gn1117)
      have ne1124 : n1083_n1_n1_b2 ≠ n1108_b5 := Nat.ne_of_lt (Nat.lt_of_lt_of_le F1086.lt gn1117)
      have ge1125 : n0 ≤ n1108_b5 := Nat.le_trans sz1106 gn1117
      have gz1126 : h0.size ≤ n1108_b5 := Nat.le_trans sy1107 gn1117
      have ne1127 : n823_b30 ≠ n1108_n18_b2 := Nat.ne_of_lt (Nat.lt_of_lt_of_le F1098.lt gn1118)
      have ne1128 : n823_n46_n1_n1_b2 ≠ n1108_n18_b2 := Nat.ne_of_lt (Nat.lt_of_lt_of_le F1099.lt gn1118)
      have ne1129 : b1031 ≠ n1108_n18_b2 := Nat.ne_of_lt (Nat.lt_of_lt_of_le F1103.lt gn1118)
      have ne1130 : b1061 ≠ n1108_n18_b2 := Nat.ne_of_lt (Nat.lt_of_lt_of_le F1105.lt gn1118)
      have ne1131 : n1083_n1_n1_b2 ≠ n1108_n18_b2 := Nat.ne_of_lt (Nat.lt_of_lt_of_le F1086.lt gn1118)
      have ge1132 : n0 ≤ n1108_n18_b2 := Nat.le_trans sz1106 gn1118
      have gz1133 : h0.size ≤ n1108_n18_b2 := Nat.le_trans sy1107 gn1118
      have F1134 : Exa Z h1109 n823_b30 "java/lang/String" := F1098.keep K1110
      have F1135 : Exa Z h1109 n823_n46_n1_n1_b2 "[B" := F1099.keep K1110
      have F1136 : Fa Z h1109 n823_n46_n1_n1_b2 .byte 2 (up (up (fun _ => (.int (0 : Int32))) 0 (.int (nar .byte ((nar .char ((i1 &&& (255 : Int32)).toUInt32.toUInt16.toUInt32.toInt32)).toInt8.toInt32)))) 1 (.int (nar .byte ((nar .char ((((i1.toUInt32 >>> ((8 : Int32) &&& 31).toUInt32).toInt32) &&& (255 : Int32)).toUInt32.toUInt16.toUInt32.toInt32)).toInt8.toInt32)))) := F1100.keep K1110 nm0
      have F1137 : Fld Z h1109 n823_b30 "java/lang/String" "coder" "B" (.int (0 : Int32)) := F1101.keep K1110 nm0
      have F1138 : Fld Z h1109 n823_b30 "java/lang/String" "value" "[B" (.ref n823_n46_n1_n1_b2) := F1102.keep K1110 nm0
      have F1139 : Exa Z h1109 b1031 "[C" := F1103.keep K1110
      have F1140 : Fa Z h1109 b1031 .char 1 (up (fun _ => (.int (0 : Int32))) 0 (.int (nar .char ((i2 &&& (255 : Int32)).toUInt32.toUInt16.toUInt32.toInt32)))) := F1104.keep K1110 nm0
      have F1141 : Exa Z h1109 b1061 "java/lang/String" := F1105.keep K1110
      have F1142 : Exa Z h1109 n1083_n1_n1_b2 "[B" := F1086.keep K1110
      have F1143 : Fa Z h1109 n1083_n1_n1_b2 .byte 1 (up (fun _ => (.int (0 : Int32))) 0 (.int (nar .byte ((nar .char ((i2 &&& (255 : Int32)).toUInt32.toUInt16.toUInt32.toInt32)).toInt8.toInt32)))) := F1088.keep K1110 nm0
      have F1144 : Fld Z h1109 b1061 "java/lang/String" "coder" "B" (.int (0 : Int32)) := F1089.keep K1110 nm0
      have F1145 : Fld Z h1109 b1061 "java/lang/String" "value" "[B" (.ref n1083_n1_n1_b2) := F1090.keep K1110 nm0
      have sz1146 : n0 ≤ h1109.size := Nat.le_trans sz1106 K1110.1
      have sy1147 : h0.size ≤ h1109.size := Nat.le_trans sy1107 K1110.1
      refine Wk.st (g' := (mkF m 71 #[.val (.int i0), .val (.int i1), .val (.int i2), .val (.int i3), .val (.int (3 : Int32)), .val (.ref n823_b30), .val (.int (1 : Int32)), .val (.ref b1031), .val (.ref b1061), .val (.ref n1108_b5), .unset, .unset] [])) (fun X t q => XS.astore X.here C.hx rfl (hb C.hby at_69) rfl rfl (l' := #[.val (.int i0), .val (.int i1), .val (.int i2), .val (.int i3), .val (.int (3 : Int32)), .val (.ref n823_b30), .val (.int (1 : Int32)), .val (.ref b1031), .val (.ref b1061), .val (.ref n1108_b5), .unset, .unset]) rfl q) ?_
      refine Wk.newO C (hw _ (List.mem_of_getElem? (i := 48) rfl)) (hw _ (List.mem_of_getElem? (i := 49) rfl)) (hw _ (List.mem_of_getElem? (i := 50) rfl)) at_71 (by decide) (by decide) ?_
      intro h1148 b1149 g1150 E1151 A1152 D1153
      have ne1154 : n823_b30 ≠ b1149 := Nat.ne_of_lt (Nat.lt_of_lt_of_le F1134.lt (Nat.le_of_eq g1150.symm))
      have ne1155 : n823_n46_n1_n1_b2 ≠ b1149 := Nat.ne_of_lt (Nat.lt_of_lt_of_le F1135.lt (Nat.le_of_eq g1150.symm))
      have ne1156 : b1031 ≠ b1149 := Nat.ne_of_lt (Nat.lt_of_lt_of_le F1139.lt (Nat.le_of_eq g1150.symm))
      have ne1157 : b1061 ≠ b1149 := Nat.ne_of_lt (Nat.lt_of_lt_of_le F1141.lt (Nat.le_of_eq g1150.symm))
      have ne1158 : n1083_n1_n1_b2 ≠ b1149 := Nat.ne_of_lt (Nat.lt_of_lt_of_le F1142.lt (Nat.le_of_eq g1150.symm))
      have ne1159 : n1108_b5 ≠ b1149 := Nat.ne_of_lt (Nat.lt_of_lt_of_le F1111.lt (Nat.le_of_eq g1150.symm))
      have ne1160 : n1108_n18_b2 ≠ b1149 := Nat.ne_of_lt (Nat.lt_of_lt_of_le F1112.lt (Nat.le_of_eq g1150.symm))
      have ge1161 : n0 ≤ b1149 := Nat.le_trans sz1146 (Nat.le_of_eq g1150.symm)
      have gz1162 : h0.size ≤ b1149 := Nat.le_trans sy1147 (Nat.le_of_eq g1150.symm)
      have F1163 : Exa Z h1148 n823_b30 "java/lang/String" := F1134.ext E1151
      have F1164 : Exa Z h1148 n823_n46_n1_n1_b2 "[B" := F1135.ext E1151
      have F1165 : Fa Z h1148 n823_n46_n1_n1_b2 .byte 2 (up (up (fun _ => (.int (0 : Int32))) 0 (.int (nar .byte ((nar .char ((i1 &&& (255 : Int32)).toUInt32.toUInt16.toUInt32.toInt32)).toInt8.toInt32)))) 1 (.int (nar .byte ((nar .char ((((i1.toUInt32 >>> ((8 : Int32) &&& 31).toUInt32).toInt32) &&& (255 : Int32)).toUInt32.toUInt16.toUInt32.toInt32)).toInt8.toInt32)))) := F1136.ext E1151
      have F1166 : Fld Z h1148 n823_b30 "java/lang/String" "coder" "B" (.int (0 : Int32)) := F1137.ext E1151
      have F1167 : Fld Z h1148 n823_b30 "java/lang/String" "value" "[B" (.ref n823_n46_n1_n1_b2) := F1138.ext E1151
      have F1168 : Exa Z h1148 b1031 "[C" := F1139.ext E1151
      have F1169 : Fa Z h1148 b1031 .char 1 (up (fun _ => (.int (0 : Int32))) 0 (.int (nar .char ((i2 &&& (255 : Int32)).toUInt32.toUInt16.toUInt32.toInt32)))) := F1140.ext E1151
      have F1170 : Exa Z h1148 b1061 "java/lang/String" := F1141.ext E1151
      have F1171 : Exa Z h1148 n1083_n1_n1_b2 "[B" := F1142.ext E1151
      have F1172 : Fa Z h1148 n1083_n1_n1_b2 .byte 1 (up (fun _ => (.int (0 : Int32))) 0 (.int (nar .byte ((nar .char ((i2 &&& (255 : Int32)).toUInt32.toUInt16.toUInt32.toInt32)).toInt8.toInt32)))) := F1143.ext E1151
      have F1173 : Fld Z h1148 b1061 "java/lang/String" "coder" "B" (.int (0 : Int32)) := F1144.ext E1151
      have F1174 : Fld Z h1148 b1061 "java/lang/String" "value" "[B" (.ref n1083_n1_n1_b2) := F1145.ext E1151
      have F1175 : Exa Z h1148 n1108_b5 "java/lang/String" := F1111.ext E1151
      have F1176 : Exa Z h1148 n1108_n18_b2 "[B" := F1112.ext E1151
      have F1177 : Fa Z h1148 n1108_n18_b2 .byte 1 (up (fun _ => (.int (0 : Int32))) 0 (.int (nar .byte (((((i2.toUInt32 >>> ((8 : Int32) &&& 31).toUInt32).toInt32) &&& (255 : Int32)).toUInt32.toUInt16.toUInt32.toInt32).toInt8.toInt32)))) := F1113.ext E1151
      have F1178 : Sta Z h1148 "java/lang/String" "COMPACT_STRINGS" "Z" (.int cs) := F1114.ext E1151
      have F1179 : Fld Z h1148 n1108_b5 "java/lang/String" "value" "[B" (.ref n1108_n18_b2) := F1115.ext E1151
      have F1180 : Fld Z h1148 n1108_b5 "java/lang/String" "coder" "B" (.int (0 : Int32)) := F1116.ext E1151
      have sz1181 : n0 ≤ h1148.size := Nat.le_trans sz1146 E1151.1
      have sy1182 : h0.size ≤ h1148.size := Nat.le_trans sy1147 E1151.1
      have F1183 : Fld Z h1148 b1149 "com/example/tripleshelf/tripleshelf/cli/Option" "name" "Ljava/lang/String;" .null := D1153 (Or.inr (hw _ (List.mem_of_getElem? (i := 61) rfl))) (ty := (.object "java/lang/String")) (by decide)
      have F1184 : Fld Z h1148 b1149 "com/example/tripleshelf/tripleshelf/cli/Option" "valueName" "Ljava/lang/String;" .null := D1153 (Or.inr (hw _ (List.mem_of_getElem? (i := 63) rfl))) (ty := (.object "java/lang/String")) (by decide)
      have F1185 : Fld Z h1148 b1149 "com/example/tripleshelf/tripleshelf/cli/Option" "required" "Z" (.int (0 : Int32)) := D1153 (Or.inr (hw _ (List.mem_of_getElem? (i := 65) rfl))) (ty := .boolean) (by decide)
      have F1186 : Fld Z h1148 b1149 "com/example/tripleshelf/tripleshelf/cli/Option" "description" "Ljava/lang/String;" .null := D1153 (Or.inr (hw _ (List.mem_of_getElem? (i := 67) rfl))) (ty := (.object "java/lang/String")) (by decide)
      show Wk _ p l e _ s m _ below meth c n0 _ h1148 9 23 (mkF m 74 #[.val (.int i0), .val (.int i1), .val (.int i2), .val (.int i3), .val (.int (3 : Int32)), .val (.ref n823_b30), .val (.int (1 : Int32)), .val (.ref b1031), .val (.ref b1061), .val (.ref n1108_b5), .unset, .unset] [(.ref b1149)])
      refine Wk.st (g' := (mkF m 75 #[.val (.int i0), .val (.int i1), .val (.int i2), .val (.int i3), .val (.int (3 : Int32)), .val (.ref n823_b30), .val (.int (1 : Int32)), .val (.ref b1031), .val (.ref b1061), .val (.ref n1108_b5), .unset, .unset] [(.ref b1149), (.ref b1149)])) (fun X t q => XS.dup X.here C.hx rfl (hb C.hby at_74) rfl rfl q) ?_
      refine Wk.st (g' := (mkF m 77 #[.val (.int i0), .val (.int i1), .val (.int i2), .val (.int i3), .val (.int (3 : Int32)), .val (.ref n823_b30), .val (.int (1 : Int32)), .val (.ref b1031), .val (.ref b1061), .val (.ref n1108_b5), .unset, .unset] [(.ref b1061), (.ref b1149), (.ref b1149)])) (fun X t q => XS.aload X.here C.hx rfl (hb C.hby at_75) rfl rfl q) ?_
      refine Wk.st (g' := (mkF m 79 #[.val (.int i0), .val (.int i1), .val (.int i2), .val (.int i3), .val (.int (3 : Int32)), .val (.ref n823_b30), .val (.int (1 : Int32)), .val (.ref b1031), .val (.ref b1061), .val (.ref n1108_b5), .unset, .unset] [(.ref n823_b30), (.ref b1061), (.ref b1149), (.ref b1149)])) (fun X t q => XS.aload X.here C.hx rfl (hb C.hby at_77) rfl rfl q) ?_
      refine Wk.st (g' := (mkF m 81 #[.val (.int i0), .val (.int i1), .val (.int i2), .val (.int i3), .val (.int (3 : Int32)), .val (.ref n823_b30), .val (.int (1 : Int32)), .val (.ref b1031), .val (.ref b1061), .val (.ref n1108_b5), .unset, .unset] [(.int (1 : Int32)), (.ref n823_b30), (.ref b1061), (.ref b1149), (.ref b1149)])) (fun X t q => XS.iload X.here C.hx rfl (hb C.hby at_79) rfl q) ?_
      refine Wk.st (g' := (mkF m 83 #[.val (.int i0), .val (.int i1), .val (.int i2), .val (.int i3), .val (.int (3 : Int32)), .val (.ref n823_b30), .val (.int (1 : Int32)), .val (.ref b1031), .val (.ref b1061), .val (.ref n1108_b5), .unset, .unset] [(.ref n1108_b5), (.int (1 : Int32)), (.ref n823_b30), (.ref b1061), (.ref b1149), (.ref b1149)])) (fun X t q => XS.aload X.here C.hx rfl (hb C.hby at_81) rfl rfl q) ?_
      refine Wk.callI C (z := (⟨"com/example/tripleshelf/tripleshelf/cli/Option", "<init>", "(Ljava/lang/String;Ljava/lang/String;ZLjava/lang/String;)V"⟩ : MethodName)) rfl (hw _ (List.mem_of_getElem? (i := 51) rfl)) (hw _ (List.mem_of_getElem? (i := 52) rfl)) (hw _ (List.mem_of_getElem? (i := 50) rfl)) (hw _ (List.mem_of_getElem? (i := 53) rfl)) (by decide) (own_12_30 l Z a0 hw n0 h1148 sz1181 b1149 b1061 n823_b30 n1108_b5 n1083_n1_n1_b2 n823_n46_n1_n1_b2 n1108_n18_b2 (nar .byte ((nar .char ((i1 &&& (255 : Int32)).toUInt32.toUInt16.toUInt32.toInt32)).toInt8.toInt32)) (nar .byte ((nar .char ((((i1.toUInt32 >>> ((8 : Int32) &&& 31).toUInt32).toInt32) &&& (255 : Int32)).toUInt32.toUInt16.toUInt32.toInt32)).toInt8.toInt32)) (nar .byte ((nar .char ((i2 &&& (255 : Int32)).toUInt32.toUInt16.toUInt32.toInt32)).toInt8.toInt32)) (nar .byte (((((i2.toUInt32 >>> ((8 : Int32) &&& 31).toUInt32).toInt32) &&& (255 : Int32)).toUInt32.toUInt16.toUInt32.toInt32).toInt8.toInt32)) cs F1163 F1164 F1165 F1166 F1167 F1170 F1171 F1172 F1173 F1174 F1175 F1176 F1177 F1178 F1179 F1180 A1152 F1183 F1184 F1185 F1186 (Ne.symm ne1157) (Ne.symm ne1154) (Ne.symm ne1159) (Ne.symm ne1158) (Ne.symm ne1155) (Ne.symm ne1160) (Ne.symm ne1066) ne1123 ne1095 (Ne.symm ne1067) ne1130 ne1120 ne1092 ne834 ne1127 (Ne.symm ne1124) (Ne.symm ne1121) ne1119 (Ne.symm ne1093) ne1131 ne1128 ge1161 ge1069 ge835 ge1125 ge1096 ge837 ge1132 hcs) (w := 1) (by decide) (by decide) pd_10 rfl (rest := [(.ref b1149)]) rfl rfl (Nat.le_of_eq rfl) (by decide) (by decide) at_83 ?_
      rintro _ h1188 ⟨rfl, K1189, F1190, F1191, F1192, F1193, F1194⟩
      show Wk _ p l e _ s m _ below meth c n0 _ h1188 9 23 (mkF m 86 #[.val (.int i0), .val (.int i1), .val (.int i2), .val (.int i3), .val (.int (3 : Int32)), .val (.ref n823_b30), .val (.int (1 : Int32)), .val (.ref b1031), .val (.ref b1061), .val (.ref n1108_b5), .unset, .unset] [(.ref b1149)])
      have F1195 : Exa Z h1188 n823_b30 "java/lang/String" := F1163.keep K1189
      have F1196 : Exa Z h1188 n823_n46_n1_n1_b2 "[B" := F1164.keep K1189
      have F1197 : Fa Z h1188 n823_n46_n1_n1_b2 .byte 2 (up (up (fun _ => (.int (0 : Int32))) 0 (.int (nar .byte ((nar .char ((i1 &&& (255 : Int32)).toUInt32.toUInt16.toUInt32.toInt32)).toInt8.toInt32)))) 1 (.int (nar .byte ((nar .char ((((i1.toUInt32 >>> ((8 : Int32) &&& 31).toUInt32).toInt32) &&& (255 : Int32)).toUInt32.toUInt16.toUInt32.toInt32)).toInt8.toInt32)))) := F1165.keep K1189 (nmS ne1155 nm0)
      have F1198 : Fld Z h1188 n823_b30 "java/lang/String" "coder" "B" (.int (0 : Int32)) := F1166.keep K1189 (nmS ne1154 nm0)
      have F1199 : Fld Z h1188 n823_b30 "java/lang/String" "value" "[B" (.ref n823_n46_n1_n1_b2) := F1167.keep K1189 (nmS ne1154 nm0)
      have F1200 : Exa Z h1188 b1031 "[C" := F1168.keep K1189
      have F1201 : Fa Z h1188 b1031 .char 1 (up (fun _ => (.int (0 : Int32))) 0 (.int (nar .char ((i2 &&& (255 : Int32)).toUInt32.toUInt16.toUInt32.toInt32)))) := F1169.keep K1189 (nmS ne1156 nm0)
      have F1202 : Exa Z h1188 b1061 "java/lang/String" := F1170.keep K1189
      have F1203 : Exa Z h1188 n1083_n1_n1_b2 "[B" := F1171.keep K1189
      have F1204 : Fa Z h1188 n1083_n1_n1_b2 .byte 1 (up (fun _ => (.int (0 : Int32))) 0 (.int (nar .byte ((nar .char ((i2 &&& (255 : Int32)).toUInt32.toUInt16.toUInt32.toInt32)).toInt8.toInt32)))) := F1172.keep K1189 (nmS ne1158 nm0)
      have F1205 : Fld Z h1188 b1061 "java/lang/String" "coder" "B" (.int (0 : Int32)) := F1173.keep K1189 (nmS ne1157 nm0)
      have F1206 : Fld Z h1188 b1061 "java/lang/String" "value" "[B" (.ref n1083_n1_n1_b2) := F1174.keep K1189 (nmS ne1157 nm0)
      have F1207 : Exa Z h1188 n1108_b5 "java/lang/String" := F1175.keep K1189
      have F1208 : Exa Z h1188 n1108_n18_b2 "[B" := F1176.keep K1189
      have F1209 : Fa Z h1188 n1108_n18_b2 .byte 1 (up (fun _ => (.int (0 : Int32))) 0 (.int (nar .byte (((((i2.toUInt32 >>> ((8 : Int32) &&& 31).toUInt32).toInt32) &&& (255 : Int32)).toUInt32.toUInt16.toUInt32.toInt32).toInt8.toInt32)))) := F1177.keep K1189 (nmS ne1160 nm0)
      have F1210 : Fld Z h1188 n1108_b5 "java/lang/String" "value" "[B" (.ref n1108_n18_b2) := F1179.keep K1189 (nmS ne1159 nm0)
      have F1211 : Fld Z h1188 n1108_b5 "java/lang/String" "coder" "B" (.int (0 : Int32)) := F1180.keep K1189 (nmS ne1159 nm0)
      have F1212 : Exa Z h1188 b1149 "com/example/tripleshelf/tripleshelf/cli/Option" := A1152.keep K1189
      have sz1213 : n0 ≤ h1188.size := Nat.le_trans sz1181 K1189.1
      have sy1214 : h0.size ≤ h1188.size := Nat.le_trans sy1182 K1189.1
      refine Wk.st (g' := (mkF m 88 #[.val (.int i0), .val (.int i1), .val (.int i2), .val (.int i3), .val (.int (3 : Int32)), .val (.ref n823_b30), .val (.int (1 : Int32)), .val (.ref b1031), .val (.ref b1061), .val (.ref n1108_b5), .val (.ref b1149), .unset] [])) (fun X t q => XS.astore X.here C.hx rfl (hb C.hby at_86) rfl rfl (l' := #[.val (.int i0), .val (.int i1), .val (.int i2), .val (.int i3), .val (.int (3 : Int32)), .val (.ref n823_b30), .val (.int (1 : Int32)), .val (.ref b1031), .val (.ref b1061), .val (.ref n1108_b5), .val (.ref b1149), .unset]) rfl q) ?_
      refine Wk.st (g' := (mkF m 90 #[.val (.int i0), .val (.int i1), .val (.int i2), .val (.int i3), .val (.int (3 : Int32)), .val (.ref n823_b30), .val (.int (1 : Int32)), .val (.ref b1031), .val (.ref b1061), .val (.ref n1108_b5), .val (.ref b1149), .unset] [(.ref b1149)])) (fun X t q => XS.aload X.here C.hx rfl (hb C.hby at_88) rfl rfl q) ?_
      refine Wk.callV C (x := (⟨"com/example/tripleshelf/tripleshelf/cli/Option", "takesValue", "()Z"⟩ : MethodName)) (z := (⟨"com/example/tripleshelf/tripleshelf/cli/Option", "takesValue", "()Z"⟩ : MethodName)) (K := "com/example/tripleshelf/tripleshelf/cli/Option") (hw _ (List.mem_of_getElem? (i := 68) rfl)) (hw _ (List.mem_of_getElem? (i := 69) rfl)) (hw _ (List.mem_of_getElem? (i := 71) rfl)) (hw _ (List.mem_of_getElem? (i := 70) rfl)) (hw _ (List.mem_of_getElem? (i := 50) rfl)) (hw _ (List.mem_of_getElem? (i := 72) rfl)) (by decide) (fun s' hZ' => notFace_of_selects (args := #[]) (mvT hZ' (hw _ (List.mem_of_getElem? (i := 71) rfl)))) F1212 (own_14_31 l Z a0 hw n0 h1188 sz1213 b1149 b1061 n823_b30 n1108_b5 n1083_n1_n1_b2 n823_n46_n1_n1_b2 n1108_n18_b2 (nar .byte ((nar .char ((i1 &&& (255 : Int32)).toUInt32.toUInt16.toUInt32.toInt32)).toInt8.toInt32)) (nar .byte ((nar .char ((((i1.toUInt32 >>> ((8 : Int32) &&& 31).toUInt32).toInt32) &&& (255 : Int32)).toUInt32.toUInt16.toUInt32.toInt32)).toInt8.toInt32)) (nar .byte ((nar .char ((i2 &&& (255 : Int32)).toUInt32.toUInt16.toUInt32.toInt32)).toInt8.toInt32)) (nar .byte (((((i2.toUInt32 >>> ((8 : Int32) &&& 31).toUInt32).toInt32) &&& (255 : Int32)).toUInt32.toUInt16.toUInt32.toInt32).toInt8.toInt32)) cs F1195 F1196 F1197 F1198 F1199 F1202 F1203 F1204 F1205 F1206 F1207 F1208 F1209 F1210 F1211 F1212 F1190 F1191 F1192 F1193 F1194 (Ne.symm ne1157) (Ne.symm ne1154) (Ne.symm ne1159) (Ne.symm ne1158) (Ne.symm ne1155) (Ne.symm ne1160) (Ne.symm ne1066) ne1123 ne1095 (Ne.symm ne1067) ne1130 ne1120 ne1092 ne834 ne1127 (Ne.symm ne1124) (Ne.symm ne1121) ne1119 (Ne.symm ne1093) ne1131 ne1128 ge1161 ge1069 ge835 ge1125 ge1096 ge837 ge1132 hcs) (w := 0) (by decide) (by decide) pd_12 rfl (rest := []) rfl rfl (Nat.le_of_eq rfl) (by decide) (by decide) at_90 ?_
      rintro _ _ ⟨rfl, rfl⟩
      show Wk _ p l e _ s m _ below meth c n0 _ h1188 9 23 (mkF m 93 #[.val (.int i0), .val (.int i1), .val (.int i2), .val (.int i3), .val (.int (3 : Int32)), .val (.ref n823_b30), .val (.int (1 : Int32)), .val (.ref b1031), .val (.ref b1061), .val (.ref n1108_b5), .val (.ref b1149), .unset] [(.int (1 : Int32))])
      refine Wk.st (g' := (mkF m 95 #[.val (.int i0), .val (.int i1), .val (.int i2), .val (.int i3), .val (.int (3 : Int32)), .val (.ref n823_b30), .val (.int (1 : Int32)), .val (.ref b1031), .val (.ref b1061), .val (.ref n1108_b5), .val (.ref b1149), .val (.int (1 : Int32))] [])) (fun X t q => XS.istore X.here C.hx rfl (hb C.hby at_93) rfl (l' := #[.val (.int i0), .val (.int i1), .val (.int i2), .val (.int i3), .val (.int (3 : Int32)), .val (.ref n823_b30), .val (.int (1 : Int32)), .val (.ref b1031), .val (.ref b1061), .val (.ref n1108_b5), .val (.ref b1149), .val (.int (1 : Int32))]) rfl q) ?_
      refine Wk.st (g' := (mkF m 97 #[.val (.int i0), .val (.int i1), .val (.int i2), .val (.int i3), .val (.int (3 : Int32)), .val (.ref n823_b30), .val (.int (1 : Int32)), .val (.ref b1031), .val (.ref b1061), .val (.ref n1108_b5), .val (.ref b1149), .val (.int (1 : Int32))] [(.int (1 : Int32))])) (fun X t q => XS.iload X.here C.hx rfl (hb C.hby at_95) rfl q) ?_
      refine Wk.st (g' := (mkF m 99 #[.val (.int i0), .val (.int i1), .val (.int i2), .val (.int i3), .val (.int (3 : Int32)), .val (.ref n823_b30), .val (.int (1 : Int32)), .val (.ref b1031), .val (.ref b1061), .val (.ref n1108_b5), .val (.ref b1149), .val (.int (1 : Int32))] [(.int (3 : Int32)), (.int (1 : Int32))])) (fun X t q => XS.iload X.here C.hx rfl (hb C.hby at_97) rfl q) ?_
      refine Wk.st (g' := (mkF m 102 #[.val (.int i0), .val (.int i1), .val (.int i2), .val (.int i3), .val (.int (3 : Int32)), .val (.ref n823_b30), .val (.int (1 : Int32)), .val (.ref b1031), .val (.ref b1061), .val (.ref n1108_b5), .val (.ref b1149), .val (.int (1 : Int32))] [(.int (1 : Int32))])) (fun X t q => XS.ifNo X.here C.hx rfl (hb C.hby at_99) rfl (XT.i0_eq_f (by decide)) q) ?_
      refine Wk.st (g' := (mkF m 103 #[.val (.int i0), .val (.int i1), .val (.int i2), .val (.int i3), .val (.int (3 : Int32)), .val (.ref n823_b30), .val (.int (1 : Int32)), .val (.ref b1031), .val (.ref b1061), .val (.ref n1108_b5), .val (.ref b1149), .val (.int (1 : Int32))] [(.int (1 : Int32)), (.int (1 : Int32))])) (fun X t q => XS.iconst X.here C.hx rfl (hb C.hby at_102) q) ?_
      refine Wk.st (g' := (mkF m 107 #[.val (.int i0), .val (.int i1), .val (.int i2), .val (.int i3), .val (.int (3 : Int32)), .val (.ref n823_b30), .val (.int (1 : Int32)), .val (.ref b1031), .val (.ref b1061), .val (.ref n1108_b5), .val (.ref b1149), .val (.int (1 : Int32))] [(.int (1 : Int32)), (.int (1 : Int32))])) (fun X t q => XS.goto X.here C.hx rfl (pc0 := 103) (pc' := 107) rfl (hb C.hby at_103) (by decide) (by decide) q) ?_
      refine Wk.st (g' := (mkF m 110 #[.val (.int i0), .val (.int i1), .val (.int i2), .val (.int i3), .val (.int (3 : Int32)), .val (.ref n823_b30), .val (.int (1 : Int32)), .val (.ref b1031), .val (.ref b1061), .val (.ref n1108_b5), .val (.ref b1149), .val (.int (1 : Int32))] [])) (fun X t q => XS.icmpNo X.here C.hx rfl (hb C.hby at_107) rfl (XT.ii_ne_f (by decide)) q) ?_
      refine Wk.st (g' := (mkF m 111 #[.val (.int i0), .val (.int i1), .val (.int i2), .val (.int i3), .val (.int (3 : Int32)), .val (.ref n823_b30), .val (.int (1 : Int32)), .val (.ref b1031), .val (.ref b1061), .val (.ref n1108_b5), .val (.ref b1149), .val (.int (1 : Int32))] [(.int (1 : Int32))])) (fun X t q => XS.iconst X.here C.hx rfl (hb C.hby at_110) q) ?_
      refine Wk.st (g' := (mkF m 115 #[.val (.int i0), .val (.int i1), .val (.int i2), .val (.int i3), .val (.int (3 : Int32)), .val (.ref n823_b30), .val (.int (1 : Int32)), .val (.ref b1031), .val (.ref b1061), .val (.ref n1108_b5), .val (.ref b1149), .val (.int (1 : Int32))] [(.int (1 : Int32))])) (fun X t q => XS.goto X.here C.hx rfl (pc0 := 111) (pc' := 115) rfl (hb C.hby at_111) (by decide) (by decide) q) ?_
      exact Wk.retV C (t := .boolean) rfl rfl (Or.inl ⟨rfl, by simp, _, rfl⟩) at_115 (by decide) (by decide) rfl
set_option maxRecDepth 65536 in
set_option maxHeartbeats 40000000 in
theorem comes_1 {Post : Tables → Env → Array Value → State → Outcome → State → Prop} (hpost : ∀ tb e args s v u, (limb_1_1.after args s (.returned v) u = true ∧ limb_1_2.after args s (.returned v) u = true ∧ True) → ReturnedEndW s (.returned v) u (Jvm.fieldLocs frame_1_writes args s ++ Jvm.arrayLocs frame_1_arrays args s ++ Jvm.staticLocs frame_1_statics s) 32 1152 → Post tb e args s (.returned v) u) :
    ArmFor flags0 classFile x code maxLocals ret World_1 tables_1 room_1 Calls_1 rest_1 Pre_1 Post := by
  intro l hfl _ _ p e ha hc hk s m args below hf hA hF happ hP
  obtain ⟨hcalls, hrest, hpre⟩ := hP
  obtain ⟨-, -, -, hnamed, -, -, -, hat⟩ := (Spec.applies_iff hf).mp happ
  obtain ⟨hg, hn⟩ := and_e (Cond.before_iff.mp (show (Jvm.Cond.and given_1 narrow_1).before args s = true from hpre))
  obtain ⟨hcount, g0⟩ := and_e hg
  obtain ⟨v0, v1, v2, v3, rfl⟩ : ∃ v0 v1 v2 v3 : Value, args = #[v0, v1, v2, v3] := by
    have hs : args.size = 4 := by simpa [Cond.value, given_1] using hcount
    obtain ⟨L⟩ := args
    match L, hs with
    | [v0, v1, v2, v3], _ => exact ⟨v0, v1, v2, v3, rfl⟩
  have hw := fun d (hd : d ∈ tables_1) => atoms_spec (ws := Jvm.Cond.code x code maxLocals ret :: tables_1) hat d (List.mem_cons_of_mem _ hd)
  have hfit : Fit s := fun {y c} hc i hi => by
    obtain ⟨ha, rfl⟩ := Array.getElem?_eq_some_iff.mp hc
    have q := List.all_eq_true.mp ((Array.all_eq_true_iff_forall_mem.mp hF) _ (Array.getElem_mem ha)) i (List.mem_range.mpr hi)
    simpa [Array.getElem?_eq_getElem hi] using q
  obtain ⟨e0, g1⟩ := and_e g0
  obtain ⟨i0, f0⟩ := is_v e0
  obtain rfl : v0 = (.int i0) := Option.some.inj f0
  obtain ⟨e1, g2⟩ := and_e g1
  obtain ⟨i1, f1⟩ := is_v e1
  obtain rfl : v1 = (.int i1) := Option.some.inj f1
  obtain ⟨e2, g3⟩ := and_e g2
  obtain ⟨i2, f2⟩ := is_v e2
  obtain rfl : v2 = (.int i2) := Option.some.inj f2
  obtain ⟨i3, f3⟩ := is_v g3
  obtain rfl : v3 = (.int i3) := Option.some.inj f3
  obtain ⟨hsets, hown0⟩ := atoms_of _ (rest_1_c_eq ▸ (show rest_1_c.before _ s = true from hrest))
  have n3 := not_v (Cond.before_iff.mp (hsets _ (List.mem_of_getElem? (i := 2) rfl)))
  obtain ⟨cs, ecs⟩ := is_v (Cond.before_iff.mp (hsets _ (List.mem_of_getElem? (i := 1) rfl)))
  have SC : Sta s s.heap "java/lang/String" "COMPACT_STRINGS" "Z" (.int cs) := Sta.start ecs (Or.inl (hsets _ (List.mem_of_getElem? (i := 0) rfl)))
  have hcs : ¬ cs = (0 : Int32) := gotF (Cond.eq_ints ecs (Term.int_eval 0)) n3
  have hh : Jvm.Lit.constHeld s "java/lang/String" 7 := hcalls.1 ("java/lang/String", 7) (by simp [consts_1])
  obtain ⟨n, o, h1, h2, h3, _, L, _, rfl, ⟨rfl, N⟩, -, hq⟩ := law_met l s _ hw s.heap.size s.heap (Nat.le_refl _) i0 i1 i2 i3 cs hcs SC hh (hsets _ (List.mem_of_getElem? (i := 2) rfl)) (fun _ _ q => q) tables_1 p e ha hc hk s m _ below hf ((Spec.applies_iff_loose hf).mp happ).1 ⟨rfl, State.Warmed39.refl s, rfl, IB.start⟩ trivial
  refine ⟨n, _, h1, h2, h3, hpost _ _ _ _ _ _ ⟨Cond.after_iff.mpr rfl, Cond.after_iff.mpr (eq_i res_at (Term.int_eval (1)) rfl), trivial⟩ ⟨hq.1, hq.2.1, hq.2.2.1, (hq.2.2.2.sift fun y hy => Or.inr (N y hy)).mono (by decide) (by decide)⟩⟩
theorem main_1_1 : Claimed_1_1 := comes_1 fun _ _ _ _ _ _ h hF => ⟨h.1, hF⟩
theorem main_1_2 : Claimed_1_2 := comes_1 fun _ _ _ _ _ _ h hF => ⟨h.2.1, hF⟩
end Jvm.Pilot.@@N@@
namespace Jvm.Pilot.@@N@@
open Jvm Jvm.ClassFile Sem Op Lib Jvm.Free Jvm.Stand Jvm.Pilot.@@N@@.Jvm.D
/-! MADE BY PROGRAM (witnessworld.py) out of the Statement's table words and the real class files: 21 classes; the members and pool entries that the words name. The judged class is class 1, her method 2. -/
namespace start1
open Jvm.ClassFile
def u (s : String) : CpInfo := .utf8 (stringToUtf16 s)
/-- a pool by its gaps: so many unusable entries, then the entry; so many at the end -/
def gap : Nat → List CpInfo → List CpInfo
  | 0, r => r
  | n + 1, r => .unusable :: gap n r
def poolList (es : List (Nat × CpInfo)) (last : Nat) : List CpInfo := es.foldr (fun e r => gap e.1 (e.2 :: r)) (gap last [])
def pool (es : List (Nat × CpInfo)) (last : Nat) : Array CpInfo := ⟨poolList es last⟩
def fileOf (pool : Array CpInfo) (this : Nat) (attrs : Array Attribute := #[]) (ms : Array MethodInfo := #[]) (fl : Nat := 33) (sup : Nat := 0) (ifs : Array Nat := #[]) (fds : Array FieldInfo := #[]) : ClassFile where
  minorVersion := 0
  majorVersion := 65
  constantPool := pool
  accessFlags := fl
  thisClass := this
  superClass := sup
  interfaces := ifs
  fields := fds
  methods := ms
  attributes := attrs
def plain (name : String) (sup : Option ClassId) : Class where
  name := name
  kind := .ordinary
  loader := none
  accessFlags := 33
  super := sup
  interfaces := #[]
  cf := none
  fields := #[]
  methods := #[]
  instanceTypes := #[]
  staticTypes := #[]
  resolved := #[]
  callSites := []
  init := .initialized
  statics := none
  mirror := none

def pool0 : Array CpInfo := pool [(5, u "<init>"), (0, u "()V"), (1, .class_ 10), (1, u "java/lang/Object")] 113

def k0c0 : Code := { maxStack := 0, maxLocals := 1, code := object_method_1_code, exceptionTable := #[], attributes := #[] }
def k0m0 : Method := { name := "<init>", desc := "()V", sig := { parameters := [], returnType := none }, accessFlags := 1, code := some k0c0 }
/-- java/lang/Object -/
def k0 : Class := { plain "java/lang/Object" none with
  accessFlags := 33
  interfaces := #[]
  cf := some (fileOf pool0 8 #[] #[{ accessFlags := 1, nameIndex := 5, descriptorIndex := 6, attributes := #[] }] 33 0 #[] #[])
  fields := #[]
  methods := #[k0m0]
  instanceTypes := #[]
  staticTypes := #[]
  resolved := Array.replicate 124 none
  statics := none }

def pool1 : Array CpInfo := pool [(2, .class_ 4), (1, u "java/lang/Object"), (0, u "<init>"), (0, u "()V"), (0, .class_ 8), (0, u "java/lang/String"), (0, .methodref 7 10), (0, .nameAndType 5 11), (0, u "([C)V"), (0, .methodref 13 14), (0, .class_ 15), (0, .nameAndType 16 17), (0, u "com/example/tripleshelf/tripleshelf/cli/OptionTakesValuePinLaw"), (0, u "valueNameOf"), (0, u "(II)Ljava/lang/String;"), (0, .methodref 7 19), (0, .nameAndType 20 21), (0, u "valueOf"), (0, u "(C)Ljava/lang/String;"), (0, .class_ 23), (0, u "com/example/tripleshelf/tripleshelf/cli/Option"), (0, .methodref 22 25), (0, .nameAndType 5 26), (0, u "(Ljava/lang/String;Ljava/lang/String;ZLjava/lang/String;)V"), (0, .methodref 22 28), (0, .nameAndType 29 30), (0, u "takesValue"), (0, u "()Z"), (3, u "law"), (0, u "(IIII)Z")] 4

def k1m0 : Method := { name := "<init>", desc := "()V", sig := { parameters := [], returnType := none }, accessFlags := 1, code := none }
def k1c1 : Code := { maxStack := 4, maxLocals := 3, code := method_2_code, exceptionTable := #[], attributes := #[] }
def k1m1 : Method := { name := "valueNameOf", desc := "(II)Ljava/lang/String;", sig := { parameters := [.int, .int], returnType := some (.object "java/lang/String") }, accessFlags := 10, code := some k1c1 }
def k1c2 : Code := { maxStack := 6, maxLocals := 12, code := code, exceptionTable := #[], attributes := #[] }
def k1m2 : Method := { name := "law", desc := "(IIII)Z", sig := { parameters := [.int, .int, .int, .int], returnType := some .boolean }, accessFlags := 9, code := some k1c2 }
/-- com/example/tripleshelf/tripleshelf/cli/OptionTakesValuePinLaw -/
def k1 : Class := { plain "com/example/tripleshelf/tripleshelf/cli/OptionTakesValuePinLaw" (some 0) with
  accessFlags := 49
  interfaces := #[]
  cf := some (fileOf pool1 13 #[] #[{ accessFlags := 1, nameIndex := 5, descriptorIndex := 6, attributes := #[] }, { accessFlags := 10, nameIndex := 16, descriptorIndex := 17, attributes := #[] }, { accessFlags := 9, nameIndex := 34, descriptorIndex := 35, attributes := #[] }] 49 2 #[] #[])
  fields := #[]
  methods := #[k1m0, k1m1, k1m2]
  instanceTypes := #[]
  staticTypes := #[]
  resolved := Array.replicate 40 none
  statics := none }

def pool2 : Array CpInfo := pool [(1, .class_ 2), (0, u "java/io/Serializable"), (0, .class_ 4), (0, u "java/lang/Object")] 2

/-- java/io/Serializable -/
def k2 : Class := { plain "java/io/Serializable" (some 0) with
  accessFlags := 1537
  interfaces := #[]
  cf := some (fileOf pool2 1 #[] #[] 1537 3 #[] #[])
  fields := #[]
  methods := #[]
  instanceTypes := #[]
  staticTypes := #[]
  resolved := Array.replicate 7 none
  statics := none }

def pool3 : Array CpInfo := pool [(1, .class_ 2), (0, u "java/lang/Comparable"), (0, .class_ 4), (0, u "java/lang/Object")] 7

/-- java/lang/Comparable -/
def k3 : Class := { plain "java/lang/Comparable" (some 0) with
  accessFlags := 1537
  interfaces := #[]
  cf := some (fileOf pool3 1 #[] #[] 1537 3 #[] #[])
  fields := #[]
  methods := #[]
  instanceTypes := #[]
  staticTypes := #[]
  resolved := Array.replicate 12 none
  statics := none }

def pool4 : Array CpInfo := pool [(2, .class_ 4), (1, u "java/lang/CharSequence"), (42, .class_ 48), (0, u "java/lang/CharSequence$1CodePointIterator"), (10, .class_ 60), (0, u "java/lang/CharSequence$1CharIterator"), (5, .class_ 67), (0, u "java/lang/Object")] 63

/-- java/lang/CharSequence -/
def k4 : Class := { plain "java/lang/CharSequence" (some 0) with
  accessFlags := 1537
  interfaces := #[]
  cf := some (fileOf pool4 2 #[.nestMembers #[47, 59]] #[] 1537 66 #[] #[])
  fields := #[]
  methods := #[]
  instanceTypes := #[]
  staticTypes := #[]
  resolved := Array.replicate 131 none
  statics := none }

def pool5 : Array CpInfo := pool [(1, .class_ 2), (0, u "java/lang/constant/Constable"), (0, .class_ 4), (0, u "java/lang/Object")] 6

/-- java/lang/constant/Constable -/
def k5 : Class := { plain "java/lang/constant/Constable" (some 0) with
  accessFlags := 1537
  interfaces := #[]
  cf := some (fileOf pool5 1 #[] #[] 1537 3 #[] #[])
  fields := #[]
  methods := #[]
  instanceTypes := #[]
  staticTypes := #[]
  resolved := Array.replicate 11 none
  statics := none }

def pool6 : Array CpInfo := pool [(1, .class_ 2), (0, u "java/lang/constant/ConstantDesc"), (0, .class_ 4), (0, u "java/lang/Object")] 32

/-- java/lang/constant/ConstantDesc -/
def k6 : Class := { plain "java/lang/constant/ConstantDesc" (some 0) with
  accessFlags := 1537
  interfaces := #[]
  cf := some (fileOf pool6 1 #[] #[] 1537 3 #[] #[])
  fields := #[]
  methods := #[]
  instanceTypes := #[]
  staticTypes := #[]
  resolved := Array.replicate 37 none
  statics := none }

def pool7 : Array CpInfo := pool [(1, .methodref 2 3), (0, .class_ 4), (0, .nameAndType 5 6), (0, u "java/lang/Object"), (0, u "<init>"), (0, u "()V"), (0, .string 8), (0, u ""), (0, .fieldref 10 11), (0, .class_ 12), (0, .nameAndType 13 14), (0, u "java/lang/String"), (0, u "value"), (0, u "[B"), (0, .fieldref 10 16), (0, .nameAndType 17 18), (0, u "coder"), (0, u "B"), (2, u "hash"), (0, u "I"), (2, u "hashIsZero"), (0, u "Z"), (0, .methodref 10 28), (0, .nameAndType 5 29), (0, u "([CIILjava/lang/Void;)V"), (8, .fieldref 10 39), (0, .nameAndType 40 26), (0, u "COMPACT_STRINGS"), (1, .class_ 44), (1, u "java/lang/StringUTF16"), (0, u "compress"), (1, .methodref 42 48), (0, .nameAndType 49 50), (0, u "coderFromArrayLen"), (0, u "([BI)B"), (2, u "toBytes"), (53, .class_ 109), (1, u "java/lang/StringLatin1"), (67, .methodref 42 178), (0, .nameAndType 45 179), (0, u "([CII)[B"), (29, .methodref 10 210), (0, .nameAndType 5 211), (0, u "([BB)V"), (157, u "(C)Z"), (205, .class_ 576), (0, u "java/lang/CharSequence"), (22, u "CASE_INSENSITIVE_ORDER"), (0, u "Ljava/util/Comparator;"), (181, u "valueOf"), (0, u "(C)Ljava/lang/String;"), (226, u "([C)V"), (4, .methodref 107 1016), (0, .nameAndType 1017 369), (0, u "canEncode"), (0, .methodref 107 1019), (0, .nameAndType 53 1020), (0, u "(C)[B"), (80, u "serialPersistentFields"), (0, u "[Ljava/io/ObjectStreamField;"), (0, .class_ 1104), (0, u "java/lang/String$CaseInsensitiveComparator"), (1, .class_ 1107), (0, u "java/io/Serializable"), (0, .class_ 1109), (0, u "java/lang/Comparable"), (0, .class_ 1111), (0, u "java/lang/constant/Constable"), (0, .class_ 1113), (0, u "java/lang/constant/ConstantDesc"), (2, u "serialVersionUID"), (0, u "J"), (3, u "REPL"), (0, u "C"), (2, u "LATIN1"), (1, u "UTF16")] 323

def k7m0 : Method := { name := "<init>", desc := "()V", sig := { parameters := [], returnType := none }, accessFlags := 1, code := none }
def k7c1 : Code := { maxStack := 5, maxLocals := 2, code := jdk_42_method_3_code, exceptionTable := #[], attributes := #[] }
def k7m1 : Method := { name := "<init>", desc := "([C)V", sig := { parameters := [(.array .char)], returnType := none }, accessFlags := 1, code := some k7c1 }
def k7c2 : Code := { maxStack := 4, maxLocals := 1, code := jdk_42_method_139_code, exceptionTable := #[], attributes := #[] }
def k7m2 : Method := { name := "valueOf", desc := "(C)Ljava/lang/String;", sig := { parameters := [.char], returnType := some (.object "java/lang/String") }, accessFlags := 9, code := some k7c2 }
def k7c3 : Code := { maxStack := 4, maxLocals := 6, code := jdk_42_method_149_code, exceptionTable := #[], attributes := #[] }
def k7m3 : Method := { name := "<init>", desc := "([CIILjava/lang/Void;)V", sig := { parameters := [(.array .char), .int, .int, (.object "java/lang/Void")], returnType := none }, accessFlags := 2, code := some k7c3 }
def k7c4 : Code := { maxStack := 2, maxLocals := 3, code := jdk_42_method_151_code, exceptionTable := #[], attributes := #[] }
def k7m4 : Method := { name := "<init>", desc := "([BB)V", sig := { parameters := [(.array .byte), .byte], returnType := none }, accessFlags := 0, code := some k7c4 }
/-- java/lang/String -/
def k7 : Class := { plain "java/lang/String" (some 0) with
  accessFlags := 49
  interfaces := #[2, 3, 4, 5, 6]
  cf := some (fileOf pool7 10 #[.nestMembers #[1103]] #[{ accessFlags := 1, nameIndex := 5, descriptorIndex := 6, attributes := #[] }, { accessFlags := 1, nameIndex := 5, descriptorIndex := 1010, attributes := #[] }, { accessFlags := 9, nameIndex := 782, descriptorIndex := 783, attributes := #[] }, { accessFlags := 2, nameIndex := 5, descriptorIndex := 29, attributes := #[] }, { accessFlags := 0, nameIndex := 5, descriptorIndex := 211, attributes := #[] }] 49 2 #[1106, 1108, 575, 1110, 1112] #[{ accessFlags := 18, nameIndex := 13, descriptorIndex := 14, attributes := #[] }, { accessFlags := 18, nameIndex := 17, descriptorIndex := 18, attributes := #[] }, { accessFlags := 2, nameIndex := 21, descriptorIndex := 22, attributes := #[] }, { accessFlags := 2, nameIndex := 25, descriptorIndex := 26, attributes := #[] }, { accessFlags := 26, nameIndex := 1116, descriptorIndex := 1117, attributes := #[] }, { accessFlags := 24, nameIndex := 40, descriptorIndex := 26, attributes := #[] }, { accessFlags := 26, nameIndex := 1101, descriptorIndex := 1102, attributes := #[] }, { accessFlags := 26, nameIndex := 1121, descriptorIndex := 1122, attributes := #[] }, { accessFlags := 25, nameIndex := 599, descriptorIndex := 600, attributes := #[] }, { accessFlags := 24, nameIndex := 1125, descriptorIndex := 18, attributes := #[] }, { accessFlags := 24, nameIndex := 1127, descriptorIndex := 18, attributes := #[] }])
  fields := #[{ name := "value", type := (.array .byte), accessFlags := 18, slot := 0, constantValue := 0 }, { name := "coder", type := .byte, accessFlags := 18, slot := 1, constantValue := 0 }, { name := "hash", type := .int, accessFlags := 2, slot := 2, constantValue := 0 }, { name := "hashIsZero", type := .boolean, accessFlags := 2, slot := 3, constantValue := 0 }, { name := "serialVersionUID", type := .long, accessFlags := 26, slot := 0, constantValue := 0 }, { name := "COMPACT_STRINGS", type := .boolean, accessFlags := 24, slot := 1, constantValue := 0 }, { name := "serialPersistentFields", type := (.array (.object "java/io/ObjectStreamField")), accessFlags := 26, slot := 2, constantValue := 0 }, { name := "REPL", type := .char, accessFlags := 26, slot := 3, constantValue := 0 }, { name := "CASE_INSENSITIVE_ORDER", type := (.object "java/util/Comparator"), accessFlags := 25, slot := 4, constantValue := 0 }, { name := "LATIN1", type := .byte, accessFlags := 24, slot := 5, constantValue := 0 }, { name := "UTF16", type := .byte, accessFlags := 24, slot := 6, constantValue := 0 }]
  methods := #[k7m0, k7m1, k7m2, k7m3, k7m4]
  instanceTypes := #[(.array .byte), .byte, .int, .boolean]
  staticTypes := #[.long, .boolean, (.array (.object "java/io/ObjectStreamField")), .char, (.object "java/util/Comparator"), .byte, .byte]
  resolved := Array.replicate 1451 none
  statics := some 0 }

def pool8 : Array CpInfo := pool [(6, .class_ 8), (1, u "java/lang/Object"), (0, u "<init>"), (0, u "()V"), (1, .class_ 14), (1, u "java/lang/StringUTF16"), (31, u "$assertionsDisabled"), (0, u "Z"), (13, u "HI_BYTE_SHIFT"), (0, u "I"), (2, u "LO_BYTE_SHIFT"), (49, .methodref 12 116), (0, .nameAndType 117 118), (0, u "compress"), (0, u "([CI[BII)I"), (3, u "([CII)[B"), (138, u "coderFromArrayLen"), (0, u "([BI)B"), (106, .class_ 371), (1, u "java/lang/StringUTF16$LinesSpliterator"), (58, u "MAX_LENGTH"), (196, .class_ 628), (0, u "java/lang/StringUTF16$CodePointsSpliterator"), (0, .class_ 630), (0, u "java/lang/StringUTF16$CharsSpliterator")] 4

def k8m0 : Method := { name := "<init>", desc := "()V", sig := { parameters := [], returnType := none }, accessFlags := 0, code := none }
def k8c1 : Code := { maxStack := 2, maxLocals := 2, code := jdk_52_method_15_code, exceptionTable := #[], attributes := #[] }
def k8m1 : Method := { name := "coderFromArrayLen", desc := "([BI)B", sig := { parameters := [(.array .byte), .int], returnType := some .byte }, accessFlags := 8, code := some k8c1 }
def k8c2 : Code := { maxStack := 5, maxLocals := 6, code := jdk_52_method_16_code, exceptionTable := #[], attributes := #[] }
def k8m2 : Method := { name := "compress", desc := "([CII)[B", sig := { parameters := [(.array .char), .int, .int], returnType := some (.array .byte) }, accessFlags := 9, code := some k8c2 }
def k8c3 : Code := { maxStack := 3, maxLocals := 7, code := jdk_52_method_21_code, exceptionTable := #[], attributes := #[] }
def k8m3 : Method := { name := "compress", desc := "([CI[BII)I", sig := { parameters := [(.array .char), .int, (.array .byte), .int, .int], returnType := some .int }, accessFlags := 9, code := some k8c3 }
/-- java/lang/StringUTF16 -/
def k8 : Class := { plain "java/lang/StringUTF16" (some 0) with
  accessFlags := 48
  interfaces := #[]
  cf := some (fileOf pool8 12 #[.nestMembers #[627, 629, 369]] #[{ accessFlags := 0, nameIndex := 9, descriptorIndex := 10, attributes := #[] }, { accessFlags := 8, nameIndex := 261, descriptorIndex := 262, attributes := #[] }, { accessFlags := 9, nameIndex := 117, descriptorIndex := 122, attributes := #[] }, { accessFlags := 9, nameIndex := 117, descriptorIndex := 118, attributes := #[] }] 48 6 #[] #[{ accessFlags := 26, nameIndex := 61, descriptorIndex := 62, attributes := #[] }, { accessFlags := 26, nameIndex := 65, descriptorIndex := 62, attributes := #[] }, { accessFlags := 24, nameIndex := 430, descriptorIndex := 62, attributes := #[] }, { accessFlags := 4120, nameIndex := 46, descriptorIndex := 47, attributes := #[] }])
  fields := #[{ name := "HI_BYTE_SHIFT", type := .int, accessFlags := 26, slot := 0, constantValue := 0 }, { name := "LO_BYTE_SHIFT", type := .int, accessFlags := 26, slot := 1, constantValue := 0 }, { name := "MAX_LENGTH", type := .int, accessFlags := 24, slot := 2, constantValue := 0 }, { name := "$assertionsDisabled", type := .boolean, accessFlags := 4120, slot := 3, constantValue := 0 }]
  methods := #[k8m0, k8m1, k8m2, k8m3]
  instanceTypes := #[]
  staticTypes := #[.int, .int, .int, .boolean]
  resolved := Array.replicate 635 none
  statics := none }

def pool9 : Array CpInfo := pool [(4, .class_ 6), (1, u "java/lang/Object"), (0, u "<init>"), (0, u "()V"), (5, .class_ 16), (1, u "java/lang/StringLatin1"), (73, u "canEncode"), (14, u "(C)Z"), (15, u "$assertionsDisabled"), (0, u "Z"), (98, .class_ 223), (1, u "java/lang/StringLatin1$LinesSpliterator"), (156, u "toBytes"), (1, u "(C)[B"), (7, .class_ 391), (0, u "java/lang/StringLatin1$CharsSpliterator")] 3

def k9m0 : Method := { name := "<init>", desc := "()V", sig := { parameters := [], returnType := none }, accessFlags := 0, code := none }
def k9c1 : Code := { maxStack := 2, maxLocals := 1, code := jdk_43_method_3_code, exceptionTable := #[], attributes := #[] }
def k9m1 : Method := { name := "canEncode", desc := "(C)Z", sig := { parameters := [.char], returnType := some .boolean }, accessFlags := 9, code := some k9c1 }
def k9c2 : Code := { maxStack := 4, maxLocals := 1, code := jdk_43_method_46_code, exceptionTable := #[], attributes := #[] }
def k9m2 : Method := { name := "toBytes", desc := "(C)[B", sig := { parameters := [.char], returnType := some (.array .byte) }, accessFlags := 9, code := some k9c2 }
/-- java/lang/StringLatin1 -/
def k9 : Class := { plain "java/lang/StringLatin1" (some 0) with
  accessFlags := 48
  interfaces := #[]
  cf := some (fileOf pool9 14 #[.nestMembers #[390, 221]] #[{ accessFlags := 0, nameIndex := 7, descriptorIndex := 8, attributes := #[] }, { accessFlags := 9, nameIndex := 90, descriptorIndex := 105, attributes := #[] }, { accessFlags := 9, nameIndex := 380, descriptorIndex := 382, attributes := #[] }] 48 4 #[] #[{ accessFlags := 4120, nameIndex := 121, descriptorIndex := 122, attributes := #[] }])
  fields := #[{ name := "$assertionsDisabled", type := .boolean, accessFlags := 4120, slot := 0, constantValue := 0 }]
  methods := #[k9m0, k9m1, k9m2]
  instanceTypes := #[]
  staticTypes := #[.boolean]
  resolved := Array.replicate 395 none
  statics := none }

def pool10 : Array CpInfo := pool [(1, .methodref 2 3), (0, .class_ 4), (0, .nameAndType 5 6), (0, u "java/lang/Object"), (0, u "<init>"), (0, u "()V"), (0, .class_ 8), (0, u "java/lang/Record")] 13

def k10c0 : Code := { maxStack := 1, maxLocals := 1, code := jdk_30_method_1_code, exceptionTable := #[], attributes := #[] }
def k10m0 : Method := { name := "<init>", desc := "()V", sig := { parameters := [], returnType := none }, accessFlags := 4, code := some k10c0 }
/-- java/lang/Record -/
def k10 : Class := { plain "java/lang/Record" (some 0) with
  accessFlags := 1057
  interfaces := #[]
  cf := some (fileOf pool10 7 #[] #[{ accessFlags := 4, nameIndex := 5, descriptorIndex := 6, attributes := #[] }] 1057 2 #[] #[])
  fields := #[]
  methods := #[k10m0]
  instanceTypes := #[]
  staticTypes := #[]
  resolved := Array.replicate 22 none
  statics := none }

def pool11 : Array CpInfo := pool [(1, .methodref 2 3), (0, .class_ 4), (0, .nameAndType 5 6), (0, u "java/lang/Record"), (0, u "<init>"), (0, u "()V"), (9, .fieldref 17 18), (0, .class_ 19), (0, .nameAndType 20 21), (0, u "com/example/tripleshelf/tripleshelf/cli/Option"), (0, u "name"), (0, u "Ljava/lang/String;"), (0, .fieldref 17 23), (0, .nameAndType 24 21), (0, u "valueName"), (0, .fieldref 17 26), (0, .nameAndType 27 28), (0, u "required"), (0, u "Z"), (0, .fieldref 17 30), (0, .nameAndType 31 21), (0, u "description"), (2, u "(Ljava/lang/String;Ljava/lang/String;ZLjava/lang/String;)V"), (2, u "takesValue"), (0, u "()Z")] 65

def k11c0 : Code := { maxStack := 3, maxLocals := 5, code := prog_5_method_1_code, exceptionTable := #[], attributes := #[] }
def k11m0 : Method := { name := "<init>", desc := "(Ljava/lang/String;Ljava/lang/String;ZLjava/lang/String;)V", sig := { parameters := [(.object "java/lang/String"), (.object "java/lang/String"), .boolean, (.object "java/lang/String")], returnType := none }, accessFlags := 1, code := some k11c0 }
def k11c1 : Code := { maxStack := 1, maxLocals := 1, code := prog_5_method_5_code, exceptionTable := #[], attributes := #[] }
def k11m1 : Method := { name := "takesValue", desc := "()Z", sig := { parameters := [], returnType := some .boolean }, accessFlags := 1, code := some k11c1 }
/-- com/example/tripleshelf/tripleshelf/cli/Option -/
def k11 : Class := { plain "com/example/tripleshelf/tripleshelf/cli/Option" (some 10) with
  accessFlags := 49
  interfaces := #[]
  cf := some (fileOf pool11 17 #[] #[{ accessFlags := 1, nameIndex := 5, descriptorIndex := 34, attributes := #[] }, { accessFlags := 1, nameIndex := 37, descriptorIndex := 38, attributes := #[] }] 49 2 #[] #[{ accessFlags := 18, nameIndex := 20, descriptorIndex := 21, attributes := #[] }, { accessFlags := 18, nameIndex := 24, descriptorIndex := 21, attributes := #[] }, { accessFlags := 18, nameIndex := 27, descriptorIndex := 28, attributes := #[] }, { accessFlags := 18, nameIndex := 31, descriptorIndex := 21, attributes := #[] }])
  fields := #[{ name := "name", type := (.object "java/lang/String"), accessFlags := 18, slot := 0, constantValue := 0 }, { name := "valueName", type := (.object "java/lang/String"), accessFlags := 18, slot := 1, constantValue := 0 }, { name := "required", type := .boolean, accessFlags := 18, slot := 2, constantValue := 0 }, { name := "description", type := (.object "java/lang/String"), accessFlags := 18, slot := 3, constantValue := 0 }]
  methods := #[k11m0, k11m1]
  instanceTypes := #[(.object "java/lang/String"), (.object "java/lang/String"), .boolean, (.object "java/lang/String")]
  staticTypes := #[]
  resolved := Array.replicate 104 none
  statics := none }

def pool12 : Array CpInfo := pool [(2, .class_ 4), (1, u "java/lang/Object"), (0, u "<init>"), (0, u "()V"), (17, .class_ 26), (1, u "jdk/internal/util/Preconditions"), (28, .class_ 56), (0, u "jdk/internal/util/Preconditions$4"), (57, .class_ 115), (0, u "jdk/internal/util/Preconditions$1"), (7, u "SIOOBE_FORMATTER"), (0, u "Ljava/util/function/BiFunction;"), (0, .class_ 126), (0, u "jdk/internal/util/Preconditions$2"), (3, u "AIOOBE_FORMATTER"), (0, .class_ 132), (0, u "jdk/internal/util/Preconditions$3"), (3, u "IOOBE_FORMATTER")] 57

def k12m0 : Method := { name := "<init>", desc := "()V", sig := { parameters := [], returnType := none }, accessFlags := 1, code := none }
/-- jdk/internal/util/Preconditions -/
def k12 : Class := { plain "jdk/internal/util/Preconditions" (some 0) with
  accessFlags := 33
  interfaces := #[]
  cf := some (fileOf pool12 24 #[.nestMembers #[55, 131, 125, 114]] #[{ accessFlags := 1, nameIndex := 5, descriptorIndex := 6, attributes := #[] }] 33 2 #[] #[{ accessFlags := 25, nameIndex := 123, descriptorIndex := 124, attributes := #[] }, { accessFlags := 25, nameIndex := 130, descriptorIndex := 124, attributes := #[] }, { accessFlags := 25, nameIndex := 136, descriptorIndex := 124, attributes := #[] }])
  fields := #[{ name := "SIOOBE_FORMATTER", type := (.object "java/util/function/BiFunction"), accessFlags := 25, slot := 0, constantValue := 0 }, { name := "AIOOBE_FORMATTER", type := (.object "java/util/function/BiFunction"), accessFlags := 25, slot := 1, constantValue := 0 }, { name := "IOOBE_FORMATTER", type := (.object "java/util/function/BiFunction"), accessFlags := 25, slot := 2, constantValue := 0 }]
  methods := #[k12m0]
  instanceTypes := #[]
  staticTypes := #[(.object "java/util/function/BiFunction"), (.object "java/util/function/BiFunction"), (.object "java/util/function/BiFunction")]
  resolved := Array.replicate 194 none
  statics := some 1 }

def pool13 : Array CpInfo := pool [(9, u "<init>"), (6, .class_ 18), (1, u "java/lang/Object"), (0, u "()V"), (1, .class_ 23), (1, u "jdk/internal/util/ArraysSupport"), (0, u "LOG2_ARRAY_LONG_INDEX_SCALE"), (0, u "I"), (2, u "U"), (0, u "Ljdk/internal/misc/Unsafe;"), (8, u "BIG_ENDIAN"), (0, u "Z"), (8, u "LOG2_BYTE_BIT_SIZE"), (4, u "LOG2_ARRAY_INT_INDEX_SCALE"), (54, u "JLA"), (0, u "Ljdk/internal/access/JavaLangAccess;"), (11, u "LOG2_ARRAY_BOOLEAN_INDEX_SCALE"), (9, u "LOG2_ARRAY_BYTE_INDEX_SCALE"), (5, u "LOG2_ARRAY_CHAR_INDEX_SCALE"), (5, u "LOG2_ARRAY_SHORT_INDEX_SCALE"), (18, u "LOG2_ARRAY_FLOAT_INDEX_SCALE"), (24, u "LOG2_ARRAY_DOUBLE_INDEX_SCALE"), (89, u "T_BOOLEAN"), (2, u "T_CHAR"), (1, u "T_FLOAT"), (1, u "T_DOUBLE"), (1, u "T_BYTE"), (1, u "T_SHORT"), (1, u "T_INT"), (1, u "T_LONG"), (1, u "SOFT_MAX_ARRAY_LENGTH")] 83

def k13m0 : Method := { name := "<init>", desc := "()V", sig := { parameters := [], returnType := none }, accessFlags := 2, code := none }
/-- jdk/internal/util/ArraysSupport -/
def k13 : Class := { plain "jdk/internal/util/ArraysSupport" (some 0) with
  accessFlags := 33
  interfaces := #[]
  cf := some (fileOf pool13 21 #[] #[{ accessFlags := 2, nameIndex := 9, descriptorIndex := 19, attributes := #[] }] 33 16 #[] #[{ accessFlags := 24, nameIndex := 28, descriptorIndex := 29, attributes := #[] }, { accessFlags := 26, nameIndex := 38, descriptorIndex := 39, attributes := #[] }, { accessFlags := 25, nameIndex := 121, descriptorIndex := 25, attributes := #[] }, { accessFlags := 25, nameIndex := 131, descriptorIndex := 25, attributes := #[] }, { accessFlags := 25, nameIndex := 137, descriptorIndex := 25, attributes := #[] }, { accessFlags := 25, nameIndex := 143, descriptorIndex := 25, attributes := #[] }, { accessFlags := 25, nameIndex := 53, descriptorIndex := 25, attributes := #[] }, { accessFlags := 25, nameIndex := 24, descriptorIndex := 25, attributes := #[] }, { accessFlags := 25, nameIndex := 162, descriptorIndex := 25, attributes := #[] }, { accessFlags := 25, nameIndex := 187, descriptorIndex := 25, attributes := #[] }, { accessFlags := 26, nameIndex := 48, descriptorIndex := 25, attributes := #[] }, { accessFlags := 25, nameIndex := 277, descriptorIndex := 25, attributes := #[] }, { accessFlags := 25, nameIndex := 280, descriptorIndex := 25, attributes := #[] }, { accessFlags := 25, nameIndex := 282, descriptorIndex := 25, attributes := #[] }, { accessFlags := 25, nameIndex := 284, descriptorIndex := 25, attributes := #[] }, { accessFlags := 25, nameIndex := 286, descriptorIndex := 25, attributes := #[] }, { accessFlags := 25, nameIndex := 288, descriptorIndex := 25, attributes := #[] }, { accessFlags := 25, nameIndex := 290, descriptorIndex := 25, attributes := #[] }, { accessFlags := 25, nameIndex := 292, descriptorIndex := 25, attributes := #[] }, { accessFlags := 26, nameIndex := 108, descriptorIndex := 109, attributes := #[] }, { accessFlags := 25, nameIndex := 294, descriptorIndex := 25, attributes := #[] }])
  fields := #[{ name := "U", type := (.object "jdk/internal/misc/Unsafe"), accessFlags := 24, slot := 0, constantValue := 0 }, { name := "BIG_ENDIAN", type := .boolean, accessFlags := 26, slot := 1, constantValue := 0 }, { name := "LOG2_ARRAY_BOOLEAN_INDEX_SCALE", type := .int, accessFlags := 25, slot := 2, constantValue := 0 }, { name := "LOG2_ARRAY_BYTE_INDEX_SCALE", type := .int, accessFlags := 25, slot := 3, constantValue := 0 }, { name := "LOG2_ARRAY_CHAR_INDEX_SCALE", type := .int, accessFlags := 25, slot := 4, constantValue := 0 }, { name := "LOG2_ARRAY_SHORT_INDEX_SCALE", type := .int, accessFlags := 25, slot := 5, constantValue := 0 }, { name := "LOG2_ARRAY_INT_INDEX_SCALE", type := .int, accessFlags := 25, slot := 6, constantValue := 0 }, { name := "LOG2_ARRAY_LONG_INDEX_SCALE", type := .int, accessFlags := 25, slot := 7, constantValue := 0 }, { name := "LOG2_ARRAY_FLOAT_INDEX_SCALE", type := .int, accessFlags := 25, slot := 8, constantValue := 0 }, { name := "LOG2_ARRAY_DOUBLE_INDEX_SCALE", type := .int, accessFlags := 25, slot := 9, constantValue := 0 }, { name := "LOG2_BYTE_BIT_SIZE", type := .int, accessFlags := 26, slot := 10, constantValue := 0 }, { name := "T_BOOLEAN", type := .int, accessFlags := 25, slot := 11, constantValue := 0 }, { name := "T_CHAR", type := .int, accessFlags := 25, slot := 12, constantValue := 0 }, { name := "T_FLOAT", type := .int, accessFlags := 25, slot := 13, constantValue := 0 }, { name := "T_DOUBLE", type := .int, accessFlags := 25, slot := 14, constantValue := 0 }, { name := "T_BYTE", type := .int, accessFlags := 25, slot := 15, constantValue := 0 }, { name := "T_SHORT", type := .int, accessFlags := 25, slot := 16, constantValue := 0 }, { name := "T_INT", type := .int, accessFlags := 25, slot := 17, constantValue := 0 }, { name := "T_LONG", type := .int, accessFlags := 25, slot := 18, constantValue := 0 }, { name := "JLA", type := (.object "jdk/internal/access/JavaLangAccess"), accessFlags := 26, slot := 19, constantValue := 0 }, { name := "SOFT_MAX_ARRAY_LENGTH", type := .int, accessFlags := 25, slot := 20, constantValue := 0 }]
  methods := #[k13m0]
  instanceTypes := #[]
  staticTypes := #[(.object "jdk/internal/misc/Unsafe"), .boolean, .int, .int, .int, .int, .int, .int, .int, .int, .int, .int, .int, .int, .int, .int, .int, .int, .int, (.object "jdk/internal/access/JavaLangAccess"), .int]
  resolved := Array.replicate 378 none
  statics := none }

def pool14 : Array CpInfo := pool [(1, u "java/lang/Cloneable"), (0, .class_ 1), (0, u "java/lang/Object"), (0, .class_ 3)] 3

/-- java/lang/Cloneable -/
def k14 : Class := { plain "java/lang/Cloneable" (some 0) with
  accessFlags := 1537
  interfaces := #[]
  cf := some (fileOf pool14 2 #[] #[] 1537 4 #[] #[])
  fields := #[]
  methods := #[]
  instanceTypes := #[]
  staticTypes := #[]
  resolved := Array.replicate 8 none
  statics := none }

/-- the primitive byte -/
def k15 : Class := { plain "byte" none with kind := .primitive 'B', accessFlags := 0x411 }
/-- [B -/
def k16 : Class := { plain "[B" (some 0) with kind := .array 15 .byte, interfaces := #[14, 2], accessFlags := 1041 }

/-- the primitive char -/
def k17 : Class := { plain "char" none with kind := .primitive 'C', accessFlags := 0x411 }
/-- [C -/
def k18 : Class := { plain "[C" (some 0) with kind := .array 17 .char, interfaces := #[14, 2], accessFlags := 1041 }

/-- the primitive int -/
def k19 : Class := { plain "int" none with kind := .primitive 'I', accessFlags := 0x411 }
/-- [I -/
def k20 : Class := { plain "[I" (some 0) with kind := .array 19 .int, interfaces := #[14, 2], accessFlags := 1041 }

def heap : Heap := #[{ cls := 7, slots := #[.long 0, .int 1, .null, .int 0, .null, .int 0, .int 0], vm := .statics 7 },
  { cls := 12, slots := #[.null, .null, .null], vm := .statics 12 }]
def classes : Array Class := #[k0, k1, k2, k3, k4, k5, k6, k7, k8, k9, k10, k11, k12, k13, k14, k15, k16, k17, k18, k19, k20]
def interned : List (Array UInt16 × Addr) := []
def slotsUsed : Nat := 10
def theMethod : MethodId := ⟨1, 2⟩
def args0 : Array Value := #[.int 5, .int 6, .int 7, .int 8]
def aboutOver (below : List Frame) : State where
  vm := { classes := classes, interned := interned.toArray }
  heap := heap
  slotsUsed := slotsUsed
  threads := #[{ frames := .invoking theMethod args0 :: below }]
def below0 : List Frame := [.native { method := ⟨0, 0⟩, args := #[] }]
def about1 : State := aboutOver below0
def p0 : Program := .bare "" "" ""
def e0 : Env := launch0.env 0 0 0
theorem w_frames : about1.frames = Frame.invoking theMethod args0 :: below0 := rfl
set_option maxRecDepth 65536 in
theorem w_args : argsFit about1.vm theMethod args0 = true := by decide +kernel
set_option maxRecDepth 65536 in
theorem w_heap : heapFits about1 = true := by decide +kernel
set_option maxRecDepth 65536 in
theorem w_runnable : about1.curStatus? = some .runnable := by decide +kernel
set_option maxRecDepth 65536 in
theorem w_alone : about1.alone = true := by decide +kernel
set_option maxRecDepth 65536 in
theorem w_named : about1.methodNamed? x = some theMethod := by decide +kernel
set_option maxRecDepth 65536 in
theorem w_hears : about1.hears theMethod below0 = true := by decide +kernel
set_option maxRecDepth 65536 in
theorem w_ripe : about1.ripe theMethod args0 below0 = true := by decide +kernel
theorem w_running : about1.status = .running := rfl
set_option maxRecDepth 65536 in
theorem w_room : about1.hasRoom e0.platform room_1 = true :=
  launch0.hasRoom_least _ room_1 (by decide +kernel) (by decide +kernel) (by decide +kernel) (by decide +kernel) (by decide +kernel) (by decide +kernel)
theorem allAtoms_all (ts : List Jvm.Cond) (a : Array Jvm.Value) (st : Jvm.State) : (allAtoms ts).before a st = ts.all (fun c => c.before a st) := by
  induction ts with
  | nil => rfl
  | cons c t ih =>
    show (Jvm.Cond.and c (allAtoms t)).before a st = _
    rw [Jvm.Cond.before_and, ih, List.all_cons]
def words1 : List Jvm.Cond := Jvm.Cond.code x code maxLocals ret :: tables_1
/-- a 'code' word, met by the world's own term for the bytes: nothing is compared byte by byte -/
theorem code_word {y : MethodName} {bytes : ByteArray} {mx : Nat} {rt : Option FieldType} {a : Array Value} {s : State} {m : MethodId} {meth : Method} {c : Code} (h1 : s.methodNamed? y = some m) (h2 : s.vm.method? m = some meth) (h3 : meth.code = some c) (h4 : c.code = bytes)
    (h5 : (c.maxLocals == mx && c.exceptionTable.isEmpty && decide (c.maxStack ≤ mostOperands) && decide (meth.sig.returnType = rt) && !meth.locks && decide (parseMethodDescriptor y.desc = some meth.sig)) = true) : (Jvm.Cond.code y bytes mx rt).before a s = true := by
  simp only [Bool.and_eq_true, beq_iff_eq, Bool.not_eq_true', decide_eq_true_eq] at h5
  obtain ⟨⟨⟨⟨⟨g1, g2⟩, g3⟩, g4⟩, g5⟩, g6⟩ := h5
  simp [Cond.before, Cond.holds, Cond.value, h1, h2, h3, h4, g1, g2, g3, g4, g5, g6]
def isCode : Jvm.Cond → Bool
  | .code _ _ _ _ => true
  | _ => false
theorem all_split {L : List Jvm.Cond} {P : Jvm.Cond → Bool} (h1 : L.all (fun c => isCode c || P c) = true) (h2 : ∀ c ∈ L.filter isCode, P c = true) : L.all P = true := by
  refine List.all_eq_true.mpr fun c hc => ?_
  have h := List.all_eq_true.mp h1 c hc
  rcases Bool.eq_false_or_eq_true (isCode c) with hi | hi
  · exact h2 c (List.mem_filter.mpr ⟨hc, hi⟩)
  · simpa [hi] using h
set_option maxRecDepth 65536 in
theorem w_c0 : (Jvm.Cond.code x code maxLocals ret).before args0 about1 = true := code_word (m := ⟨1, 2⟩) (meth := k1m2) (c := k1c2) (by decide +kernel) rfl rfl rfl (by decide +kernel)
set_option maxRecDepth 65536 in
theorem w_c1 : (Jvm.Cond.code ({ cls := "com/example/tripleshelf/tripleshelf/cli/OptionTakesValuePinLaw", name := "valueNameOf", desc := "(II)Ljava/lang/String;" } : Jvm.MethodName) method_2_code (3 : Nat) (Option.some (Jvm.ClassFile.FieldType.object "java/lang/String"))).before args0 about1 = true := code_word (m := ⟨1, 1⟩) (meth := k1m1) (c := k1c1) (by decide +kernel) rfl rfl rfl (by decide +kernel)
set_option maxRecDepth 65536 in
theorem w_c2 : (Jvm.Cond.code ({ cls := "java/lang/String", name := "<init>", desc := "([C)V" } : Jvm.MethodName) jdk_42_method_3_code (2 : Nat) (Option.none : Option Jvm.ClassFile.FieldType)).before args0 about1 = true := code_word (m := ⟨7, 1⟩) (meth := k7m1) (c := k7c1) (by decide +kernel) rfl rfl rfl (by decide +kernel)
set_option maxRecDepth 65536 in
theorem w_c3 : (Jvm.Cond.code ({ cls := "java/lang/String", name := "<init>", desc := "([CIILjava/lang/Void;)V" } : Jvm.MethodName) jdk_42_method_149_code (6 : Nat) (Option.none : Option Jvm.ClassFile.FieldType)).before args0 about1 = true := code_word (m := ⟨7, 3⟩) (meth := k7m3) (c := k7c3) (by decide +kernel) rfl rfl rfl (by decide +kernel)
set_option maxRecDepth 65536 in
theorem w_c4 : (Jvm.Cond.code ({ cls := "java/lang/Object", name := "<init>", desc := "()V" } : Jvm.MethodName) object_method_1_code (1 : Nat) (Option.none : Option Jvm.ClassFile.FieldType)).before args0 about1 = true := code_word (m := ⟨0, 0⟩) (meth := k0m0) (c := k0c0) (by decide +kernel) rfl rfl rfl (by decide +kernel)
set_option maxRecDepth 65536 in
theorem w_c5 : (Jvm.Cond.code ({ cls := "java/lang/StringUTF16", name := "compress", desc := "([CII)[B" } : Jvm.MethodName) jdk_52_method_16_code (6 : Nat) (Option.some (Jvm.ClassFile.FieldType.array Jvm.ClassFile.FieldType.byte))).before args0 about1 = true := code_word (m := ⟨8, 2⟩) (meth := k8m2) (c := k8c2) (by decide +kernel) rfl rfl rfl (by decide +kernel)
set_option maxRecDepth 65536 in
theorem w_c6 : (Jvm.Cond.code ({ cls := "java/lang/StringUTF16", name := "compress", desc := "([CI[BII)I" } : Jvm.MethodName) jdk_52_method_21_code (7 : Nat) (Option.some Jvm.ClassFile.FieldType.int)).before args0 about1 = true := code_word (m := ⟨8, 3⟩) (meth := k8m3) (c := k8c3) (by decide +kernel) rfl rfl rfl (by decide +kernel)
set_option maxRecDepth 65536 in
theorem w_c7 : (Jvm.Cond.code ({ cls := "java/lang/StringUTF16", name := "coderFromArrayLen", desc := "([BI)B" } : Jvm.MethodName) jdk_52_method_15_code (2 : Nat) (Option.some Jvm.ClassFile.FieldType.byte)).before args0 about1 = true := code_word (m := ⟨8, 1⟩) (meth := k8m1) (c := k8c1) (by decide +kernel) rfl rfl rfl (by decide +kernel)
set_option maxRecDepth 65536 in
theorem w_c8 : (Jvm.Cond.code ({ cls := "java/lang/String", name := "valueOf", desc := "(C)Ljava/lang/String;" } : Jvm.MethodName) jdk_42_method_139_code (1 : Nat) (Option.some (Jvm.ClassFile.FieldType.object "java/lang/String"))).before args0 about1 = true := code_word (m := ⟨7, 2⟩) (meth := k7m2) (c := k7c2) (by decide +kernel) rfl rfl rfl (by decide +kernel)
set_option maxRecDepth 65536 in
theorem w_c9 : (Jvm.Cond.code ({ cls := "java/lang/StringLatin1", name := "canEncode", desc := "(C)Z" } : Jvm.MethodName) jdk_43_method_3_code (1 : Nat) (Option.some Jvm.ClassFile.FieldType.boolean)).before args0 about1 = true := code_word (m := ⟨9, 1⟩) (meth := k9m1) (c := k9c1) (by decide +kernel) rfl rfl rfl (by decide +kernel)
set_option maxRecDepth 65536 in
theorem w_c10 : (Jvm.Cond.code ({ cls := "java/lang/StringLatin1", name := "toBytes", desc := "(C)[B" } : Jvm.MethodName) jdk_43_method_46_code (1 : Nat) (Option.some (Jvm.ClassFile.FieldType.array Jvm.ClassFile.FieldType.byte))).before args0 about1 = true := code_word (m := ⟨9, 2⟩) (meth := k9m2) (c := k9c2) (by decide +kernel) rfl rfl rfl (by decide +kernel)
set_option maxRecDepth 65536 in
theorem w_c11 : (Jvm.Cond.code ({ cls := "java/lang/String", name := "<init>", desc := "([BB)V" } : Jvm.MethodName) jdk_42_method_151_code (3 : Nat) (Option.none : Option Jvm.ClassFile.FieldType)).before args0 about1 = true := code_word (m := ⟨7, 4⟩) (meth := k7m4) (c := k7c4) (by decide +kernel) rfl rfl rfl (by decide +kernel)
set_option maxRecDepth 65536 in
theorem w_c12 : (Jvm.Cond.code ({ cls := "com/example/tripleshelf/tripleshelf/cli/Option", name := "<init>", desc := "(Ljava/lang/String;Ljava/lang/String;ZLjava/lang/String;)V" } : Jvm.MethodName) prog_5_method_1_code (5 : Nat) (Option.none : Option Jvm.ClassFile.FieldType)).before args0 about1 = true := code_word (m := ⟨11, 0⟩) (meth := k11m0) (c := k11c0) (by decide +kernel) rfl rfl rfl (by decide +kernel)
set_option maxRecDepth 65536 in
theorem w_c13 : (Jvm.Cond.code ({ cls := "java/lang/Record", name := "<init>", desc := "()V" } : Jvm.MethodName) jdk_30_method_1_code (1 : Nat) (Option.none : Option Jvm.ClassFile.FieldType)).before args0 about1 = true := code_word (m := ⟨10, 0⟩) (meth := k10m0) (c := k10c0) (by decide +kernel) rfl rfl rfl (by decide +kernel)
set_option maxRecDepth 65536 in
theorem w_c14 : (Jvm.Cond.code ({ cls := "com/example/tripleshelf/tripleshelf/cli/Option", name := "takesValue", desc := "()Z" } : Jvm.MethodName) prog_5_method_5_code (1 : Nat) (Option.some Jvm.ClassFile.FieldType.boolean)).before args0 about1 = true := code_word (m := ⟨11, 1⟩) (meth := k11m1) (c := k11c1) (by decide +kernel) rfl rfl rfl (by decide +kernel)
def codes1 : List Jvm.Cond := [Jvm.Cond.code x code maxLocals ret, Jvm.Cond.code ({ cls := "com/example/tripleshelf/tripleshelf/cli/OptionTakesValuePinLaw", name := "valueNameOf", desc := "(II)Ljava/lang/String;" } : Jvm.MethodName) method_2_code (3 : Nat) (Option.some (Jvm.ClassFile.FieldType.object "java/lang/String")), Jvm.Cond.code ({ cls := "java/lang/String", name := "<init>", desc := "([C)V" } : Jvm.MethodName) jdk_42_method_3_code (2 : Nat) (Option.none : Option Jvm.ClassFile.FieldType), Jvm.Cond.code ({ cls := "java/lang/String", name := "<init>", desc := "([CIILjava/lang/Void;)V" } : Jvm.MethodName) jdk_42_method_149_code (6 : Nat) (Option.none : Option Jvm.ClassFile.FieldType), Jvm.Cond.code ({ cls := "java/lang/Object", name := "<init>", desc := "()V" } : Jvm.MethodName) object_method_1_code (1 : Nat) (Option.none : Option Jvm.ClassFile.FieldType), Jvm.Cond.code ({ cls := "java/lang/StringUTF16", name := "compress", desc := "([CII)[B" } : Jvm.MethodName) jdk_52_method_16_code (6 : Nat) (Option.some (Jvm.ClassFile.FieldType.array Jvm.ClassFile.FieldType.byte)), Jvm.Cond.code ({ cls := "java/lang/StringUTF16", name := "compress", desc := "([CI[BII)I" } : Jvm.MethodName) jdk_52_method_21_code (7 : Nat) (Option.some Jvm.ClassFile.FieldType.int), Jvm.Cond.code ({ cls := "java/lang/StringUTF16", name := "coderFromArrayLen", desc := "([BI)B" } : Jvm.MethodName) jdk_52_method_15_code (2 : Nat) (Option.some Jvm.ClassFile.FieldType.byte), Jvm.Cond.code ({ cls := "java/lang/String", name := "valueOf", desc := "(C)Ljava/lang/String;" } : Jvm.MethodName) jdk_42_method_139_code (1 : Nat) (Option.some (Jvm.ClassFile.FieldType.object "java/lang/String")), Jvm.Cond.code ({ cls := "java/lang/StringLatin1", name := "canEncode", desc := "(C)Z" } : Jvm.MethodName) jdk_43_method_3_code (1 : Nat) (Option.some Jvm.ClassFile.FieldType.boolean), Jvm.Cond.code ({ cls := "java/lang/StringLatin1", name := "toBytes", desc := "(C)[B" } : Jvm.MethodName) jdk_43_method_46_code (1 : Nat) (Option.some (Jvm.ClassFile.FieldType.array Jvm.ClassFile.FieldType.byte)), Jvm.Cond.code ({ cls := "java/lang/String", name := "<init>", desc := "([BB)V" } : Jvm.MethodName) jdk_42_method_151_code (3 : Nat) (Option.none : Option Jvm.ClassFile.FieldType), Jvm.Cond.code ({ cls := "com/example/tripleshelf/tripleshelf/cli/Option", name := "<init>", desc := "(Ljava/lang/String;Ljava/lang/String;ZLjava/lang/String;)V" } : Jvm.MethodName) prog_5_method_1_code (5 : Nat) (Option.none : Option Jvm.ClassFile.FieldType), Jvm.Cond.code ({ cls := "java/lang/Record", name := "<init>", desc := "()V" } : Jvm.MethodName) jdk_30_method_1_code (1 : Nat) (Option.none : Option Jvm.ClassFile.FieldType), Jvm.Cond.code ({ cls := "com/example/tripleshelf/tripleshelf/cli/Option", name := "takesValue", desc := "()Z" } : Jvm.MethodName) prog_5_method_5_code (1 : Nat) (Option.some Jvm.ClassFile.FieldType.boolean)]
set_option maxRecDepth 65536 in
theorem codes_eq : words1.filter isCode = codes1 := rfl
theorem w_codes : ∀ c ∈ words1.filter isCode, c.before args0 about1 = true := by
  rw [codes_eq]
  intro c hc
  simp only [codes1, List.mem_cons, List.not_mem_nil, or_false] at hc
  rcases hc with rfl | rfl | rfl | rfl | rfl | rfl | rfl | rfl | rfl | rfl | rfl | rfl | rfl | rfl | rfl
  · exact w_c0
  · exact w_c1
  · exact w_c2
  · exact w_c3
  · exact w_c4
  · exact w_c5
  · exact w_c6
  · exact w_c7
  · exact w_c8
  · exact w_c9
  · exact w_c10
  · exact w_c11
  · exact w_c12
  · exact w_c13
  · exact w_c14
set_option maxRecDepth 65536 in
theorem w_t1 : (words1.take 24).all (fun c => isCode c || c.before args0 about1) = true := by decide +kernel
set_option maxRecDepth 65536 in
theorem w_t2 : ((words1.drop 24).take 24).all (fun c => isCode c || c.before args0 about1) = true := by decide +kernel
set_option maxRecDepth 65536 in
theorem w_t3 : (((words1.drop 24).drop 24).take 24).all (fun c => isCode c || c.before args0 about1) = true := by decide +kernel
set_option maxRecDepth 65536 in
theorem w_t4 : (((words1.drop 24).drop 24).drop 24).all (fun c => isCode c || c.before args0 about1) = true := by decide +kernel
theorem w_tables : (allAtoms (Jvm.Cond.code x code maxLocals ret :: tables_1)).before args0 about1 = true := by
  rw [allAtoms_all]
  show words1.all (fun c => c.before args0 about1) = true
  refine all_split ?_ w_codes
  rw [← List.take_append_drop 24 words1, List.all_append, w_t1, ← List.take_append_drop 24 (words1.drop 24), List.all_append, w_t2, ← List.take_append_drop 24 ((words1.drop 24).drop 24), List.all_append, w_t3, w_t4]
  rfl
set_option maxRecDepth 65536 in
theorem w_rest : rest_1_c.before args0 about1 = true := by decide +kernel
set_option maxRecDepth 65536 in
theorem w_case : (Jvm.Cond.and given_1 narrow_1).before args0 about1 = true := by decide +kernel
set_option maxRecDepth 65536 in
theorem w_consts : constsHeld consts_1 about1 := Jvm.Lit.constsHeldB_iff.mp (by decide +kernel)
theorem w_applies : (headSpec (Jvm.Cond.code x code maxLocals ret :: tables_1) room_1).applies x e0.platform about1 = true :=
  (Spec.applies_iff w_frames).mpr ⟨w_running, w_runnable, w_alone, w_named, w_hears, w_ripe, w_room, w_tables⟩
theorem atStart : AtStart classFile x code maxLocals ret World_1 tables_1 room_1 Calls_1 rest_1 Pre_1 launch0 p0 e0 about1 theMethod args0 below0 :=
  ⟨lists_1, trivial, launch0.admits_env _ _ _, launch0.least_env, fairChoices_fair.cas, fairChoices_fair.clock, w_frames, w_args, w_heap, w_applies, ⟨w_consts, trivial⟩, w_rest, w_case⟩
end start1
theorem witness_1 : WitnessClaimed_1 := ⟨start1.p0, start1.e0, start1.about1, start1.theMethod, start1.args0, start1.below0, start1.atStart⟩
end Jvm.Pilot.@@N@@
