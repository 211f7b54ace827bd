import JvmDerived
import JvmDerived.Pilot.@@N@@Statement
import JvmDerived.Pilot.@@N@@Code
set_option linter.unusedVariables false
set_option linter.unusedSimpArgs false
namespace Jvm.Own
open Jvm Jvm.ClassFile Sem Op Lib Jvm.Free Jvm.Stand Jvm.LawKit Jvm.RoadKit
/-! MY LAYER: a goal 'Wk' over the library's Stand (from any state that stands here with the heap h, the walk comes to its end and Q holds), one rule a step; W: may the walk intern (wide frame). -/
def Bs (W : Bool) (s : State) (vm0 : Vm) (sz : Nat) : Prop := match W with
  | false => vm0 = s.vm
  | true => ∃ k0, s.Since vm0 k0 ∧ k0 ≤ sz
def En (W : Bool) (s : State) (o : Outcome) (t : State) (L : List Loc) (k n : Nat) : Prop := match W with
  | false => FrameEnd s o t L k n
  | true => ReturnedEndW s o t L k n
def Cx (Z : State) (p : Program) (s : State) (m : MethodId) (meth : Method) (c : Code) (y : MethodName) (bytes : ByteArray) (maxL : Nat) (ret : Option FieldType) : Prop :=
  p.tables.exec = Jvm.exec ∧ c.code = bytes ∧ c.maxLocals = maxL ∧ Z.Warmed39 s.vm ∧ s.vm.findClass y.cls = some m.cls ∧ meth.name = y.name ∧ meth.sig.returnType = ret ∧ meth.locks = false
def Wk (W : Bool) (p : Program) (l : Launch) (e : Env) (R : Room) (s : State) (m : MethodId) (args : Array Value) (below : List Frame) (meth : Method) (c : Code) (n0 : Nat) (Q : Option Value → Heap → Prop) (h : Heap) (k n : Nat) (g : JFrame) : Prop :=
  ∀ T L vm0, Stand p l e R (s.setVm vm0) m args below meth c T L k n → Bs W s vm0 h.size → T.heap = h → Fr n0 L →
    ∃ s₂ o, Steps p.tables e below (T.setTop g) s₂ ∧ s₂.status = .running ∧ Ended s₂ below o ∧ ∃ v L, o = .returned v ∧ (Q v s₂.heap ∧ Fr n0 L) ∧ En W s o s₂ L R.cells R.slots
def Met (W : Bool) (l : Launch) (Z : State) (n0 : Nat) (y : MethodName) (bytes : ByteArray) (maxL : Nat) (ret : Option FieldType) (rm : Room) (as : Array Value) (h : Heap) (Q : Option Value → Heap → Prop) : Prop :=
  ∀ ws, MetFree l y (head1 (Cond.code y bytes maxL ret :: ws) rm) (fun a U => a = as ∧ Z.Warmed39 U.vm ∧ U.heap = h) (fun _ _ _ _ _ => True)
    (fun _ U o U' => ∃ v L, o = .returned v ∧ (Q v U'.heap ∧ Fr n0 L) ∧ En W U o U' L rm.cells rm.slots)
theorem Bs.start (W : Bool) (s : State) (sz : Nat) : Bs W s s.vm sz := by
  cases W
  · rfl
  · exact ⟨0, (State.WarmedH.refl s).since 0, Nat.zero_le _⟩
theorem Bs.mono {W : Bool} {s : State} {vm0 : Vm} {a b : Nat} (B : Bs W s vm0 a) (q : a ≤ b) : Bs W s vm0 b := by
  cases W
  · exact B
  · obtain ⟨k0, h1, h2⟩ := B; exact ⟨k0, h1, Nat.le_trans h2 q⟩
theorem Bs.warm {W : Bool} {s : State} {vm0 : Vm} {a : Nat} (B : Bs W s vm0 a) : s.Warmed39 vm0 := by
  cases W
  · cases (B : vm0 = s.vm); exact State.Warmed39.refl s
  · obtain ⟨k0, h1, h2⟩ := B; exact h1.1
section Cxs
variable {W : Bool} {Z : State} {p : Program} {s : State} {m : MethodId} {meth : Method} {c : Code} {y : MethodName} {bytes : ByteArray} {maxL : Nat} {ret : Option FieldType}
theorem Cx.hx (C : Cx Z p s m meth c y bytes maxL ret) : p.tables.exec = Jvm.exec := C.1
theorem Cx.hby (C : Cx Z p s m meth c y bytes maxL ret) : c.code = bytes := C.2.1
theorem Cx.hml (C : Cx Z p s m meth c y bytes maxL ret) : c.maxLocals = maxL := C.2.2.1
theorem Cx.hZ (C : Cx Z p s m meth c y bytes maxL ret) : Z.Warmed39 s.vm := C.2.2.2.1
theorem Cx.hown (C : Cx Z p s m meth c y bytes maxL ret) : s.vm.findClass y.cls = some m.cls := C.2.2.2.2.1
theorem Cx.hnm (C : Cx Z p s m meth c y bytes maxL ret) : meth.name = y.name := C.2.2.2.2.2.1
theorem Cx.hret (C : Cx Z p s m meth c y bytes maxL ret) : meth.sig.returnType = ret := C.2.2.2.2.2.2.1
theorem Cx.hlk (C : Cx Z p s m meth c y bytes maxL ret) : meth.locks = false := C.2.2.2.2.2.2.2
theorem Cx.wZ (C : Cx Z p s m meth c y bytes maxL ret) {vm0 : Vm} {a : Nat} (B : Bs W s vm0 a) : Z.Warmed39 (s.setVm vm0).vm := State.Warmed39.trans (t := s) C.hZ B.warm
theorem Cx.wo (C : Cx Z p s m meth c y bytes maxL ret) {vm0 : Vm} {a : Nat} (B : Bs W s vm0 a) : (s.setVm vm0).vm.findClass y.cls = some m.cls := by
  show vm0.findClass y.cls = _
  rw [B.warm.alike.findClass]; exact C.hown
end Cxs
theorem Met.of {W : Bool} {l : Launch} {Z : State} {n0 : Nat} {y : MethodName} {bytes : ByteArray} {maxL : Nat} {ret : Option FieldType} {rm : Room} {as : Array Value} {h : Heap} {Q : Option Value → Heap → Prop}
    (hpn : plainName y.cls = true) (Ls : Array Slot) (hef : ∀ m, entryFrame m as maxL = mkF m 0 Ls [])
    (H : ∀ p e s m below meth c, Cx Z p s m meth c y bytes maxL ret → Wk W p l e rm s m as below meth c n0 Q h 0 0 (mkF m 0 Ls [])) : Met W l Z n0 y bytes maxL ret rm as h Q := by
  intro ws
  refine MetFree.of_bodySF (plainFor_of_name hpn) hisR ?_
  intro p e s m args below meth c s₁ Bd hml0 hP hK
  obtain ⟨ha, hZ, hh⟩ := hP
  have hown := findClass_of_methodNamed Bd.named
  have hnm := (name_of_methodNamed Bd.named Bd.method).1
  have e0 : s₁.heap = h := by rw [← hh, Bd.state]; rfl
  have X0 : Stand p l e rm s m args below meth c s₁ [] 0 0 := Stand.of_body Bd
  rw [ha] at X0 ⊢
  obtain ⟨s₂, o, h1, h2⟩ := H p e s m below meth c ⟨Bd.exec, Bd.bytes, hml0, hZ, hown, hnm, Bd.returns, Bd.notSynchronized⟩ s₁ [] s.vm X0 (Bs.start W s _) e0 (Fr.nil n0)
  exact ⟨s₂, o, castTop (hef m) h1, h2⟩
section Rules
variable {W : Bool} {Z : State} {p : Program} {l : Launch} {e : Env} {R : Room} {s : State} {m : MethodId} {args : Array Value} {below : List Frame} {meth : Method} {c : Code} {y : MethodName} {bytes : ByteArray} {maxL : Nat} {ret : Option FieldType} {n0 : Nat} {Q : Option Value → Heap → Prop} {h : Heap} {k n : Nat} {g g' : JFrame} {a0 : Array Value}
theorem Wk.more {k' n' : Nat} (q1 : k ≤ k') (q2 : n ≤ n') (H : Wk W p l e R s m args below meth c n0 Q h k' n' g) : Wk W p l e R s m args below meth c n0 Q h k n g :=
  fun T L vm0 X B eT N => H T L vm0 (X.more q1 q2) B eT N
theorem Wk.st (f : ∀ {T : State} {L : List Loc} {vm0 : Vm}, Stand p l e R (s.setVm vm0) m args below meth c T L k n → ∀ t, Steps p.tables e below (T.setTop g') t → Steps p.tables e below (T.setTop g) t)
    (H : Wk W p l e R s m args below meth c n0 Q h k n g') : Wk W p l e R s m args below meth c n0 Q h k n g := by
  intro T L vm0 X B eT N
  obtain ⟨s₂, o, h1, h2⟩ := H T L vm0 X B eT N
  exact ⟨s₂, o, f X _ h1, h2⟩
/-- a step that needs the tables (as they stand at vm0) and the heap, and leaves the heap -/
theorem Wk.stZ (C : Cx Z p s m meth c y bytes maxL ret) (f : ∀ {T : State} {L : List Loc} {vm0 : Vm}, Stand p l e R (s.setVm vm0) m args below meth c T L k n → Z.Warmed39 (s.setVm vm0).vm → (s.setVm vm0).vm.findClass y.cls = some m.cls → T.heap = h → ∃ T', Stand p l e R (s.setVm vm0) m args below meth c T' L k n ∧ T'.heap = h ∧ ∀ t, Steps p.tables e below (T'.setTop g') t → Steps p.tables e below (T.setTop g) t)
    (H : Wk W p l e R s m args below meth c n0 Q h k n g') : Wk W p l e R s m args below meth c n0 Q h k n g := by
  intro T L vm0 X B eT N
  obtain ⟨T', X', e', st⟩ := f X (C.wZ B) (C.wo B) eT
  obtain ⟨s₂, o, h1, h2⟩ := H T' L vm0 X' B e' N
  exact ⟨s₂, o, st _ h1, h2⟩
/-- a step that writes one place of a new cell -/
theorem Wk.stW (C : Cx Z p s m meth c y bytes maxL ret) {a : Addr} {sl : Nat} {v : Value} (ge : n0 ≤ a) (f : ∀ {T : State} {L : List Loc} {vm0 : Vm}, Stand p l e R (s.setVm vm0) m args below meth c T L k n → Z.Warmed39 (s.setVm vm0).vm → (s.setVm vm0).vm.findClass y.cls = some m.cls → T.heap = h → ∃ T' h', Stand p l e R (s.setVm vm0) m args below meth c T' (L ++ [⟨a, sl⟩]) k n ∧ T'.heap = h' ∧ Wr h h' a sl v ∧ ∀ t, Steps p.tables e below (T'.setTop g') t → Steps p.tables e below (T.setTop g) t)
    (H : ∀ h', Wr h h' a sl v → Wk W p l e R s m args below meth c n0 Q h' k n g') : Wk W p l e R s m args below meth c n0 Q h k n g := by
  intro T L vm0 X B eT N
  obtain ⟨T', h', X', e', Wh, st⟩ := f X (C.wZ B) (C.wo B) eT
  obtain ⟨s₂, o, h1, h2⟩ := H h' Wh T' _ vm0 X' (B.mono (Nat.le_of_eq Wh.size.symm)) e' (Fr.snoc X' N ge)
  exact ⟨s₂, o, st _ h1, h2⟩
theorem Wk.ldcI (C : Cx Z p s m meth c y bytes maxL ret) {index : Nat} {v : Int32} (w : (Cond.constant y.cls index v).before a0 Z = true) {pc : Nat} {Ls : Array Slot} {st : List Value} (hd : decode bytes pc = .ok (.ldc index, 2))
    (H : Wk W p l e R s m args below meth c n0 Q h k n (mkF m (pc + 2) Ls (.int v :: st))) : Wk W p l e R s m args below meth c n0 Q h k n (mkF m pc Ls st) :=
  Wk.stZ C (fun X hZ ho eT => ⟨_, X, eT, fun t q => X.ldcI C.hx ho (mvT hZ w) rfl (hb C.hby hd) q⟩) H
theorem Wk.ldc2J (C : Cx Z p s m meth c y bytes maxL ret) {index : Nat} {v : Int64} (w : (Cond.constantLong y.cls index v).before a0 Z = true) {pc : Nat} {Ls : Array Slot} {st : List Value} (hd : decode bytes pc = .ok (.ldc2_w index, 3))
    (H : Wk W p l e R s m args below meth c n0 Q h k n (mkF m (pc + 3) Ls (.long v :: st))) : Wk W p l e R s m args below meth c n0 Q h k n (mkF m pc Ls st) :=
  Wk.stZ C (fun X hZ ho eT => ⟨_, X, eT, fun t q => X.ldc2J C.hx ho (mvT hZ w) rfl (hb C.hby hd) q⟩) H
theorem Wk.getS (C : Cx Z p s m meth c y bytes maxL ret) {O nm d : String} {index : Nat} (w : (Cond.fieldLink y.cls index O nm d).before a0 Z = true) {v : Value} (F : Sta Z h O nm d v) {pc : Nat} {Ls : Array Slot} {st : List Value} (hd : decode bytes pc = .ok (.getstatic index, 3))
    (H : Wk W p l e R s m args below meth c n0 Q h k n (mkF m (pc + 3) Ls (v :: st))) : Wk W p l e R s m args below meth c n0 Q h k n (mkF m pc Ls st) :=
  Wk.stZ C (fun X hZ ho eT => Jvm.RoadKit.getS (host := "") X C.hx hZ ho w Via.refl eT F (g := mkF m pc Ls st) rfl (hb C.hby hd)) H
theorem Wk.getF (C : Cx Z p s m meth c y bytes maxL ret) {R0 O nm d : String} {index : Nat} (w : (Cond.fieldLink y.cls index R0 nm d).before a0 Z = true) (via : Via Z R0 O nm d) {a : Addr} {v : Value} (F : Fld Z h a O nm d v) {pc : Nat} {Ls : Array Slot} {st : List Value} (hd : decode bytes pc = .ok (.getfield index, 3))
    (H : Wk W p l e R s m args below meth c n0 Q h k n (mkF m (pc + 3) Ls (v :: st))) : Wk W p l e R s m args below meth c n0 Q h k n (mkF m pc Ls (.ref a :: st)) :=
  Wk.stZ C (fun X hZ ho eT => Jvm.RoadKit.getF (host := "") X C.hx hZ ho (Or.inl w) via eT F (g := mkF m pc Ls (.ref a :: st)) rfl rfl (hb C.hby hd)) H
theorem Wk.putF (C : Cx Z p s m meth c y bytes maxL ret) {R0 O nm d K : String} {index kk : Nat} {ty : FieldType} (w : (Cond.fieldLink y.cls index R0 nm d).before a0 Z = true) (via : Via Z R0 O nm d) {a : Addr} {v v' old : Value} (F : Fld Z h a O nm d old) (E : Exa Z h a K)
    (L : (Cond.lays K O nm d).before a0 Z = true ∨ ((Cond.laysFinal K O nm d).before a0 Z = true ∧ y.cls = O ∧ y.name = "<init>")) (wi : (Cond.instantiable K kk).before a0 Z = true) (hty : parseFieldDescriptor d = some ty) (hn : narrow ty v = v') (hf : fits ty v' = true) (ge : n0 ≤ a)
    {pc : Nat} {Ls : Array Slot} {st : List Value} (hd : decode bytes pc = .ok (.putfield index, 3))
    (H : ∀ h', Wr h h' a (Jvm.RoadKit.slotOf Z O nm d) v' → Wk W p l e R s m args below meth c n0 Q h' k n (mkF m (pc + 3) Ls st)) : Wk W p l e R s m args below meth c n0 Q h k n (mkF m pc Ls (v :: .ref a :: st)) :=
  Wk.stW C ge (fun X hZ ho eT => Jvm.RoadKit.putFN X C.hx hZ ho w via eT F E (L.imp id fun q => ⟨q.1, q.2.1, C.hnm.trans q.2.2⟩) wi hty hn hf (g := mkF m pc Ls (v :: .ref a :: st)) rfl rfl (hb C.hby hd)) H
theorem Wk.newO (C : Cx Z p s m meth c y bytes maxL ret) {K : String} {index sz : Nat} (w : (Cond.classLink y.cls index K).before a0 Z = true) (wi : (Cond.instantiable K sz).before a0 Z = true) (wz : (Cond.initialized K).before a0 Z = true) {pc : Nat} {Ls : Array Slot} {st : List Value} (hd : decode bytes pc = .ok (.new index, 3)) (hc : k + 1 ≤ R.cells) (hl : n + sz ≤ R.slots)
    (H : ∀ h' a, a = h.size → Ext h h' → Exa Z h' a K → (∀ {O nm d : String} {ty : FieldType}, Laid Z a0 K O nm d → parseFieldDescriptor d = some ty → Fld Z h' a O nm d (defaultValue ty)) → Wk W p l e R s m args below meth c n0 Q h' (k + 1) (n + sz) (mkF m (pc + 3) Ls (.ref a :: st))) :
    Wk W p l e R s m args below meth c n0 Q h k n (mkF m pc Ls st) := by
  intro T L vm0 X B eT N
  obtain ⟨T', h', X', e', E, A, D, -, st⟩ := Jvm.RoadKit.newO X C.hx (C.wZ B) (C.wo B) w wi wz eT (g := mkF m pc Ls st) rfl (hb C.hby hd) hc hl
  obtain ⟨s₂, o, h1, h2⟩ := H h' _ rfl E A D T' L vm0 X' (B.mono E.1) e' N
  exact ⟨s₂, o, st _ h1, h2⟩
theorem Wk.newP (C : Cx Z p s m meth c y bytes maxL ret) {aty : ArrayType} (w : (Cond.arrayClass (newarray.typeOf aty)).before a0 Z = true) {z : Int32} (hz : ¬ z < 0) {cap : Nat} (hcap : z.toNatClampNeg ≤ cap) (hbig : cap * 8 ≤ 536870912) {pc : Nat} {Ls : Array Slot} {st : List Value} (hd : decode bytes pc = .ok (.newarray aty, 2)) (hc : k + 1 ≤ R.cells) (hl : n + cap ≤ R.slots)
    (H : ∀ h' a cA, a = h.size → Ext h h' → Arr Z h' a (newA cA (newarray.typeOf aty) z) (newarray.typeOf aty) → Wk W p l e R s m args below meth c n0 Q h' (k + 1) (n + cap) (mkF m (pc + 2) Ls (.ref a :: st))) :
    Wk W p l e R s m args below meth c n0 Q h k n (mkF m pc Ls (.int z :: st)) := by
  intro T L vm0 X B eT N
  obtain ⟨T', h', cA, X', e', E, A, st⟩ := Jvm.RoadKit.newP X C.hx (C.wZ B) w eT (g := mkF m pc Ls (.int z :: st)) rfl (hb C.hby hd) rfl hz hcap hbig hc hl
  obtain ⟨s₂, o, h1, h2⟩ := H h' _ cA rfl E A T' L vm0 X' (B.mono E.1) e' N
  exact ⟨s₂, o, st _ h1, h2⟩
theorem Wk.newR (C : Cx Z p s m meth c y bytes maxL ret) {K : String} {index : Nat} (w1 : (Cond.classLink y.cls index K).before a0 Z = true) (w2 : (Cond.arrayOver (.object K)).before a0 Z = true) {z : Int32} (hz : ¬ z < 0) {cap : Nat} (hcap : z.toNatClampNeg ≤ cap) (hbig : cap * 8 ≤ 536870912) {pc : Nat} {Ls : Array Slot} {st : List Value} (hd : decode bytes pc = .ok (.anewarray index, 3)) (hc : k + 1 ≤ R.cells) (hl : n + cap ≤ R.slots)
    (H : ∀ h' a cA, a = h.size → Ext h h' → Arr Z h' a (newA cA (.object K) z) (.object K) → Ovr Z cA K → Wk W p l e R s m args below meth c n0 Q h' (k + 1) (n + cap) (mkF m (pc + 3) Ls (.ref a :: st))) :
    Wk W p l e R s m args below meth c n0 Q h k n (mkF m pc Ls (.int z :: st)) := by
  intro T L vm0 X B eT N
  obtain ⟨T', h', cA, X', e', E, A, O, st⟩ := Jvm.RoadKit.newR X C.hx (C.wZ B) (C.wo B) w1 w2 eT (g := mkF m pc Ls (.int z :: st)) rfl (hb C.hby hd) rfl hz hcap hbig hc hl
  obtain ⟨s₂, o, h1, h2⟩ := H h' _ cA rfl E A O T' L vm0 X' (B.mono E.1) e' N
  exact ⟨s₂, o, st _ h1, h2⟩
theorem Wk.stI (C : Cx Z p s m meth c y bytes maxL ret) {a : Addr} {cl : Cell} (A : Arr Z h a cl .int) {j x : Int32} (hj : ¬ (j < 0 ∨ cl.slots.size ≤ j.toNatClampNeg)) (ge : n0 ≤ a) {pc : Nat} {Ls : Array Slot} {st : List Value} (hd : decode bytes pc = .ok (.iastore, 1))
    (H : ∀ h', Wr h h' a j.toNatClampNeg (.int x) → Wk W p l e R s m args below meth c n0 Q h' k n (mkF m (pc + 1) Ls st)) : Wk W p l e R s m args below meth c n0 Q h k n (mkF m pc Ls (.int x :: .int j :: .ref a :: st)) :=
  Wk.stW C ge (fun X hZ ho eT => Jvm.RoadKit.stI X C.hx hZ eT A hj (g := mkF m pc Ls (.int x :: .int j :: .ref a :: st)) rfl rfl (hb C.hby hd)) H
theorem Wk.stJ (C : Cx Z p s m meth c y bytes maxL ret) {a : Addr} {cl : Cell} (A : Arr Z h a cl .long) {j : Int32} {x : Int64} (hj : ¬ (j < 0 ∨ cl.slots.size ≤ j.toNatClampNeg)) (ge : n0 ≤ a) {pc : Nat} {Ls : Array Slot} {st : List Value} (hd : decode bytes pc = .ok (.lastore, 1))
    (H : ∀ h', Wr h h' a j.toNatClampNeg (.long x) → Wk W p l e R s m args below meth c n0 Q h' k n (mkF m (pc + 1) Ls st)) : Wk W p l e R s m args below meth c n0 Q h k n (mkF m pc Ls (.long x :: .int j :: .ref a :: st)) :=
  Wk.stW C ge (fun X hZ ho eT => Jvm.RoadKit.stJ X C.hx hZ eT A hj (g := mkF m pc Ls (.long x :: .int j :: .ref a :: st)) rfl rfl (hb C.hby hd)) H
theorem Wk.stR (C : Cx Z p s m meth c y bytes maxL ret) {a : Addr} {cl : Cell} {ty : FieldType} (A : Arr Z h a cl ty) {j : Int32} {v : Value} (hj : ¬ (j < 0 ∨ cl.slots.size ≤ j.toNatClampNeg)) (hty : ty.isReference = true) (F : Sto Z h a v) (ge : n0 ≤ a) {pc : Nat} {Ls : Array Slot} {st : List Value} (hd : decode bytes pc = .ok (.aastore, 1))
    (H : ∀ h', Wr h h' a j.toNatClampNeg v → Wk W p l e R s m args below meth c n0 Q h' k n (mkF m (pc + 1) Ls st)) : Wk W p l e R s m args below meth c n0 Q h k n (mkF m pc Ls (v :: .int j :: .ref a :: st)) :=
  Wk.stW C ge (fun X hZ ho eT => Jvm.RoadKit.stR X C.hx hZ eT A hj hty F (g := mkF m pc Ls (v :: .int j :: .ref a :: st)) rfl rfl (hb C.hby hd)) H
theorem Wk.len (C : Cx Z p s m meth c y bytes maxL ret) {a : Addr} {cl : Cell} {ty : FieldType} (A : Arr Z h a cl ty) {pc : Nat} {Ls : Array Slot} {st : List Value} (hd : decode bytes pc = .ok (.arraylength, 1))
    (H : Wk W p l e R s m args below meth c n0 Q h k n (mkF m (pc + 1) Ls (.int cl.slots.size.toInt32 :: st))) : Wk W p l e R s m args below meth c n0 Q h k n (mkF m pc Ls (.ref a :: st)) :=
  Wk.stZ C (fun X hZ ho eT => ⟨_, X, eT, X.arraylength C.hx (by rw [eT]; exact A.1) (State.isArrayOf_alike hZ.alike A.2.1) (g := mkF m pc Ls (.ref a :: st)) rfl rfl (hb C.hby hd)⟩) H
theorem Wk.ldI (C : Cx Z p s m meth c y bytes maxL ret) {a : Addr} {cl : Cell} (A : Arr Z h a cl .int) {j : Int32} {v : Value} (hj : ¬ (j < 0 ∨ cl.slots.size ≤ j.toNatClampNeg)) (hv : cl.slots[j.toNatClampNeg]? = some v) {pc : Nat} {Ls : Array Slot} {st : List Value} (hd : decode bytes pc = .ok (.iaload, 1))
    (H : Wk W p l e R s m args below meth c n0 Q h k n (mkF m (pc + 1) Ls (v :: st))) : Wk W p l e R s m args below meth c n0 Q h k n (mkF m pc Ls (.int j :: .ref a :: st)) :=
  Wk.stZ C (fun X hZ ho eT => ⟨_, X, eT, X.iaload C.hx (by rw [eT]; exact A.1) (State.isArrayOf_alike hZ.alike A.2.1) A.2.2 hj hv (g := mkF m pc Ls (.int j :: .ref a :: st)) rfl rfl (hb C.hby hd)⟩) H
theorem Wk.ldJ (C : Cx Z p s m meth c y bytes maxL ret) {a : Addr} {cl : Cell} (A : Arr Z h a cl .long) {j : Int32} {v : Value} (hj : ¬ (j < 0 ∨ cl.slots.size ≤ j.toNatClampNeg)) (hv : cl.slots[j.toNatClampNeg]? = some v) {pc : Nat} {Ls : Array Slot} {st : List Value} (hd : decode bytes pc = .ok (.laload, 1))
    (H : Wk W p l e R s m args below meth c n0 Q h k n (mkF m (pc + 1) Ls (v :: st))) : Wk W p l e R s m args below meth c n0 Q h k n (mkF m pc Ls (.int j :: .ref a :: st)) :=
  Wk.stZ C (fun X hZ ho eT => ⟨_, X, eT, X.laload C.hx (by rw [eT]; exact A.1) (State.isArrayOf_alike hZ.alike A.2.1) A.2.2 hj hv (g := mkF m pc Ls (.int j :: .ref a :: st)) rfl rfl (hb C.hby hd)⟩) H
theorem Wk.ldR (C : Cx Z p s m meth c y bytes maxL ret) {a : Addr} {cl : Cell} {ty : FieldType} (A : Arr Z h a cl ty) (hty : ty.isReference = true) {j : Int32} {v : Value} (hj : ¬ (j < 0 ∨ cl.slots.size ≤ j.toNatClampNeg)) (hv : cl.slots[j.toNatClampNeg]? = some v) {pc : Nat} {Ls : Array Slot} {st : List Value} (hd : decode bytes pc = .ok (.aaload, 1))
    (H : Wk W p l e R s m args below meth c n0 Q h k n (mkF m (pc + 1) Ls (v :: st))) : Wk W p l e R s m args below meth c n0 Q h k n (mkF m pc Ls (.int j :: .ref a :: st)) :=
  Wk.stZ C (fun X hZ ho eT => ⟨_, X, eT, X.aaload C.hx (by rw [eT]; exact A.1) (State.isArrayOf_alike hZ.alike A.2.1) hty A.2.2 hj hv (g := mkF m pc Ls (.int j :: .ref a :: st)) rfl rfl (hb C.hby hd)⟩) H
theorem Wk.ldZ (C : Cx Z p s m meth c y bytes maxL ret) {a : Addr} {cl : Cell} (A : Arr Z h a cl .boolean) {j : Int32} {v : Value} (hj : ¬ (j < 0 ∨ cl.slots.size ≤ j.toNatClampNeg)) (hv : cl.slots[j.toNatClampNeg]? = some v) {pc : Nat} {Ls : Array Slot} {st : List Value} (hd : decode bytes pc = .ok (.baload, 1))
    (H : Wk W p l e R s m args below meth c n0 Q h k n (mkF m (pc + 1) Ls (v :: st))) : Wk W p l e R s m args below meth c n0 Q h k n (mkF m pc Ls (.int j :: .ref a :: st)) :=
  Wk.stZ C (fun X hZ ho eT => ⟨_, X, eT, X.baloadBooleans C.hx (by rw [eT]; exact A.1) (State.isArrayOf_alike hZ.alike A.2.1) A.2.2 hj hv (g := mkF m pc Ls (.int j :: .ref a :: st)) rfl rfl (hb C.hby hd)⟩) H
theorem Wk.stZb (C : Cx Z p s m meth c y bytes maxL ret) {a : Addr} {cl : Cell} (A : Arr Z h a cl .boolean) {j x : Int32} (hj : ¬ (j < 0 ∨ cl.slots.size ≤ j.toNatClampNeg)) (ge : n0 ≤ a) {pc : Nat} {Ls : Array Slot} {st : List Value} (hd : decode bytes pc = .ok (.bastore, 1))
    (H : ∀ h', Wr h h' a j.toNatClampNeg (.int (nar .boolean x)) → Wk W p l e R s m args below meth c n0 Q h' k n (mkF m (pc + 1) Ls st)) : Wk W p l e R s m args below meth c n0 Q h k n (mkF m pc Ls (.int x :: .int j :: .ref a :: st)) :=
  Wk.stW C ge (fun X hZ ho eT => Jvm.RoadKit.stZ X C.hx hZ eT A hj (g := mkF m pc Ls (.int x :: .int j :: .ref a :: st)) rfl rfl (hb C.hby hd)) H
theorem Wk.stB (C : Cx Z p s m meth c y bytes maxL ret) {a : Addr} {cl : Cell} (A : Arr Z h a cl .byte) {j x : Int32} (hj : ¬ (j < 0 ∨ cl.slots.size ≤ j.toNatClampNeg)) (ge : n0 ≤ a) {pc : Nat} {Ls : Array Slot} {st : List Value} (hd : decode bytes pc = .ok (.bastore, 1))
    (H : ∀ h', Wr h h' a j.toNatClampNeg (.int (nar .byte x)) → Wk W p l e R s m args below meth c n0 Q h' k n (mkF m (pc + 1) Ls st)) : Wk W p l e R s m args below meth c n0 Q h k n (mkF m pc Ls (.int x :: .int j :: .ref a :: st)) :=
  Wk.stW C ge (fun X hZ ho eT => Jvm.RoadKit.stB X C.hx hZ eT A hj (g := mkF m pc Ls (.int x :: .int j :: .ref a :: st)) rfl rfl (hb C.hby hd)) H
theorem Wk.stC (C : Cx Z p s m meth c y bytes maxL ret) {a : Addr} {cl : Cell} (A : Arr Z h a cl .char) {j x : Int32} (hj : ¬ (j < 0 ∨ cl.slots.size ≤ j.toNatClampNeg)) (ge : n0 ≤ a) {pc : Nat} {Ls : Array Slot} {st : List Value} (hd : decode bytes pc = .ok (.castore, 1))
    (H : ∀ h', Wr h h' a j.toNatClampNeg (.int (nar .char x)) → Wk W p l e R s m args below meth c n0 Q h' k n (mkF m (pc + 1) Ls st)) : Wk W p l e R s m args below meth c n0 Q h k n (mkF m pc Ls (.int x :: .int j :: .ref a :: st)) :=
  Wk.stW C ge (fun X hZ ho eT => Jvm.RoadKit.stC X C.hx hZ eT A hj (g := mkF m pc Ls (.int x :: .int j :: .ref a :: st)) rfl rfl (hb C.hby hd)) H
theorem Wk.initO (C : Cx Z p s m meth c y bytes maxL ret) {index : Nat} (w1 : (Cond.methodLink y.cls index Lib.objectInit).before a0 Z = true) (w2 : (Cond.instanceMethod Lib.objectInit).before a0 Z = true) (w3 : (Cond.code Lib.objectInit ⟨#[0xb1]⟩ 1 none).before a0 Z = true) {a : Addr} {w : Nat} {pc : Nat} {Ls : Array Slot} {st : List Value} (hls : Ls.size = maxL) (hd : decode bytes pc = .ok (.invokespecial index, 3)) (hf : 1 ≤ R.frames) (hw : (st.map fun v => v.category).sum ≤ w) (hl : w + 12 ≤ R.locals)
    (H : Wk W p l e R s m args below meth c n0 Q h k n (mkF m (pc + 3) Ls st)) : Wk W p l e R s m args below meth c n0 Q h k n (mkF m pc Ls (.ref a :: st)) :=
  Wk.stZ C (fun X hZ ho eT => Jvm.RoadKit.initO X C.hx hZ ho w1 w2 w3 eT (g := mkF m pc Ls (.ref a :: st)) rfl (hls.trans C.hml.symm) rfl (hb C.hby hd) hf (W := w) (by show 2 * 0 + _ ≤ _; omega) hl) H
theorem Wk.retV (C : Cx Z p s m meth c y bytes maxL ret) {pc : Nat} {Ls : Array Slot} {w : Value} {t : FieldType} {i : Instr} {rest : List Value} (ht : ret = some t) (hn : narrow t w = w)
    (hi : (i = .ireturn ∧ (t = .int ∨ t = .boolean ∨ t = .byte ∨ t = .char ∨ t = .short) ∧ ∃ z, w = .int z) ∨ (i = .lreturn ∧ t = .long ∧ ∃ z, w = .long z) ∨ (i = .dreturn ∧ t = .double ∧ ∃ z, w = .double z) ∨ (i = .freturn ∧ t = .float ∧ ∃ z, w = .float z) ∨ (i = .areturn ∧ t.isReference = true ∧ w.isRef = true))
    (hd : decode bytes pc = .ok (i, 1)) (hk : k ≤ R.cells) (hs : n ≤ R.slots) (hq : Q (some w) h) : Wk W p l e R s m args below meth c n0 Q h k n (mkF m pc Ls (w :: rest)) := by
  intro T L vm0 X B eT N
  have hlk := C.hlk
  have hv : meth.sig.returnType = none → (some w : Option Value) = none := fun h => by rw [C.hret, ht] at h; cases h
  cases W
  · cases (B : vm0 = s.vm)
    obtain ⟨fs, hr, hrun, hended, hW, hsame⟩ := Stand.leave (s := s) X (v := some w) hv hlk
    refine ⟨_, _, retOut X C.hx (C.hret.trans ht) hn hi (hb C.hby hd) hr, hrun, hended, _, L, rfl, ⟨?_, N⟩, ⟨_, rfl⟩, hW, hsame.mono hk hs⟩
    show Q (some w) T.heap
    rw [eT]; exact hq
  · obtain ⟨k0, hS, hk0⟩ := (B : ∃ k0, s.Since vm0 k0 ∧ k0 ≤ h.size)
    obtain ⟨fs, hr, hrun, hended, hE⟩ := X.leaveW hS (by rw [eT]; exact hk0) (v := some w) hv hlk
    refine ⟨_, _, retOut X C.hx (C.hret.trans ht) hn hi (hb C.hby hd) hr, hrun, hended, _, L, rfl, ⟨?_, N⟩, hE.1, hE.2.1, hE.2.2.1, hE.2.2.2.mono hk hs⟩
    show Q (some w) T.heap
    rw [eT]; exact hq
theorem Wk.retN0 (C : Cx Z p s m meth c y bytes maxL ret) {pc : Nat} {Ls : Array Slot} (ht : ret = none) (hd : decode bytes pc = .ok (.return_, 1)) (hk : k ≤ R.cells) (hs : n ≤ R.slots) (hq : Q none h) : Wk W p l e R s m args below meth c n0 Q h k n (mkF m pc Ls []) := by
  intro T L vm0 X B eT N
  have hlk := C.hlk
  have hv : meth.sig.returnType = none → (none : Option Value) = none := fun _ => rfl
  cases W
  · cases (B : vm0 = s.vm)
    obtain ⟨fs, hr, hrun, hended, hW, hsame⟩ := Stand.leave (s := s) X (v := none) hv hlk
    refine ⟨_, _, X.returnOut C.hx (C.hret.trans ht) (hb C.hby hd) hr, hrun, hended, _, L, rfl, ⟨?_, N⟩, ⟨_, rfl⟩, hW, hsame.mono hk hs⟩
    show Q none T.heap
    rw [eT]; exact hq
  · obtain ⟨k0, hS, hk0⟩ := (B : ∃ k0, s.Since vm0 k0 ∧ k0 ≤ h.size)
    obtain ⟨fs, hr, hrun, hended, hE⟩ := X.leaveW hS (by rw [eT]; exact hk0) (v := none) hv hlk
    refine ⟨_, _, X.returnOut C.hx (C.hret.trans ht) (hb C.hby hd) hr, hrun, hended, _, L, rfl, ⟨?_, N⟩, hE.1, hE.2.1, hE.2.2.1, hE.2.2.2.mono hk hs⟩
    show Q none T.heap
    rw [eT]; exact hq
/-- the three calls, by the callee's contract -/
theorem Wk.callS (C : Cx Z p s m meth c y bytes maxL ret) {z : MethodName} {index : Nat} {bz : ByteArray} {mz : Nat} {rz : Option FieldType} {rm : Room} {asL : List Value} {Qz : Option Value → Heap → Prop}
    (w1 : (Cond.methodLink y.cls index z).before a0 Z = true) (w2 : (Cond.static z).before a0 Z = true) (w3 : (Cond.initialized z.cls).before a0 Z = true) (w4 : (Cond.code z bz mz rz).before a0 Z = true)
    (hz : z.cls ≠ "java/lang/invoke/MethodHandle" ∧ z.cls ≠ "java/lang/invoke/VarHandle") (M : Met W l Z n0 z bz mz rz rm asL.toArray h Qz) {w : Nat} (hf : rm.frames + 1 ≤ R.frames) (hl : w + (mz + 11) + rm.locals ≤ R.locals)
    {ps : List FieldType} {r : Option FieldType} (hlen : parseMethodDescriptor z.desc = some ⟨ps, r⟩) (hps : asL.length = ps.length) {pc : Nat} {Ls : Array Slot} {st rest : List Value} (hls : Ls.size = maxL) (hst : st = asL.reverse ++ rest) (hw : (rest.map fun v => v.category).sum ≤ w)
    (hc : k + rm.cells ≤ R.cells) (hs : n + rm.slots ≤ R.slots) (hd : decode bytes pc = .ok (.invokestatic index, 3))
    (H : ∀ v h', Qz v h' → Wk W p l e R s m args below meth c n0 Q h' (k + rm.cells) (n + rm.slots) (mkF m (pc + 3) Ls (v.toList ++ rest))) : Wk W p l e R s m args below meth c n0 Q h k n (mkF m pc Ls st) := by
  intro T L vm0 X B eT N
  subst hst
  have hZ := C.wZ B
  have ho := C.wo B
  have hw' : 2 * (mkF m pc Ls (asL.reverse ++ rest)).monitorRoom + (rest.map fun v => v.category).sum ≤ w := by show 2 * 0 + _ ≤ _; omega
  cases W
  · obtain ⟨v, vm₁, ⟨T', L', k', n'⟩, -, X', ⟨Lc, hQ, l1, y1, z1⟩, st⟩ := Jvm.LawKit.callS X C.hx ho (mvT hZ w1) (mvT hZ w2) (mvT hZ w3) (mvT hZ w4) hz (backOf (W := w) (Q := fun v h L => Qz v h ∧ Fr n0 L) (M []) hZ w4 w3 hf hl) (g := mkF m pc Ls (asL.reverse ++ rest)) rfl (hls.trans C.hml.symm) (argsL := asL) (rest := rest) (lenOf hlen hps) rfl hw' (hb C.hby hd) (fun _ _ => ⟨rfl, eT, hc, hs⟩)
    dsimp only [Pt.U, Pt.locs, Pt.cells, Pt.slots] at X' l1 y1 z1 st hQ
    subst l1 y1 z1
    obtain ⟨s₂, o, h1, h2⟩ := H v T'.heap hQ.1 T' _ vm0 X' (B : vm0 = s.vm) rfl (N.app hQ.2)
    exact ⟨s₂, o, st _ h1, h2⟩
  · obtain ⟨v, vm₁, ⟨T', L', k', n'⟩, -, X', hS', hgr, ⟨Lc, hQ, l1, y1, z1⟩, st⟩ := callSS X C.hx ho (mvT hZ w1) (mvT hZ w2) (mvT hZ w3) (mvT hZ w4) hz (backOfS (W := w) (Q := fun v h L => Qz v h ∧ Fr n0 L) (M []) hZ w4 w3 hf hl) (g := mkF m pc Ls (asL.reverse ++ rest)) rfl (hls.trans C.hml.symm) (argsL := asL) (rest := rest) (lenOf hlen hps) rfl hw' (hb C.hby hd) (fun _ _ => ⟨rfl, eT, hc, hs⟩)
    dsimp only [Pt.U, Pt.locs, Pt.cells, Pt.slots] at X' hS' hgr l1 y1 z1 st hQ
    subst l1 y1 z1
    obtain ⟨k0, hS, hk0⟩ := (B : ∃ k0, s.Since vm0 k0 ∧ k0 ≤ h.size)
    obtain ⟨s₂, o, h1, h2⟩ := H v T'.heap hQ.1 T' _ T'.vm X' ⟨_, foldS hS (by rw [eT]; exact hk0) hS' hgr, Nat.le_refl _⟩ rfl (N.app hQ.2)
    exact ⟨s₂, o, st.trans h1, h2⟩
theorem Wk.callI (C : Cx Z p s m meth c y bytes maxL ret) {z : MethodName} {index : Nat} {bz : ByteArray} {mz : Nat} {rm : Room} {a : Addr} {asL : List Value} {Qz : Option Value → Heap → Prop} (hz1 : z.name = "<init>")
    (w1 : (Cond.methodLink y.cls index z).before a0 Z = true) (w2 : (Cond.instanceMethod z).before a0 Z = true) (w3 : (Cond.initialized z.cls).before a0 Z = true) (w4 : (Cond.code z bz mz none).before a0 Z = true)
    (hz : z.cls ≠ "java/lang/invoke/MethodHandle" ∧ z.cls ≠ "java/lang/invoke/VarHandle") (M : Met W l Z n0 z bz mz none rm (.ref a :: asL).toArray h Qz) {w : Nat} (hf : rm.frames + 1 ≤ R.frames) (hl : w + (mz + 11) + rm.locals ≤ R.locals)
    {ps : List FieldType} {r : Option FieldType} (hlen : parseMethodDescriptor z.desc = some ⟨ps, r⟩) (hps : asL.length = ps.length) {pc : Nat} {Ls : Array Slot} {st rest : List Value} (hls : Ls.size = maxL) (hst : st = asL.reverse ++ .ref a :: rest) (hw : (rest.map fun v => v.category).sum ≤ w)
    (hc : k + rm.cells ≤ R.cells) (hs : n + rm.slots ≤ R.slots) (hd : decode bytes pc = .ok (.invokespecial index, 3))
    (H : ∀ v h', Qz v h' → Wk W p l e R s m args below meth c n0 Q h' (k + rm.cells) (n + rm.slots) (mkF m (pc + 3) Ls (v.toList ++ rest))) : Wk W p l e R s m args below meth c n0 Q h k n (mkF m pc Ls st) := by
  intro T L vm0 X B eT N
  subst hst
  have hZ := C.wZ B
  have ho := C.wo B
  have hw' : 2 * (mkF m pc Ls (asL.reverse ++ .ref a :: rest)).monitorRoom + (rest.map fun v => v.category).sum ≤ w := by show 2 * 0 + _ ≤ _; omega
  cases W
  · obtain ⟨v, vm₁, ⟨T', L', k', n'⟩, -, X', ⟨Lc, hQ, l1, y1, z1⟩, st⟩ := X.specialBack C.hx hz1 ho (mvT hZ w1) (mvT hZ w2) (mvT hZ w4) hz (backOf (W := w) (Q := fun v h L => Qz v h ∧ Fr n0 L) (M []) hZ w4 w3 hf hl) (g := mkF m pc Ls (asL.reverse ++ .ref a :: rest)) rfl (hls.trans C.hml.symm) (Steps.refl _) (a := a) (argsL := asL) (rest := rest) (lenOf hlen hps) rfl hw' (hb C.hby hd) (fun _ _ => ⟨rfl, eT, hc, hs⟩)
    dsimp only [Pt.U, Pt.locs, Pt.cells, Pt.slots] at X' l1 y1 z1 st hQ
    subst l1 y1 z1
    obtain ⟨s₂, o, h1, h2⟩ := H v T'.heap hQ.1 T' _ vm0 X' (B : vm0 = s.vm) rfl (N.app hQ.2)
    exact ⟨s₂, o, st.trans h1, h2⟩
  · obtain ⟨v, vm₁, ⟨T', L', k', n'⟩, -, X', hS', hgr, ⟨Lc, hQ, l1, y1, z1⟩, st⟩ := X.specialBackS C.hx hz1 ho (mvT hZ w1) (mvT hZ w2) (mvT hZ w4) hz (backOfS (W := w) (Q := fun v h L => Qz v h ∧ Fr n0 L) (M []) hZ w4 w3 hf hl) (g := mkF m pc Ls (asL.reverse ++ .ref a :: rest)) rfl (hls.trans C.hml.symm) (Steps.refl _) (a := a) (argsL := asL) (rest := rest) (lenOf hlen hps) rfl hw' (hb C.hby hd) (fun _ _ => ⟨rfl, eT, hc, hs⟩)
    dsimp only [Pt.U, Pt.locs, Pt.cells, Pt.slots] at X' hS' hgr l1 y1 z1 st hQ
    subst l1 y1 z1
    obtain ⟨k0, hS, hk0⟩ := (B : ∃ k0, s.Since vm0 k0 ∧ k0 ≤ h.size)
    obtain ⟨s₂, o, h1, h2⟩ := H v T'.heap hQ.1 T' _ T'.vm X' ⟨_, foldS hS (by rw [eT]; exact hk0) hS' hgr, Nat.le_refl _⟩ rfl (N.app hQ.2)
    exact ⟨s₂, o, st.trans h1, h2⟩
theorem Wk.callV (C : Cx Z p s m meth c y bytes maxL ret) {x z : MethodName} {K : String} {index : Nat} {bz : ByteArray} {mz : Nat} {rz : Option FieldType} {rm : Room} {a : Addr} {asL : List Value} {Qz : Option Value → Heap → Prop}
    (w1 : (Cond.methodLink y.cls index x).before a0 Z = true) (w2 : (Cond.declares x).before a0 Z = true) (w5 : (Cond.selects K x z).before a0 Z = true) (w6 : (Cond.instanceMethod z).before a0 Z = true) (w3 : (Cond.initialized z.cls).before a0 Z = true) (w4 : (Cond.code z bz mz rz).before a0 Z = true)
    (hz : x.cls ≠ "java/lang/invoke/MethodHandle" ∧ x.cls ≠ "java/lang/invoke/VarHandle") (hnf : ∀ s' : State, Z.Warmed39 s'.vm → NotFace s' x) (E : Exa Z h a K) (M : Met W l Z n0 z bz mz rz rm (.ref a :: asL).toArray h Qz) {w : Nat} (hf : rm.frames + 1 ≤ R.frames) (hl : w + (mz + 11) + rm.locals ≤ R.locals)
    {ps : List FieldType} {r : Option FieldType} (hlen : parseMethodDescriptor x.desc = some ⟨ps, r⟩) (hps : asL.length = ps.length) {pc : Nat} {Ls : Array Slot} {st rest : List Value} (hls : Ls.size = maxL) (hst : st = asL.reverse ++ .ref a :: rest) (hw : (rest.map fun v => v.category).sum ≤ w)
    (hc : k + rm.cells ≤ R.cells) (hs : n + rm.slots ≤ R.slots) (hd : decode bytes pc = .ok (.invokevirtual index, 3))
    (H : ∀ v h', Qz v h' → Wk W p l e R s m args below meth c n0 Q h' (k + rm.cells) (n + rm.slots) (mkF m (pc + 3) Ls (v.toList ++ rest))) : Wk W p l e R s m args below meth c n0 Q h k n (mkF m pc Ls st) := by
  intro T L vm0 X B eT N
  subst hst
  have hZ := C.wZ B
  have ho := C.wo B
  have hw' : 2 * (mkF m pc Ls (asL.reverse ++ .ref a :: rest)).monitorRoom + (rest.map fun v => v.category).sum ≤ w := by show 2 * 0 + _ ≤ _; omega
  obtain ⟨cq, kq, qa, qb, qc⟩ := isOf hZ eT E
  cases W
  · obtain ⟨v, vm₁, ⟨T', L', k', n'⟩, -, X', ⟨Lc, hQ, l1, y1, z1⟩, st⟩ := X.virtualBack C.hx (y := x) (z := z) ho (mvT hZ w1) (mvT hZ w2) (hnf _ hZ) (mvT hZ w5) (mvT hZ w6) hz (backOf (W := w) (Q := fun v h L => Qz v h ∧ Fr n0 L) (M []) hZ w4 w3 hf hl) qa qc (g := mkF m pc Ls (asL.reverse ++ .ref a :: rest)) rfl (hls.trans C.hml.symm) (Steps.refl _) (argsL := asL) (rest := rest) (lenOf hlen hps) rfl hw' (hb C.hby hd) (fun _ _ => ⟨rfl, eT, hc, hs⟩)
    dsimp only [Pt.U, Pt.locs, Pt.cells, Pt.slots] at X' l1 y1 z1 st hQ
    subst l1 y1 z1
    obtain ⟨s₂, o, h1, h2⟩ := H v T'.heap hQ.1 T' _ vm0 X' (B : vm0 = s.vm) rfl (N.app hQ.2)
    exact ⟨s₂, o, st.trans h1, h2⟩
  · obtain ⟨v, vm₁, ⟨T', L', k', n'⟩, -, X', hS', hgr, ⟨Lc, hQ, l1, y1, z1⟩, st⟩ := X.virtualBackS C.hx (y := x) (z := z) ho (mvT hZ w1) (mvT hZ w2) (hnf _ hZ) (mvT hZ w5) (mvT hZ w6) hz (backOfS (W := w) (Q := fun v h L => Qz v h ∧ Fr n0 L) (M []) hZ w4 w3 hf hl) qa qc (g := mkF m pc Ls (asL.reverse ++ .ref a :: rest)) rfl (hls.trans C.hml.symm) (Steps.refl _) (argsL := asL) (rest := rest) (lenOf hlen hps) rfl hw' (hb C.hby hd) (fun _ _ => ⟨rfl, eT, hc, hs⟩)
    dsimp only [Pt.U, Pt.locs, Pt.cells, Pt.slots] at X' hS' hgr l1 y1 z1 st hQ
    subst l1 y1 z1
    obtain ⟨k0, hS, hk0⟩ := (B : ∃ k0, s.Since vm0 k0 ∧ k0 ≤ h.size)
    obtain ⟨s₂, o, h1, h2⟩ := H v T'.heap hQ.1 T' _ T'.vm X' ⟨_, foldS hS (by rw [eT]; exact hk0) hS' hgr, Nat.le_refl _⟩ rfl (N.app hQ.2)
    exact ⟨s₂, o, st.trans h1, h2⟩
theorem Wk.callU (C : Cx Z p s m meth c y bytes maxL ret) {x z : MethodName} {K owner : String} {index : Nat} {bz : ByteArray} {mz : Nat} {rz : Option FieldType} {rm : Room} {a : Addr} {asL : List Value} {Qz : Option Value → Heap → Prop}
    (w1 : (Cond.methodLink y.cls index x).before a0 Z = true) (w7 : (Cond.sameMethod x.cls owner x.name x.desc).before a0 Z = true) (w2 : (Cond.declares ⟨owner, x.name, x.desc⟩).before a0 Z = true) (w5 : (Cond.selects K x z).before a0 Z = true) (w6 : (Cond.instanceMethod z).before a0 Z = true) (w3 : (Cond.initialized z.cls).before a0 Z = true) (w4 : (Cond.code z bz mz rz).before a0 Z = true)
    (hz : owner ≠ "java/lang/invoke/MethodHandle" ∧ owner ≠ "java/lang/invoke/VarHandle") (E : Exa Z h a K) (M : Met W l Z n0 z bz mz rz rm (.ref a :: asL).toArray h Qz) {w : Nat} (hf : rm.frames + 1 ≤ R.frames) (hl : w + (mz + 11) + rm.locals ≤ R.locals)
    {ps : List FieldType} {r : Option FieldType} (hlen : parseMethodDescriptor x.desc = some ⟨ps, r⟩) (hps : asL.length = ps.length) {pc : Nat} {Ls : Array Slot} {st rest : List Value} (hls : Ls.size = maxL) (hst : st = asL.reverse ++ .ref a :: rest) (hw : (rest.map fun v => v.category).sum ≤ w)
    (hc : k + rm.cells ≤ R.cells) (hs : n + rm.slots ≤ R.slots) (hd : decode bytes pc = .ok (.invokevirtual index, 3))
    (H : ∀ v h', Qz v h' → Wk W p l e R s m args below meth c n0 Q h' (k + rm.cells) (n + rm.slots) (mkF m (pc + 3) Ls (v.toList ++ rest))) : Wk W p l e R s m args below meth c n0 Q h k n (mkF m pc Ls st) := by
  intro T L vm0 X B eT N
  subst hst
  have hZ := C.wZ B
  have ho := C.wo B
  have hw' : 2 * (mkF m pc Ls (asL.reverse ++ .ref a :: rest)).monitorRoom + (rest.map fun v => v.category).sum ≤ w := by show 2 * 0 + _ ≤ _; omega
  obtain ⟨cq, kq, qa, qb, qc⟩ := isOf hZ eT E
  cases W
  · obtain ⟨v, vm₁, ⟨T', L', k', n'⟩, -, X', ⟨Lc, hQ, l1, y1, z1⟩, st⟩ := X.virtualBackUp C.hx (x := x) (y := z) ho (mvT hZ w1) (mvT hZ w7) (mvT hZ w2) hz (mvT hZ w5) (mvT hZ w6) (backOf (W := w) (Q := fun v h L => Qz v h ∧ Fr n0 L) (M []) hZ w4 w3 hf hl) qa qc (g := mkF m pc Ls (asL.reverse ++ .ref a :: rest)) rfl (hls.trans C.hml.symm) (Steps.refl _) (argsL := asL) (rest := rest) (lenOf hlen hps) rfl hw' (hb C.hby hd) (fun _ _ => ⟨rfl, eT, hc, hs⟩)
    dsimp only [Pt.U, Pt.locs, Pt.cells, Pt.slots] at X' l1 y1 z1 st hQ
    subst l1 y1 z1
    obtain ⟨s₂, o, h1, h2⟩ := H v T'.heap hQ.1 T' _ vm0 X' (B : vm0 = s.vm) rfl (N.app hQ.2)
    exact ⟨s₂, o, st.trans h1, h2⟩
  · obtain ⟨v, vm₁, ⟨T', L', k', n'⟩, -, X', hS', hgr, ⟨Lc, hQ, l1, y1, z1⟩, st⟩ := X.virtualBackUpS C.hx (x := x) (y := z) ho (mvT hZ w1) (mvT hZ w7) (mvT hZ w2) hz (mvT hZ w5) (mvT hZ w6) (backOfS (W := w) (Q := fun v h L => Qz v h ∧ Fr n0 L) (M []) hZ w4 w3 hf hl) qa qc (g := mkF m pc Ls (asL.reverse ++ .ref a :: rest)) rfl (hls.trans C.hml.symm) (Steps.refl _) (argsL := asL) (rest := rest) (lenOf hlen hps) rfl hw' (hb C.hby hd) (fun _ _ => ⟨rfl, eT, hc, hs⟩)
    dsimp only [Pt.U, Pt.locs, Pt.cells, Pt.slots] at X' hS' hgr l1 y1 z1 st hQ
    subst l1 y1 z1
    obtain ⟨k0, hS, hk0⟩ := (B : ∃ k0, s.Since vm0 k0 ∧ k0 ≤ h.size)
    obtain ⟨s₂, o, h1, h2⟩ := H v T'.heap hQ.1 T' _ T'.vm X' ⟨_, foldS hS (by rw [eT]; exact hk0) hS' hgr, Nat.le_refl _⟩ rfl (N.app hQ.2)
    exact ⟨s₂, o, st.trans h1, h2⟩
theorem Wk.ldcS (C : Cx Z p s m meth c y bytes maxL ret) {index : Nat} {text : String} (w : (Cond.stringLink y.cls index text).before a0 Z = true) (wS : ∀ d ∈ Bundle.stringAtoms, d.before a0 Z = true) {N : Nat} (hn : 4 * text.toList.length ≤ N) (hbig : N ≤ 536870912) {pc : Nat} {Ls : Array Slot} {st : List Value} (hd : decode bytes pc = .ok (.ldc index, 2)) (hc : k + 2 ≤ R.cells) (hl : n + (N + 4) ≤ R.slots)
    (H : ∀ h' a, Ext h h' → Wk true p l e R s m args below meth c n0 Q h' (k + 2) (n + (N + 4)) (mkF m (pc + 2) Ls (.ref a :: st))) : Wk true p l e R s m args below meth c n0 Q h k n (mkF m pc Ls st) := by
  intro T L vm0 X B eT N'
  have hZ := C.wZ B
  have ho := C.wo B
  obtain ⟨k0, hS, hk0⟩ := (B : ∃ k0, s.Since vm0 k0 ∧ k0 ≤ h.size)
  obtain ⟨a, T', h', k1, X', e', E, hS', hk1, -, -, st⟩ := Jvm.RoadKit.ldcS X C.hx hZ ho w wS eT hS hk0 (g := mkF m pc Ls st) rfl (hb C.hby hd) hn hbig hc hl
  obtain ⟨s₂, o, h1, h2⟩ := H h' a E T' L T'.vm X' ⟨k1, hS', hk1⟩ e' N'
  exact ⟨s₂, o, st _ h1, h2⟩
end Rules
theorem ext_trans {h h' h'' : Heap} (E : Ext h h') (E' : Ext h' h'') : Ext h h'' := ⟨Nat.le_trans E.1 E'.1, fun a c q => E'.2 a c (E.2 a c q)⟩
theorem ext_refl (h : Heap) : Ext h h := ⟨Nat.le_refl _, fun _ _ q => q⟩
end Jvm.Own
namespace Jvm.Own
open Jvm Jvm.ClassFile Sem Op Lib Jvm.Free Jvm.Stand Jvm.LawKit Jvm.RoadKit
/-! statics that hold objects, told apart by a field -/
theorem stat_exa {args : Array Value} {s : State} {C n d K : String} (wi : (Cond.initialized C).before args s = true) (wl : (Cond.laysStatic C n d).before args s = true) (hx : (Cond.exactly (Term.static C n d) K).value args s none s [] = some true) :
    ∃ a, (Term.static C n d).eval args s none [] s = some (.ref a) ∧ Sta s s.heap C n d (.ref a) ∧ Exa s s.heap a K := by
  obtain ⟨a, ev⟩ := exa_v hx
  exact ⟨a, ev, Sta.start ev (Or.inr ⟨wi, wl⟩), Exa.start ev hx⟩
theorem fld_int {args : Array Value} {s : State} {t : Term} {a : Addr} {O f d : String} {i : Int32} (ev : t.eval args s none [] s = some (.ref a)) (hq : (Cond.eq (Term.field t O f d) (Term.int i)).value args s none s [] = some true) : Fld s s.heap a O f d (.int i) := by
  refine Fld.start ?_
  obtain ⟨x, y, h1, h2, k1, k2⟩ := cmp_v (Or.inl hq)
  cases (show some (Value.int i) = some y from h2)
  obtain ⟨z, rfl⟩ := k2
  have q := gotT (show (Cond.eq (Term.field t O f d) (Term.int i)).value args s none s [] = some (decide (z = i)) by simp [Cond.value, h1, h2]) hq
  subst q
  rw [fld_at ev] at h1; exact h1
theorem fld_uniq {Z : State} {h : Heap} {a : Addr} {O f d : String} {v w : Value} (F : Fld Z h a O f d v) (G : Fld Z h a O f d w) : v = w := by
  obtain ⟨c1, cf, k, i, fd, h1, h2, -, -, -, -, h7⟩ := F
  obtain ⟨c2, cf', k', i', fd', g1, g2, -, -, -, -, g7⟩ := G
  cases h1.symm.trans g1
  cases h2.symm.trans g2
  exact Option.some.inj (h7.symm.trans g7)
theorem ne_fld {Z : State} {h : Heap} {a b : Addr} {O f d : String} {v w : Value} (F : Fld Z h a O f d v) (G : Fld Z h b O f d w) (q : v ≠ w) : a ≠ b := fun e => by
  subst e; exact q (fld_uniq F G)
theorem mod_range (p k : Int32) (d : Int) (hd : k.toInt = d) (h0 : 0 < d) : 0 ≤ ((p &&& 2147483647) % k).toInt ∧ ((p &&& 2147483647) % k).toInt < d := by
  have h1 := (c_andS p 2147483647).2.2 (by decide)
  have h2 := (c_irem (p &&& 2147483647) k d hd).1 h1
  rw [h2]
  exact ⟨Int.emod_nonneg _ (by omega), Int.emod_lt_of_pos _ h0⟩
theorem mod6 (p : Int32) : (p &&& 2147483647) % 6 = 0 ∨ (p &&& 2147483647) % 6 = 1 ∨ (p &&& 2147483647) % 6 = 2 ∨ (p &&& 2147483647) % 6 = 3 ∨ (p &&& 2147483647) % 6 = 4 ∨ (p &&& 2147483647) % 6 = 5 := by
  have h := mod_range p 6 6 (by decide) (by decide)
  generalize (p &&& 2147483647) % 6 = r at h ⊢
  have q : r.toInt = 0 ∨ r.toInt = 1 ∨ r.toInt = 2 ∨ r.toInt = 3 ∨ r.toInt = 4 ∨ r.toInt = 5 := by omega
  rcases q with q | q | q | q | q | q
  · exact Or.inl (Int32.toInt_inj.mp q)
  · exact Or.inr (Or.inl (Int32.toInt_inj.mp q))
  · exact Or.inr (Or.inr (Or.inl (Int32.toInt_inj.mp q)))
  · exact Or.inr (Or.inr (Or.inr (Or.inl (Int32.toInt_inj.mp q))))
  · exact Or.inr (Or.inr (Or.inr (Or.inr (Or.inl (Int32.toInt_inj.mp q)))))
  · exact Or.inr (Or.inr (Or.inr (Or.inr (Or.inr (Int32.toInt_inj.mp q)))))
theorem mod3 (p : Int32) : (p &&& 2147483647) % 3 = 0 ∨ (p &&& 2147483647) % 3 = 1 ∨ (p &&& 2147483647) % 3 = 2 := by
  have h := mod_range p 3 3 (by decide) (by decide)
  generalize (p &&& 2147483647) % 3 = r at h ⊢
  have q : r.toInt = 0 ∨ r.toInt = 1 ∨ r.toInt = 2 := by omega
  rcases q with q | q | q
  · exact Or.inl (Int32.toInt_inj.mp q)
  · exact Or.inr (Or.inl (Int32.toInt_inj.mp q))
  · exact Or.inr (Or.inr (Int32.toInt_inj.mp q))
end Jvm.Own
namespace Jvm.Own
open Jvm Jvm.ClassFile Sem Op Lib Jvm.Free Jvm.Stand Jvm.LawKit Jvm.RoadKit
/-! an array by what it holds at each place -/
def up {α : Type} (f : Nat → α) (i : Nat) (v : α) : Nat → α := fun k => if k = i then v else f k
theorem up_eq {α : Type} {f : Nat → α} {i k : Nat} {v : α} (q : k = i) : up f i v k = v := by simp [up, q]
theorem up_ne {α : Type} {f : Nat → α} {i k : Nat} {v : α} (q : k ≠ i) : up f i v k = f k := by simp [up, q]
def Fa (Z : State) (h : Heap) (a : Addr) (ty : FieldType) (n : Nat) (f : Nat → Value) : Prop :=
  ∃ c : Cell, Arr Z h a c ty ∧ c.slots.size = n ∧ n < 2 ^ 31 ∧ ∀ i, i < n → c.slots[i]? = some (f i)
/-- .. of objects of the class K -/
def FaO (Z : State) (h : Heap) (a : Addr) (K : String) (n : Nat) (f : Nat → Value) : Prop :=
  ∃ c : Cell, Arr Z h a c (.object K) ∧ Ovr Z c.cls K ∧ c.slots.size = n ∧ n < 2 ^ 31 ∧ ∀ i, i < n → c.slots[i]? = some (f i)
/-- .. of arrays, whose class is named K -/
def FaA (Z : State) (h : Heap) (a : Addr) (ty : FieldType) (K : String) (n : Nat) (f : Nat → Value) : Prop :=
  ∃ c : Cell, Arr Z h a c (.array ty) ∧ OvrA Z c.cls ty K ∧ c.slots.size = n ∧ n < 2 ^ 31 ∧ ∀ i, i < n → c.slots[i]? = some (f i)
section Facts
variable {Z : State} {h h' : Heap} {a b : Addr} {ty : FieldType} {K : String} {n : Nat} {f g : Nat → Value} {sl : Nat} {v : Value} {ws : List Addr}
theorem inb {c : Cell} {j : Int32} (S : c.slots.size = n) (h0 : ¬ j < 0) (hi : j.toNatClampNeg < n) : ¬ (j < 0 ∨ c.slots.size ≤ j.toNatClampNeg) := by
  rintro (q | q)
  · exact h0 q
  · omega
theorem set_at {c : Cell} (S : c.slots.size = n) (H : ∀ i, i < n → c.slots[i]? = some (f i)) (hs : sl < n) : ∀ i, i < n → (c.setSlot sl v).slots[i]? = some (up f sl v i) := fun i hi => by
  by_cases q : i = sl
  · subst q; rw [up_eq rfl]; simp [Cell.setSlot, S, hi]
  · rw [up_ne q, ← H i hi]; exact Array.getElem?_setIfInBounds_ne (Ne.symm q)
theorem new_at {cA : ClassId} {z : Int32} : ∀ i, i < z.toNatClampNeg → (newA cA ty z).slots[i]? = some (defaultValue ty) := fun i hi => by simp [newA, hi]
theorem clamp_lt (z : Int32) : z.toNatClampNeg < 2 ^ 31 := by
  have := Int32.toInt_lt z; simp only [Int32.toNatClampNeg]; omega
theorem Fa.lt (F : Fa Z h a ty n f) : a < h.size := by obtain ⟨c, A, -⟩ := F; exact A.lt
theorem Fa.ext (F : Fa Z h a ty n f) (E : Ext h h') : Fa Z h' a ty n f := by obtain ⟨c, A, r⟩ := F; exact ⟨c, A.ext E, r⟩
theorem Fa.other (F : Fa Z h b ty n f) (W : Wr h h' a sl v) (q : b ≠ a) : Fa Z h' b ty n f := by obtain ⟨c, A, r⟩ := F; exact ⟨c, A.other W q, r⟩
theorem Fa.keep (F : Fa Z h a ty n f) (K : Keep h h' ws) (q : a ∉ ws) : Fa Z h' a ty n f := by obtain ⟨c, A, r⟩ := F; exact ⟨c, ⟨K.2.1 a c A.1 q, A.2⟩, r⟩
theorem Fa.set (F : Fa Z h a ty n f) (W : Wr h h' a sl v) (hs : sl < n) : Fa Z h' a ty n (up f sl v) := by
  obtain ⟨c, A, S, N, H⟩ := F; exact ⟨_, A.same W, (sz_set _ _ _).trans S, N, set_at S H hs⟩
theorem Fa.new {cA : ClassId} {z : Int32} (A : Arr Z h a (newA cA ty z) ty) : Fa Z h a ty z.toNatClampNeg (fun _ => defaultValue ty) := ⟨_, A, sz_new _ _ _, clamp_lt z, new_at⟩
theorem Fa.congr (F : Fa Z h a ty n f) (q : ∀ i, i < n → f i = g i) : Fa Z h a ty n g := by obtain ⟨c, A, S, N, H⟩ := F; exact ⟨c, A, S, N, fun i hi => (H i hi).trans (congrArg some (q i hi))⟩
theorem FaO.lt (F : FaO Z h a K n f) : a < h.size := by obtain ⟨c, A, -⟩ := F; exact A.lt
theorem FaO.ext (F : FaO Z h a K n f) (E : Ext h h') : FaO Z h' a K n f := by obtain ⟨c, A, r⟩ := F; exact ⟨c, A.ext E, r⟩
theorem FaO.other (F : FaO Z h b K n f) (W : Wr h h' a sl v) (q : b ≠ a) : FaO Z h' b K n f := by obtain ⟨c, A, r⟩ := F; exact ⟨c, A.other W q, r⟩
theorem FaO.set (F : FaO Z h a K n f) (W : Wr h h' a sl v) (hs : sl < n) : FaO Z h' a K n (up f sl v) := by
  obtain ⟨c, A, O, S, N, H⟩ := F; exact ⟨_, A.same W, O, (sz_set _ _ _).trans S, N, set_at S H hs⟩
theorem FaO.new {cA : ClassId} {z : Int32} (A : Arr Z h a (newA cA (.object K) z) (.object K)) (O : Ovr Z cA K) : FaO Z h a K z.toNatClampNeg (fun _ => .null) := ⟨_, A, O, sz_new _ _ _, clamp_lt z, new_at⟩
theorem FaO.sto (F : FaO Z h a K n f) {y : Addr} (E : Exa Z h y K) : Sto Z h a (.ref y) := by obtain ⟨c, A, O, -⟩ := F; exact Sto.of A O (Ins.self E)
theorem FaA.lt (F : FaA Z h a ty K n f) : a < h.size := by obtain ⟨c, A, -⟩ := F; exact A.lt
theorem FaA.ext (F : FaA Z h a ty K n f) (E : Ext h h') : FaA Z h' a ty K n f := by obtain ⟨c, A, r⟩ := F; exact ⟨c, A.ext E, r⟩
theorem FaA.other (F : FaA Z h b ty K n f) (W : Wr h h' a sl v) (q : b ≠ a) : FaA Z h' b ty K n f := by obtain ⟨c, A, r⟩ := F; exact ⟨c, A.other W q, r⟩
theorem FaA.keep (F : FaA Z h a ty K n f) (Kp : Keep h h' ws) (q : a ∉ ws) : FaA Z h' a ty K n f := by obtain ⟨c, A, r⟩ := F; exact ⟨c, ⟨Kp.2.1 a c A.1 q, A.2⟩, r⟩
theorem FaA.set (F : FaA Z h a ty K n f) (W : Wr h h' a sl v) (hs : sl < n) : FaA Z h' a ty K n (up f sl v) := by
  obtain ⟨c, A, O, S, N, H⟩ := F; exact ⟨_, A.same W, O, (sz_set _ _ _).trans S, N, set_at S H hs⟩
theorem FaA.new {cA : ClassId} {z : Int32} (A : Arr Z h a (newA cA (.array ty) z) (.array ty)) (O : OvrA Z cA ty K) : FaA Z h a ty K z.toNatClampNeg (fun _ => .null) := ⟨_, A, O, sz_new _ _ _, clamp_lt z, new_at⟩
end Facts
section Rules
variable {W : Bool} {Z : State} {p : Program} {l : Launch} {e : Env} {R : Room} {s : State} {m : MethodId} {args : Array Value} {below : List Frame} {meth : Method} {c : Code} {y : MethodName} {bytes : ByteArray} {maxL : Nat} {ret : Option FieldType} {n0 : Nat} {Q : Option Value → Heap → Prop} {h : Heap} {k n : Nat} {a0 : Array Value}
variable {a : Addr} {ty : FieldType} {K : String} {N : Nat} {f : Nat → Value} {j : Int32} {v : Value} {pc : Nat} {Ls : Array Slot} {st : List Value}
theorem Wk.fLen (C : Cx Z p s m meth c y bytes maxL ret) (F : Fa Z h a ty N f) {z : Int32} (hz : N.toInt32 = z) (hd : decode bytes pc = .ok (.arraylength, 1))
    (H : Wk W p l e R s m args below meth c n0 Q h k n (mkF m (pc + 1) Ls (.int z :: st))) : Wk W p l e R s m args below meth c n0 Q h k n (mkF m pc Ls (.ref a :: st)) := by
  obtain ⟨cl, A, S, -⟩ := F; exact Wk.len C A hd (by rw [S, hz]; exact H)
theorem Wk.fLenA (C : Cx Z p s m meth c y bytes maxL ret) (F : FaA Z h a ty K N f) {z : Int32} (hz : N.toInt32 = z) (hd : decode bytes pc = .ok (.arraylength, 1))
    (H : Wk W p l e R s m args below meth c n0 Q h k n (mkF m (pc + 1) Ls (.int z :: st))) : Wk W p l e R s m args below meth c n0 Q h k n (mkF m pc Ls (.ref a :: st)) := by
  obtain ⟨cl, A, -, S, -⟩ := F; exact Wk.len C A hd (by rw [S, hz]; exact H)
theorem Wk.fLdI (C : Cx Z p s m meth c y bytes maxL ret) (F : Fa Z h a .int N f) {i : Nat} (hj : j.toNatClampNeg = i) (h0 : ¬ j < 0) (hi : i < N) (hv : f i = v) (hd : decode bytes pc = .ok (.iaload, 1))
    (H : Wk W p l e R s m args below meth c n0 Q h k n (mkF m (pc + 1) Ls (v :: st))) : Wk W p l e R s m args below meth c n0 Q h k n (mkF m pc Ls (.int j :: .ref a :: st)) := by
  subst hj
  obtain ⟨cl, A, S, -, Hs⟩ := F; exact Wk.ldI C A (inb S h0 hi) (hv ▸ Hs _ hi) hd H
theorem Wk.fLdJ (C : Cx Z p s m meth c y bytes maxL ret) (F : Fa Z h a .long N f) {i : Nat} (hj : j.toNatClampNeg = i) (h0 : ¬ j < 0) (hi : i < N) (hv : f i = v) (hd : decode bytes pc = .ok (.laload, 1))
    (H : Wk W p l e R s m args below meth c n0 Q h k n (mkF m (pc + 1) Ls (v :: st))) : Wk W p l e R s m args below meth c n0 Q h k n (mkF m pc Ls (.int j :: .ref a :: st)) := by
  subst hj
  obtain ⟨cl, A, S, -, Hs⟩ := F; exact Wk.ldJ C A (inb S h0 hi) (hv ▸ Hs _ hi) hd H
theorem Wk.fLdZ (C : Cx Z p s m meth c y bytes maxL ret) (F : Fa Z h a .boolean N f) {i : Nat} (hj : j.toNatClampNeg = i) (h0 : ¬ j < 0) (hi : i < N) (hv : f i = v) (hd : decode bytes pc = .ok (.baload, 1))
    (H : Wk W p l e R s m args below meth c n0 Q h k n (mkF m (pc + 1) Ls (v :: st))) : Wk W p l e R s m args below meth c n0 Q h k n (mkF m pc Ls (.int j :: .ref a :: st)) := by
  subst hj
  obtain ⟨cl, A, S, -, Hs⟩ := F; exact Wk.ldZ C A (inb S h0 hi) (hv ▸ Hs _ hi) hd H
theorem Wk.fLdO (C : Cx Z p s m meth c y bytes maxL ret) (F : FaO Z h a K N f) {i : Nat} (hj : j.toNatClampNeg = i) (h0 : ¬ j < 0) (hi : i < N) (hv : f i = v) (hd : decode bytes pc = .ok (.aaload, 1))
    (H : Wk W p l e R s m args below meth c n0 Q h k n (mkF m (pc + 1) Ls (v :: st))) : Wk W p l e R s m args below meth c n0 Q h k n (mkF m pc Ls (.int j :: .ref a :: st)) := by
  subst hj
  obtain ⟨cl, A, -, S, -, Hs⟩ := F; exact Wk.ldR C A rfl (inb S h0 hi) (hv ▸ Hs _ hi) hd H
theorem Wk.fLdA (C : Cx Z p s m meth c y bytes maxL ret) (F : FaA Z h a ty K N f) {i : Nat} (hj : j.toNatClampNeg = i) (h0 : ¬ j < 0) (hi : i < N) (hv : f i = v) (hd : decode bytes pc = .ok (.aaload, 1))
    (H : Wk W p l e R s m args below meth c n0 Q h k n (mkF m (pc + 1) Ls (v :: st))) : Wk W p l e R s m args below meth c n0 Q h k n (mkF m pc Ls (.int j :: .ref a :: st)) := by
  subst hj
  obtain ⟨cl, A, -, S, -, Hs⟩ := F; exact Wk.ldR C A rfl (inb S h0 hi) (hv ▸ Hs _ hi) hd H
theorem Wk.fStI (C : Cx Z p s m meth c y bytes maxL ret) (F : Fa Z h a .int N f) {x : Int32} {i : Nat} (hj : j.toNatClampNeg = i) (h0 : ¬ j < 0) (hi : i < N) (ge : n0 ≤ a) (hd : decode bytes pc = .ok (.iastore, 1))
    (H : ∀ h', Wr h h' a i (.int x) → Fa Z h' a .int N (up f i (.int x)) → Wk W p l e R s m args below meth c n0 Q h' k n (mkF m (pc + 1) Ls st)) : Wk W p l e R s m args below meth c n0 Q h k n (mkF m pc Ls (.int x :: .int j :: .ref a :: st)) := by
  subst hj
  obtain ⟨cl, A, S, r⟩ := id F; exact Wk.stI C A (inb S h0 hi) ge hd fun h' Wh => H h' Wh (F.set Wh hi)
theorem Wk.fStJ (C : Cx Z p s m meth c y bytes maxL ret) (F : Fa Z h a .long N f) {x : Int64} {i : Nat} (hj : j.toNatClampNeg = i) (h0 : ¬ j < 0) (hi : i < N) (ge : n0 ≤ a) (hd : decode bytes pc = .ok (.lastore, 1))
    (H : ∀ h', Wr h h' a i (.long x) → Fa Z h' a .long N (up f i (.long x)) → Wk W p l e R s m args below meth c n0 Q h' k n (mkF m (pc + 1) Ls st)) : Wk W p l e R s m args below meth c n0 Q h k n (mkF m pc Ls (.long x :: .int j :: .ref a :: st)) := by
  subst hj
  obtain ⟨cl, A, S, r⟩ := id F; exact Wk.stJ C A (inb S h0 hi) ge hd fun h' Wh => H h' Wh (F.set Wh hi)
theorem Wk.fStZ (C : Cx Z p s m meth c y bytes maxL ret) (F : Fa Z h a .boolean N f) {x x' : Int32} (hx : nar .boolean x = x') {i : Nat} (hj : j.toNatClampNeg = i) (h0 : ¬ j < 0) (hi : i < N) (ge : n0 ≤ a) (hd : decode bytes pc = .ok (.bastore, 1))
    (H : ∀ h', Wr h h' a i (.int x') → Fa Z h' a .boolean N (up f i (.int x')) → Wk W p l e R s m args below meth c n0 Q h' k n (mkF m (pc + 1) Ls st)) : Wk W p l e R s m args below meth c n0 Q h k n (mkF m pc Ls (.int x :: .int j :: .ref a :: st)) := by
  subst hx
  subst hj
  obtain ⟨cl, A, S, r⟩ := id F; exact Wk.stZb C A (inb S h0 hi) ge hd fun h' Wh => H h' Wh (F.set Wh hi)
theorem Wk.fStB (C : Cx Z p s m meth c y bytes maxL ret) (F : Fa Z h a .byte N f) {x x' : Int32} (hx : nar .byte x = x') {i : Nat} (hj : j.toNatClampNeg = i) (h0 : ¬ j < 0) (hi : i < N) (ge : n0 ≤ a) (hd : decode bytes pc = .ok (.bastore, 1))
    (H : ∀ h', Wr h h' a i (.int x') → Fa Z h' a .byte N (up f i (.int x')) → Wk W p l e R s m args below meth c n0 Q h' k n (mkF m (pc + 1) Ls st)) : Wk W p l e R s m args below meth c n0 Q h k n (mkF m pc Ls (.int x :: .int j :: .ref a :: st)) := by
  subst hx
  subst hj
  obtain ⟨cl, A, S, r⟩ := id F; exact Wk.stB C A (inb S h0 hi) ge hd fun h' Wh => H h' Wh (F.set Wh hi)
theorem Wk.fStC (C : Cx Z p s m meth c y bytes maxL ret) (F : Fa Z h a .char N f) {x x' : Int32} (hx : nar .char x = x') {i : Nat} (hj : j.toNatClampNeg = i) (h0 : ¬ j < 0) (hi : i < N) (ge : n0 ≤ a) (hd : decode bytes pc = .ok (.castore, 1))
    (H : ∀ h', Wr h h' a i (.int x') → Fa Z h' a .char N (up f i (.int x')) → Wk W p l e R s m args below meth c n0 Q h' k n (mkF m (pc + 1) Ls st)) : Wk W p l e R s m args below meth c n0 Q h k n (mkF m pc Ls (.int x :: .int j :: .ref a :: st)) := by
  subst hx
  subst hj
  obtain ⟨cl, A, S, r⟩ := id F; exact Wk.stC C A (inb S h0 hi) ge hd fun h' Wh => H h' Wh (F.set Wh hi)
theorem Wk.fStO (C : Cx Z p s m meth c y bytes maxL ret) (F : FaO Z h a K N f) {i : Nat} (hj : j.toNatClampNeg = i) (h0 : ¬ j < 0) (hi : i < N) (So : Sto Z h a v) (ge : n0 ≤ a) (hd : decode bytes pc = .ok (.aastore, 1))
    (H : ∀ h', Wr h h' a i v → FaO Z h' a K N (up f i v) → Wk W p l e R s m args below meth c n0 Q h' k n (mkF m (pc + 1) Ls st)) : Wk W p l e R s m args below meth c n0 Q h k n (mkF m pc Ls (v :: .int j :: .ref a :: st)) := by
  subst hj
  obtain ⟨cl, A, O, S, r⟩ := id F; exact Wk.stR C A (inb S h0 hi) rfl So ge hd fun h' Wh => H h' Wh (F.set Wh hi)
theorem Wk.fStA (C : Cx Z p s m meth c y bytes maxL ret) (F : FaA Z h a ty K N f) {i : Nat} (hj : j.toNatClampNeg = i) (h0 : ¬ j < 0) (hi : i < N) (So : Sto Z h a v) (ge : n0 ≤ a) (hd : decode bytes pc = .ok (.aastore, 1))
    (H : ∀ h', Wr h h' a i v → FaA Z h' a ty K N (up f i v) → Wk W p l e R s m args below meth c n0 Q h' k n (mkF m (pc + 1) Ls st)) : Wk W p l e R s m args below meth c n0 Q h k n (mkF m pc Ls (v :: .int j :: .ref a :: st)) := by
  subst hj
  obtain ⟨cl, A, O, S, r⟩ := id F; exact Wk.stR C A (inb S h0 hi) rfl So ge hd fun h' Wh => H h' Wh (F.set Wh hi)
theorem Wk.fNewP (C : Cx Z p s m meth c y bytes maxL ret) {aty : ArrayType} (w : (Cond.arrayClass (newarray.typeOf aty)).before a0 Z = true) {z : Int32} {dv : Value} {ad : String} (hty : newarray.typeOf aty = ty) (hdv : defaultValue ty = dv) (hN : z.toNatClampNeg = N) (had : "[" ++ (newarray.typeOf aty).toString = ad) (hz : ¬ z < 0) {cap : Nat} (hcap : N ≤ cap) (hbig : cap * 8 ≤ 536870912) (hd : decode bytes pc = .ok (.newarray aty, 2)) (hc : k + 1 ≤ R.cells) (hl : n + cap ≤ R.slots)
    (H : ∀ h' a, a = h.size → Ext h h' → Exa Z h' a ad → Fa Z h' a ty N (fun _ => dv) → Wk W p l e R s m args below meth c n0 Q h' (k + 1) (n + cap) (mkF m (pc + 2) Ls (.ref a :: st))) :
    Wk W p l e R s m args below meth c n0 Q h k n (mkF m pc Ls (.int z :: st)) := by
  intro T L vm0 X B eT Nn
  subst hty hdv hN
  obtain ⟨T', h', cA, X', e', E, A, Ex, st⟩ := Jvm.RoadKit.newPE X C.hx (C.wZ B) w eT (g := mkF m pc Ls (.int z :: st)) rfl (hb C.hby hd) rfl hz hcap hbig hc hl had
  obtain ⟨s₂, o, h1, h2⟩ := H h' _ rfl E Ex (Fa.new A) T' L vm0 X' (B.mono E.1) e' Nn
  exact ⟨s₂, o, st _ h1, h2⟩
theorem Wk.fNewA (C : Cx Z p s m meth c y bytes maxL ret) {index : Nat} {z : Int32} {ad : String} (hK : (FieldType.array ty).toString = K) (w1 : (Cond.classLink y.cls index K).before a0 Z = true) (w2 : (Cond.arrayOver (.array ty)).before a0 Z = true) (hN : z.toNatClampNeg = N) (had : "[" ++ K = ad) (hz : ¬ z < 0) {cap : Nat} (hcap : N ≤ cap) (hbig : cap * 8 ≤ 536870912) (hd : decode bytes pc = .ok (.anewarray index, 3)) (hc : k + 1 ≤ R.cells) (hl : n + cap ≤ R.slots)
    (H : ∀ h' a, a = h.size → Ext h h' → Exa Z h' a ad → FaA Z h' a ty K N (fun _ => .null) → Wk W p l e R s m args below meth c n0 Q h' (k + 1) (n + cap) (mkF m (pc + 3) Ls (.ref a :: st))) :
    Wk W p l e R s m args below meth c n0 Q h k n (mkF m pc Ls (.int z :: st)) := by
  intro T L vm0 X B eT Nn
  subst hN
  obtain ⟨T', h', cA, X', e', E, A, Ex, O, st⟩ := Jvm.RoadKit.newRA X C.hx (C.wZ B) (C.wo B) hK w1 w2 eT (g := mkF m pc Ls (.int z :: st)) rfl (hb C.hby hd) rfl hz hcap hbig hc hl had
  obtain ⟨s₂, o, h1, h2⟩ := H h' _ rfl E Ex (FaA.new A O) T' L vm0 X' (B.mono E.1) e' Nn
  exact ⟨s₂, o, st _ h1, h2⟩
theorem Wk.fNewO (C : Cx Z p s m meth c y bytes maxL ret) {index : Nat} {z : Int32} (w1 : (Cond.classLink y.cls index K).before a0 Z = true) (w2 : (Cond.arrayOver (.object K)).before a0 Z = true) (hN : z.toNatClampNeg = N) (hz : ¬ z < 0) {cap : Nat} (hcap : N ≤ cap) (hbig : cap * 8 ≤ 536870912) (hd : decode bytes pc = .ok (.anewarray index, 3)) (hc : k + 1 ≤ R.cells) (hl : n + cap ≤ R.slots)
    (H : ∀ h' a, a = h.size → Ext h h' → FaO Z h' a K N (fun _ => .null) → Wk W p l e R s m args below meth c n0 Q h' (k + 1) (n + cap) (mkF m (pc + 3) Ls (.ref a :: st))) :
    Wk W p l e R s m args below meth c n0 Q h k n (mkF m pc Ls (.int z :: st)) := by
  subst hN
  exact Wk.newR C w1 w2 hz hcap hbig hd hc hl fun h' a cA g E A O => H h' a g E (FaO.new A O)
theorem FaA.sto {f : Nat → Value} (F : FaA Z h a ty K N f) {b : Addr} (E : Exa Z h b K) : Sto Z h a (.ref b) := by obtain ⟨c, A, O, -⟩ := F; exact Sto.ofVA A rfl O (Ins.self E)
end Rules
end Jvm.Own
namespace Jvm.Own
theorem nm0 {a : Nat} : a ∉ ([] : List Nat) := by simp
theorem nmS {a b : Nat} {ws : List Nat} (h : a ≠ b) (t : a ∉ ws) : a ∉ b :: ws := by simp [h, t]
theorem nv0 {P : Nat → Prop} : ∀ x ∈ ([] : List Nat), P x := fun _ q => nomatch q
theorem nvS {P : Nat → Prop} {b : Nat} {ws : List Nat} (h : P b) (t : ∀ x ∈ ws, P x) : ∀ x ∈ b :: ws, P x := fun x q => (List.mem_cons.mp q).elim (fun e => e ▸ h) (t x)
end Jvm.Own
namespace Jvm.Own
open Jvm Jvm.ClassFile Sem Op Lib Jvm.Free Jvm.Stand Jvm.LawKit Jvm.RoadKit
theorem dupX2 {tb : Tables} [Ours tb] {e : Env} {below : List Frame} {T target : State} {m : MethodId} {c : Code} {g : JFrame} (h : At T m c below) (hx : tb.exec = Jvm.exec) (hg : g.method = m) {x y z : Value} {rest : List Value} (hd : decode c.code g.pc = .ok (.dup_x2, 1)) (hs : g.stack = x :: y :: z :: rest) (hc : x.category = 1) (hc2 : y.category = 1) (hc3 : z.category = 1)
    (hr : Steps tb e below (T.setTop { g with pc := g.pc + 1, stack := x :: y :: z :: x :: rest }) target) : Steps tb e below (T.setTop g) target := by
  subst hg
  jvm_step h [h.top, hx, hd, hs, hc, hc2, hc3, dup_x2.wp_sem]
  exact hr
end Jvm.Own
namespace Jvm.Pilot.@@N@@
open Jvm Jvm.ClassFile Sem Op Lib Jvm.Free Jvm.Stand Jvm.LawKit Jvm.RoadKit Bundle Jvm.Own Jvm.Pilot.@@N@@.Jvm.D
theorem pn_0 : plainName "com/example/tripleshelf/tripleshelf/sql/Affinity" = true := by first | (simp [plainName, overriddenIn]; done) | decide +kernel
theorem pn_1 : plainName "com/example/tripleshelf/tripleshelf/sql/AffinityKeepsNumberTextPinLaw" = true := by first | (simp [plainName, overriddenIn]; done) | decide +kernel
theorem pd_0 : parseMethodDescriptor "()Z" = some ⟨[], some .boolean⟩ := by decide +kernel
def Enm (Z : State) (h : Heap) (s_TEXT s_NUMERIC s_INTEGER s_REAL s_BLOB s_OTHER : Addr) : Prop := Sta Z h "com/example/tripleshelf/tripleshelf/sql/Affinity" "TEXT" "Lcom/example/tripleshelf/tripleshelf/sql/Affinity;" (.ref s_TEXT) ∧ Exa Z h s_TEXT "com/example/tripleshelf/tripleshelf/sql/Affinity" ∧ Fld Z h s_TEXT "java/lang/Enum" "ordinal" "I" (.int (0 : Int32)) ∧ Sta Z h "com/example/tripleshelf/tripleshelf/sql/Affinity" "NUMERIC" "Lcom/example/tripleshelf/tripleshelf/sql/Affinity;" (.ref s_NUMERIC) ∧ Exa Z h s_NUMERIC "com/example/tripleshelf/tripleshelf/sql/Affinity" ∧ Fld Z h s_NUMERIC "java/lang/Enum" "ordinal" "I" (.int (1 : Int32)) ∧ Sta Z h "com/example/tripleshelf/tripleshelf/sql/Affinity" "INTEGER" "Lcom/example/tripleshelf/tripleshelf/sql/Affinity;" (.ref s_INTEGER) ∧ Exa Z h s_INTEGER "com/example/tripleshelf/tripleshelf/sql/Affinity" ∧ Fld Z h s_INTEGER "java/lang/Enum" "ordinal" "I" (.int (2 : Int32)) ∧ Sta Z h "com/example/tripleshelf/tripleshelf/sql/Affinity" "REAL" "Lcom/example/tripleshelf/tripleshelf/sql/Affinity;" (.ref s_REAL) ∧ Exa Z h s_REAL "com/example/tripleshelf/tripleshelf/sql/Affinity" ∧ Fld Z h s_REAL "java/lang/Enum" "ordinal" "I" (.int (3 : Int32)) ∧ Sta Z h "com/example/tripleshelf/tripleshelf/sql/Affinity" "BLOB" "Lcom/example/tripleshelf/tripleshelf/sql/Affinity;" (.ref s_BLOB) ∧ Exa Z h s_BLOB "com/example/tripleshelf/tripleshelf/sql/Affinity" ∧ Fld Z h s_BLOB "java/lang/Enum" "ordinal" "I" (.int (4 : Int32)) ∧ Sta Z h "com/example/tripleshelf/tripleshelf/sql/Affinity" "OTHER" "Lcom/example/tripleshelf/tripleshelf/sql/Affinity;" (.ref s_OTHER) ∧ Exa Z h s_OTHER "com/example/tripleshelf/tripleshelf/sql/Affinity" ∧ Fld Z h s_OTHER "java/lang/Enum" "ordinal" "I" (.int (5 : Int32))
theorem en_S_TEXT {Z : State} {h : Heap} {s_TEXT s_NUMERIC s_INTEGER s_REAL s_BLOB s_OTHER : Addr} (H : Enm Z h s_TEXT s_NUMERIC s_INTEGER s_REAL s_BLOB s_OTHER) : Sta Z h "com/example/tripleshelf/tripleshelf/sql/Affinity" "TEXT" "Lcom/example/tripleshelf/tripleshelf/sql/Affinity;" (.ref s_TEXT) := H.1
theorem en_E_TEXT {Z : State} {h : Heap} {s_TEXT s_NUMERIC s_INTEGER s_REAL s_BLOB s_OTHER : Addr} (H : Enm Z h s_TEXT s_NUMERIC s_INTEGER s_REAL s_BLOB s_OTHER) : Exa Z h s_TEXT "com/example/tripleshelf/tripleshelf/sql/Affinity" := H.2.1
theorem en_O_TEXT_ordinal {Z : State} {h : Heap} {s_TEXT s_NUMERIC s_INTEGER s_REAL s_BLOB s_OTHER : Addr} (H : Enm Z h s_TEXT s_NUMERIC s_INTEGER s_REAL s_BLOB s_OTHER) : Fld Z h s_TEXT "java/lang/Enum" "ordinal" "I" (.int (0 : Int32)) := H.2.2.1
theorem en_S_NUMERIC {Z : State} {h : Heap} {s_TEXT s_NUMERIC s_INTEGER s_REAL s_BLOB s_OTHER : Addr} (H : Enm Z h s_TEXT s_NUMERIC s_INTEGER s_REAL s_BLOB s_OTHER) : Sta Z h "com/example/tripleshelf/tripleshelf/sql/Affinity" "NUMERIC" "Lcom/example/tripleshelf/tripleshelf/sql/Affinity;" (.ref s_NUMERIC) := H.2.2.2.1
theorem en_E_NUMERIC {Z : State} {h : Heap} {s_TEXT s_NUMERIC s_INTEGER s_REAL s_BLOB s_OTHER : Addr} (H : Enm Z h s_TEXT s_NUMERIC s_INTEGER s_REAL s_BLOB s_OTHER) : Exa Z h s_NUMERIC "com/example/tripleshelf/tripleshelf/sql/Affinity" := H.2.2.2.2.1
theorem en_O_NUMERIC_ordinal {Z : State} {h : Heap} {s_TEXT s_NUMERIC s_INTEGER s_REAL s_BLOB s_OTHER : Addr} (H : Enm Z h s_TEXT s_NUMERIC s_INTEGER s_REAL s_BLOB s_OTHER) : Fld Z h s_NUMERIC "java/lang/Enum" "ordinal" "I" (.int (1 : Int32)) := H.2.2.2.2.2.1
theorem en_S_INTEGER {Z : State} {h : Heap} {s_TEXT s_NUMERIC s_INTEGER s_REAL s_BLOB s_OTHER : Addr} (H : Enm Z h s_TEXT s_NUMERIC s_INTEGER s_REAL s_BLOB s_OTHER) : Sta Z h "com/example/tripleshelf/tripleshelf/sql/Affinity" "INTEGER" "Lcom/example/tripleshelf/tripleshelf/sql/Affinity;" (.ref s_INTEGER) := H.2.2.2.2.2.2.1
theorem en_E_INTEGER {Z : State} {h : Heap} {s_TEXT s_NUMERIC s_INTEGER s_REAL s_BLOB s_OTHER : Addr} (H : Enm Z h s_TEXT s_NUMERIC s_INTEGER s_REAL s_BLOB s_OTHER) : Exa Z h s_INTEGER "com/example/tripleshelf/tripleshelf/sql/Affinity" := H.2.2.2.2.2.2.2.1
theorem en_O_INTEGER_ordinal {Z : State} {h : Heap} {s_TEXT s_NUMERIC s_INTEGER s_REAL s_BLOB s_OTHER : Addr} (H : Enm Z h s_TEXT s_NUMERIC s_INTEGER s_REAL s_BLOB s_OTHER) : Fld Z h s_INTEGER "java/lang/Enum" "ordinal" "I" (.int (2 : Int32)) := H.2.2.2.2.2.2.2.2.1
theorem en_S_REAL {Z : State} {h : Heap} {s_TEXT s_NUMERIC s_INTEGER s_REAL s_BLOB s_OTHER : Addr} (H : Enm Z h s_TEXT s_NUMERIC s_INTEGER s_REAL s_BLOB s_OTHER) : Sta Z h "com/example/tripleshelf/tripleshelf/sql/Affinity" "REAL" "Lcom/example/tripleshelf/tripleshelf/sql/Affinity;" (.ref s_REAL) := H.2.2.2.2.2.2.2.2.2.1
theorem en_E_REAL {Z : State} {h : Heap} {s_TEXT s_NUMERIC s_INTEGER s_REAL s_BLOB s_OTHER : Addr} (H : Enm Z h s_TEXT s_NUMERIC s_INTEGER s_REAL s_BLOB s_OTHER) : Exa Z h s_REAL "com/example/tripleshelf/tripleshelf/sql/Affinity" := H.2.2.2.2.2.2.2.2.2.2.1
theorem en_O_REAL_ordinal {Z : State} {h : Heap} {s_TEXT s_NUMERIC s_INTEGER s_REAL s_BLOB s_OTHER : Addr} (H : Enm Z h s_TEXT s_NUMERIC s_INTEGER s_REAL s_BLOB s_OTHER) : Fld Z h s_REAL "java/lang/Enum" "ordinal" "I" (.int (3 : Int32)) := H.2.2.2.2.2.2.2.2.2.2.2.1
theorem en_S_BLOB {Z : State} {h : Heap} {s_TEXT s_NUMERIC s_INTEGER s_REAL s_BLOB s_OTHER : Addr} (H : Enm Z h s_TEXT s_NUMERIC s_INTEGER s_REAL s_BLOB s_OTHER) : Sta Z h "com/example/tripleshelf/tripleshelf/sql/Affinity" "BLOB" "Lcom/example/tripleshelf/tripleshelf/sql/Affinity;" (.ref s_BLOB) := H.2.2.2.2.2.2.2.2.2.2.2.2.1
theorem en_E_BLOB {Z : State} {h : Heap} {s_TEXT s_NUMERIC s_INTEGER s_REAL s_BLOB s_OTHER : Addr} (H : Enm Z h s_TEXT s_NUMERIC s_INTEGER s_REAL s_BLOB s_OTHER) : Exa Z h s_BLOB "com/example/tripleshelf/tripleshelf/sql/Affinity" := H.2.2.2.2.2.2.2.2.2.2.2.2.2.1
theorem en_O_BLOB_ordinal {Z : State} {h : Heap} {s_TEXT s_NUMERIC s_INTEGER s_REAL s_BLOB s_OTHER : Addr} (H : Enm Z h s_TEXT s_NUMERIC s_INTEGER s_REAL s_BLOB s_OTHER) : Fld Z h s_BLOB "java/lang/Enum" "ordinal" "I" (.int (4 : Int32)) := H.2.2.2.2.2.2.2.2.2.2.2.2.2.2.1
theorem en_S_OTHER {Z : State} {h : Heap} {s_TEXT s_NUMERIC s_INTEGER s_REAL s_BLOB s_OTHER : Addr} (H : Enm Z h s_TEXT s_NUMERIC s_INTEGER s_REAL s_BLOB s_OTHER) : Sta Z h "com/example/tripleshelf/tripleshelf/sql/Affinity" "OTHER" "Lcom/example/tripleshelf/tripleshelf/sql/Affinity;" (.ref s_OTHER) := H.2.2.2.2.2.2.2.2.2.2.2.2.2.2.2.1
theorem en_E_OTHER {Z : State} {h : Heap} {s_TEXT s_NUMERIC s_INTEGER s_REAL s_BLOB s_OTHER : Addr} (H : Enm Z h s_TEXT s_NUMERIC s_INTEGER s_REAL s_BLOB s_OTHER) : Exa Z h s_OTHER "com/example/tripleshelf/tripleshelf/sql/Affinity" := H.2.2.2.2.2.2.2.2.2.2.2.2.2.2.2.2.1
theorem en_O_OTHER_ordinal {Z : State} {h : Heap} {s_TEXT s_NUMERIC s_INTEGER s_REAL s_BLOB s_OTHER : Addr} (H : Enm Z h s_TEXT s_NUMERIC s_INTEGER s_REAL s_BLOB s_OTHER) : Fld Z h s_OTHER "java/lang/Enum" "ordinal" "I" (.int (5 : Int32)) := H.2.2.2.2.2.2.2.2.2.2.2.2.2.2.2.2.2
theorem Enm.ext {h' : Heap} {Z : State} {h : Heap} {s_TEXT s_NUMERIC s_INTEGER s_REAL s_BLOB s_OTHER : Addr} (H : Enm Z h s_TEXT s_NUMERIC s_INTEGER s_REAL s_BLOB s_OTHER) (E : Ext h h') : Enm Z h' s_TEXT s_NUMERIC s_INTEGER s_REAL s_BLOB s_OTHER := ⟨(en_S_TEXT H).ext E, (en_E_TEXT H).ext E, (en_O_TEXT_ordinal H).ext E, (en_S_NUMERIC H).ext E, (en_E_NUMERIC H).ext E, (en_O_NUMERIC_ordinal H).ext E, (en_S_INTEGER H).ext E, (en_E_INTEGER H).ext E, (en_O_INTEGER_ordinal H).ext E, (en_S_REAL H).ext E, (en_E_REAL H).ext E, (en_O_REAL_ordinal H).ext E, (en_S_BLOB H).ext E, (en_E_BLOB H).ext E, (en_O_BLOB_ordinal H).ext E, (en_S_OTHER H).ext E, (en_E_OTHER H).ext E, (en_O_OTHER_ordinal H).ext E⟩
theorem Enm.wr {h0 h h' : Heap} {a : Addr} {sl : Nat} {v : Value} {Z : State} {s_TEXT s_NUMERIC s_INTEGER s_REAL s_BLOB s_OTHER : Addr} (H0 : Enm Z h0 s_TEXT s_NUMERIC s_INTEGER s_REAL s_BLOB s_OTHER) (q : h0.size ≤ a) (H : Enm Z h s_TEXT s_NUMERIC s_INTEGER s_REAL s_BLOB s_OTHER) (W : Wr h h' a sl v) : Enm Z h' s_TEXT s_NUMERIC s_INTEGER s_REAL s_BLOB s_OTHER := ⟨(en_S_TEXT H).wr W, (en_E_TEXT H).wr W, (en_O_TEXT_ordinal H).other W (Or.inl (Nat.ne_of_lt (Nat.lt_of_lt_of_le (en_E_TEXT H0).lt q))), (en_S_NUMERIC H).wr W, (en_E_NUMERIC H).wr W, (en_O_NUMERIC_ordinal H).other W (Or.inl (Nat.ne_of_lt (Nat.lt_of_lt_of_le (en_E_NUMERIC H0).lt q))), (en_S_INTEGER H).wr W, (en_E_INTEGER H).wr W, (en_O_INTEGER_ordinal H).other W (Or.inl (Nat.ne_of_lt (Nat.lt_of_lt_of_le (en_E_INTEGER H0).lt q))), (en_S_REAL H).wr W, (en_E_REAL H).wr W, (en_O_REAL_ordinal H).other W (Or.inl (Nat.ne_of_lt (Nat.lt_of_lt_of_le (en_E_REAL H0).lt q))), (en_S_BLOB H).wr W, (en_E_BLOB H).wr W, (en_O_BLOB_ordinal H).other W (Or.inl (Nat.ne_of_lt (Nat.lt_of_lt_of_le (en_E_BLOB H0).lt q))), (en_S_OTHER H).wr W, (en_E_OTHER H).wr W, (en_O_OTHER_ordinal H).other W (Or.inl (Nat.ne_of_lt (Nat.lt_of_lt_of_le (en_E_OTHER H0).lt q)))⟩
theorem d1_0 : decode prog_18_method_5_code 0 = .ok (.aload_n 0, 1) := by decide +kernel
theorem d1_1 : decode prog_18_method_5_code 1 = .ok (.getstatic 3, 3) := by decide +kernel
theorem d1_4 : decode prog_18_method_5_code 4 = .ok (.if_acmp .eq 10, 3) := by decide +kernel
theorem d1_7 : decode prog_18_method_5_code 7 = .ok (.aload_n 0, 1) := by decide +kernel
theorem d1_8 : decode prog_18_method_5_code 8 = .ok (.getstatic 16, 3) := by decide +kernel
theorem d1_11 : decode prog_18_method_5_code 11 = .ok (.if_acmp .ne 7, 3) := by decide +kernel
theorem d1_14 : decode prog_18_method_5_code 14 = .ok (.iconst 1, 1) := by decide +kernel
theorem d1_15 : decode prog_18_method_5_code 15 = .ok (.goto 4, 3) := by decide +kernel
theorem d1_18 : decode prog_18_method_5_code 18 = .ok (.iconst 0, 1) := by decide +kernel
theorem d1_19 : decode prog_18_method_5_code 19 = .ok (.ireturn, 1) := by decide +kernel
set_option maxRecDepth 65536 in
set_option maxHeartbeats 40000000 in
theorem own_m1_0 (l : Launch) (Z : State) (a0 : Array Value) (hw : ∀ d ∈ tables_1, d.before a0 Z = true) (n0 : Nat) (h0 : Heap) (s_TEXT s_NUMERIC s_INTEGER s_REAL s_BLOB s_OTHER : Addr) (EN : Enm Z h0 s_TEXT s_NUMERIC s_INTEGER s_REAL s_BLOB s_OTHER) :
    Met false l Z n0 (⟨"com/example/tripleshelf/tripleshelf/sql/Affinity", "keepsNumberText", "()Z"⟩ : MethodName) prog_18_method_5_code 1 (some .boolean) ({ frames := 0, cells := 0, slots := 0, locals := 0 } : Room) #[(.ref s_TEXT)] h0 (fun v h => v = some (.int (1 : Int32)) ∧ h0 = h) := by
  refine Met.of pn_0 #[.val (.ref s_TEXT)] (fun m => by first | (simp [entryFrame, mkF, argsToLocals, Value.category]; done) | rfl) ?_
  intro p e s m below meth c C
  refine Wk.st (g' := (mkF m 1 #[.val (.ref s_TEXT)] [(.ref s_TEXT)])) (fun X t q => XS.aloadN X.here C.hx rfl (hb C.hby d1_0) rfl rfl q) ?_
  refine Wk.getS C (hw _ (List.mem_of_getElem? (i := 23) rfl)) (en_S_TEXT EN) d1_1 ?_
  show Wk _ p l e _ s m _ below meth c n0 _ h0 0 0 (mkF m 4 #[.val (.ref s_TEXT)] [(.ref s_TEXT), (.ref s_TEXT)])
  refine Wk.st (g' := (mkF m 14 #[.val (.ref s_TEXT)] [])) (fun X t q => Jvm.RoadKit.acmp (g := (mkF m 4 #[.val (.ref s_TEXT)] [(.ref s_TEXT), (.ref s_TEXT)])) X C.hx rfl rfl rfl (pc0 := 4) (pc' := 14) (same := true) rfl (hb C.hby d1_4) rfl (decide_eq_true (congrArg Value.ref rfl)) (by decide) (by decide) q) ?_
  refine Wk.st (g' := (mkF m 15 #[.val (.ref s_TEXT)] [(.int (1 : Int32))])) (fun X t q => XS.iconst X.here C.hx rfl (hb C.hby d1_14) q) ?_
  refine Wk.st (g' := (mkF m 19 #[.val (.ref s_TEXT)] [(.int (1 : Int32))])) (fun X t q => XS.goto X.here C.hx rfl (pc0 := 15) (pc' := 19) rfl (hb C.hby d1_15) (by decide) (by decide) q) ?_
  exact Wk.retV C (t := .boolean) rfl rfl (Or.inl ⟨rfl, by simp, _, rfl⟩) d1_19 (by decide) (by decide) ⟨rfl, rfl⟩
set_option maxRecDepth 65536 in
set_option maxHeartbeats 40000000 in
theorem own_m1_1 (l : Launch) (Z : State) (a0 : Array Value) (hw : ∀ d ∈ tables_1, d.before a0 Z = true) (n0 : Nat) (h0 : Heap) (s_TEXT s_NUMERIC s_INTEGER s_REAL s_BLOB s_OTHER : Addr) (EN : Enm Z h0 s_TEXT s_NUMERIC s_INTEGER s_REAL s_BLOB s_OTHER) :
    Met false l Z n0 (⟨"com/example/tripleshelf/tripleshelf/sql/Affinity", "keepsNumberText", "()Z"⟩ : MethodName) prog_18_method_5_code 1 (some .boolean) ({ frames := 0, cells := 0, slots := 0, locals := 0 } : Room) #[(.ref s_NUMERIC)] h0 (fun v h => v = some (.int (0 : Int32)) ∧ h0 = h) := by
  refine Met.of pn_0 #[.val (.ref s_NUMERIC)] (fun m => by first | (simp [entryFrame, mkF, argsToLocals, Value.category]; done) | rfl) ?_
  intro p e s m below meth c C
  refine Wk.st (g' := (mkF m 1 #[.val (.ref s_NUMERIC)] [(.ref s_NUMERIC)])) (fun X t q => XS.aloadN X.here C.hx rfl (hb C.hby d1_0) rfl rfl q) ?_
  refine Wk.getS C (hw _ (List.mem_of_getElem? (i := 23) rfl)) (en_S_TEXT EN) d1_1 ?_
  show Wk _ p l e _ s m _ below meth c n0 _ h0 0 0 (mkF m 4 #[.val (.ref s_NUMERIC)] [(.ref s_TEXT), (.ref s_NUMERIC)])
  refine Wk.st (g' := (mkF m 7 #[.val (.ref s_NUMERIC)] [])) (fun X t q => Jvm.RoadKit.acmp (g := (mkF m 4 #[.val (.ref s_NUMERIC)] [(.ref s_TEXT), (.ref s_NUMERIC)])) X C.hx rfl rfl rfl (pc0 := 4) (pc' := 7) (same := false) rfl (hb C.hby d1_4) rfl (decide_eq_false fun q => (ne_fld (en_O_NUMERIC_ordinal EN) (en_O_TEXT_ordinal EN) (by decide)) (Value.ref.inj q)) (by decide) (by decide) q) ?_
  refine Wk.st (g' := (mkF m 8 #[.val (.ref s_NUMERIC)] [(.ref s_NUMERIC)])) (fun X t q => XS.aloadN X.here C.hx rfl (hb C.hby d1_7) rfl rfl q) ?_
  refine Wk.getS C (hw _ (List.mem_of_getElem? (i := 24) rfl)) (en_S_BLOB EN) d1_8 ?_
  show Wk _ p l e _ s m _ below meth c n0 _ h0 0 0 (mkF m 11 #[.val (.ref s_NUMERIC)] [(.ref s_BLOB), (.ref s_NUMERIC)])
  refine Wk.st (g' := (mkF m 18 #[.val (.ref s_NUMERIC)] [])) (fun X t q => Jvm.RoadKit.acmp (g := (mkF m 11 #[.val (.ref s_NUMERIC)] [(.ref s_BLOB), (.ref s_NUMERIC)])) X C.hx rfl rfl rfl (pc0 := 11) (pc' := 18) (same := false) rfl (hb C.hby d1_11) rfl (decide_eq_false fun q => (ne_fld (en_O_NUMERIC_ordinal EN) (en_O_BLOB_ordinal EN) (by decide)) (Value.ref.inj q)) (by decide) (by decide) q) ?_
  refine Wk.st (g' := (mkF m 19 #[.val (.ref s_NUMERIC)] [(.int (0 : Int32))])) (fun X t q => XS.iconst X.here C.hx rfl (hb C.hby d1_18) q) ?_
  exact Wk.retV C (t := .boolean) rfl rfl (Or.inl ⟨rfl, by simp, _, rfl⟩) d1_19 (by decide) (by decide) ⟨rfl, rfl⟩
set_option maxRecDepth 65536 in
set_option maxHeartbeats 40000000 in
theorem own_m1_2 (l : Launch) (Z : State) (a0 : Array Value) (hw : ∀ d ∈ tables_1, d.before a0 Z = true) (n0 : Nat) (h0 : Heap) (s_TEXT s_NUMERIC s_INTEGER s_REAL s_BLOB s_OTHER : Addr) (EN : Enm Z h0 s_TEXT s_NUMERIC s_INTEGER s_REAL s_BLOB s_OTHER) :
    Met false l Z n0 (⟨"com/example/tripleshelf/tripleshelf/sql/Affinity", "keepsNumberText", "()Z"⟩ : MethodName) prog_18_method_5_code 1 (some .boolean) ({ frames := 0, cells := 0, slots := 0, locals := 0 } : Room) #[(.ref s_INTEGER)] h0 (fun v h => v = some (.int (0 : Int32)) ∧ h0 = h) := by
  refine Met.of pn_0 #[.val (.ref s_INTEGER)] (fun m => by first | (simp [entryFrame, mkF, argsToLocals, Value.category]; done) | rfl) ?_
  intro p e s m below meth c C
  refine Wk.st (g' := (mkF m 1 #[.val (.ref s_INTEGER)] [(.ref s_INTEGER)])) (fun X t q => XS.aloadN X.here C.hx rfl (hb C.hby d1_0) rfl rfl q) ?_
  refine Wk.getS C (hw _ (List.mem_of_getElem? (i := 23) rfl)) (en_S_TEXT EN) d1_1 ?_
  show Wk _ p l e _ s m _ below meth c n0 _ h0 0 0 (mkF m 4 #[.val (.ref s_INTEGER)] [(.ref s_TEXT), (.ref s_INTEGER)])
  refine Wk.st (g' := (mkF m 7 #[.val (.ref s_INTEGER)] [])) (fun X t q => Jvm.RoadKit.acmp (g := (mkF m 4 #[.val (.ref s_INTEGER)] [(.ref s_TEXT), (.ref s_INTEGER)])) X C.hx rfl rfl rfl (pc0 := 4) (pc' := 7) (same := false) rfl (hb C.hby d1_4) rfl (decide_eq_false fun q => (ne_fld (en_O_INTEGER_ordinal EN) (en_O_TEXT_ordinal EN) (by decide)) (Value.ref.inj q)) (by decide) (by decide) q) ?_
  refine Wk.st (g' := (mkF m 8 #[.val (.ref s_INTEGER)] [(.ref s_INTEGER)])) (fun X t q => XS.aloadN X.here C.hx rfl (hb C.hby d1_7) rfl rfl q) ?_
  refine Wk.getS C (hw _ (List.mem_of_getElem? (i := 24) rfl)) (en_S_BLOB EN) d1_8 ?_
  show Wk _ p l e _ s m _ below meth c n0 _ h0 0 0 (mkF m 11 #[.val (.ref s_INTEGER)] [(.ref s_BLOB), (.ref s_INTEGER)])
  refine Wk.st (g' := (mkF m 18 #[.val (.ref s_INTEGER)] [])) (fun X t q => Jvm.RoadKit.acmp (g := (mkF m 11 #[.val (.ref s_INTEGER)] [(.ref s_BLOB), (.ref s_INTEGER)])) X C.hx rfl rfl rfl (pc0 := 11) (pc' := 18) (same := false) rfl (hb C.hby d1_11) rfl (decide_eq_false fun q => (ne_fld (en_O_INTEGER_ordinal EN) (en_O_BLOB_ordinal EN) (by decide)) (Value.ref.inj q)) (by decide) (by decide) q) ?_
  refine Wk.st (g' := (mkF m 19 #[.val (.ref s_INTEGER)] [(.int (0 : Int32))])) (fun X t q => XS.iconst X.here C.hx rfl (hb C.hby d1_18) q) ?_
  exact Wk.retV C (t := .boolean) rfl rfl (Or.inl ⟨rfl, by simp, _, rfl⟩) d1_19 (by decide) (by decide) ⟨rfl, rfl⟩
set_option maxRecDepth 65536 in
set_option maxHeartbeats 40000000 in
theorem own_m1_3 (l : Launch) (Z : State) (a0 : Array Value) (hw : ∀ d ∈ tables_1, d.before a0 Z = true) (n0 : Nat) (h0 : Heap) (s_TEXT s_NUMERIC s_INTEGER s_REAL s_BLOB s_OTHER : Addr) (EN : Enm Z h0 s_TEXT s_NUMERIC s_INTEGER s_REAL s_BLOB s_OTHER) :
    Met false l Z n0 (⟨"com/example/tripleshelf/tripleshelf/sql/Affinity", "keepsNumberText", "()Z"⟩ : MethodName) prog_18_method_5_code 1 (some .boolean) ({ frames := 0, cells := 0, slots := 0, locals := 0 } : Room) #[(.ref s_REAL)] h0 (fun v h => v = some (.int (0 : Int32)) ∧ h0 = h) := by
  refine Met.of pn_0 #[.val (.ref s_REAL)] (fun m => by first | (simp [entryFrame, mkF, argsToLocals, Value.category]; done) | rfl) ?_
  intro p e s m below meth c C
  refine Wk.st (g' := (mkF m 1 #[.val (.ref s_REAL)] [(.ref s_REAL)])) (fun X t q => XS.aloadN X.here C.hx rfl (hb C.hby d1_0) rfl rfl q) ?_
  refine Wk.getS C (hw _ (List.mem_of_getElem? (i := 23) rfl)) (en_S_TEXT EN) d1_1 ?_
  show Wk _ p l e _ s m _ below meth c n0 _ h0 0 0 (mkF m 4 #[.val (.ref s_REAL)] [(.ref s_TEXT), (.ref s_REAL)])
  refine Wk.st (g' := (mkF m 7 #[.val (.ref s_REAL)] [])) (fun X t q => Jvm.RoadKit.acmp (g := (mkF m 4 #[.val (.ref s_REAL)] [(.ref s_TEXT), (.ref s_REAL)])) X C.hx rfl rfl rfl (pc0 := 4) (pc' := 7) (same := false) rfl (hb C.hby d1_4) rfl (decide_eq_false fun q => (ne_fld (en_O_REAL_ordinal EN) (en_O_TEXT_ordinal EN) (by decide)) (Value.ref.inj q)) (by decide) (by decide) q) ?_
  refine Wk.st (g' := (mkF m 8 #[.val (.ref s_REAL)] [(.ref s_REAL)])) (fun X t q => XS.aloadN X.here C.hx rfl (hb C.hby d1_7) rfl rfl q) ?_
  refine Wk.getS C (hw _ (List.mem_of_getElem? (i := 24) rfl)) (en_S_BLOB EN) d1_8 ?_
  show Wk _ p l e _ s m _ below meth c n0 _ h0 0 0 (mkF m 11 #[.val (.ref s_REAL)] [(.ref s_BLOB), (.ref s_REAL)])
  refine Wk.st (g' := (mkF m 18 #[.val (.ref s_REAL)] [])) (fun X t q => Jvm.RoadKit.acmp (g := (mkF m 11 #[.val (.ref s_REAL)] [(.ref s_BLOB), (.ref s_REAL)])) X C.hx rfl rfl rfl (pc0 := 11) (pc' := 18) (same := false) rfl (hb C.hby d1_11) rfl (decide_eq_false fun q => (ne_fld (en_O_REAL_ordinal EN) (en_O_BLOB_ordinal EN) (by decide)) (Value.ref.inj q)) (by decide) (by decide) q) ?_
  refine Wk.st (g' := (mkF m 19 #[.val (.ref s_REAL)] [(.int (0 : Int32))])) (fun X t q => XS.iconst X.here C.hx rfl (hb C.hby d1_18) q) ?_
  exact Wk.retV C (t := .boolean) rfl rfl (Or.inl ⟨rfl, by simp, _, rfl⟩) d1_19 (by decide) (by decide) ⟨rfl, rfl⟩
set_option maxRecDepth 65536 in
set_option maxHeartbeats 40000000 in
theorem own_m1_4 (l : Launch) (Z : State) (a0 : Array Value) (hw : ∀ d ∈ tables_1, d.before a0 Z = true) (n0 : Nat) (h0 : Heap) (s_TEXT s_NUMERIC s_INTEGER s_REAL s_BLOB s_OTHER : Addr) (EN : Enm Z h0 s_TEXT s_NUMERIC s_INTEGER s_REAL s_BLOB s_OTHER) :
    Met false l Z n0 (⟨"com/example/tripleshelf/tripleshelf/sql/Affinity", "keepsNumberText", "()Z"⟩ : MethodName) prog_18_method_5_code 1 (some .boolean) ({ frames := 0, cells := 0, slots := 0, locals := 0 } : Room) #[(.ref s_BLOB)] h0 (fun v h => v = some (.int (1 : Int32)) ∧ h0 = h) := by
  refine Met.of pn_0 #[.val (.ref s_BLOB)] (fun m => by first | (simp [entryFrame, mkF, argsToLocals, Value.category]; done) | rfl) ?_
  intro p e s m below meth c C
  refine Wk.st (g' := (mkF m 1 #[.val (.ref s_BLOB)] [(.ref s_BLOB)])) (fun X t q => XS.aloadN X.here C.hx rfl (hb C.hby d1_0) rfl rfl q) ?_
  refine Wk.getS C (hw _ (List.mem_of_getElem? (i := 23) rfl)) (en_S_TEXT EN) d1_1 ?_
  show Wk _ p l e _ s m _ below meth c n0 _ h0 0 0 (mkF m 4 #[.val (.ref s_BLOB)] [(.ref s_TEXT), (.ref s_BLOB)])
  refine Wk.st (g' := (mkF m 7 #[.val (.ref s_BLOB)] [])) (fun X t q => Jvm.RoadKit.acmp (g := (mkF m 4 #[.val (.ref s_BLOB)] [(.ref s_TEXT), (.ref s_BLOB)])) X C.hx rfl rfl rfl (pc0 := 4) (pc' := 7) (same := false) rfl (hb C.hby d1_4) rfl (decide_eq_false fun q => (ne_fld (en_O_BLOB_ordinal EN) (en_O_TEXT_ordinal EN) (by decide)) (Value.ref.inj q)) (by decide) (by decide) q) ?_
  refine Wk.st (g' := (mkF m 8 #[.val (.ref s_BLOB)] [(.ref s_BLOB)])) (fun X t q => XS.aloadN X.here C.hx rfl (hb C.hby d1_7) rfl rfl q) ?_
  refine Wk.getS C (hw _ (List.mem_of_getElem? (i := 24) rfl)) (en_S_BLOB EN) d1_8 ?_
  show Wk _ p l e _ s m _ below meth c n0 _ h0 0 0 (mkF m 11 #[.val (.ref s_BLOB)] [(.ref s_BLOB), (.ref s_BLOB)])
  refine Wk.st (g' := (mkF m 14 #[.val (.ref s_BLOB)] [])) (fun X t q => Jvm.RoadKit.acmp (g := (mkF m 11 #[.val (.ref s_BLOB)] [(.ref s_BLOB), (.ref s_BLOB)])) X C.hx rfl rfl rfl (pc0 := 11) (pc' := 14) (same := true) rfl (hb C.hby d1_11) rfl (decide_eq_true (congrArg Value.ref rfl)) (by decide) (by decide) q) ?_
  refine Wk.st (g' := (mkF m 15 #[.val (.ref s_BLOB)] [(.int (1 : Int32))])) (fun X t q => XS.iconst X.here C.hx rfl (hb C.hby d1_14) q) ?_
  refine Wk.st (g' := (mkF m 19 #[.val (.ref s_BLOB)] [(.int (1 : Int32))])) (fun X t q => XS.goto X.here C.hx rfl (pc0 := 15) (pc' := 19) rfl (hb C.hby d1_15) (by decide) (by decide) q) ?_
  exact Wk.retV C (t := .boolean) rfl rfl (Or.inl ⟨rfl, by simp, _, rfl⟩) d1_19 (by decide) (by decide) ⟨rfl, rfl⟩
set_option maxRecDepth 65536 in
set_option maxHeartbeats 40000000 in
theorem own_m1_5 (l : Launch) (Z : State) (a0 : Array Value) (hw : ∀ d ∈ tables_1, d.before a0 Z = true) (n0 : Nat) (h0 : Heap) (s_TEXT s_NUMERIC s_INTEGER s_REAL s_BLOB s_OTHER : Addr) (EN : Enm Z h0 s_TEXT s_NUMERIC s_INTEGER s_REAL s_BLOB s_OTHER) :
    Met false l Z n0 (⟨"com/example/tripleshelf/tripleshelf/sql/Affinity", "keepsNumberText", "()Z"⟩ : MethodName) prog_18_method_5_code 1 (some .boolean) ({ frames := 0, cells := 0, slots := 0, locals := 0 } : Room) #[(.ref s_OTHER)] h0 (fun v h => v = some (.int (0 : Int32)) ∧ h0 = h) := by
  refine Met.of pn_0 #[.val (.ref s_OTHER)] (fun m => by first | (simp [entryFrame, mkF, argsToLocals, Value.category]; done) | rfl) ?_
  intro p e s m below meth c C
  refine Wk.st (g' := (mkF m 1 #[.val (.ref s_OTHER)] [(.ref s_OTHER)])) (fun X t q => XS.aloadN X.here C.hx rfl (hb C.hby d1_0) rfl rfl q) ?_
  refine Wk.getS C (hw _ (List.mem_of_getElem? (i := 23) rfl)) (en_S_TEXT EN) d1_1 ?_
  show Wk _ p l e _ s m _ below meth c n0 _ h0 0 0 (mkF m 4 #[.val (.ref s_OTHER)] [(.ref s_TEXT), (.ref s_OTHER)])
  refine Wk.st (g' := (mkF m 7 #[.val (.ref s_OTHER)] [])) (fun X t q => Jvm.RoadKit.acmp (g := (mkF m 4 #[.val (.ref s_OTHER)] [(.ref s_TEXT), (.ref s_OTHER)])) X C.hx rfl rfl rfl (pc0 := 4) (pc' := 7) (same := false) rfl (hb C.hby d1_4) rfl (decide_eq_false fun q => (ne_fld (en_O_OTHER_ordinal EN) (en_O_TEXT_ordinal EN) (by decide)) (Value.ref.inj q)) (by decide) (by decide) q) ?_
  refine Wk.st (g' := (mkF m 8 #[.val (.ref s_OTHER)] [(.ref s_OTHER)])) (fun X t q => XS.aloadN X.here C.hx rfl (hb C.hby d1_7) rfl rfl q) ?_
  refine Wk.getS C (hw _ (List.mem_of_getElem? (i := 24) rfl)) (en_S_BLOB EN) d1_8 ?_
  show Wk _ p l e _ s m _ below meth c n0 _ h0 0 0 (mkF m 11 #[.val (.ref s_OTHER)] [(.ref s_BLOB), (.ref s_OTHER)])
  refine Wk.st (g' := (mkF m 18 #[.val (.ref s_OTHER)] [])) (fun X t q => Jvm.RoadKit.acmp (g := (mkF m 11 #[.val (.ref s_OTHER)] [(.ref s_BLOB), (.ref s_OTHER)])) X C.hx rfl rfl rfl (pc0 := 11) (pc' := 18) (same := false) rfl (hb C.hby d1_11) rfl (decide_eq_false fun q => (ne_fld (en_O_OTHER_ordinal EN) (en_O_BLOB_ordinal EN) (by decide)) (Value.ref.inj q)) (by decide) (by decide) q) ?_
  refine Wk.st (g' := (mkF m 19 #[.val (.ref s_OTHER)] [(.int (0 : Int32))])) (fun X t q => XS.iconst X.here C.hx rfl (hb C.hby d1_18) q) ?_
  exact Wk.retV C (t := .boolean) rfl rfl (Or.inl ⟨rfl, by simp, _, rfl⟩) d1_19 (by decide) (by decide) ⟨rfl, rfl⟩
set_option maxRecDepth 65536 in
set_option maxHeartbeats 40000000 in
theorem law_met (l : Launch) (Z : State) (a0 : Array Value) (hw : ∀ d ∈ tables_1, d.before a0 Z = true) (n0 : Nat) (h0 : Heap) (i0 : Int32) (hsz : n0 ≤ h0.size) (s_TEXT s_NUMERIC s_INTEGER s_REAL s_BLOB s_OTHER : Addr) (EN : Enm Z h0 s_TEXT s_NUMERIC s_INTEGER s_REAL s_BLOB s_OTHER) :
    Met false l Z n0 x code maxLocals ret room_1 #[(.int i0)] h0 (fun v _ => v = some (.int 1) ∧ True) := by
  refine Met.of pn_1 #[.val (.int i0), .unset, .unset, .unset] (fun m => by first | (simp [entryFrame, mkF, argsToLocals, Value.category, maxLocals]; done) | rfl) ?_
  intro p e s m below meth c C
  refine Wk.st (g' := (mkF m 1 #[.val (.int i0), .unset, .unset, .unset] [(.int i0)])) (fun X t q => XS.iloadN X.here C.hx rfl (hb C.hby at_0) rfl q) ?_
  refine Wk.ldcI C (hw _ (List.mem_of_getElem? (i := 0) rfl)) at_1 ?_
  show Wk _ p l e _ s m _ below meth c n0 _ h0 0 0 (mkF m 3 #[.val (.int i0), .unset, .unset, .unset] [(.int (2147483647 : Int32)), (.int i0)])
  refine Wk.st (g' := (mkF m 4 #[.val (.int i0), .unset, .unset, .unset] [(.int (i0 &&& (2147483647 : Int32)))])) (fun X t q => XS.iand X.here C.hx rfl (hb C.hby at_3) rfl q) ?_
  refine Wk.st (g' := (mkF m 6 #[.val (.int i0), .unset, .unset, .unset] [(.int (6 : Int32)), (.int (i0 &&& (2147483647 : Int32)))])) (fun X t q => XS.bipush X.here C.hx rfl (hb C.hby at_4) q) ?_
  refine Wk.st (g' := (mkF m 7 #[.val (.int i0), .unset, .unset, .unset] [(.int ((i0 &&& (2147483647 : Int32)) % (6 : Int32)))])) (fun X t q => iremM X C.hx rfl (hb C.hby at_6) rfl (by decide) q) ?_
  refine Wk.st (g' := (mkF m 8 #[.val (.int i0), .val (.int ((i0 &&& (2147483647 : Int32)) % (6 : Int32))), .unset, .unset] [])) (fun X t q => XS.istoreN X.here C.hx rfl (hb C.hby at_7) rfl (l' := #[.val (.int i0), .val (.int ((i0 &&& (2147483647 : Int32)) % (6 : Int32))), .unset, .unset]) rfl q) ?_
  refine Wk.st (g' := (mkF m 10 #[.val (.int i0), .val (.int ((i0 &&& (2147483647 : Int32)) % (6 : Int32))), .unset, .unset] [(.int (6 : Int32))])) (fun X t q => XS.bipush X.here C.hx rfl (hb C.hby at_8) q) ?_
  refine Wk.fNewO C (K := "com/example/tripleshelf/tripleshelf/sql/Affinity") (N := 6) (hw _ (List.mem_of_getElem? (i := 1) rfl)) (hw _ (List.mem_of_getElem? (i := 2) rfl)) (by decide) (by decide) (cap := 6) (by decide) (by decide) at_10 (by decide) (by decide) ?_
  intro h1 b2 g3 E4 F5
  have ge6 : n0 ≤ b2 := Nat.le_trans hsz (Nat.le_of_eq g3.symm)
  have gz7 : h0.size ≤ b2 := Nat.le_trans (Nat.le_refl _) (Nat.le_of_eq g3.symm)
  have sz8 : n0 ≤ h1.size := Nat.le_trans hsz E4.1
  have sy9 : h0.size ≤ h1.size := Nat.le_trans (Nat.le_refl _) E4.1
  have EN10 := EN.ext E4
  show Wk _ p l e _ s m _ below meth c n0 _ h1 1 6 (mkF m 13 #[.val (.int i0), .val (.int ((i0 &&& (2147483647 : Int32)) % (6 : Int32))), .unset, .unset] [(.ref b2)])
  refine Wk.st (g' := (mkF m 14 #[.val (.int i0), .val (.int ((i0 &&& (2147483647 : Int32)) % (6 : Int32))), .unset, .unset] [(.ref b2), (.ref b2)])) (fun X t q => XS.dup X.here C.hx rfl (hb C.hby at_13) rfl rfl q) ?_
  refine Wk.st (g' := (mkF m 15 #[.val (.int i0), .val (.int ((i0 &&& (2147483647 : Int32)) % (6 : Int32))), .unset, .unset] [(.int (0 : Int32)), (.ref b2), (.ref b2)])) (fun X t q => XS.iconst X.here C.hx rfl (hb C.hby at_14) q) ?_
  refine Wk.getS C (hw _ (List.mem_of_getElem? (i := 3) rfl)) (en_S_TEXT EN10) at_15 ?_
  show Wk _ p l e _ s m _ below meth c n0 _ h1 1 6 (mkF m 18 #[.val (.int i0), .val (.int ((i0 &&& (2147483647 : Int32)) % (6 : Int32))), .unset, .unset] [(.ref s_TEXT), (.int (0 : Int32)), (.ref b2), (.ref b2)])
  refine Wk.fStO C F5 (i := 0) (by decide) (by decide) (by decide) (F5.sto (en_E_TEXT EN10)) ge6 at_18 ?_
  intro h11 W12 F13
  have sz14 : n0 ≤ h11.size := Nat.le_trans sz8 (Nat.le_of_eq W12.size.symm)
  have sy15 : h0.size ≤ h11.size := Nat.le_trans sy9 (Nat.le_of_eq W12.size.symm)
  have EN16 := Enm.wr EN gz7 EN10 W12
  show Wk _ p l e _ s m _ below meth c n0 _ h11 1 6 (mkF m 19 #[.val (.int i0), .val (.int ((i0 &&& (2147483647 : Int32)) % (6 : Int32))), .unset, .unset] [(.ref b2)])
  refine Wk.st (g' := (mkF m 20 #[.val (.int i0), .val (.int ((i0 &&& (2147483647 : Int32)) % (6 : Int32))), .unset, .unset] [(.ref b2), (.ref b2)])) (fun X t q => XS.dup X.here C.hx rfl (hb C.hby at_19) rfl rfl q) ?_
  refine Wk.st (g' := (mkF m 21 #[.val (.int i0), .val (.int ((i0 &&& (2147483647 : Int32)) % (6 : Int32))), .unset, .unset] [(.int (1 : Int32)), (.ref b2), (.ref b2)])) (fun X t q => XS.iconst X.here C.hx rfl (hb C.hby at_20) q) ?_
  refine Wk.getS C (hw _ (List.mem_of_getElem? (i := 7) rfl)) (en_S_NUMERIC EN16) at_21 ?_
  show Wk _ p l e _ s m _ below meth c n0 _ h11 1 6 (mkF m 24 #[.val (.int i0), .val (.int ((i0 &&& (2147483647 : Int32)) % (6 : Int32))), .unset, .unset] [(.ref s_NUMERIC), (.int (1 : Int32)), (.ref b2), (.ref b2)])
  refine Wk.fStO C F13 (i := 1) (by decide) (by decide) (by decide) (F13.sto (en_E_NUMERIC EN16)) ge6 at_24 ?_
  intro h17 W18 F19
  have sz20 : n0 ≤ h17.size := Nat.le_trans sz14 (Nat.le_of_eq W18.size.symm)
  have sy21 : h0.size ≤ h17.size := Nat.le_trans sy15 (Nat.le_of_eq W18.size.symm)
  have EN22 := Enm.wr EN gz7 EN16 W18
  show Wk _ p l e _ s m _ below meth c n0 _ h17 1 6 (mkF m 25 #[.val (.int i0), .val (.int ((i0 &&& (2147483647 : Int32)) % (6 : Int32))), .unset, .unset] [(.ref b2)])
  refine Wk.st (g' := (mkF m 26 #[.val (.int i0), .val (.int ((i0 &&& (2147483647 : Int32)) % (6 : Int32))), .unset, .unset] [(.ref b2), (.ref b2)])) (fun X t q => XS.dup X.here C.hx rfl (hb C.hby at_25) rfl rfl q) ?_
  refine Wk.st (g' := (mkF m 27 #[.val (.int i0), .val (.int ((i0 &&& (2147483647 : Int32)) % (6 : Int32))), .unset, .unset] [(.int (2 : Int32)), (.ref b2), (.ref b2)])) (fun X t q => XS.iconst X.here C.hx rfl (hb C.hby at_26) q) ?_
  refine Wk.getS C (hw _ (List.mem_of_getElem? (i := 9) rfl)) (en_S_INTEGER EN22) at_27 ?_
  show Wk _ p l e _ s m _ below meth c n0 _ h17 1 6 (mkF m 30 #[.val (.int i0), .val (.int ((i0 &&& (2147483647 : Int32)) % (6 : Int32))), .unset, .unset] [(.ref s_INTEGER), (.int (2 : Int32)), (.ref b2), (.ref b2)])
  refine Wk.fStO C F19 (i := 2) (by decide) (by decide) (by decide) (F19.sto (en_E_INTEGER EN22)) ge6 at_30 ?_
  intro h23 W24 F25
  have sz26 : n0 ≤ h23.size := Nat.le_trans sz20 (Nat.le_of_eq W24.size.symm)
  have sy27 : h0.size ≤ h23.size := Nat.le_trans sy21 (Nat.le_of_eq W24.size.symm)
  have EN28 := Enm.wr EN gz7 EN22 W24
  show Wk _ p l e _ s m _ below meth c n0 _ h23 1 6 (mkF m 31 #[.val (.int i0), .val (.int ((i0 &&& (2147483647 : Int32)) % (6 : Int32))), .unset, .unset] [(.ref b2)])
  refine Wk.st (g' := (mkF m 32 #[.val (.int i0), .val (.int ((i0 &&& (2147483647 : Int32)) % (6 : Int32))), .unset, .unset] [(.ref b2), (.ref b2)])) (fun X t q => XS.dup X.here C.hx rfl (hb C.hby at_31) rfl rfl q) ?_
  refine Wk.st (g' := (mkF m 33 #[.val (.int i0), .val (.int ((i0 &&& (2147483647 : Int32)) % (6 : Int32))), .unset, .unset] [(.int (3 : Int32)), (.ref b2), (.ref b2)])) (fun X t q => XS.iconst X.here C.hx rfl (hb C.hby at_32) q) ?_
  refine Wk.getS C (hw _ (List.mem_of_getElem? (i := 11) rfl)) (en_S_REAL EN28) at_33 ?_
  show Wk _ p l e _ s m _ below meth c n0 _ h23 1 6 (mkF m 36 #[.val (.int i0), .val (.int ((i0 &&& (2147483647 : Int32)) % (6 : Int32))), .unset, .unset] [(.ref s_REAL), (.int (3 : Int32)), (.ref b2), (.ref b2)])
  refine Wk.fStO C F25 (i := 3) (by decide) (by decide) (by decide) (F25.sto (en_E_REAL EN28)) ge6 at_36 ?_
  intro h29 W30 F31
  have sz32 : n0 ≤ h29.size := Nat.le_trans sz26 (Nat.le_of_eq W30.size.symm)
  have sy33 : h0.size ≤ h29.size := Nat.le_trans sy27 (Nat.le_of_eq W30.size.symm)
  have EN34 := Enm.wr EN gz7 EN28 W30
  show Wk _ p l e _ s m _ below meth c n0 _ h29 1 6 (mkF m 37 #[.val (.int i0), .val (.int ((i0 &&& (2147483647 : Int32)) % (6 : Int32))), .unset, .unset] [(.ref b2)])
  refine Wk.st (g' := (mkF m 38 #[.val (.int i0), .val (.int ((i0 &&& (2147483647 : Int32)) % (6 : Int32))), .unset, .unset] [(.ref b2), (.ref b2)])) (fun X t q => XS.dup X.here C.hx rfl (hb C.hby at_37) rfl rfl q) ?_
  refine Wk.st (g' := (mkF m 39 #[.val (.int i0), .val (.int ((i0 &&& (2147483647 : Int32)) % (6 : Int32))), .unset, .unset] [(.int (4 : Int32)), (.ref b2), (.ref b2)])) (fun X t q => XS.iconst X.here C.hx rfl (hb C.hby at_38) q) ?_
  refine Wk.getS C (hw _ (List.mem_of_getElem? (i := 13) rfl)) (en_S_BLOB EN34) at_39 ?_
  show Wk _ p l e _ s m _ below meth c n0 _ h29 1 6 (mkF m 42 #[.val (.int i0), .val (.int ((i0 &&& (2147483647 : Int32)) % (6 : Int32))), .unset, .unset] [(.ref s_BLOB), (.int (4 : Int32)), (.ref b2), (.ref b2)])
  refine Wk.fStO C F31 (i := 4) (by decide) (by decide) (by decide) (F31.sto (en_E_BLOB EN34)) ge6 at_42 ?_
  intro h35 W36 F37
  have sz38 : n0 ≤ h35.size := Nat.le_trans sz32 (Nat.le_of_eq W36.size.symm)
  have sy39 : h0.size ≤ h35.size := Nat.le_trans sy33 (Nat.le_of_eq W36.size.symm)
  have EN40 := Enm.wr EN gz7 EN34 W36
  show Wk _ p l e _ s m _ below meth c n0 _ h35 1 6 (mkF m 43 #[.val (.int i0), .val (.int ((i0 &&& (2147483647 : Int32)) % (6 : Int32))), .unset, .unset] [(.ref b2)])
  refine Wk.st (g' := (mkF m 44 #[.val (.int i0), .val (.int ((i0 &&& (2147483647 : Int32)) % (6 : Int32))), .unset, .unset] [(.ref b2), (.ref b2)])) (fun X t q => XS.dup X.here C.hx rfl (hb C.hby at_43) rfl rfl q) ?_
  refine Wk.st (g' := (mkF m 45 #[.val (.int i0), .val (.int ((i0 &&& (2147483647 : Int32)) % (6 : Int32))), .unset, .unset] [(.int (5 : Int32)), (.ref b2), (.ref b2)])) (fun X t q => XS.iconst X.here C.hx rfl (hb C.hby at_44) q) ?_
  refine Wk.getS C (hw _ (List.mem_of_getElem? (i := 15) rfl)) (en_S_OTHER EN40) at_45 ?_
  show Wk _ p l e _ s m _ below meth c n0 _ h35 1 6 (mkF m 48 #[.val (.int i0), .val (.int ((i0 &&& (2147483647 : Int32)) % (6 : Int32))), .unset, .unset] [(.ref s_OTHER), (.int (5 : Int32)), (.ref b2), (.ref b2)])
  refine Wk.fStO C F37 (i := 5) (by decide) (by decide) (by decide) (F37.sto (en_E_OTHER EN40)) ge6 at_48 ?_
  intro h41 W42 F43
  have sz44 : n0 ≤ h41.size := Nat.le_trans sz38 (Nat.le_of_eq W42.size.symm)
  have sy45 : h0.size ≤ h41.size := Nat.le_trans sy39 (Nat.le_of_eq W42.size.symm)
  have EN46 := Enm.wr EN gz7 EN40 W42
  show Wk _ p l e _ s m _ below meth c n0 _ h41 1 6 (mkF m 49 #[.val (.int i0), .val (.int ((i0 &&& (2147483647 : Int32)) % (6 : Int32))), .unset, .unset] [(.ref b2)])
  refine Wk.st (g' := (mkF m 50 #[.val (.int i0), .val (.int ((i0 &&& (2147483647 : Int32)) % (6 : Int32))), .val (.ref b2), .unset] [])) (fun X t q => XS.astoreN X.here C.hx rfl (hb C.hby at_49) rfl rfl (l' := #[.val (.int i0), .val (.int ((i0 &&& (2147483647 : Int32)) % (6 : Int32))), .val (.ref b2), .unset]) rfl q) ?_
  refine Wk.st (g' := (mkF m 52 #[.val (.int i0), .val (.int ((i0 &&& (2147483647 : Int32)) % (6 : Int32))), .val (.ref b2), .unset] [(.int (6 : Int32))])) (fun X t q => XS.bipush X.here C.hx rfl (hb C.hby at_50) q) ?_
  refine Wk.fNewP C (hw _ (List.mem_of_getElem? (i := 17) rfl)) (ty := .boolean) (dv := (.int (0 : Int32))) (N := 6) (ad := "[Z") rfl rfl (by decide) (by decide) (by decide) (cap := 6) (by decide) (by decide) at_52 (by decide) (by decide) ?_
  intro h47 b48 g49 E50 A51 F52
  have ne53 : b2 ≠ b48 := Nat.ne_of_lt (Nat.lt_of_lt_of_le F43.lt (Nat.le_of_eq g49.symm))
  have ge54 : n0 ≤ b48 := Nat.le_trans sz44 (Nat.le_of_eq g49.symm)
  have gz55 : h0.size ≤ b48 := Nat.le_trans sy45 (Nat.le_of_eq g49.symm)
  have F56 : FaO Z h47 b2 "com/example/tripleshelf/tripleshelf/sql/Affinity" 6 (up (up (up (up (up (up (fun _ => .null) 0 (.ref s_TEXT)) 1 (.ref s_NUMERIC)) 2 (.ref s_INTEGER)) 3 (.ref s_REAL)) 4 (.ref s_BLOB)) 5 (.ref s_OTHER)) := F43.ext E50
  have sz57 : n0 ≤ h47.size := Nat.le_trans sz44 E50.1
  have sy58 : h0.size ≤ h47.size := Nat.le_trans sy45 E50.1
  have EN59 := EN46.ext E50
  show Wk _ p l e _ s m _ below meth c n0 _ h47 2 12 (mkF m 54 #[.val (.int i0), .val (.int ((i0 &&& (2147483647 : Int32)) % (6 : Int32))), .val (.ref b2), .unset] [(.ref b48)])
  refine Wk.st (g' := (mkF m 55 #[.val (.int i0), .val (.int ((i0 &&& (2147483647 : Int32)) % (6 : Int32))), .val (.ref b2), .unset] [(.ref b48), (.ref b48)])) (fun X t q => XS.dup X.here C.hx rfl (hb C.hby at_54) rfl rfl q) ?_
  refine Wk.st (g' := (mkF m 56 #[.val (.int i0), .val (.int ((i0 &&& (2147483647 : Int32)) % (6 : Int32))), .val (.ref b2), .unset] [(.int (0 : Int32)), (.ref b48), (.ref b48)])) (fun X t q => XS.iconst X.here C.hx rfl (hb C.hby at_55) q) ?_
  refine Wk.st (g' := (mkF m 57 #[.val (.int i0), .val (.int ((i0 &&& (2147483647 : Int32)) % (6 : Int32))), .val (.ref b2), .unset] [(.int (1 : Int32)), (.int (0 : Int32)), (.ref b48), (.ref b48)])) (fun X t q => XS.iconst X.here C.hx rfl (hb C.hby at_56) q) ?_
  refine Wk.fStZ C F52 (x' := (1 : Int32)) (by decide) (i := 0) (by decide) (by decide) (by decide) ge54 at_57 ?_
  intro h60 W61 F62
  have F63 : FaO Z h60 b2 "com/example/tripleshelf/tripleshelf/sql/Affinity" 6 (up (up (up (up (up (up (fun _ => .null) 0 (.ref s_TEXT)) 1 (.ref s_NUMERIC)) 2 (.ref s_INTEGER)) 3 (.ref s_REAL)) 4 (.ref s_BLOB)) 5 (.ref s_OTHER)) := F56.other W61 ne53
  have F64 : Exa Z h60 b48 "[Z" := A51.wr W61
  have sz65 : n0 ≤ h60.size := Nat.le_trans sz57 (Nat.le_of_eq W61.size.symm)
  have sy66 : h0.size ≤ h60.size := Nat.le_trans sy58 (Nat.le_of_eq W61.size.symm)
  have EN67 := Enm.wr EN gz55 EN59 W61
  show Wk _ p l e _ s m _ below meth c n0 _ h60 2 12 (mkF m 58 #[.val (.int i0), .val (.int ((i0 &&& (2147483647 : Int32)) % (6 : Int32))), .val (.ref b2), .unset] [(.ref b48)])
  refine Wk.st (g' := (mkF m 59 #[.val (.int i0), .val (.int ((i0 &&& (2147483647 : Int32)) % (6 : Int32))), .val (.ref b2), .unset] [(.ref b48), (.ref b48)])) (fun X t q => XS.dup X.here C.hx rfl (hb C.hby at_58) rfl rfl q) ?_
  refine Wk.st (g' := (mkF m 60 #[.val (.int i0), .val (.int ((i0 &&& (2147483647 : Int32)) % (6 : Int32))), .val (.ref b2), .unset] [(.int (1 : Int32)), (.ref b48), (.ref b48)])) (fun X t q => XS.iconst X.here C.hx rfl (hb C.hby at_59) q) ?_
  refine Wk.st (g' := (mkF m 61 #[.val (.int i0), .val (.int ((i0 &&& (2147483647 : Int32)) % (6 : Int32))), .val (.ref b2), .unset] [(.int (0 : Int32)), (.int (1 : Int32)), (.ref b48), (.ref b48)])) (fun X t q => XS.iconst X.here C.hx rfl (hb C.hby at_60) q) ?_
  refine Wk.fStZ C F62 (x' := (0 : Int32)) (by decide) (i := 1) (by decide) (by decide) (by decide) ge54 at_61 ?_
  intro h68 W69 F70
  have F71 : FaO Z h68 b2 "com/example/tripleshelf/tripleshelf/sql/Affinity" 6 (up (up (up (up (up (up (fun _ => .null) 0 (.ref s_TEXT)) 1 (.ref s_NUMERIC)) 2 (.ref s_INTEGER)) 3 (.ref s_REAL)) 4 (.ref s_BLOB)) 5 (.ref s_OTHER)) := F63.other W69 ne53
  have F72 : Exa Z h68 b48 "[Z" := F64.wr W69
  have sz73 : n0 ≤ h68.size := Nat.le_trans sz65 (Nat.le_of_eq W69.size.symm)
  have sy74 : h0.size ≤ h68.size := Nat.le_trans sy66 (Nat.le_of_eq W69.size.symm)
  have EN75 := Enm.wr EN gz55 EN67 W69
  show Wk _ p l e _ s m _ below meth c n0 _ h68 2 12 (mkF m 62 #[.val (.int i0), .val (.int ((i0 &&& (2147483647 : Int32)) % (6 : Int32))), .val (.ref b2), .unset] [(.ref b48)])
  refine Wk.st (g' := (mkF m 63 #[.val (.int i0), .val (.int ((i0 &&& (2147483647 : Int32)) % (6 : Int32))), .val (.ref b2), .unset] [(.ref b48), (.ref b48)])) (fun X t q => XS.dup X.here C.hx rfl (hb C.hby at_62) rfl rfl q) ?_
  refine Wk.st (g' := (mkF m 64 #[.val (.int i0), .val (.int ((i0 &&& (2147483647 : Int32)) % (6 : Int32))), .val (.ref b2), .unset] [(.int (2 : Int32)), (.ref b48), (.ref b48)])) (fun X t q => XS.iconst X.here C.hx rfl (hb C.hby at_63) q) ?_
  refine Wk.st (g' := (mkF m 65 #[.val (.int i0), .val (.int ((i0 &&& (2147483647 : Int32)) % (6 : Int32))), .val (.ref b2), .unset] [(.int (0 : Int32)), (.int (2 : Int32)), (.ref b48), (.ref b48)])) (fun X t q => XS.iconst X.here C.hx rfl (hb C.hby at_64) q) ?_
  refine Wk.fStZ C F70 (x' := (0 : Int32)) (by decide) (i := 2) (by decide) (by decide) (by decide) ge54 at_65 ?_
  intro h76 W77 F78
  have F79 : FaO Z h76 b2 "com/example/tripleshelf/tripleshelf/sql/Affinity" 6 (up (up (up (up (up (up (fun _ => .null) 0 (.ref s_TEXT)) 1 (.ref s_NUMERIC)) 2 (.ref s_INTEGER)) 3 (.ref s_REAL)) 4 (.ref s_BLOB)) 5 (.ref s_OTHER)) := F71.other W77 ne53
  have F80 : Exa Z h76 b48 "[Z" := F72.wr W77
  have sz81 : n0 ≤ h76.size := Nat.le_trans sz73 (Nat.le_of_eq W77.size.symm)
  have sy82 : h0.size ≤ h76.size := Nat.le_trans sy74 (Nat.le_of_eq W77.size.symm)
  have EN83 := Enm.wr EN gz55 EN75 W77
  show Wk _ p l e _ s m _ below meth c n0 _ h76 2 12 (mkF m 66 #[.val (.int i0), .val (.int ((i0 &&& (2147483647 : Int32)) % (6 : Int32))), .val (.ref b2), .unset] [(.ref b48)])
  refine Wk.st (g' := (mkF m 67 #[.val (.int i0), .val (.int ((i0 &&& (2147483647 : Int32)) % (6 : Int32))), .val (.ref b2), .unset] [(.ref b48), (.ref b48)])) (fun X t q => XS.dup X.here C.hx rfl (hb C.hby at_66) rfl rfl q) ?_
  refine Wk.st (g' := (mkF m 68 #[.val (.int i0), .val (.int ((i0 &&& (2147483647 : Int32)) % (6 : Int32))), .val (.ref b2), .unset] [(.int (3 : Int32)), (.ref b48), (.ref b48)])) (fun X t q => XS.iconst X.here C.hx rfl (hb C.hby at_67) q) ?_
  refine Wk.st (g' := (mkF m 69 #[.val (.int i0), .val (.int ((i0 &&& (2147483647 : Int32)) % (6 : Int32))), .val (.ref b2), .unset] [(.int (0 : Int32)), (.int (3 : Int32)), (.ref b48), (.ref b48)])) (fun X t q => XS.iconst X.here C.hx rfl (hb C.hby at_68) q) ?_
  refine Wk.fStZ C F78 (x' := (0 : Int32)) (by decide) (i := 3) (by decide) (by decide) (by decide) ge54 at_69 ?_
  intro h84 W85 F86
  have F87 : FaO Z h84 b2 "com/example/tripleshelf/tripleshelf/sql/Affinity" 6 (up (up (up (up (up (up (fun _ => .null) 0 (.ref s_TEXT)) 1 (.ref s_NUMERIC)) 2 (.ref s_INTEGER)) 3 (.ref s_REAL)) 4 (.ref s_BLOB)) 5 (.ref s_OTHER)) := F79.other W85 ne53
  have F88 : Exa Z h84 b48 "[Z" := F80.wr W85
  have sz89 : n0 ≤ h84.size := Nat.le_trans sz81 (Nat.le_of_eq W85.size.symm)
  have sy90 : h0.size ≤ h84.size := Nat.le_trans sy82 (Nat.le_of_eq W85.size.symm)
  have EN91 := Enm.wr EN gz55 EN83 W85
  show Wk _ p l e _ s m _ below meth c n0 _ h84 2 12 (mkF m 70 #[.val (.int i0), .val (.int ((i0 &&& (2147483647 : Int32)) % (6 : Int32))), .val (.ref b2), .unset] [(.ref b48)])
  refine Wk.st (g' := (mkF m 71 #[.val (.int i0), .val (.int ((i0 &&& (2147483647 : Int32)) % (6 : Int32))), .val (.ref b2), .unset] [(.ref b48), (.ref b48)])) (fun X t q => XS.dup X.here C.hx rfl (hb C.hby at_70) rfl rfl q) ?_
  refine Wk.st (g' := (mkF m 72 #[.val (.int i0), .val (.int ((i0 &&& (2147483647 : Int32)) % (6 : Int32))), .val (.ref b2), .unset] [(.int (4 : Int32)), (.ref b48), (.ref b48)])) (fun X t q => XS.iconst X.here C.hx rfl (hb C.hby at_71) q) ?_
  refine Wk.st (g' := (mkF m 73 #[.val (.int i0), .val (.int ((i0 &&& (2147483647 : Int32)) % (6 : Int32))), .val (.ref b2), .unset] [(.int (1 : Int32)), (.int (4 : Int32)), (.ref b48), (.ref b48)])) (fun X t q => XS.iconst X.here C.hx rfl (hb C.hby at_72) q) ?_
  refine Wk.fStZ C F86 (x' := (1 : Int32)) (by decide) (i := 4) (by decide) (by decide) (by decide) ge54 at_73 ?_
  intro h92 W93 F94
  have F95 : FaO Z h92 b2 "com/example/tripleshelf/tripleshelf/sql/Affinity" 6 (up (up (up (up (up (up (fun _ => .null) 0 (.ref s_TEXT)) 1 (.ref s_NUMERIC)) 2 (.ref s_INTEGER)) 3 (.ref s_REAL)) 4 (.ref s_BLOB)) 5 (.ref s_OTHER)) := F87.other W93 ne53
  have F96 : Exa Z h92 b48 "[Z" := F88.wr W93
  have sz97 : n0 ≤ h92.size := Nat.le_trans sz89 (Nat.le_of_eq W93.size.symm)
  have sy98 : h0.size ≤ h92.size := Nat.le_trans sy90 (Nat.le_of_eq W93.size.symm)
  have EN99 := Enm.wr EN gz55 EN91 W93
  show Wk _ p l e _ s m _ below meth c n0 _ h92 2 12 (mkF m 74 #[.val (.int i0), .val (.int ((i0 &&& (2147483647 : Int32)) % (6 : Int32))), .val (.ref b2), .unset] [(.ref b48)])
  refine Wk.st (g' := (mkF m 75 #[.val (.int i0), .val (.int ((i0 &&& (2147483647 : Int32)) % (6 : Int32))), .val (.ref b2), .unset] [(.ref b48), (.ref b48)])) (fun X t q => XS.dup X.here C.hx rfl (hb C.hby at_74) rfl rfl q) ?_
  refine Wk.st (g' := (mkF m 76 #[.val (.int i0), .val (.int ((i0 &&& (2147483647 : Int32)) % (6 : Int32))), .val (.ref b2), .unset] [(.int (5 : Int32)), (.ref b48), (.ref b48)])) (fun X t q => XS.iconst X.here C.hx rfl (hb C.hby at_75) q) ?_
  refine Wk.st (g' := (mkF m 77 #[.val (.int i0), .val (.int ((i0 &&& (2147483647 : Int32)) % (6 : Int32))), .val (.ref b2), .unset] [(.int (0 : Int32)), (.int (5 : Int32)), (.ref b48), (.ref b48)])) (fun X t q => XS.iconst X.here C.hx rfl (hb C.hby at_76) q) ?_
  refine Wk.fStZ C F94 (x' := (0 : Int32)) (by decide) (i := 5) (by decide) (by decide) (by decide) ge54 at_77 ?_
  intro h100 W101 F102
  have F103 : FaO Z h100 b2 "com/example/tripleshelf/tripleshelf/sql/Affinity" 6 (up (up (up (up (up (up (fun _ => .null) 0 (.ref s_TEXT)) 1 (.ref s_NUMERIC)) 2 (.ref s_INTEGER)) 3 (.ref s_REAL)) 4 (.ref s_BLOB)) 5 (.ref s_OTHER)) := F95.other W101 ne53
  have F104 : Exa Z h100 b48 "[Z" := F96.wr W101
  have sz105 : n0 ≤ h100.size := Nat.le_trans sz97 (Nat.le_of_eq W101.size.symm)
  have sy106 : h0.size ≤ h100.size := Nat.le_trans sy98 (Nat.le_of_eq W101.size.symm)
  have EN107 := Enm.wr EN gz55 EN99 W101
  show Wk _ p l e _ s m _ below meth c n0 _ h100 2 12 (mkF m 78 #[.val (.int i0), .val (.int ((i0 &&& (2147483647 : Int32)) % (6 : Int32))), .val (.ref b2), .unset] [(.ref b48)])
  refine Wk.st (g' := (mkF m 79 #[.val (.int i0), .val (.int ((i0 &&& (2147483647 : Int32)) % (6 : Int32))), .val (.ref b2), .val (.ref b48)] [])) (fun X t q => XS.astoreN X.here C.hx rfl (hb C.hby at_78) rfl rfl (l' := #[.val (.int i0), .val (.int ((i0 &&& (2147483647 : Int32)) % (6 : Int32))), .val (.ref b2), .val (.ref b48)]) rfl q) ?_
  rcases mod6 i0 with hi_i0 | hi_i0 | hi_i0 | hi_i0 | hi_i0 | hi_i0 <;> rw [hi_i0]
  · skip
    show Wk _ p l e _ s m _ below meth c n0 _ h100 2 12 (mkF m 79 #[.val (.int i0), .val (.int (0 : Int32)), .val (.ref b2), .val (.ref b48)] [])
    refine Wk.st (g' := (mkF m 80 #[.val (.int i0), .val (.int (0 : Int32)), .val (.ref b2), .val (.ref b48)] [(.ref b2)])) (fun X t q => XS.aloadN X.here C.hx rfl (hb C.hby at_79) rfl rfl q) ?_
    refine Wk.st (g' := (mkF m 81 #[.val (.int i0), .val (.int (0 : Int32)), .val (.ref b2), .val (.ref b48)] [(.int (0 : Int32)), (.ref b2)])) (fun X t q => XS.iloadN X.here C.hx rfl (hb C.hby at_80) rfl q) ?_
    refine Wk.fLdO C F103 (i := 0) (by decide) (by decide) (by decide) (v := (.ref s_TEXT)) (by simp [up]) at_81 ?_
    show Wk _ p l e _ s m _ below meth c n0 _ h100 2 12 (mkF m 82 #[.val (.int i0), .val (.int (0 : Int32)), .val (.ref b2), .val (.ref b48)] [(.ref s_TEXT)])
    refine Wk.callV C (x := (⟨"com/example/tripleshelf/tripleshelf/sql/Affinity", "keepsNumberText", "()Z"⟩ : MethodName)) (z := (⟨"com/example/tripleshelf/tripleshelf/sql/Affinity", "keepsNumberText", "()Z"⟩ : MethodName)) (K := "com/example/tripleshelf/tripleshelf/sql/Affinity") (hw _ (List.mem_of_getElem? (i := 18) rfl)) (hw _ (List.mem_of_getElem? (i := 19) rfl)) (hw _ (List.mem_of_getElem? (i := 21) rfl)) (hw _ (List.mem_of_getElem? (i := 20) rfl)) (hw _ (List.mem_of_getElem? (i := 4) rfl)) (hw _ (List.mem_of_getElem? (i := 22) rfl)) (by decide) (fun s' hZ' => notFace_of_selects (args := #[]) (mvT hZ' (hw _ (List.mem_of_getElem? (i := 21) rfl)))) (en_E_TEXT EN107) (own_m1_0 l Z a0 hw n0 h100 s_TEXT s_NUMERIC s_INTEGER s_REAL s_BLOB s_OTHER EN107 ) (w := 0) (by decide) (by decide) pd_0 rfl (rest := []) rfl rfl (by decide) (by decide) (by decide) at_82 ?_
    rintro _ _ ⟨rfl, rfl⟩
    show Wk _ p l e _ s m _ below meth c n0 _ h100 2 12 (mkF m 85 #[.val (.int i0), .val (.int (0 : Int32)), .val (.ref b2), .val (.ref b48)] [(.int (1 : Int32))])
    refine Wk.st (g' := (mkF m 86 #[.val (.int i0), .val (.int (0 : Int32)), .val (.ref b2), .val (.ref b48)] [(.ref b48), (.int (1 : Int32))])) (fun X t q => XS.aloadN X.here C.hx rfl (hb C.hby at_85) rfl rfl q) ?_
    refine Wk.st (g' := (mkF m 87 #[.val (.int i0), .val (.int (0 : Int32)), .val (.ref b2), .val (.ref b48)] [(.int (0 : Int32)), (.ref b48), (.int (1 : Int32))])) (fun X t q => XS.iloadN X.here C.hx rfl (hb C.hby at_86) rfl q) ?_
    refine Wk.fLdZ C F102 (i := 0) (by decide) (by decide) (by decide) (v := (.int (1 : Int32))) (by simp [up]) at_87 ?_
    show Wk _ p l e _ s m _ below meth c n0 _ h100 2 12 (mkF m 88 #[.val (.int i0), .val (.int (0 : Int32)), .val (.ref b2), .val (.ref b48)] [(.int (1 : Int32)), (.int (1 : Int32))])
    refine Wk.st (g' := (mkF m 91 #[.val (.int i0), .val (.int (0 : Int32)), .val (.ref b2), .val (.ref b48)] [])) (fun X t q => XS.icmpNo X.here C.hx rfl (hb C.hby at_88) rfl (XT.ii_ne_f (by decide)) q) ?_
    refine Wk.st (g' := (mkF m 92 #[.val (.int i0), .val (.int (0 : Int32)), .val (.ref b2), .val (.ref b48)] [(.int (1 : Int32))])) (fun X t q => XS.iconst X.here C.hx rfl (hb C.hby at_91) q) ?_
    refine Wk.st (g' := (mkF m 96 #[.val (.int i0), .val (.int (0 : Int32)), .val (.ref b2), .val (.ref b48)] [(.int (1 : Int32))])) (fun X t q => XS.goto X.here C.hx rfl (pc0 := 92) (pc' := 96) rfl (hb C.hby at_92) (by decide) (by decide) q) ?_
    exact Wk.retV C (t := .boolean) rfl rfl (Or.inl ⟨rfl, by simp, _, rfl⟩) at_96 (by decide) (by decide) ⟨rfl, trivial⟩
  · skip
    show Wk _ p l e _ s m _ below meth c n0 _ h100 2 12 (mkF m 79 #[.val (.int i0), .val (.int (1 : Int32)), .val (.ref b2), .val (.ref b48)] [])
    refine Wk.st (g' := (mkF m 80 #[.val (.int i0), .val (.int (1 : Int32)), .val (.ref b2), .val (.ref b48)] [(.ref b2)])) (fun X t q => XS.aloadN X.here C.hx rfl (hb C.hby at_79) rfl rfl q) ?_
    refine Wk.st (g' := (mkF m 81 #[.val (.int i0), .val (.int (1 : Int32)), .val (.ref b2), .val (.ref b48)] [(.int (1 : Int32)), (.ref b2)])) (fun X t q => XS.iloadN X.here C.hx rfl (hb C.hby at_80) rfl q) ?_
    refine Wk.fLdO C F103 (i := 1) (by decide) (by decide) (by decide) (v := (.ref s_NUMERIC)) (by simp [up]) at_81 ?_
    show Wk _ p l e _ s m _ below meth c n0 _ h100 2 12 (mkF m 82 #[.val (.int i0), .val (.int (1 : Int32)), .val (.ref b2), .val (.ref b48)] [(.ref s_NUMERIC)])
    refine Wk.callV C (x := (⟨"com/example/tripleshelf/tripleshelf/sql/Affinity", "keepsNumberText", "()Z"⟩ : MethodName)) (z := (⟨"com/example/tripleshelf/tripleshelf/sql/Affinity", "keepsNumberText", "()Z"⟩ : MethodName)) (K := "com/example/tripleshelf/tripleshelf/sql/Affinity") (hw _ (List.mem_of_getElem? (i := 18) rfl)) (hw _ (List.mem_of_getElem? (i := 19) rfl)) (hw _ (List.mem_of_getElem? (i := 21) rfl)) (hw _ (List.mem_of_getElem? (i := 20) rfl)) (hw _ (List.mem_of_getElem? (i := 4) rfl)) (hw _ (List.mem_of_getElem? (i := 22) rfl)) (by decide) (fun s' hZ' => notFace_of_selects (args := #[]) (mvT hZ' (hw _ (List.mem_of_getElem? (i := 21) rfl)))) (en_E_NUMERIC EN107) (own_m1_1 l Z a0 hw n0 h100 s_TEXT s_NUMERIC s_INTEGER s_REAL s_BLOB s_OTHER EN107 ) (w := 0) (by decide) (by decide) pd_0 rfl (rest := []) rfl rfl (by decide) (by decide) (by decide) at_82 ?_
    rintro _ _ ⟨rfl, rfl⟩
    show Wk _ p l e _ s m _ below meth c n0 _ h100 2 12 (mkF m 85 #[.val (.int i0), .val (.int (1 : Int32)), .val (.ref b2), .val (.ref b48)] [(.int (0 : Int32))])
    refine Wk.st (g' := (mkF m 86 #[.val (.int i0), .val (.int (1 : Int32)), .val (.ref b2), .val (.ref b48)] [(.ref b48), (.int (0 : Int32))])) (fun X t q => XS.aloadN X.here C.hx rfl (hb C.hby at_85) rfl rfl q) ?_
    refine Wk.st (g' := (mkF m 87 #[.val (.int i0), .val (.int (1 : Int32)), .val (.ref b2), .val (.ref b48)] [(.int (1 : Int32)), (.ref b48), (.int (0 : Int32))])) (fun X t q => XS.iloadN X.here C.hx rfl (hb C.hby at_86) rfl q) ?_
    refine Wk.fLdZ C F102 (i := 1) (by decide) (by decide) (by decide) (v := (.int (0 : Int32))) (by simp [up]) at_87 ?_
    show Wk _ p l e _ s m _ below meth c n0 _ h100 2 12 (mkF m 88 #[.val (.int i0), .val (.int (1 : Int32)), .val (.ref b2), .val (.ref b48)] [(.int (0 : Int32)), (.int (0 : Int32))])
    refine Wk.st (g' := (mkF m 91 #[.val (.int i0), .val (.int (1 : Int32)), .val (.ref b2), .val (.ref b48)] [])) (fun X t q => XS.icmpNo X.here C.hx rfl (hb C.hby at_88) rfl (XT.ii_ne_f (by decide)) q) ?_
    refine Wk.st (g' := (mkF m 92 #[.val (.int i0), .val (.int (1 : Int32)), .val (.ref b2), .val (.ref b48)] [(.int (1 : Int32))])) (fun X t q => XS.iconst X.here C.hx rfl (hb C.hby at_91) q) ?_
    refine Wk.st (g' := (mkF m 96 #[.val (.int i0), .val (.int (1 : Int32)), .val (.ref b2), .val (.ref b48)] [(.int (1 : Int32))])) (fun X t q => XS.goto X.here C.hx rfl (pc0 := 92) (pc' := 96) rfl (hb C.hby at_92) (by decide) (by decide) q) ?_
    exact Wk.retV C (t := .boolean) rfl rfl (Or.inl ⟨rfl, by simp, _, rfl⟩) at_96 (by decide) (by decide) ⟨rfl, trivial⟩
  · skip
    show Wk _ p l e _ s m _ below meth c n0 _ h100 2 12 (mkF m 79 #[.val (.int i0), .val (.int (2 : Int32)), .val (.ref b2), .val (.ref b48)] [])
    refine Wk.st (g' := (mkF m 80 #[.val (.int i0), .val (.int (2 : Int32)), .val (.ref b2), .val (.ref b48)] [(.ref b2)])) (fun X t q => XS.aloadN X.here C.hx rfl (hb C.hby at_79) rfl rfl q) ?_
    refine Wk.st (g' := (mkF m 81 #[.val (.int i0), .val (.int (2 : Int32)), .val (.ref b2), .val (.ref b48)] [(.int (2 : Int32)), (.ref b2)])) (fun X t q => XS.iloadN X.here C.hx rfl (hb C.hby at_80) rfl q) ?_
    refine Wk.fLdO C F103 (i := 2) (by decide) (by decide) (by decide) (v := (.ref s_INTEGER)) (by simp [up]) at_81 ?_
    show Wk _ p l e _ s m _ below meth c n0 _ h100 2 12 (mkF m 82 #[.val (.int i0), .val (.int (2 : Int32)), .val (.ref b2), .val (.ref b48)] [(.ref s_INTEGER)])
    refine Wk.callV C (x := (⟨"com/example/tripleshelf/tripleshelf/sql/Affinity", "keepsNumberText", "()Z"⟩ : MethodName)) (z := (⟨"com/example/tripleshelf/tripleshelf/sql/Affinity", "keepsNumberText", "()Z"⟩ : MethodName)) (K := "com/example/tripleshelf/tripleshelf/sql/Affinity") (hw _ (List.mem_of_getElem? (i := 18) rfl)) (hw _ (List.mem_of_getElem? (i := 19) rfl)) (hw _ (List.mem_of_getElem? (i := 21) rfl)) (hw _ (List.mem_of_getElem? (i := 20) rfl)) (hw _ (List.mem_of_getElem? (i := 4) rfl)) (hw _ (List.mem_of_getElem? (i := 22) rfl)) (by decide) (fun s' hZ' => notFace_of_selects (args := #[]) (mvT hZ' (hw _ (List.mem_of_getElem? (i := 21) rfl)))) (en_E_INTEGER EN107) (own_m1_2 l Z a0 hw n0 h100 s_TEXT s_NUMERIC s_INTEGER s_REAL s_BLOB s_OTHER EN107 ) (w := 0) (by decide) (by decide) pd_0 rfl (rest := []) rfl rfl (by decide) (by decide) (by decide) at_82 ?_
    rintro _ _ ⟨rfl, rfl⟩
    show Wk _ p l e _ s m _ below meth c n0 _ h100 2 12 (mkF m 85 #[.val (.int i0), .val (.int (2 : Int32)), .val (.ref b2), .val (.ref b48)] [(.int (0 : Int32))])
    refine Wk.st (g' := (mkF m 86 #[.val (.int i0), .val (.int (2 : Int32)), .val (.ref b2), .val (.ref b48)] [(.ref b48), (.int (0 : Int32))])) (fun X t q => XS.aloadN X.here C.hx rfl (hb C.hby at_85) rfl rfl q) ?_
    refine Wk.st (g' := (mkF m 87 #[.val (.int i0), .val (.int (2 : Int32)), .val (.ref b2), .val (.ref b48)] [(.int (2 : Int32)), (.ref b48), (.int (0 : Int32))])) (fun X t q => XS.iloadN X.here C.hx rfl (hb C.hby at_86) rfl q) ?_
    refine Wk.fLdZ C F102 (i := 2) (by decide) (by decide) (by decide) (v := (.int (0 : Int32))) (by simp [up]) at_87 ?_
    show Wk _ p l e _ s m _ below meth c n0 _ h100 2 12 (mkF m 88 #[.val (.int i0), .val (.int (2 : Int32)), .val (.ref b2), .val (.ref b48)] [(.int (0 : Int32)), (.int (0 : Int32))])
    refine Wk.st (g' := (mkF m 91 #[.val (.int i0), .val (.int (2 : Int32)), .val (.ref b2), .val (.ref b48)] [])) (fun X t q => XS.icmpNo X.here C.hx rfl (hb C.hby at_88) rfl (XT.ii_ne_f (by decide)) q) ?_
    refine Wk.st (g' := (mkF m 92 #[.val (.int i0), .val (.int (2 : Int32)), .val (.ref b2), .val (.ref b48)] [(.int (1 : Int32))])) (fun X t q => XS.iconst X.here C.hx rfl (hb C.hby at_91) q) ?_
    refine Wk.st (g' := (mkF m 96 #[.val (.int i0), .val (.int (2 : Int32)), .val (.ref b2), .val (.ref b48)] [(.int (1 : Int32))])) (fun X t q => XS.goto X.here C.hx rfl (pc0 := 92) (pc' := 96) rfl (hb C.hby at_92) (by decide) (by decide) q) ?_
    exact Wk.retV C (t := .boolean) rfl rfl (Or.inl ⟨rfl, by simp, _, rfl⟩) at_96 (by decide) (by decide) ⟨rfl, trivial⟩
  · skip
    show Wk _ p l e _ s m _ below meth c n0 _ h100 2 12 (mkF m 79 #[.val (.int i0), .val (.int (3 : Int32)), .val (.ref b2), .val (.ref b48)] [])
    refine Wk.st (g' := (mkF m 80 #[.val (.int i0), .val (.int (3 : Int32)), .val (.ref b2), .val (.ref b48)] [(.ref b2)])) (fun X t q => XS.aloadN X.here C.hx rfl (hb C.hby at_79) rfl rfl q) ?_
    refine Wk.st (g' := (mkF m 81 #[.val (.int i0), .val (.int (3 : Int32)), .val (.ref b2), .val (.ref b48)] [(.int (3 : Int32)), (.ref b2)])) (fun X t q => XS.iloadN X.here C.hx rfl (hb C.hby at_80) rfl q) ?_
    refine Wk.fLdO C F103 (i := 3) (by decide) (by decide) (by decide) (v := (.ref s_REAL)) (by simp [up]) at_81 ?_
    show Wk _ p l e _ s m _ below meth c n0 _ h100 2 12 (mkF m 82 #[.val (.int i0), .val (.int (3 : Int32)), .val (.ref b2), .val (.ref b48)] [(.ref s_REAL)])
    refine Wk.callV C (x := (⟨"com/example/tripleshelf/tripleshelf/sql/Affinity", "keepsNumberText", "()Z"⟩ : MethodName)) (z := (⟨"com/example/tripleshelf/tripleshelf/sql/Affinity", "keepsNumberText", "()Z"⟩ : MethodName)) (K := "com/example/tripleshelf/tripleshelf/sql/Affinity") (hw _ (List.mem_of_getElem? (i := 18) rfl)) (hw _ (List.mem_of_getElem? (i := 19) rfl)) (hw _ (List.mem_of_getElem? (i := 21) rfl)) (hw _ (List.mem_of_getElem? (i := 20) rfl)) (hw _ (List.mem_of_getElem? (i := 4) rfl)) (hw _ (List.mem_of_getElem? (i := 22) rfl)) (by decide) (fun s' hZ' => notFace_of_selects (args := #[]) (mvT hZ' (hw _ (List.mem_of_getElem? (i := 21) rfl)))) (en_E_REAL EN107) (own_m1_3 l Z a0 hw n0 h100 s_TEXT s_NUMERIC s_INTEGER s_REAL s_BLOB s_OTHER EN107 ) (w := 0) (by decide) (by decide) pd_0 rfl (rest := []) rfl rfl (by decide) (by decide) (by decide) at_82 ?_
    rintro _ _ ⟨rfl, rfl⟩
    show Wk _ p l e _ s m _ below meth c n0 _ h100 2 12 (mkF m 85 #[.val (.int i0), .val (.int (3 : Int32)), .val (.ref b2), .val (.ref b48)] [(.int (0 : Int32))])
    refine Wk.st (g' := (mkF m 86 #[.val (.int i0), .val (.int (3 : Int32)), .val (.ref b2), .val (.ref b48)] [(.ref b48), (.int (0 : Int32))])) (fun X t q => XS.aloadN X.here C.hx rfl (hb C.hby at_85) rfl rfl q) ?_
    refine Wk.st (g' := (mkF m 87 #[.val (.int i0), .val (.int (3 : Int32)), .val (.ref b2), .val (.ref b48)] [(.int (3 : Int32)), (.ref b48), (.int (0 : Int32))])) (fun X t q => XS.iloadN X.here C.hx rfl (hb C.hby at_86) rfl q) ?_
    refine Wk.fLdZ C F102 (i := 3) (by decide) (by decide) (by decide) (v := (.int (0 : Int32))) (by simp [up]) at_87 ?_
    show Wk _ p l e _ s m _ below meth c n0 _ h100 2 12 (mkF m 88 #[.val (.int i0), .val (.int (3 : Int32)), .val (.ref b2), .val (.ref b48)] [(.int (0 : Int32)), (.int (0 : Int32))])
    refine Wk.st (g' := (mkF m 91 #[.val (.int i0), .val (.int (3 : Int32)), .val (.ref b2), .val (.ref b48)] [])) (fun X t q => XS.icmpNo X.here C.hx rfl (hb C.hby at_88) rfl (XT.ii_ne_f (by decide)) q) ?_
    refine Wk.st (g' := (mkF m 92 #[.val (.int i0), .val (.int (3 : Int32)), .val (.ref b2), .val (.ref b48)] [(.int (1 : Int32))])) (fun X t q => XS.iconst X.here C.hx rfl (hb C.hby at_91) q) ?_
    refine Wk.st (g' := (mkF m 96 #[.val (.int i0), .val (.int (3 : Int32)), .val (.ref b2), .val (.ref b48)] [(.int (1 : Int32))])) (fun X t q => XS.goto X.here C.hx rfl (pc0 := 92) (pc' := 96) rfl (hb C.hby at_92) (by decide) (by decide) q) ?_
    exact Wk.retV C (t := .boolean) rfl rfl (Or.inl ⟨rfl, by simp, _, rfl⟩) at_96 (by decide) (by decide) ⟨rfl, trivial⟩
  · skip
    show Wk _ p l e _ s m _ below meth c n0 _ h100 2 12 (mkF m 79 #[.val (.int i0), .val (.int (4 : Int32)), .val (.ref b2), .val (.ref b48)] [])
    refine Wk.st (g' := (mkF m 80 #[.val (.int i0), .val (.int (4 : Int32)), .val (.ref b2), .val (.ref b48)] [(.ref b2)])) (fun X t q => XS.aloadN X.here C.hx rfl (hb C.hby at_79) rfl rfl q) ?_
    refine Wk.st (g' := (mkF m 81 #[.val (.int i0), .val (.int (4 : Int32)), .val (.ref b2), .val (.ref b48)] [(.int (4 : Int32)), (.ref b2)])) (fun X t q => XS.iloadN X.here C.hx rfl (hb C.hby at_80) rfl q) ?_
    refine Wk.fLdO C F103 (i := 4) (by decide) (by decide) (by decide) (v := (.ref s_BLOB)) (by simp [up]) at_81 ?_
    show Wk _ p l e _ s m _ below meth c n0 _ h100 2 12 (mkF m 82 #[.val (.int i0), .val (.int (4 : Int32)), .val (.ref b2), .val (.ref b48)] [(.ref s_BLOB)])
    refine Wk.callV C (x := (⟨"com/example/tripleshelf/tripleshelf/sql/Affinity", "keepsNumberText", "()Z"⟩ : MethodName)) (z := (⟨"com/example/tripleshelf/tripleshelf/sql/Affinity", "keepsNumberText", "()Z"⟩ : MethodName)) (K := "com/example/tripleshelf/tripleshelf/sql/Affinity") (hw _ (List.mem_of_getElem? (i := 18) rfl)) (hw _ (List.mem_of_getElem? (i := 19) rfl)) (hw _ (List.mem_of_getElem? (i := 21) rfl)) (hw _ (List.mem_of_getElem? (i := 20) rfl)) (hw _ (List.mem_of_getElem? (i := 4) rfl)) (hw _ (List.mem_of_getElem? (i := 22) rfl)) (by decide) (fun s' hZ' => notFace_of_selects (args := #[]) (mvT hZ' (hw _ (List.mem_of_getElem? (i := 21) rfl)))) (en_E_BLOB EN107) (own_m1_4 l Z a0 hw n0 h100 s_TEXT s_NUMERIC s_INTEGER s_REAL s_BLOB s_OTHER EN107 ) (w := 0) (by decide) (by decide) pd_0 rfl (rest := []) rfl rfl (by decide) (by decide) (by decide) at_82 ?_
    rintro _ _ ⟨rfl, rfl⟩
    show Wk _ p l e _ s m _ below meth c n0 _ h100 2 12 (mkF m 85 #[.val (.int i0), .val (.int (4 : Int32)), .val (.ref b2), .val (.ref b48)] [(.int (1 : Int32))])
    refine Wk.st (g' := (mkF m 86 #[.val (.int i0), .val (.int (4 : Int32)), .val (.ref b2), .val (.ref b48)] [(.ref b48), (.int (1 : Int32))])) (fun X t q => XS.aloadN X.here C.hx rfl (hb C.hby at_85) rfl rfl q) ?_
    refine Wk.st (g' := (mkF m 87 #[.val (.int i0), .val (.int (4 : Int32)), .val (.ref b2), .val (.ref b48)] [(.int (4 : Int32)), (.ref b48), (.int (1 : Int32))])) (fun X t q => XS.iloadN X.here C.hx rfl (hb C.hby at_86) rfl q) ?_
    refine Wk.fLdZ C F102 (i := 4) (by decide) (by decide) (by decide) (v := (.int (1 : Int32))) (by simp [up]) at_87 ?_
    show Wk _ p l e _ s m _ below meth c n0 _ h100 2 12 (mkF m 88 #[.val (.int i0), .val (.int (4 : Int32)), .val (.ref b2), .val (.ref b48)] [(.int (1 : Int32)), (.int (1 : Int32))])
    refine Wk.st (g' := (mkF m 91 #[.val (.int i0), .val (.int (4 : Int32)), .val (.ref b2), .val (.ref b48)] [])) (fun X t q => XS.icmpNo X.here C.hx rfl (hb C.hby at_88) rfl (XT.ii_ne_f (by decide)) q) ?_
    refine Wk.st (g' := (mkF m 92 #[.val (.int i0), .val (.int (4 : Int32)), .val (.ref b2), .val (.ref b48)] [(.int (1 : Int32))])) (fun X t q => XS.iconst X.here C.hx rfl (hb C.hby at_91) q) ?_
    refine Wk.st (g' := (mkF m 96 #[.val (.int i0), .val (.int (4 : Int32)), .val (.ref b2), .val (.ref b48)] [(.int (1 : Int32))])) (fun X t q => XS.goto X.here C.hx rfl (pc0 := 92) (pc' := 96) rfl (hb C.hby at_92) (by decide) (by decide) q) ?_
    exact Wk.retV C (t := .boolean) rfl rfl (Or.inl ⟨rfl, by simp, _, rfl⟩) at_96 (by decide) (by decide) ⟨rfl, trivial⟩
  · skip
    show Wk _ p l e _ s m _ below meth c n0 _ h100 2 12 (mkF m 79 #[.val (.int i0), .val (.int (5 : Int32)), .val (.ref b2), .val (.ref b48)] [])
    refine Wk.st (g' := (mkF m 80 #[.val (.int i0), .val (.int (5 : Int32)), .val (.ref b2), .val (.ref b48)] [(.ref b2)])) (fun X t q => XS.aloadN X.here C.hx rfl (hb C.hby at_79) rfl rfl q) ?_
    refine Wk.st (g' := (mkF m 81 #[.val (.int i0), .val (.int (5 : Int32)), .val (.ref b2), .val (.ref b48)] [(.int (5 : Int32)), (.ref b2)])) (fun X t q => XS.iloadN X.here C.hx rfl (hb C.hby at_80) rfl q) ?_
    refine Wk.fLdO C F103 (i := 5) (by decide) (by decide) (by decide) (v := (.ref s_OTHER)) (by simp [up]) at_81 ?_
    show Wk _ p l e _ s m _ below meth c n0 _ h100 2 12 (mkF m 82 #[.val (.int i0), .val (.int (5 : Int32)), .val (.ref b2), .val (.ref b48)] [(.ref s_OTHER)])
    refine Wk.callV C (x := (⟨"com/example/tripleshelf/tripleshelf/sql/Affinity", "keepsNumberText", "()Z"⟩ : MethodName)) (z := (⟨"com/example/tripleshelf/tripleshelf/sql/Affinity", "keepsNumberText", "()Z"⟩ : MethodName)) (K := "com/example/tripleshelf/tripleshelf/sql/Affinity") (hw _ (List.mem_of_getElem? (i := 18) rfl)) (hw _ (List.mem_of_getElem? (i := 19) rfl)) (hw _ (List.mem_of_getElem? (i := 21) rfl)) (hw _ (List.mem_of_getElem? (i := 20) rfl)) (hw _ (List.mem_of_getElem? (i := 4) rfl)) (hw _ (List.mem_of_getElem? (i := 22) rfl)) (by decide) (fun s' hZ' => notFace_of_selects (args := #[]) (mvT hZ' (hw _ (List.mem_of_getElem? (i := 21) rfl)))) (en_E_OTHER EN107) (own_m1_5 l Z a0 hw n0 h100 s_TEXT s_NUMERIC s_INTEGER s_REAL s_BLOB s_OTHER EN107 ) (w := 0) (by decide) (by decide) pd_0 rfl (rest := []) rfl rfl (by decide) (by decide) (by decide) at_82 ?_
    rintro _ _ ⟨rfl, rfl⟩
    show Wk _ p l e _ s m _ below meth c n0 _ h100 2 12 (mkF m 85 #[.val (.int i0), .val (.int (5 : Int32)), .val (.ref b2), .val (.ref b48)] [(.int (0 : Int32))])
    refine Wk.st (g' := (mkF m 86 #[.val (.int i0), .val (.int (5 : Int32)), .val (.ref b2), .val (.ref b48)] [(.ref b48), (.int (0 : Int32))])) (fun X t q => XS.aloadN X.here C.hx rfl (hb C.hby at_85) rfl rfl q) ?_
    refine Wk.st (g' := (mkF m 87 #[.val (.int i0), .val (.int (5 : Int32)), .val (.ref b2), .val (.ref b48)] [(.int (5 : Int32)), (.ref b48), (.int (0 : Int32))])) (fun X t q => XS.iloadN X.here C.hx rfl (hb C.hby at_86) rfl q) ?_
    refine Wk.fLdZ C F102 (i := 5) (by decide) (by decide) (by decide) (v := (.int (0 : Int32))) (by simp [up]) at_87 ?_
    show Wk _ p l e _ s m _ below meth c n0 _ h100 2 12 (mkF m 88 #[.val (.int i0), .val (.int (5 : Int32)), .val (.ref b2), .val (.ref b48)] [(.int (0 : Int32)), (.int (0 : Int32))])
    refine Wk.st (g' := (mkF m 91 #[.val (.int i0), .val (.int (5 : Int32)), .val (.ref b2), .val (.ref b48)] [])) (fun X t q => XS.icmpNo X.here C.hx rfl (hb C.hby at_88) rfl (XT.ii_ne_f (by decide)) q) ?_
    refine Wk.st (g' := (mkF m 92 #[.val (.int i0), .val (.int (5 : Int32)), .val (.ref b2), .val (.ref b48)] [(.int (1 : Int32))])) (fun X t q => XS.iconst X.here C.hx rfl (hb C.hby at_91) q) ?_
    refine Wk.st (g' := (mkF m 96 #[.val (.int i0), .val (.int (5 : Int32)), .val (.ref b2), .val (.ref b48)] [(.int (1 : Int32))])) (fun X t q => XS.goto X.here C.hx rfl (pc0 := 92) (pc' := 96) rfl (hb C.hby at_92) (by decide) (by decide) q) ?_
    exact Wk.retV C (t := .boolean) rfl rfl (Or.inl ⟨rfl, by simp, _, rfl⟩) at_96 (by decide) (by decide) ⟨rfl, trivial⟩
set_option maxRecDepth 65536 in
set_option maxHeartbeats 40000000 in
theorem comes_1 {Post : Tables → Env → Array Value → State → Outcome → State → Prop} (hpost : ∀ tb e args s v u, (limb_1_1.after args s (.returned v) u = true ∧ limb_1_2.after args s (.returned v) u = true ∧ True) → FrameEnd s (.returned v) u (Jvm.fieldLocs frame_1_writes args s ++ Jvm.arrayLocs frame_1_arrays args s ++ Jvm.staticLocs frame_1_statics s) 16 128 → Post tb e args s (.returned v) u) :
    ArmFor flags0 classFile x code maxLocals ret World_1 tables_1 room_1 Calls_1 rest_1 Pre_1 Post := by
  intro l hfl _ _ p e ha hc hk s m args below hf hA hF happ hP
  obtain ⟨hcalls, hrest, hpre⟩ := hP
  obtain ⟨-, -, -, hnamed, -, -, -, hat⟩ := (Spec.applies_iff hf).mp happ
  obtain ⟨hg, hn⟩ := and_e (Cond.before_iff.mp (show (Jvm.Cond.and given_1 narrow_1).before args s = true from hpre))
  obtain ⟨hcount, g0⟩ := and_e hg
  obtain ⟨v0, rfl⟩ : ∃ v0 : Value, args = #[v0] := by
    have hs : args.size = 1 := by simpa [Cond.value, given_1] using hcount
    obtain ⟨L⟩ := args
    match L, hs with
    | [v0], _ => exact ⟨v0, rfl⟩
  have hw := fun d (hd : d ∈ tables_1) => atoms_spec (ws := Jvm.Cond.code x code maxLocals ret :: tables_1) hat d (List.mem_cons_of_mem _ hd)
  have hfit : Fit s := fun {y c} hc i hi => by
    obtain ⟨ha, rfl⟩ := Array.getElem?_eq_some_iff.mp hc
    have q := List.all_eq_true.mp ((Array.all_eq_true_iff_forall_mem.mp hF) _ (Array.getElem_mem ha)) i (List.mem_range.mpr hi)
    simpa [Array.getElem?_eq_getElem hi] using q
  obtain ⟨i0, f0⟩ := is_v g0
  obtain rfl : v0 = (.int i0) := Option.some.inj f0
  obtain ⟨c0, hn0⟩ := and_e hn
  obtain ⟨c1, hn1⟩ := and_e hn0
  obtain ⟨c2, hn2⟩ := and_e hn1
  obtain ⟨c3, hn3⟩ := and_e hn2
  obtain ⟨c4, hn4⟩ := and_e hn3
  obtain ⟨c5, hn5⟩ := and_e hn4
  obtain ⟨c6, hn6⟩ := and_e hn5
  obtain ⟨c7, hn7⟩ := and_e hn6
  obtain ⟨c8, hn8⟩ := and_e hn7
  obtain ⟨c9, hn9⟩ := and_e hn8
  obtain ⟨c10, hn10⟩ := and_e hn9
  have c11 := hn10
  obtain ⟨s_TEXT, ev_TEXT, S_TEXT, E_TEXT⟩ := stat_exa (hw _ (List.mem_of_getElem? (i := 4) rfl)) (hw _ (List.mem_of_getElem? (i := 5) rfl)) c0
  have O_TEXT_ordinal := fld_int ev_TEXT c7
  obtain ⟨s_NUMERIC, ev_NUMERIC, S_NUMERIC, E_NUMERIC⟩ := stat_exa (hw _ (List.mem_of_getElem? (i := 4) rfl)) (hw _ (List.mem_of_getElem? (i := 8) rfl)) c1
  have O_NUMERIC_ordinal := fld_int ev_NUMERIC c10
  obtain ⟨s_INTEGER, ev_INTEGER, S_INTEGER, E_INTEGER⟩ := stat_exa (hw _ (List.mem_of_getElem? (i := 4) rfl)) (hw _ (List.mem_of_getElem? (i := 10) rfl)) c2
  have O_INTEGER_ordinal := fld_int ev_INTEGER c9
  obtain ⟨s_REAL, ev_REAL, S_REAL, E_REAL⟩ := stat_exa (hw _ (List.mem_of_getElem? (i := 4) rfl)) (hw _ (List.mem_of_getElem? (i := 12) rfl)) c3
  have O_REAL_ordinal := fld_int ev_REAL c6
  obtain ⟨s_BLOB, ev_BLOB, S_BLOB, E_BLOB⟩ := stat_exa (hw _ (List.mem_of_getElem? (i := 4) rfl)) (hw _ (List.mem_of_getElem? (i := 14) rfl)) c4
  have O_BLOB_ordinal := fld_int ev_BLOB c8
  obtain ⟨s_OTHER, ev_OTHER, S_OTHER, E_OTHER⟩ := stat_exa (hw _ (List.mem_of_getElem? (i := 4) rfl)) (hw _ (List.mem_of_getElem? (i := 16) rfl)) c5
  have O_OTHER_ordinal := fld_int ev_OTHER c11
  obtain ⟨n, o, h1, h2, h3, _, L, rfl, ⟨⟨rfl, -⟩, N⟩, hq⟩ := law_met l s _ hw s.heap.size s.heap i0 (Nat.le_refl _) s_TEXT s_NUMERIC s_INTEGER s_REAL s_BLOB s_OTHER ⟨S_TEXT, E_TEXT, O_TEXT_ordinal, S_NUMERIC, E_NUMERIC, O_NUMERIC_ordinal, S_INTEGER, E_INTEGER, O_INTEGER_ordinal, S_REAL, E_REAL, O_REAL_ordinal, S_BLOB, E_BLOB, O_BLOB_ordinal, S_OTHER, E_OTHER, O_OTHER_ordinal⟩ tables_1 p e ha hc hk s m _ below hf ((Spec.applies_iff_loose hf).mp happ).1 ⟨rfl, State.Warmed39.refl s, rfl⟩ trivial
  refine ⟨n, _, h1, h2, h3, hpost _ _ _ _ _ _ ⟨Cond.after_iff.mpr rfl, Cond.after_iff.mpr (eq_i res_at (Term.int_eval (1)) rfl), trivial⟩ ⟨hq.1, hq.2.1, (hq.2.2.sift fun y hy => Or.inr (N y hy)).mono (by decide) (by decide)⟩⟩
theorem main_1_1 : Claimed_1_1 := comes_1 fun _ _ _ _ _ _ h hF => ⟨h.1, hF⟩
theorem main_1_2 : Claimed_1_2 := comes_1 fun _ _ _ _ _ _ h hF => ⟨h.2.1, hF⟩
end Jvm.Pilot.@@N@@
namespace Jvm.Pilot.@@N@@
open Jvm Jvm.ClassFile Sem Op Lib Jvm.Free Jvm.Stand Jvm.Pilot.@@N@@.Jvm.D
/-! MADE BY PROGRAM (witnessworld.py) out of the Statement's table words and the real class files: 15 classes; the members and pool entries that the words name. The judged class is class 1, her method 1. -/
namespace start1
open Jvm.ClassFile
def u (s : String) : CpInfo := .utf8 (stringToUtf16 s)
/-- a pool by its gaps: so many unusable entries, then the entry; so many at the end -/
def gap : Nat → List CpInfo → List CpInfo
  | 0, r => r
  | n + 1, r => .unusable :: gap n r
def poolList (es : List (Nat × CpInfo)) (last : Nat) : List CpInfo := es.foldr (fun e r => gap e.1 (e.2 :: r)) (gap last [])
def pool (es : List (Nat × CpInfo)) (last : Nat) : Array CpInfo := ⟨poolList es last⟩
def fileOf (pool : Array CpInfo) (this : Nat) (attrs : Array Attribute := #[]) (ms : Array MethodInfo := #[]) (fl : Nat := 33) (sup : Nat := 0) (ifs : Array Nat := #[]) (fds : Array FieldInfo := #[]) : ClassFile where
  minorVersion := 0
  majorVersion := 65
  constantPool := pool
  accessFlags := fl
  thisClass := this
  superClass := sup
  interfaces := ifs
  fields := fds
  methods := ms
  attributes := attrs
def plain (name : String) (sup : Option ClassId) : Class where
  name := name
  kind := .ordinary
  loader := none
  accessFlags := 33
  super := sup
  interfaces := #[]
  cf := none
  fields := #[]
  methods := #[]
  instanceTypes := #[]
  staticTypes := #[]
  resolved := #[]
  callSites := []
  init := .initialized
  statics := none
  mirror := none

def pool0 : Array CpInfo := pool [(5, u "<init>"), (0, u "()V"), (1, .class_ 10), (1, u "java/lang/Object")] 113

def k0m0 : Method := { name := "<init>", desc := "()V", sig := { parameters := [], returnType := none }, accessFlags := 1, code := none }
/-- java/lang/Object -/
def k0 : Class := { plain "java/lang/Object" none with
  accessFlags := 33
  interfaces := #[]
  cf := some (fileOf pool0 8 #[] #[{ accessFlags := 1, nameIndex := 5, descriptorIndex := 6, attributes := #[] }] 33 0 #[] #[])
  fields := #[]
  methods := #[k0m0]
  instanceTypes := #[]
  staticTypes := #[]
  resolved := Array.replicate 124 none
  statics := none }

def pool1 : Array CpInfo := pool [(2, .class_ 4), (1, u "java/lang/Object"), (0, u "<init>"), (0, u "()V"), (0, .integer 2147483647), (0, .class_ 9), (0, u "com/example/tripleshelf/tripleshelf/sql/Affinity"), (0, .fieldref 8 11), (0, .nameAndType 12 13), (0, u "TEXT"), (0, u "Lcom/example/tripleshelf/tripleshelf/sql/Affinity;"), (0, .fieldref 8 15), (0, .nameAndType 16 13), (0, u "NUMERIC"), (0, .fieldref 8 18), (0, .nameAndType 19 13), (0, u "INTEGER"), (0, .fieldref 8 21), (0, .nameAndType 22 13), (0, u "REAL"), (0, .fieldref 8 24), (0, .nameAndType 25 13), (0, u "BLOB"), (0, .fieldref 8 27), (0, .nameAndType 28 13), (0, u "OTHER"), (0, .methodref 8 30), (0, .nameAndType 31 32), (0, u "keepsNumberText"), (0, u "()Z"), (0, .class_ 34), (0, u "com/example/tripleshelf/tripleshelf/sql/AffinityKeepsNumberTextPinLaw"), (2, u "law"), (0, u "(I)Z")] 7

def k1m0 : Method := { name := "<init>", desc := "()V", sig := { parameters := [], returnType := none }, accessFlags := 1, code := none }
def k1c1 : Code := { maxStack := 4, maxLocals := 4, code := code, exceptionTable := #[], attributes := #[] }
def k1m1 : Method := { name := "law", desc := "(I)Z", sig := { parameters := [.int], returnType := some .boolean }, accessFlags := 9, code := some k1c1 }
/-- com/example/tripleshelf/tripleshelf/sql/AffinityKeepsNumberTextPinLaw -/
def k1 : Class := { plain "com/example/tripleshelf/tripleshelf/sql/AffinityKeepsNumberTextPinLaw" (some 0) with
  accessFlags := 49
  interfaces := #[]
  cf := some (fileOf pool1 33 #[] #[{ accessFlags := 1, nameIndex := 5, descriptorIndex := 6, attributes := #[] }, { accessFlags := 9, nameIndex := 37, descriptorIndex := 38, attributes := #[] }] 49 2 #[] #[])
  fields := #[]
  methods := #[k1m0, k1m1]
  instanceTypes := #[]
  staticTypes := #[]
  resolved := Array.replicate 46 none
  statics := none }

def pool2 : Array CpInfo := pool [(1, .class_ 2), (0, u "java/lang/constant/Constable"), (0, .class_ 4), (0, u "java/lang/Object")] 6

/-- java/lang/constant/Constable -/
def k2 : Class := { plain "java/lang/constant/Constable" (some 0) with
  accessFlags := 1537
  interfaces := #[]
  cf := some (fileOf pool2 1 #[] #[] 1537 3 #[] #[])
  fields := #[]
  methods := #[]
  instanceTypes := #[]
  staticTypes := #[]
  resolved := Array.replicate 11 none
  statics := none }

def pool3 : Array CpInfo := pool [(1, .class_ 2), (0, u "java/lang/Comparable"), (0, .class_ 4), (0, u "java/lang/Object")] 7

/-- java/lang/Comparable -/
def k3 : Class := { plain "java/lang/Comparable" (some 0) with
  accessFlags := 1537
  interfaces := #[]
  cf := some (fileOf pool3 1 #[] #[] 1537 3 #[] #[])
  fields := #[]
  methods := #[]
  instanceTypes := #[]
  staticTypes := #[]
  resolved := Array.replicate 12 none
  statics := none }

def pool4 : Array CpInfo := pool [(1, .class_ 2), (0, u "java/io/Serializable"), (0, .class_ 4), (0, u "java/lang/Object")] 2

/-- java/io/Serializable -/
def k4 : Class := { plain "java/io/Serializable" (some 0) with
  accessFlags := 1537
  interfaces := #[]
  cf := some (fileOf pool4 1 #[] #[] 1537 3 #[] #[])
  fields := #[]
  methods := #[]
  instanceTypes := #[]
  staticTypes := #[]
  resolved := Array.replicate 7 none
  statics := none }

def pool5 : Array CpInfo := pool [(2, .class_ 4), (1, u "java/lang/Enum"), (0, u "name"), (0, u "Ljava/lang/String;"), (2, u "ordinal"), (0, u "I"), (1, .class_ 14), (1, u "java/lang/Object"), (4, u "hash"), (86, .class_ 108), (1, u "java/lang/Enum$EnumDesc"), (2, .class_ 112), (0, u "java/lang/constant/Constable"), (0, .class_ 114), (0, u "java/lang/Comparable"), (0, .class_ 116), (0, u "java/io/Serializable")] 87

/-- java/lang/Enum -/
def k5 : Class := { plain "java/lang/Enum" (some 0) with
  accessFlags := 1057
  interfaces := #[2, 3, 4]
  cf := some (fileOf pool5 2 #[.nestMembers #[106]] #[] 1057 12 #[111, 113, 115] #[{ accessFlags := 18, nameIndex := 5, descriptorIndex := 6, attributes := #[] }, { accessFlags := 18, nameIndex := 9, descriptorIndex := 10, attributes := #[] }, { accessFlags := 2, nameIndex := 19, descriptorIndex := 10, attributes := #[] }])
  fields := #[{ name := "name", type := (.object "java/lang/String"), accessFlags := 18, slot := 0, constantValue := 0 }, { name := "ordinal", type := .int, accessFlags := 18, slot := 1, constantValue := 0 }, { name := "hash", type := .int, accessFlags := 2, slot := 2, constantValue := 0 }]
  methods := #[]
  instanceTypes := #[(.object "java/lang/String"), .int, .int]
  staticTypes := #[]
  resolved := Array.replicate 204 none
  statics := none }

def pool6 : Array CpInfo := pool [(1, .class_ 2), (0, u "com/example/tripleshelf/tripleshelf/sql/Affinity"), (0, .fieldref 1 4), (0, .nameAndType 5 6), (0, u "TEXT"), (0, u "Lcom/example/tripleshelf/tripleshelf/sql/Affinity;"), (2, u "NUMERIC"), (2, u "INTEGER"), (2, u "REAL"), (0, .fieldref 1 17), (0, .nameAndType 18 6), (0, u "BLOB"), (2, u "OTHER"), (2, u "$VALUES"), (0, u "[Lcom/example/tripleshelf/tripleshelf/sql/Affinity;"), (6, .class_ 34), (1, u "java/lang/Enum"), (25, u "()Z"), (1, u "keepsNumberText")] 4

def k6c0 : Code := { maxStack := 2, maxLocals := 1, code := prog_18_method_5_code, exceptionTable := #[], attributes := #[] }
def k6m0 : Method := { name := "keepsNumberText", desc := "()Z", sig := { parameters := [], returnType := some .boolean }, accessFlags := 1, code := some k6c0 }
/-- com/example/tripleshelf/tripleshelf/sql/Affinity -/
def k6 : Class := { plain "com/example/tripleshelf/tripleshelf/sql/Affinity" (some 5) with
  accessFlags := 16433
  interfaces := #[]
  cf := some (fileOf pool6 1 #[] #[{ accessFlags := 1, nameIndex := 62, descriptorIndex := 60, attributes := #[] }] 16433 32 #[] #[{ accessFlags := 16409, nameIndex := 5, descriptorIndex := 6, attributes := #[] }, { accessFlags := 16409, nameIndex := 9, descriptorIndex := 6, attributes := #[] }, { accessFlags := 16409, nameIndex := 12, descriptorIndex := 6, attributes := #[] }, { accessFlags := 16409, nameIndex := 15, descriptorIndex := 6, attributes := #[] }, { accessFlags := 16409, nameIndex := 18, descriptorIndex := 6, attributes := #[] }, { accessFlags := 16409, nameIndex := 21, descriptorIndex := 6, attributes := #[] }, { accessFlags := 4122, nameIndex := 24, descriptorIndex := 25, attributes := #[] }])
  fields := #[{ name := "TEXT", type := (.object "com/example/tripleshelf/tripleshelf/sql/Affinity"), accessFlags := 16409, slot := 0, constantValue := 0 }, { name := "NUMERIC", type := (.object "com/example/tripleshelf/tripleshelf/sql/Affinity"), accessFlags := 16409, slot := 1, constantValue := 0 }, { name := "INTEGER", type := (.object "com/example/tripleshelf/tripleshelf/sql/Affinity"), accessFlags := 16409, slot := 2, constantValue := 0 }, { name := "REAL", type := (.object "com/example/tripleshelf/tripleshelf/sql/Affinity"), accessFlags := 16409, slot := 3, constantValue := 0 }, { name := "BLOB", type := (.object "com/example/tripleshelf/tripleshelf/sql/Affinity"), accessFlags := 16409, slot := 4, constantValue := 0 }, { name := "OTHER", type := (.object "com/example/tripleshelf/tripleshelf/sql/Affinity"), accessFlags := 16409, slot := 5, constantValue := 0 }, { name := "$VALUES", type := (.array (.object "com/example/tripleshelf/tripleshelf/sql/Affinity")), accessFlags := 4122, slot := 6, constantValue := 0 }]
  methods := #[k6m0]
  instanceTypes := #[(.object "java/lang/String"), .int, .int]
  staticTypes := #[(.object "com/example/tripleshelf/tripleshelf/sql/Affinity"), (.object "com/example/tripleshelf/tripleshelf/sql/Affinity"), (.object "com/example/tripleshelf/tripleshelf/sql/Affinity"), (.object "com/example/tripleshelf/tripleshelf/sql/Affinity"), (.object "com/example/tripleshelf/tripleshelf/sql/Affinity"), (.object "com/example/tripleshelf/tripleshelf/sql/Affinity"), (.array (.object "com/example/tripleshelf/tripleshelf/sql/Affinity"))]
  resolved := Array.replicate 67 none
  statics := some 0 }

def pool7 : Array CpInfo := pool [(1, u "java/lang/Cloneable"), (0, .class_ 1), (0, u "java/lang/Object"), (0, .class_ 3)] 3

/-- java/lang/Cloneable -/
def k7 : Class := { plain "java/lang/Cloneable" (some 0) with
  accessFlags := 1537
  interfaces := #[]
  cf := some (fileOf pool7 2 #[] #[] 1537 4 #[] #[])
  fields := #[]
  methods := #[]
  instanceTypes := #[]
  staticTypes := #[]
  resolved := Array.replicate 8 none
  statics := none }

/-- the primitive boolean -/
def k8 : Class := { plain "boolean" none with kind := .primitive 'Z', accessFlags := 0x411 }
/-- [Z -/
def k9 : Class := { plain "[Z" (some 0) with kind := .array 8 .boolean, interfaces := #[7, 4], accessFlags := 1041 }

/-- the primitive byte -/
def k10 : Class := { plain "byte" none with kind := .primitive 'B', accessFlags := 0x411 }
/-- [B -/
def k11 : Class := { plain "[B" (some 0) with kind := .array 10 .byte, interfaces := #[7, 4], accessFlags := 1041 }

/-- the primitive int -/
def k12 : Class := { plain "int" none with kind := .primitive 'I', accessFlags := 0x411 }
/-- [I -/
def k13 : Class := { plain "[I" (some 0) with kind := .array 12 .int, interfaces := #[7, 4], accessFlags := 1041 }

/-- [Lcom/example/tripleshelf/tripleshelf/sql/Affinity; -/
def k14 : Class := { plain "[Lcom/example/tripleshelf/tripleshelf/sql/Affinity;" (some 0) with kind := .array 6 (.object "com/example/tripleshelf/tripleshelf/sql/Affinity"), interfaces := #[7, 4], accessFlags := 1041 }

def heap : Heap := #[{ cls := 6, slots := #[.ref 1, .ref 2, .ref 3, .ref 4, .ref 5, .ref 6, .null], vm := .statics 6 },
  { cls := 6, slots := #[.null, .int 0, .int 0], vm := .none },
  { cls := 6, slots := #[.null, .int 1, .int 0], vm := .none },
  { cls := 6, slots := #[.null, .int 2, .int 0], vm := .none },
  { cls := 6, slots := #[.null, .int 3, .int 0], vm := .none },
  { cls := 6, slots := #[.null, .int 4, .int 0], vm := .none },
  { cls := 6, slots := #[.null, .int 5, .int 0], vm := .none }]
def classes : Array Class := #[k0, k1, k2, k3, k4, k5, k6, k7, k8, k9, k10, k11, k12, k13, k14]
def interned : List (Array UInt16 × Addr) := []
def slotsUsed : Nat := 25
def theMethod : MethodId := ⟨1, 1⟩
def args0 : Array Value := #[.int 5]
def aboutOver (below : List Frame) : State where
  vm := { classes := classes, interned := interned.toArray }
  heap := heap
  slotsUsed := slotsUsed
  threads := #[{ frames := .invoking theMethod args0 :: below }]
def below0 : List Frame := [.native { method := ⟨0, 0⟩, args := #[] }]
def about1 : State := aboutOver below0
def p0 : Program := .bare "" "" ""
def e0 : Env := launch0.env 0 0 0
theorem w_frames : about1.frames = Frame.invoking theMethod args0 :: below0 := rfl
set_option maxRecDepth 65536 in
theorem w_args : argsFit about1.vm theMethod args0 = true := by decide +kernel
set_option maxRecDepth 65536 in
theorem w_heap : heapFits about1 = true := by decide +kernel
set_option maxRecDepth 65536 in
theorem w_runnable : about1.curStatus? = some .runnable := by decide +kernel
set_option maxRecDepth 65536 in
theorem w_alone : about1.alone = true := by decide +kernel
set_option maxRecDepth 65536 in
theorem w_named : about1.methodNamed? x = some theMethod := by decide +kernel
set_option maxRecDepth 65536 in
theorem w_hears : about1.hears theMethod below0 = true := by decide +kernel
set_option maxRecDepth 65536 in
theorem w_ripe : about1.ripe theMethod args0 below0 = true := by decide +kernel
theorem w_running : about1.status = .running := rfl
set_option maxRecDepth 65536 in
theorem w_room : about1.hasRoom e0.platform room_1 = true :=
  launch0.hasRoom_least _ room_1 (by decide +kernel) (by decide +kernel) (by decide +kernel) (by decide +kernel) (by decide +kernel) (by decide +kernel)
theorem allAtoms_all (ts : List Jvm.Cond) (a : Array Jvm.Value) (st : Jvm.State) : (allAtoms ts).before a st = ts.all (fun c => c.before a st) := by
  induction ts with
  | nil => rfl
  | cons c t ih =>
    show (Jvm.Cond.and c (allAtoms t)).before a st = _
    rw [Jvm.Cond.before_and, ih, List.all_cons]
def words1 : List Jvm.Cond := Jvm.Cond.code x code maxLocals ret :: tables_1
/-- a 'code' word, met by the world's own term for the bytes: nothing is compared byte by byte -/
theorem code_word {y : MethodName} {bytes : ByteArray} {mx : Nat} {rt : Option FieldType} {a : Array Value} {s : State} {m : MethodId} {meth : Method} {c : Code} (h1 : s.methodNamed? y = some m) (h2 : s.vm.method? m = some meth) (h3 : meth.code = some c) (h4 : c.code = bytes)
    (h5 : (c.maxLocals == mx && c.exceptionTable.isEmpty && decide (c.maxStack ≤ mostOperands) && decide (meth.sig.returnType = rt) && !meth.locks && decide (parseMethodDescriptor y.desc = some meth.sig)) = true) : (Jvm.Cond.code y bytes mx rt).before a s = true := by
  simp only [Bool.and_eq_true, beq_iff_eq, Bool.not_eq_true', decide_eq_true_eq] at h5
  obtain ⟨⟨⟨⟨⟨g1, g2⟩, g3⟩, g4⟩, g5⟩, g6⟩ := h5
  simp [Cond.before, Cond.holds, Cond.value, h1, h2, h3, h4, g1, g2, g3, g4, g5, g6]
def isCode : Jvm.Cond → Bool
  | .code _ _ _ _ => true
  | _ => false
theorem all_split {L : List Jvm.Cond} {P : Jvm.Cond → Bool} (h1 : L.all (fun c => isCode c || P c) = true) (h2 : ∀ c ∈ L.filter isCode, P c = true) : L.all P = true := by
  refine List.all_eq_true.mpr fun c hc => ?_
  have h := List.all_eq_true.mp h1 c hc
  rcases Bool.eq_false_or_eq_true (isCode c) with hi | hi
  · exact h2 c (List.mem_filter.mpr ⟨hc, hi⟩)
  · simpa [hi] using h
set_option maxRecDepth 65536 in
theorem w_c0 : (Jvm.Cond.code x code maxLocals ret).before args0 about1 = true := code_word (m := ⟨1, 1⟩) (meth := k1m1) (c := k1c1) (by decide +kernel) rfl rfl rfl (by decide +kernel)
set_option maxRecDepth 65536 in
theorem w_c1 : (Jvm.Cond.code ({ cls := "com/example/tripleshelf/tripleshelf/sql/Affinity", name := "keepsNumberText", desc := "()Z" } : Jvm.MethodName) prog_18_method_5_code (1 : Nat) (Option.some Jvm.ClassFile.FieldType.boolean)).before args0 about1 = true := code_word (m := ⟨6, 0⟩) (meth := k6m0) (c := k6c0) (by decide +kernel) rfl rfl rfl (by decide +kernel)
def codes1 : List Jvm.Cond := [Jvm.Cond.code x code maxLocals ret, Jvm.Cond.code ({ cls := "com/example/tripleshelf/tripleshelf/sql/Affinity", name := "keepsNumberText", desc := "()Z" } : Jvm.MethodName) prog_18_method_5_code (1 : Nat) (Option.some Jvm.ClassFile.FieldType.boolean)]
set_option maxRecDepth 65536 in
theorem codes_eq : words1.filter isCode = codes1 := rfl
theorem w_codes : ∀ c ∈ words1.filter isCode, c.before args0 about1 = true := by
  rw [codes_eq]
  intro c hc
  simp only [codes1, List.mem_cons, List.not_mem_nil, or_false] at hc
  rcases hc with rfl | rfl
  · exact w_c0
  · exact w_c1
set_option maxRecDepth 65536 in
theorem w_t1 : (words1.take 24).all (fun c => isCode c || c.before args0 about1) = true := by decide +kernel
set_option maxRecDepth 65536 in
theorem w_t2 : (words1.drop 24).all (fun c => isCode c || c.before args0 about1) = true := by decide +kernel
theorem w_tables : (allAtoms (Jvm.Cond.code x code maxLocals ret :: tables_1)).before args0 about1 = true := by
  rw [allAtoms_all]
  show words1.all (fun c => c.before args0 about1) = true
  refine all_split ?_ w_codes
  rw [← List.take_append_drop 24 words1, List.all_append, w_t1, w_t2]
  rfl
set_option maxRecDepth 65536 in
theorem w_case : (Jvm.Cond.and given_1 narrow_1).before args0 about1 = true := by decide +kernel
theorem w_applies : (headSpec (Jvm.Cond.code x code maxLocals ret :: tables_1) room_1).applies x e0.platform about1 = true :=
  (Spec.applies_iff w_frames).mpr ⟨w_running, w_runnable, w_alone, w_named, w_hears, w_ripe, w_room, w_tables⟩
theorem atStart : AtStart classFile x code maxLocals ret World_1 tables_1 room_1 Calls_1 rest_1 Pre_1 launch0 p0 e0 about1 theMethod args0 below0 :=
  ⟨lists_1, trivial, launch0.admits_env _ _ _, launch0.least_env, fairChoices_fair.cas, fairChoices_fair.clock, w_frames, w_args, w_heap, w_applies, trivial, trivial, w_case⟩
end start1
theorem witness_1 : WitnessClaimed_1 := ⟨start1.p0, start1.e0, start1.about1, start1.theMethod, start1.args0, start1.below0, start1.atStart⟩
end Jvm.Pilot.@@N@@
